import JvmDerived
import JvmDerived.Pilot.@@N@@Statement
import JvmDerived.Pilot.@@N@@Code
set_option linter.unusedVariables false
set_option linter.unusedSimpArgs false
@@BLOCK:LamKit.lean.txt@@
namespace Jvm.RoadKit
open Sem ClassFile Op Lib Jvm.Stand Jvm.Free Jvm.LawKit
section New
variable {p : Program} {l : Launch} {e : Env} {R : Room} {s : State} {m : MethodId} {args : Array Value} {below : List Frame} {meth : Method} {c : Code} {T : State} {locs : List Loc} {cells slots : Nat}
theorem retI (X : Stand p l e R s m args below meth c T locs cells slots) (hx : p.tables.exec = Jvm.exec) {pc : Nat} {Ls : Array Slot} {z : Int32} {rest : List Value} (hret : meth.sig.returnType = some .int) (hd : decode c.code pc = .ok (.ireturn, 1)) {fs : List Frame}
    (hl : ∀ (f : JFrame) (acts : List Action), f.method = m → f.locked = none → f.entered = [] → (doReturn e (T.setTop f) acts (some (.int z))).1 = T.setFrames fs) : Steps p.tables e below (T.setTop (mkF m pc Ls (.int z :: rest))) (T.setFrames fs) :=
  retOut X hx hret rfl (Or.inl ⟨rfl, Or.inl rfl, z, rfl⟩) hd hl
end New
section Carry
variable {Z : State} {h h' : Heap} {C n d : String} {v : Value}
theorem own_ns0 : ∀ x ∈ ([] : List Addr), ∀ c : Cell, h[x]? = some c → c.vm.isStatics = false := fun _ q => nomatch q
theorem own_nsS {a : Addr} {K : String} {L : List Addr} (F : Exa Z h a K) (r : ∀ x ∈ L, ∀ c : Cell, h[x]? = some c → c.vm.isStatics = false) : ∀ x ∈ a :: L, ∀ c : Cell, h[x]? = some c → c.vm.isStatics = false := fun x z c hc => by
  rcases List.mem_cons.mp z with rfl | z
  · obtain ⟨c1, _, h1, -, -, h4, -⟩ := F
    cases h1.symm.trans hc; exact h4
  · exact r x z c hc
theorem own_sta_keep {ws : List Addr} (F : Sta Z h C n d v) (K : Keep h h' ws) (q : ∀ x ∈ ws, ∀ c : Cell, h[x]? = some c → c.vm.isStatics = false) : Sta Z h' C n d v := by
  obtain ⟨cf, i, k, f, st, cell, h1, h2, h3, h4, h5, h6, h7⟩ := F
  exact ⟨cf, i, k, f, st, cell, h1, h2, h3, h4, K.2.1 st cell h5 (fun z => by rw [q st z cell h5] at h6; cases h6), h6, h7⟩
theorem own_fitc {a : Addr} {cl : Cell} {ty : FieldType} {vs : List Value} {d : Value} (A : Arr Z h a cl ty) (H : Has cl vs d) (G : ∀ i, i < cl.slots.size → fits ty (vs.getD i d) = true) : FitC Z cl :=
  fitC_of A fun i hi v hv => by rw [H i hi] at hv; cases hv; exact G i hi
theorem own_evI {args : Array Value} {s : State} {t : Term} {k : Int32} (hh : (Cond.eq t (.int k)).value args s none s [] = some true) : t.eval args s none [] s = some (.int k) := by
  cases hf : t.eval args s none [] s with
  | none => simp [Cond.value, hf] at hh
  | some w => cases w <;> simp [Cond.value, hf, Term.eval] at hh ⊢; exact hh
theorem own_evJ {args : Array Value} {s : State} {t : Term} {k : Int64} (hh : (Cond.eq t (.long k)).value args s none s [] = some true) : t.eval args s none [] s = some (.long k) := by
  cases hf : t.eval args s none [] s with
  | none => simp [Cond.value, hf] at hh
  | some w => cases w <;> simp [Cond.value, hf, Term.eval] at hh ⊢; exact hh
theorem own_evR {args : Array Value} {s : State} {t u : Term} {y : Addr} (hu : u.eval args s none [] s = some (.ref y)) (hh : (Cond.eq t u).value args s none s [] = some true) : t.eval args s none [] s = some (.ref y) := by
  cases hf : t.eval args s none [] s with
  | none => simp [Cond.value, hf] at hh
  | some w => cases w <;> simp [Cond.value, hf, hu] at hh ⊢; exact hh
theorem own_elem {args : Array Value} {s : State} {t u : Term} {x y : Addr} {k : Int32} {cl : Cell} (ht : t.eval args s none [] s = some (.ref x)) (hu : u.eval args s none [] s = some (.ref y)) (hc : s.heap[x]? = some cl) (hh : (Cond.eq (.elem t (.int k)) u).value args s none s [] = some true) : cl.slots[k.toNatClampNeg]? = some (.ref y) :=
  (elem_in (own_evR hu hh) ht rfl hc).2
theorem own_arv {args : Array Value} {s : State} {t : Term} {a : Addr} {c : Cell} {ty : FieldType} {z : Int32} {vs : List Value} {dv : Value} (hf : Fit s) (ev : t.eval args s none [] s = some (.ref a)) (A : Arr s s.heap a c ty) (hl : (Cond.eq (.length t) (.int z)).value args s none s [] = some true) (hz : ¬ z < 0) (hn : z.toNatClampNeg = vs.length) (H : HasL c 0 vs) : Arv s s.heap a c.cls ty z vs dv := by
  have e1 := own_evI hl
  have e2 : s.arrayAt? a = some c := A.fin (Vm.Alike.refl _)
  have q : c.slots.size < 2 ^ 31 := by
    apply Decidable.byContradiction
    intro hq
    simp [Term.eval, ev, e2, hq] at e1
  have e3 := len_f ev e2 q
  exact Arv.start hf A q (Value.int.inj (Option.some.inj (e3.symm.trans e1))) hz hn H
theorem own_lam {s : State} {a0 : Array Value} {y : MethodName} {m : MethodId} {pc index : Nat} {σ : Lambda.Shape} (hZ : Z.Warmed39 s.vm) (w : (Cond.lambdaSite y pc index σ).before a0 Z = true) (hcap : σ.captured = []) (hn : s.methodNamed? y = some m) :
    ∃ (k : Class) (i0 p0 : Nat) (a : Addr), s.vm.classes[m.cls]? = some k ∧ (k.callSites.find? fun z => z.1 == m.idx && z.2.1 == pc) = some (i0, p0, .constant a) := by
  obtain ⟨c, one, hat⟩ := Cond.lambdaSite_spec w
  obtain ⟨m', kS, cfS, i0, p0, lk, hm', hkS, -, -, -, hfind, -, -, hlk⟩ := State.lambdaAt?_spec hat
  have e1 : s.methodNamed? y = Z.methodNamed? y := State.methodNamed?_setVm (s := Z) hZ.alike y
  rw [e1, hm'] at hn
  cases hn
  obtain ⟨k', hk', he⟩ := hZ.alike.2.2 _ _ hkS
  rcases hlk with ⟨a, cell, rfl, -⟩ | ⟨-, -, h⟩
  · exact ⟨k', i0, p0, a, hk', by rw [he]; exact hfind⟩
  · exact absurd hcap h
theorem own_cmp_self (x : Int64) : lcmpW x x = 0 := (lcW x x).trans ((lc_eq x x).mpr rfl)
theorem own_cmp_lt (x : Int64) : ¬ (lcmpW x x < (0 : Int32)) := by rw [own_cmp_self]; decide
theorem own_cmp_gt (x : Int64) : ¬ ((0 : Int32) < lcmpW x x) := by rw [own_cmp_self]; decide
theorem own_sel_priv {s : State} {args args' : Array Value} {K : String} {y z z' : MethodName} (w : (Cond.selects K z' z).before args s = true) (hz : z.cls = y.cls) (hpriv : s.PrivateAt y) (hinst : (Cond.instanceMethod y).before args' s = true) (hy : y.cls ≠ "java/lang/invoke/MethodHandle" ∧ y.cls ≠ "java/lang/invoke/VarHandle") : (Cond.selects y.cls y y).before args' s = true := by
  obtain ⟨c2, r2, m2, q1, q2, q3, q4, kP, hkP, hkPi⟩ := Cond.selects_spec w
  have hc : s.vm.findClass z.cls = some m2.cls := findClass_of_methodNamed q3
  rw [hz] at hc
  exact selects_self_of_private hc hkP hkPi hpriv hinst hy
theorem own_lt_ne {a b : Int32} (q : a < b) : ¬ (a = b) := by intro z; subst z; exact Int32.lt_irrefl q
theorem own_gt_ne {a b : Int32} (q : b < a) : ¬ (a = b) := by intro z; subst z; exact Int32.lt_irrefl q
theorem own_eq_nlt {a b : Int32} (q : a = b) : ¬ (a < b) := by subst q; exact Int32.lt_irrefl
theorem own_nlt {a b : Int32} (q : b < a) : ¬ (a < b) := fun z => Int32.lt_irrefl (Int32.lt_trans z q)
theorem own_tri2 {a b : Int32} (q : ¬ (a = b)) (r : ¬ (b < a)) : a < b := by
  rw [← Int32.toInt_inj] at q; rw [Int32.lt_iff_toInt_lt] at r ⊢; omega
theorem own_fldI {args : Array Value} {s : State} {t : Term} {x : Addr} {C n d : String} {k : Int32} (ht : t.eval args s none [] s = some (.ref x)) (hh : (Cond.eq (.field t C n d) (.int k)).value args s none s [] = some true) : Fld s s.heap x C n d (.int k) :=
  Fld.start ((fld_at ht).symm.trans (own_evI hh))
theorem own_fldJ {args : Array Value} {s : State} {t : Term} {x : Addr} {C n d : String} {k : Int64} (ht : t.eval args s none [] s = some (.ref x)) (hh : (Cond.eq (.field t C n d) (.long k)).value args s none s [] = some true) : Fld s s.heap x C n d (.long k) :=
  Fld.start ((fld_at ht).symm.trans (own_evJ hh))
theorem own_fldN {args : Array Value} {s : State} {t : Term} {x : Addr} {C n d : String} (ht : t.eval args s none [] s = some (.ref x)) (hh : (Cond.eq (.field t C n d) .null).value args s none s [] = some true) : Fld s s.heap x C n d .null := by
  refine Fld.start ?_
  have e1 : (Term.field t C n d).eval args s none [] s = s.fieldOf? x C n d := fld_at ht
  rw [← e1]; exact null_v hh
theorem own_fldR {args : Array Value} {s : State} {t u : Term} {x y : Addr} {C n d : String} (ht : t.eval args s none [] s = some (.ref x)) (hu : u.eval args s none [] s = some (.ref y)) (hh : (Cond.eq (.field t C n d) u).value args s none s [] = some true) : Fld s s.heap x C n d (.ref y) :=
  Fld.start ((fld_at ht).symm.trans (own_evR hu hh))
end Carry
end Jvm.RoadKit
namespace Jvm.Pilot.@@N@@
open Jvm Jvm.ClassFile Sem Op Lib Jvm.Free Jvm.Stand Jvm.LawKit Jvm.RoadKit Bundle Jvm.Pilot.@@N@@.Jvm.D
theorem own_bit (x : Int32) : (x &&& (1 : Int32)) = (0 : Int32) ∨ (x &&& (1 : Int32)) = (1 : Int32) := by
  have e1 := c_mask x (1 : Int32) 1 (by decide) (by decide)
  simp only [← Int32.toInt_inj]
  have l0 : (0 : Int32).toInt = 0 := by decide
  have l1 : (1 : Int32).toInt = 1 := by decide
  rw [l0, l1]
  omega
theorem own_en31 (x : Int32) : ((x &&& (2147483647 : Int32)) % (31 : Int32)) = (0 : Int32) ∨ ((x &&& (2147483647 : Int32)) % (31 : Int32)) = (1 : Int32) ∨ ((x &&& (2147483647 : Int32)) % (31 : Int32)) = (2 : Int32) ∨ ((x &&& (2147483647 : Int32)) % (31 : Int32)) = (3 : Int32) ∨ ((x &&& (2147483647 : Int32)) % (31 : Int32)) = (4 : Int32) ∨ ((x &&& (2147483647 : Int32)) % (31 : Int32)) = (5 : Int32) ∨ ((x &&& (2147483647 : Int32)) % (31 : Int32)) = (6 : Int32) ∨ ((x &&& (2147483647 : Int32)) % (31 : Int32)) = (7 : Int32) ∨ ((x &&& (2147483647 : Int32)) % (31 : Int32)) = (8 : Int32) ∨ ((x &&& (2147483647 : Int32)) % (31 : Int32)) = (9 : Int32) ∨ ((x &&& (2147483647 : Int32)) % (31 : Int32)) = (10 : Int32) ∨ ((x &&& (2147483647 : Int32)) % (31 : Int32)) = (11 : Int32) ∨ ((x &&& (2147483647 : Int32)) % (31 : Int32)) = (12 : Int32) ∨ ((x &&& (2147483647 : Int32)) % (31 : Int32)) = (13 : Int32) ∨ ((x &&& (2147483647 : Int32)) % (31 : Int32)) = (14 : Int32) ∨ ((x &&& (2147483647 : Int32)) % (31 : Int32)) = (15 : Int32) ∨ ((x &&& (2147483647 : Int32)) % (31 : Int32)) = (16 : Int32) ∨ ((x &&& (2147483647 : Int32)) % (31 : Int32)) = (17 : Int32) ∨ ((x &&& (2147483647 : Int32)) % (31 : Int32)) = (18 : Int32) ∨ ((x &&& (2147483647 : Int32)) % (31 : Int32)) = (19 : Int32) ∨ ((x &&& (2147483647 : Int32)) % (31 : Int32)) = (20 : Int32) ∨ ((x &&& (2147483647 : Int32)) % (31 : Int32)) = (21 : Int32) ∨ ((x &&& (2147483647 : Int32)) % (31 : Int32)) = (22 : Int32) ∨ ((x &&& (2147483647 : Int32)) % (31 : Int32)) = (23 : Int32) ∨ ((x &&& (2147483647 : Int32)) % (31 : Int32)) = (24 : Int32) ∨ ((x &&& (2147483647 : Int32)) % (31 : Int32)) = (25 : Int32) ∨ ((x &&& (2147483647 : Int32)) % (31 : Int32)) = (26 : Int32) ∨ ((x &&& (2147483647 : Int32)) % (31 : Int32)) = (27 : Int32) ∨ ((x &&& (2147483647 : Int32)) % (31 : Int32)) = (28 : Int32) ∨ ((x &&& (2147483647 : Int32)) % (31 : Int32)) = (29 : Int32) ∨ ((x &&& (2147483647 : Int32)) % (31 : Int32)) = (30 : Int32) := by
  have e1 := c_mask x (2147483647 : Int32) 31 (by decide) (by decide)
  have e2 : ((x &&& (2147483647 : Int32)) % (31 : Int32)).toInt = (x &&& (2147483647 : Int32)).toInt.tmod (31 : Int32).toInt := Int32.toInt_mod _ _
  have e3 : (31 : Int32).toInt = 31 := by decide
  have h0 : 0 ≤ (x &&& (2147483647 : Int32)).toInt := by first | omega | (rw [e1]; exact Int.emod_nonneg _ (by decide))
  rw [e3, Int.tmod_eq_emod_of_nonneg h0] at e2
  simp only [← Int32.toInt_inj]
  have l0 : (0 : Int32).toInt = 0 := by decide
  have l1 : (1 : Int32).toInt = 1 := by decide
  have l2 : (2 : Int32).toInt = 2 := by decide
  have l3 : (3 : Int32).toInt = 3 := by decide
  have l4 : (4 : Int32).toInt = 4 := by decide
  have l5 : (5 : Int32).toInt = 5 := by decide
  have l6 : (6 : Int32).toInt = 6 := by decide
  have l7 : (7 : Int32).toInt = 7 := by decide
  have l8 : (8 : Int32).toInt = 8 := by decide
  have l9 : (9 : Int32).toInt = 9 := by decide
  have l10 : (10 : Int32).toInt = 10 := by decide
  have l11 : (11 : Int32).toInt = 11 := by decide
  have l12 : (12 : Int32).toInt = 12 := by decide
  have l13 : (13 : Int32).toInt = 13 := by decide
  have l14 : (14 : Int32).toInt = 14 := by decide
  have l15 : (15 : Int32).toInt = 15 := by decide
  have l16 : (16 : Int32).toInt = 16 := by decide
  have l17 : (17 : Int32).toInt = 17 := by decide
  have l18 : (18 : Int32).toInt = 18 := by decide
  have l19 : (19 : Int32).toInt = 19 := by decide
  have l20 : (20 : Int32).toInt = 20 := by decide
  have l21 : (21 : Int32).toInt = 21 := by decide
  have l22 : (22 : Int32).toInt = 22 := by decide
  have l23 : (23 : Int32).toInt = 23 := by decide
  have l24 : (24 : Int32).toInt = 24 := by decide
  have l25 : (25 : Int32).toInt = 25 := by decide
  have l26 : (26 : Int32).toInt = 26 := by decide
  have l27 : (27 : Int32).toInt = 27 := by decide
  have l28 : (28 : Int32).toInt = 28 := by decide
  have l29 : (29 : Int32).toInt = 29 := by decide
  have l30 : (30 : Int32).toInt = 30 := by decide
  rw [l0, l1, l2, l3, l4, l5, l6, l7, l8, l9, l10, l11, l12, l13, l14, l15, l16, l17, l18, l19, l20, l21, l22, l23, l24, l25, l26, l27, l28, l29, l30]
  omega
theorem own_pow (x : Int32) : 1 ≤ ((1 : Int32) <<< (((x &&& (2147483647 : Int32)) % (31 : Int32)) &&& 31)).toInt := by
  rcases own_en31 x with e | e | e | e | e | e | e | e | e | e | e | e | e | e | e | e | e | e | e | e | e | e | e | e | e | e | e | e | e | e | e <;> rw [e] <;> decide
theorem own_c0 {a : Int32} (q : 1 ≤ a.toInt) : ¬ (a.toInt64 < (1 : Int64)) := by
  have e1 : (1 : Int64).toInt = 1 := by decide
  rw [Int64.lt_iff_toInt_lt, Int32.toInt_toInt64, e1]
  omega
theorem own_c1 {a : Int32} (q : 1 ≤ a.toInt) : ¬ ((0 : Int32) < lcmpW (1 : Int64) a.toInt64) := by
  rw [lcW, lc_gt]; exact own_c0 q
theorem own_c2 {a : Int32} (q : 1 ≤ a.toInt) : ¬ (lcmpW a.toInt64 (1 : Int64) < (0 : Int32)) := by
  rw [lcW, lc_lt]; exact own_c0 q
theorem own_ge1 {a : Int32} (q : ¬ (a < (1 : Int32))) : 1 ≤ a.toInt := by
  rw [Int32.lt_iff_toInt_lt] at q; have : (1 : Int32).toInt = 1 := by decide
  omega
theorem own_w0 {Z : State} {a0 : Array Value} (hw : ∀ d ∈ tables_1, d.before a0 Z = true) : (Jvm.Cond.constant "stavelog/wire/HistoryStartPinLaw" (7 : Nat) (2147483647 : Int32)).before a0 Z = true := hw _ (List.mem_of_getElem? (i := 0) rfl)
theorem own_w1 {Z : State} {a0 : Array Value} (hw : ∀ d ∈ tables_1, d.before a0 Z = true) : (Jvm.Cond.constant "stavelog/wire/HistoryStartPinLaw" (8 : Nat) (1073741823 : Int32)).before a0 Z = true := hw _ (List.mem_of_getElem? (i := 1) rfl)
theorem own_w2 {Z : State} {a0 : Array Value} (hw : ∀ d ∈ tables_1, d.before a0 Z = true) : (Jvm.Cond.classLink "stavelog/wire/HistoryStartPinLaw" (9 : Nat) "stavelog/wire/History").before a0 Z = true := hw _ (List.mem_of_getElem? (i := 2) rfl)
theorem own_w3 {Z : State} {a0 : Array Value} (hw : ∀ d ∈ tables_1, d.before a0 Z = true) : (Jvm.Cond.instantiable "stavelog/wire/History" (14 : Nat)).before a0 Z = true := hw _ (List.mem_of_getElem? (i := 3) rfl)
theorem own_w4 {Z : State} {a0 : Array Value} (hw : ∀ d ∈ tables_1, d.before a0 Z = true) : (Jvm.Cond.initialized "stavelog/wire/History").before a0 Z = true := hw _ (List.mem_of_getElem? (i := 4) rfl)
theorem own_w27 {Z : State} {a0 : Array Value} (hw : ∀ d ∈ tables_1, d.before a0 Z = true) : (Jvm.Cond.laysFinal "stavelog/wire/History" "stavelog/wire/History" "decompression" "Lstavelog/wire/Decompression;").before a0 Z = true := hw _ (List.mem_of_getElem? (i := 27) rfl)
theorem own_w34 {Z : State} {a0 : Array Value} (hw : ∀ d ∈ tables_1, d.before a0 Z = true) : (Jvm.Cond.lays "stavelog/wire/History" "stavelog/wire/History" "kept" "I").before a0 Z = true := hw _ (List.mem_of_getElem? (i := 34) rfl)
theorem own_w36 {Z : State} {a0 : Array Value} (hw : ∀ d ∈ tables_1, d.before a0 Z = true) : (Jvm.Cond.lays "stavelog/wire/History" "stavelog/wire/History" "written" "J").before a0 Z = true := hw _ (List.mem_of_getElem? (i := 36) rfl)
theorem own_w38 {Z : State} {a0 : Array Value} (hw : ∀ d ∈ tables_1, d.before a0 Z = true) : (Jvm.Cond.lays "stavelog/wire/History" "stavelog/wire/History" "reachable" "J").before a0 Z = true := hw _ (List.mem_of_getElem? (i := 38) rfl)
theorem own_w40 {Z : State} {a0 : Array Value} (hw : ∀ d ∈ tables_1, d.before a0 Z = true) : (Jvm.Cond.lays "stavelog/wire/History" "stavelog/wire/History" "literalsLeft" "I").before a0 Z = true := hw _ (List.mem_of_getElem? (i := 40) rfl)
theorem own_w42 {Z : State} {a0 : Array Value} (hw : ∀ d ∈ tables_1, d.before a0 Z = true) : (Jvm.Cond.lays "stavelog/wire/History" "stavelog/wire/History" "copyLeft" "I").before a0 Z = true := hw _ (List.mem_of_getElem? (i := 42) rfl)
theorem own_w44 {Z : State} {a0 : Array Value} (hw : ∀ d ∈ tables_1, d.before a0 Z = true) : (Jvm.Cond.lays "stavelog/wire/History" "stavelog/wire/History" "sum" "Ljava/util/zip/Checksum;").before a0 Z = true := hw _ (List.mem_of_getElem? (i := 44) rfl)
theorem own_w51 {Z : State} {a0 : Array Value} (hw : ∀ d ∈ tables_1, d.before a0 Z = true) : (Jvm.Cond.lays "stavelog/wire/History" "stavelog/wire/History" "literals" "Ljava/nio/ByteBuffer;").before a0 Z = true := hw _ (List.mem_of_getElem? (i := 51) rfl)
theorem own_w53 {Z : State} {a0 : Array Value} (hw : ∀ d ∈ tables_1, d.before a0 Z = true) : (Jvm.Cond.lays "stavelog/wire/History" "stavelog/wire/History" "literalAt" "I").before a0 Z = true := hw _ (List.mem_of_getElem? (i := 53) rfl)
theorem own_w64 {Z : State} {a0 : Array Value} (hw : ∀ d ∈ tables_1, d.before a0 Z = true) : (Jvm.Cond.lays "stavelog/wire/History" "stavelog/wire/History" "distance" "I").before a0 Z = true := hw _ (List.mem_of_getElem? (i := 64) rfl)
theorem own_w5 {Z : State} {a0 : Array Value} (hw : ∀ d ∈ tables_1, d.before a0 Z = true) : (Jvm.Cond.classLink "stavelog/wire/HistoryStartPinLaw" (11 : Nat) "stavelog/wire/Decompression").before a0 Z = true := hw _ (List.mem_of_getElem? (i := 5) rfl)
theorem own_w6 {Z : State} {a0 : Array Value} (hw : ∀ d ∈ tables_1, d.before a0 Z = true) : (Jvm.Cond.instantiable "stavelog/wire/Decompression" (5 : Nat)).before a0 Z = true := hw _ (List.mem_of_getElem? (i := 6) rfl)
theorem own_w7 {Z : State} {a0 : Array Value} (hw : ∀ d ∈ tables_1, d.before a0 Z = true) : (Jvm.Cond.initialized "stavelog/wire/Decompression").before a0 Z = true := hw _ (List.mem_of_getElem? (i := 7) rfl)
theorem own_w21 {Z : State} {a0 : Array Value} (hw : ∀ d ∈ tables_1, d.before a0 Z = true) : (Jvm.Cond.laysFinal "stavelog/wire/Decompression" "stavelog/wire/Decompression" "memory" "Lstavelog/wire/Decompression$Memory;").before a0 Z = true := hw _ (List.mem_of_getElem? (i := 21) rfl)
theorem own_w8 {Z : State} {a0 : Array Value} (hw : ∀ d ∈ tables_1, d.before a0 Z = true) : (Jvm.Cond.methodLink "stavelog/wire/HistoryStartPinLaw" (13 : Nat) ({ cls := "stavelog/wire/Decompression", name := "<init>", desc := "()V" } : Jvm.MethodName)).before a0 Z = true := hw _ (List.mem_of_getElem? (i := 8) rfl)
theorem d1_0 : decode prog_192_method_1_code 0 = .ok (.aload_n 0, 1) := by decide +kernel
theorem d1_1 : decode prog_192_method_1_code 1 = .ok (.invokedynamic 1, 5) := by decide +kernel
theorem own_w11 {Z : State} {a0 : Array Value} (hw : ∀ d ∈ tables_1, d.before a0 Z = true) : (Jvm.Cond.lambdaSite ({ cls := "stavelog/wire/Decompression", name := "<init>", desc := "()V" } : Jvm.MethodName) (1 : Nat) (1 : Nat) (Jvm.Lambda.Shape.mk "stavelog/wire/Decompression$Memory" "take" (Jvm.ClassFile.MethodDescriptor.mk ([Jvm.ClassFile.FieldType.long] : List Jvm.ClassFile.FieldType) (Option.some Jvm.ClassFile.FieldType.boolean)) ([] : List Jvm.ClassFile.FieldType) (6 : Nat) "stavelog/wire/Decompression" "lambda$new$0" (Jvm.ClassFile.MethodDescriptor.mk ([Jvm.ClassFile.FieldType.long] : List Jvm.ClassFile.FieldType) (Option.some Jvm.ClassFile.FieldType.boolean)) false (Jvm.ClassFile.MethodDescriptor.mk ([Jvm.ClassFile.FieldType.long] : List Jvm.ClassFile.FieldType) (Option.some Jvm.ClassFile.FieldType.boolean)))).before a0 Z = true := hw _ (List.mem_of_getElem? (i := 11) rfl)
theorem d1_6 : decode prog_192_method_1_code 6 = .ok (.invokespecial 5, 3) := by decide +kernel
theorem own_w14 {Z : State} {a0 : Array Value} (hw : ∀ d ∈ tables_1, d.before a0 Z = true) : (Jvm.Cond.methodLink "stavelog/wire/Decompression" (5 : Nat) ({ cls := "stavelog/wire/Decompression", name := "<init>", desc := "(Lstavelog/wire/Decompression$Memory;)V" } : Jvm.MethodName)).before a0 Z = true := hw _ (List.mem_of_getElem? (i := 14) rfl)
theorem d2_0 : decode prog_192_method_2_code 0 = .ok (.aload_n 0, 1) := by decide +kernel
theorem d2_1 : decode prog_192_method_2_code 1 = .ok (.invokespecial 11, 3) := by decide +kernel
theorem own_w17 {Z : State} {a0 : Array Value} (hw : ∀ d ∈ tables_1, d.before a0 Z = true) : (Jvm.Cond.methodLink "stavelog/wire/Decompression" (11 : Nat) ({ cls := "java/lang/Object", name := "<init>", desc := "()V" } : Jvm.MethodName)).before a0 Z = true := hw _ (List.mem_of_getElem? (i := 17) rfl)
theorem own_w18 {Z : State} {a0 : Array Value} (hw : ∀ d ∈ tables_1, d.before a0 Z = true) : (Jvm.Cond.instanceMethod ({ cls := "java/lang/Object", name := "<init>", desc := "()V" } : Jvm.MethodName)).before a0 Z = true := hw _ (List.mem_of_getElem? (i := 18) rfl)
theorem own_w19 {Z : State} {a0 : Array Value} (hw : ∀ d ∈ tables_1, d.before a0 Z = true) : (Jvm.Cond.code ({ cls := "java/lang/Object", name := "<init>", desc := "()V" } : Jvm.MethodName) object_method_1_code (1 : Nat) (Option.none : Option Jvm.ClassFile.FieldType)).before a0 Z = true := hw _ (List.mem_of_getElem? (i := 19) rfl)
theorem d2_4 : decode prog_192_method_2_code 4 = .ok (.aload_n 0, 1) := by decide +kernel
theorem d2_5 : decode prog_192_method_2_code 5 = .ok (.aload_n 1, 1) := by decide +kernel
theorem d2_6 : decode prog_192_method_2_code 6 = .ok (.putfield 16, 3) := by decide +kernel
theorem own_w20 {Z : State} {a0 : Array Value} (hw : ∀ d ∈ tables_1, d.before a0 Z = true) : (Jvm.Cond.fieldLink "stavelog/wire/Decompression" (16 : Nat) "stavelog/wire/Decompression" "memory" "Lstavelog/wire/Decompression$Memory;").before a0 Z = true := hw _ (List.mem_of_getElem? (i := 20) rfl)
theorem d2_9 : decode prog_192_method_2_code 9 = .ok (.return_, 1) := by decide +kernel
theorem pn_stavelog_wire_Decompression : plainName "stavelog/wire/Decompression" = true := by first | (simp [plainName, overriddenIn]; done) | decide +kernel
theorem own_w16 {Z : State} {a0 : Array Value} (hw : ∀ d ∈ tables_1, d.before a0 Z = true) : (Jvm.Cond.code ({ cls := "stavelog/wire/Decompression", name := "<init>", desc := "(Lstavelog/wire/Decompression$Memory;)V" } : Jvm.MethodName) prog_192_method_2_code (2 : Nat) (Option.none : Option Jvm.ClassFile.FieldType)).before a0 Z = true := hw _ (List.mem_of_getElem? (i := 16) rfl)
theorem pd__Lstavelog_wire_Decompression_Memory__V : parseMethodDescriptor "(Lstavelog/wire/Decompression$Memory;)V" = some ⟨[(.object "stavelog/wire/Decompression$Memory")], none⟩ := by decide +kernel
theorem own_w15 {Z : State} {a0 : Array Value} (hw : ∀ d ∈ tables_1, d.before a0 Z = true) : (Jvm.Cond.instanceMethod ({ cls := "stavelog/wire/Decompression", name := "<init>", desc := "(Lstavelog/wire/Decompression$Memory;)V" } : Jvm.MethodName)).before a0 Z = true := hw _ (List.mem_of_getElem? (i := 15) rfl)
theorem d1_9 : decode prog_192_method_1_code 9 = .ok (.return_, 1) := by decide +kernel
theorem own_w10 {Z : State} {a0 : Array Value} (hw : ∀ d ∈ tables_1, d.before a0 Z = true) : (Jvm.Cond.code ({ cls := "stavelog/wire/Decompression", name := "<init>", desc := "()V" } : Jvm.MethodName) prog_192_method_1_code (1 : Nat) (Option.none : Option Jvm.ClassFile.FieldType)).before a0 Z = true := hw _ (List.mem_of_getElem? (i := 10) rfl)
theorem pd___V : parseMethodDescriptor "()V" = some ⟨[], none⟩ := by decide +kernel
theorem own_w9 {Z : State} {a0 : Array Value} (hw : ∀ d ∈ tables_1, d.before a0 Z = true) : (Jvm.Cond.instanceMethod ({ cls := "stavelog/wire/Decompression", name := "<init>", desc := "()V" } : Jvm.MethodName)).before a0 Z = true := hw _ (List.mem_of_getElem? (i := 9) rfl)
theorem own_w22 {Z : State} {a0 : Array Value} (hw : ∀ d ∈ tables_1, d.before a0 Z = true) : (Jvm.Cond.methodLink "stavelog/wire/HistoryStartPinLaw" (14 : Nat) ({ cls := "stavelog/wire/History", name := "<init>", desc := "(Lstavelog/wire/Decompression;)V" } : Jvm.MethodName)).before a0 Z = true := hw _ (List.mem_of_getElem? (i := 22) rfl)
theorem d4_0 : decode prog_235_method_1_code 0 = .ok (.aload_n 0, 1) := by decide +kernel
theorem d4_1 : decode prog_235_method_1_code 1 = .ok (.invokespecial 1, 3) := by decide +kernel
theorem own_w25 {Z : State} {a0 : Array Value} (hw : ∀ d ∈ tables_1, d.before a0 Z = true) : (Jvm.Cond.methodLink "stavelog/wire/History" (1 : Nat) ({ cls := "java/lang/Object", name := "<init>", desc := "()V" } : Jvm.MethodName)).before a0 Z = true := hw _ (List.mem_of_getElem? (i := 25) rfl)
theorem d4_4 : decode prog_235_method_1_code 4 = .ok (.aload_n 0, 1) := by decide +kernel
theorem d4_5 : decode prog_235_method_1_code 5 = .ok (.aload_n 1, 1) := by decide +kernel
theorem d4_6 : decode prog_235_method_1_code 6 = .ok (.putfield 7, 3) := by decide +kernel
theorem own_w26 {Z : State} {a0 : Array Value} (hw : ∀ d ∈ tables_1, d.before a0 Z = true) : (Jvm.Cond.fieldLink "stavelog/wire/History" (7 : Nat) "stavelog/wire/History" "decompression" "Lstavelog/wire/Decompression;").before a0 Z = true := hw _ (List.mem_of_getElem? (i := 26) rfl)
theorem d4_9 : decode prog_235_method_1_code 9 = .ok (.return_, 1) := by decide +kernel
theorem pn_stavelog_wire_History : plainName "stavelog/wire/History" = true := by first | (simp [plainName, overriddenIn]; done) | decide +kernel
theorem own_w24 {Z : State} {a0 : Array Value} (hw : ∀ d ∈ tables_1, d.before a0 Z = true) : (Jvm.Cond.code ({ cls := "stavelog/wire/History", name := "<init>", desc := "(Lstavelog/wire/Decompression;)V" } : Jvm.MethodName) prog_235_method_1_code (2 : Nat) (Option.none : Option Jvm.ClassFile.FieldType)).before a0 Z = true := hw _ (List.mem_of_getElem? (i := 24) rfl)
theorem pd__Lstavelog_wire_Decompression__V : parseMethodDescriptor "(Lstavelog/wire/Decompression;)V" = some ⟨[(.object "stavelog/wire/Decompression")], none⟩ := by decide +kernel
theorem own_w23 {Z : State} {a0 : Array Value} (hw : ∀ d ∈ tables_1, d.before a0 Z = true) : (Jvm.Cond.instanceMethod ({ cls := "stavelog/wire/History", name := "<init>", desc := "(Lstavelog/wire/Decompression;)V" } : Jvm.MethodName)).before a0 Z = true := hw _ (List.mem_of_getElem? (i := 23) rfl)
theorem own_w28 {Z : State} {a0 : Array Value} (hw : ∀ d ∈ tables_1, d.before a0 Z = true) : (Jvm.Cond.methodLink "stavelog/wire/HistoryStartPinLaw" (17 : Nat) ({ cls := "stavelog/wire/History", name := "start", desc := "(I)V" } : Jvm.MethodName)).before a0 Z = true := hw _ (List.mem_of_getElem? (i := 28) rfl)
theorem d5_0 : decode prog_235_method_2_code 0 = .ok (.aload_n 0, 1) := by decide +kernel
theorem d5_1 : decode prog_235_method_2_code 1 = .ok (.iload_n 1, 1) := by decide +kernel
theorem d5_2 : decode prog_235_method_2_code 2 = .ok (.putfield 13, 3) := by decide +kernel
theorem own_w33 {Z : State} {a0 : Array Value} (hw : ∀ d ∈ tables_1, d.before a0 Z = true) : (Jvm.Cond.fieldLink "stavelog/wire/History" (13 : Nat) "stavelog/wire/History" "kept" "I").before a0 Z = true := hw _ (List.mem_of_getElem? (i := 33) rfl)
theorem d5_5 : decode prog_235_method_2_code 5 = .ok (.aload_n 0, 1) := by decide +kernel
theorem d5_6 : decode prog_235_method_2_code 6 = .ok (.lconst 0, 1) := by decide +kernel
theorem d5_7 : decode prog_235_method_2_code 7 = .ok (.putfield 17, 3) := by decide +kernel
theorem own_w35 {Z : State} {a0 : Array Value} (hw : ∀ d ∈ tables_1, d.before a0 Z = true) : (Jvm.Cond.fieldLink "stavelog/wire/History" (17 : Nat) "stavelog/wire/History" "written" "J").before a0 Z = true := hw _ (List.mem_of_getElem? (i := 35) rfl)
theorem d5_10 : decode prog_235_method_2_code 10 = .ok (.aload_n 0, 1) := by decide +kernel
theorem d5_11 : decode prog_235_method_2_code 11 = .ok (.lconst 0, 1) := by decide +kernel
theorem d5_12 : decode prog_235_method_2_code 12 = .ok (.putfield 21, 3) := by decide +kernel
theorem own_w37 {Z : State} {a0 : Array Value} (hw : ∀ d ∈ tables_1, d.before a0 Z = true) : (Jvm.Cond.fieldLink "stavelog/wire/History" (21 : Nat) "stavelog/wire/History" "reachable" "J").before a0 Z = true := hw _ (List.mem_of_getElem? (i := 37) rfl)
theorem d5_15 : decode prog_235_method_2_code 15 = .ok (.aload_n 0, 1) := by decide +kernel
theorem d5_16 : decode prog_235_method_2_code 16 = .ok (.iconst 0, 1) := by decide +kernel
theorem d5_17 : decode prog_235_method_2_code 17 = .ok (.putfield 24, 3) := by decide +kernel
theorem own_w39 {Z : State} {a0 : Array Value} (hw : ∀ d ∈ tables_1, d.before a0 Z = true) : (Jvm.Cond.fieldLink "stavelog/wire/History" (24 : Nat) "stavelog/wire/History" "literalsLeft" "I").before a0 Z = true := hw _ (List.mem_of_getElem? (i := 39) rfl)
theorem d5_20 : decode prog_235_method_2_code 20 = .ok (.aload_n 0, 1) := by decide +kernel
theorem d5_21 : decode prog_235_method_2_code 21 = .ok (.iconst 0, 1) := by decide +kernel
theorem d5_22 : decode prog_235_method_2_code 22 = .ok (.putfield 27, 3) := by decide +kernel
theorem own_w41 {Z : State} {a0 : Array Value} (hw : ∀ d ∈ tables_1, d.before a0 Z = true) : (Jvm.Cond.fieldLink "stavelog/wire/History" (27 : Nat) "stavelog/wire/History" "copyLeft" "I").before a0 Z = true := hw _ (List.mem_of_getElem? (i := 41) rfl)
theorem d5_25 : decode prog_235_method_2_code 25 = .ok (.aload_n 0, 1) := by decide +kernel
theorem d5_26 : decode prog_235_method_2_code 26 = .ok (.aconst_null, 1) := by decide +kernel
theorem d5_27 : decode prog_235_method_2_code 27 = .ok (.putfield 30, 3) := by decide +kernel
theorem own_w43 {Z : State} {a0 : Array Value} (hw : ∀ d ∈ tables_1, d.before a0 Z = true) : (Jvm.Cond.fieldLink "stavelog/wire/History" (30 : Nat) "stavelog/wire/History" "sum" "Ljava/util/zip/Checksum;").before a0 Z = true := hw _ (List.mem_of_getElem? (i := 43) rfl)
theorem d5_30 : decode prog_235_method_2_code 30 = .ok (.return_, 1) := by decide +kernel
theorem own_w32 {Z : State} {a0 : Array Value} (hw : ∀ d ∈ tables_1, d.before a0 Z = true) : (Jvm.Cond.code ({ cls := "stavelog/wire/History", name := "start", desc := "(I)V" } : Jvm.MethodName) prog_235_method_2_code (2 : Nat) (Option.none : Option Jvm.ClassFile.FieldType)).before a0 Z = true := hw _ (List.mem_of_getElem? (i := 32) rfl)
theorem pd__I_V : parseMethodDescriptor "(I)V" = some ⟨[.int], none⟩ := by decide +kernel
theorem own_w31 {Z : State} {a0 : Array Value} (hw : ∀ d ∈ tables_1, d.before a0 Z = true) : (Jvm.Cond.selects "stavelog/wire/History" ({ cls := "stavelog/wire/History", name := "start", desc := "(I)V" } : Jvm.MethodName) ({ cls := "stavelog/wire/History", name := "start", desc := "(I)V" } : Jvm.MethodName)).before a0 Z = true := hw _ (List.mem_of_getElem? (i := 31) rfl)
theorem own_w29 {Z : State} {a0 : Array Value} (hw : ∀ d ∈ tables_1, d.before a0 Z = true) : (Jvm.Cond.declares ({ cls := "stavelog/wire/History", name := "start", desc := "(I)V" } : Jvm.MethodName)).before a0 Z = true := hw _ (List.mem_of_getElem? (i := 29) rfl)
theorem own_w30 {Z : State} {a0 : Array Value} (hw : ∀ d ∈ tables_1, d.before a0 Z = true) : (Jvm.Cond.instanceMethod ({ cls := "stavelog/wire/History", name := "start", desc := "(I)V" } : Jvm.MethodName)).before a0 Z = true := hw _ (List.mem_of_getElem? (i := 30) rfl)
theorem own_w45 {Z : State} {a0 : Array Value} (hw : ∀ d ∈ tables_1, d.before a0 Z = true) : (Jvm.Cond.methodLink "stavelog/wire/HistoryStartPinLaw" (21 : Nat) ({ cls := "stavelog/wire/History", name := "literals", desc := "(Ljava/nio/ByteBuffer;II)V" } : Jvm.MethodName)).before a0 Z = true := hw _ (List.mem_of_getElem? (i := 45) rfl)
theorem d6_0 : decode prog_235_method_10_code 0 = .ok (.aload_n 0, 1) := by decide +kernel
theorem d6_1 : decode prog_235_method_10_code 1 = .ok (.aload_n 1, 1) := by decide +kernel
theorem d6_2 : decode prog_235_method_10_code 2 = .ok (.putfield 81, 3) := by decide +kernel
theorem own_w50 {Z : State} {a0 : Array Value} (hw : ∀ d ∈ tables_1, d.before a0 Z = true) : (Jvm.Cond.fieldLink "stavelog/wire/History" (81 : Nat) "stavelog/wire/History" "literals" "Ljava/nio/ByteBuffer;").before a0 Z = true := hw _ (List.mem_of_getElem? (i := 50) rfl)
theorem d6_5 : decode prog_235_method_10_code 5 = .ok (.aload_n 0, 1) := by decide +kernel
theorem d6_6 : decode prog_235_method_10_code 6 = .ok (.iload_n 2, 1) := by decide +kernel
theorem d6_7 : decode prog_235_method_10_code 7 = .ok (.putfield 85, 3) := by decide +kernel
theorem own_w52 {Z : State} {a0 : Array Value} (hw : ∀ d ∈ tables_1, d.before a0 Z = true) : (Jvm.Cond.fieldLink "stavelog/wire/History" (85 : Nat) "stavelog/wire/History" "literalAt" "I").before a0 Z = true := hw _ (List.mem_of_getElem? (i := 52) rfl)
theorem d6_10 : decode prog_235_method_10_code 10 = .ok (.aload_n 0, 1) := by decide +kernel
theorem d6_11 : decode prog_235_method_10_code 11 = .ok (.iload_n 3, 1) := by decide +kernel
theorem d6_12 : decode prog_235_method_10_code 12 = .ok (.putfield 24, 3) := by decide +kernel
theorem d6_15 : decode prog_235_method_10_code 15 = .ok (.return_, 1) := by decide +kernel
theorem own_w49 {Z : State} {a0 : Array Value} (hw : ∀ d ∈ tables_1, d.before a0 Z = true) : (Jvm.Cond.code ({ cls := "stavelog/wire/History", name := "literals", desc := "(Ljava/nio/ByteBuffer;II)V" } : Jvm.MethodName) prog_235_method_10_code (4 : Nat) (Option.none : Option Jvm.ClassFile.FieldType)).before a0 Z = true := hw _ (List.mem_of_getElem? (i := 49) rfl)
theorem pd__Ljava_nio_ByteBuffer_II_V : parseMethodDescriptor "(Ljava/nio/ByteBuffer;II)V" = some ⟨[(.object "java/nio/ByteBuffer"), .int, .int], none⟩ := by decide +kernel
theorem own_w48 {Z : State} {a0 : Array Value} (hw : ∀ d ∈ tables_1, d.before a0 Z = true) : (Jvm.Cond.selects "stavelog/wire/History" ({ cls := "stavelog/wire/History", name := "literals", desc := "(Ljava/nio/ByteBuffer;II)V" } : Jvm.MethodName) ({ cls := "stavelog/wire/History", name := "literals", desc := "(Ljava/nio/ByteBuffer;II)V" } : Jvm.MethodName)).before a0 Z = true := hw _ (List.mem_of_getElem? (i := 48) rfl)
theorem own_w46 {Z : State} {a0 : Array Value} (hw : ∀ d ∈ tables_1, d.before a0 Z = true) : (Jvm.Cond.declares ({ cls := "stavelog/wire/History", name := "literals", desc := "(Ljava/nio/ByteBuffer;II)V" } : Jvm.MethodName)).before a0 Z = true := hw _ (List.mem_of_getElem? (i := 46) rfl)
theorem own_w47 {Z : State} {a0 : Array Value} (hw : ∀ d ∈ tables_1, d.before a0 Z = true) : (Jvm.Cond.instanceMethod ({ cls := "stavelog/wire/History", name := "literals", desc := "(Ljava/nio/ByteBuffer;II)V" } : Jvm.MethodName)).before a0 Z = true := hw _ (List.mem_of_getElem? (i := 47) rfl)
theorem own_w75 {Z : State} {a0 : Array Value} (hw : ∀ d ∈ tables_1, d.before a0 Z = true) : (Jvm.Cond.methodLink "stavelog/wire/HistoryStartPinLaw" (32 : Nat) ({ cls := "stavelog/wire/History", name := "written", desc := "()J" } : Jvm.MethodName)).before a0 Z = true := hw _ (List.mem_of_getElem? (i := 75) rfl)
theorem d10_0 : decode prog_235_method_7_code 0 = .ok (.aload_n 0, 1) := by decide +kernel
theorem d10_1 : decode prog_235_method_7_code 1 = .ok (.getfield 17, 3) := by decide +kernel
theorem d10_4 : decode prog_235_method_7_code 4 = .ok (.aload_n 0, 1) := by decide +kernel
theorem d10_5 : decode prog_235_method_7_code 5 = .ok (.getfield 24, 3) := by decide +kernel
theorem d10_8 : decode prog_235_method_7_code 8 = .ok (.i2l, 1) := by decide +kernel
theorem d10_9 : decode prog_235_method_7_code 9 = .ok (.ladd, 1) := by decide +kernel
theorem d10_10 : decode prog_235_method_7_code 10 = .ok (.aload_n 0, 1) := by decide +kernel
theorem d10_11 : decode prog_235_method_7_code 11 = .ok (.getfield 27, 3) := by decide +kernel
theorem d10_14 : decode prog_235_method_7_code 14 = .ok (.i2l, 1) := by decide +kernel
theorem d10_15 : decode prog_235_method_7_code 15 = .ok (.ladd, 1) := by decide +kernel
theorem d10_16 : decode prog_235_method_7_code 16 = .ok (.lreturn, 1) := by decide +kernel
theorem own_w74 {Z : State} {a0 : Array Value} (hw : ∀ d ∈ tables_1, d.before a0 Z = true) : (Jvm.Cond.code ({ cls := "stavelog/wire/History", name := "written", desc := "()J" } : Jvm.MethodName) prog_235_method_7_code (1 : Nat) (Option.some Jvm.ClassFile.FieldType.long)).before a0 Z = true := hw _ (List.mem_of_getElem? (i := 74) rfl)
theorem pd___J : parseMethodDescriptor "()J" = some ⟨[], some .long⟩ := by decide +kernel
theorem own_w73 {Z : State} {a0 : Array Value} (hw : ∀ d ∈ tables_1, d.before a0 Z = true) : (Jvm.Cond.selects "stavelog/wire/History" ({ cls := "stavelog/wire/History", name := "written", desc := "()J" } : Jvm.MethodName) ({ cls := "stavelog/wire/History", name := "written", desc := "()J" } : Jvm.MethodName)).before a0 Z = true := hw _ (List.mem_of_getElem? (i := 73) rfl)
theorem own_w71 {Z : State} {a0 : Array Value} (hw : ∀ d ∈ tables_1, d.before a0 Z = true) : (Jvm.Cond.declares ({ cls := "stavelog/wire/History", name := "written", desc := "()J" } : Jvm.MethodName)).before a0 Z = true := hw _ (List.mem_of_getElem? (i := 71) rfl)
theorem own_w72 {Z : State} {a0 : Array Value} (hw : ∀ d ∈ tables_1, d.before a0 Z = true) : (Jvm.Cond.instanceMethod ({ cls := "stavelog/wire/History", name := "written", desc := "()J" } : Jvm.MethodName)).before a0 Z = true := hw _ (List.mem_of_getElem? (i := 72) rfl)
theorem own_w76 {Z : State} {a0 : Array Value} (hw : ∀ d ∈ tables_1, d.before a0 Z = true) : (Jvm.Cond.methodLink "stavelog/wire/HistoryStartPinLaw" (36 : Nat) ({ cls := "java/lang/Math", name := "min", desc := "(JJ)J" } : Jvm.MethodName)).before a0 Z = true := hw _ (List.mem_of_getElem? (i := 76) rfl)
theorem d8_0 : decode jdk_29_method_70_code 0 = .ok (.lload_n 0, 1) := by decide +kernel
theorem d8_1 : decode jdk_29_method_70_code 1 = .ok (.lload_n 2, 1) := by decide +kernel
theorem d8_2 : decode jdk_29_method_70_code 2 = .ok (.lcmp, 1) := by decide +kernel
theorem d8_3 : decode jdk_29_method_70_code 3 = .ok (.ifCond .gt 7, 3) := by decide +kernel
theorem d8_10 : decode jdk_29_method_70_code 10 = .ok (.lload_n 2, 1) := by decide +kernel
theorem d8_11 : decode jdk_29_method_70_code 11 = .ok (.lreturn, 1) := by decide +kernel
theorem d8_6 : decode jdk_29_method_70_code 6 = .ok (.lload_n 0, 1) := by decide +kernel
theorem d8_7 : decode jdk_29_method_70_code 7 = .ok (.goto 4, 3) := by decide +kernel
theorem own_w62 {Z : State} {a0 : Array Value} (hw : ∀ d ∈ tables_1, d.before a0 Z = true) : (Jvm.Cond.code ({ cls := "java/lang/Math", name := "min", desc := "(JJ)J" } : Jvm.MethodName) jdk_29_method_70_code (4 : Nat) (Option.some Jvm.ClassFile.FieldType.long)).before a0 Z = true := hw _ (List.mem_of_getElem? (i := 62) rfl)
theorem own_w61 {Z : State} {a0 : Array Value} (hw : ∀ d ∈ tables_1, d.before a0 Z = true) : (Jvm.Cond.initialized "java/lang/Math").before a0 Z = true := hw _ (List.mem_of_getElem? (i := 61) rfl)
theorem pd__JJ_J : parseMethodDescriptor "(JJ)J" = some ⟨[.long, .long], some .long⟩ := by decide +kernel
theorem own_w60 {Z : State} {a0 : Array Value} (hw : ∀ d ∈ tables_1, d.before a0 Z = true) : (Jvm.Cond.static ({ cls := "java/lang/Math", name := "min", desc := "(JJ)J" } : Jvm.MethodName)).before a0 Z = true := hw _ (List.mem_of_getElem? (i := 60) rfl)
theorem own_w54 {Z : State} {a0 : Array Value} (hw : ∀ d ∈ tables_1, d.before a0 Z = true) : (Jvm.Cond.methodLink "stavelog/wire/HistoryStartPinLaw" (25 : Nat) ({ cls := "stavelog/wire/History", name := "copy", desc := "(JI)V" } : Jvm.MethodName)).before a0 Z = true := hw _ (List.mem_of_getElem? (i := 54) rfl)
theorem d7_0 : decode prog_235_method_11_code 0 = .ok (.aload_n 0, 1) := by decide +kernel
theorem d7_1 : decode prog_235_method_11_code 1 = .ok (.getfield 17, 3) := by decide +kernel
theorem d7_4 : decode prog_235_method_11_code 4 = .ok (.aload_n 0, 1) := by decide +kernel
theorem d7_5 : decode prog_235_method_11_code 5 = .ok (.getfield 24, 3) := by decide +kernel
theorem d7_8 : decode prog_235_method_11_code 8 = .ok (.i2l, 1) := by decide +kernel
theorem d7_9 : decode prog_235_method_11_code 9 = .ok (.ladd, 1) := by decide +kernel
theorem d7_10 : decode prog_235_method_11_code 10 = .ok (.aload_n 0, 1) := by decide +kernel
theorem d7_11 : decode prog_235_method_11_code 11 = .ok (.getfield 21, 3) := by decide +kernel
theorem d7_14 : decode prog_235_method_11_code 14 = .ok (.lsub, 1) := by decide +kernel
theorem d7_15 : decode prog_235_method_11_code 15 = .ok (.aload_n 0, 1) := by decide +kernel
theorem d7_16 : decode prog_235_method_11_code 16 = .ok (.getfield 13, 3) := by decide +kernel
theorem d7_19 : decode prog_235_method_11_code 19 = .ok (.i2l, 1) := by decide +kernel
theorem d7_20 : decode prog_235_method_11_code 20 = .ok (.invokestatic 88, 3) := by decide +kernel
theorem own_w59 {Z : State} {a0 : Array Value} (hw : ∀ d ∈ tables_1, d.before a0 Z = true) : (Jvm.Cond.methodLink "stavelog/wire/History" (88 : Nat) ({ cls := "java/lang/Math", name := "min", desc := "(JJ)J" } : Jvm.MethodName)).before a0 Z = true := hw _ (List.mem_of_getElem? (i := 59) rfl)
theorem d7_23 : decode prog_235_method_11_code 23 = .ok (.lstore 4, 2) := by decide +kernel
theorem d7_25 : decode prog_235_method_11_code 25 = .ok (.lload_n 1, 1) := by decide +kernel
theorem d7_26 : decode prog_235_method_11_code 26 = .ok (.lconst 1, 1) := by decide +kernel
theorem d7_27 : decode prog_235_method_11_code 27 = .ok (.lcmp, 1) := by decide +kernel
theorem d7_28 : decode prog_235_method_11_code 28 = .ok (.ifCond .lt 10, 3) := by decide +kernel
theorem d7_31 : decode prog_235_method_11_code 31 = .ok (.lload_n 1, 1) := by decide +kernel
theorem d7_32 : decode prog_235_method_11_code 32 = .ok (.lload 4, 2) := by decide +kernel
theorem d7_34 : decode prog_235_method_11_code 34 = .ok (.lcmp, 1) := by decide +kernel
theorem d7_35 : decode prog_235_method_11_code 35 = .ok (.ifCond .le 19, 3) := by decide +kernel
theorem d7_54 : decode prog_235_method_11_code 54 = .ok (.aload_n 0, 1) := by decide +kernel
theorem d7_55 : decode prog_235_method_11_code 55 = .ok (.lload_n 1, 1) := by decide +kernel
theorem d7_56 : decode prog_235_method_11_code 56 = .ok (.l2i, 1) := by decide +kernel
theorem d7_57 : decode prog_235_method_11_code 57 = .ok (.putfield 97, 3) := by decide +kernel
theorem own_w63 {Z : State} {a0 : Array Value} (hw : ∀ d ∈ tables_1, d.before a0 Z = true) : (Jvm.Cond.fieldLink "stavelog/wire/History" (97 : Nat) "stavelog/wire/History" "distance" "I").before a0 Z = true := hw _ (List.mem_of_getElem? (i := 63) rfl)
theorem d7_60 : decode prog_235_method_11_code 60 = .ok (.aload_n 0, 1) := by decide +kernel
theorem d7_61 : decode prog_235_method_11_code 61 = .ok (.iload_n 3, 1) := by decide +kernel
theorem d7_62 : decode prog_235_method_11_code 62 = .ok (.putfield 27, 3) := by decide +kernel
theorem d7_65 : decode prog_235_method_11_code 65 = .ok (.return_, 1) := by decide +kernel
theorem own_w58 {Z : State} {a0 : Array Value} (hw : ∀ d ∈ tables_1, d.before a0 Z = true) : (Jvm.Cond.code ({ cls := "stavelog/wire/History", name := "copy", desc := "(JI)V" } : Jvm.MethodName) prog_235_method_11_code (6 : Nat) (Option.none : Option Jvm.ClassFile.FieldType)).before a0 Z = true := hw _ (List.mem_of_getElem? (i := 58) rfl)
theorem pd__JI_V : parseMethodDescriptor "(JI)V" = some ⟨[.long, .int], none⟩ := by decide +kernel
theorem own_w57 {Z : State} {a0 : Array Value} (hw : ∀ d ∈ tables_1, d.before a0 Z = true) : (Jvm.Cond.selects "stavelog/wire/History" ({ cls := "stavelog/wire/History", name := "copy", desc := "(JI)V" } : Jvm.MethodName) ({ cls := "stavelog/wire/History", name := "copy", desc := "(JI)V" } : Jvm.MethodName)).before a0 Z = true := hw _ (List.mem_of_getElem? (i := 57) rfl)
theorem own_w55 {Z : State} {a0 : Array Value} (hw : ∀ d ∈ tables_1, d.before a0 Z = true) : (Jvm.Cond.declares ({ cls := "stavelog/wire/History", name := "copy", desc := "(JI)V" } : Jvm.MethodName)).before a0 Z = true := hw _ (List.mem_of_getElem? (i := 55) rfl)
theorem own_w56 {Z : State} {a0 : Array Value} (hw : ∀ d ∈ tables_1, d.before a0 Z = true) : (Jvm.Cond.instanceMethod ({ cls := "stavelog/wire/History", name := "copy", desc := "(JI)V" } : Jvm.MethodName)).before a0 Z = true := hw _ (List.mem_of_getElem? (i := 56) rfl)
theorem own_w65 {Z : State} {a0 : Array Value} (hw : ∀ d ∈ tables_1, d.before a0 Z = true) : (Jvm.Cond.methodLink "stavelog/wire/HistoryStartPinLaw" (29 : Nat) ({ cls := "stavelog/wire/History", name := "forget", desc := "()V" } : Jvm.MethodName)).before a0 Z = true := hw _ (List.mem_of_getElem? (i := 65) rfl)
theorem d9_0 : decode prog_235_method_3_code 0 = .ok (.aload_n 0, 1) := by decide +kernel
theorem d9_1 : decode prog_235_method_3_code 1 = .ok (.aload_n 0, 1) := by decide +kernel
theorem d9_2 : decode prog_235_method_3_code 2 = .ok (.invokevirtual 34, 3) := by decide +kernel
theorem own_w70 {Z : State} {a0 : Array Value} (hw : ∀ d ∈ tables_1, d.before a0 Z = true) : (Jvm.Cond.methodLink "stavelog/wire/History" (34 : Nat) ({ cls := "stavelog/wire/History", name := "written", desc := "()J" } : Jvm.MethodName)).before a0 Z = true := hw _ (List.mem_of_getElem? (i := 70) rfl)
theorem d9_5 : decode prog_235_method_3_code 5 = .ok (.putfield 21, 3) := by decide +kernel
theorem d9_8 : decode prog_235_method_3_code 8 = .ok (.return_, 1) := by decide +kernel
theorem own_w69 {Z : State} {a0 : Array Value} (hw : ∀ d ∈ tables_1, d.before a0 Z = true) : (Jvm.Cond.code ({ cls := "stavelog/wire/History", name := "forget", desc := "()V" } : Jvm.MethodName) prog_235_method_3_code (1 : Nat) (Option.none : Option Jvm.ClassFile.FieldType)).before a0 Z = true := hw _ (List.mem_of_getElem? (i := 69) rfl)
theorem own_w68 {Z : State} {a0 : Array Value} (hw : ∀ d ∈ tables_1, d.before a0 Z = true) : (Jvm.Cond.selects "stavelog/wire/History" ({ cls := "stavelog/wire/History", name := "forget", desc := "()V" } : Jvm.MethodName) ({ cls := "stavelog/wire/History", name := "forget", desc := "()V" } : Jvm.MethodName)).before a0 Z = true := hw _ (List.mem_of_getElem? (i := 68) rfl)
theorem own_w66 {Z : State} {a0 : Array Value} (hw : ∀ d ∈ tables_1, d.before a0 Z = true) : (Jvm.Cond.declares ({ cls := "stavelog/wire/History", name := "forget", desc := "()V" } : Jvm.MethodName)).before a0 Z = true := hw _ (List.mem_of_getElem? (i := 66) rfl)
theorem own_w67 {Z : State} {a0 : Array Value} (hw : ∀ d ∈ tables_1, d.before a0 Z = true) : (Jvm.Cond.instanceMethod ({ cls := "stavelog/wire/History", name := "forget", desc := "()V" } : Jvm.MethodName)).before a0 Z = true := hw _ (List.mem_of_getElem? (i := 67) rfl)
theorem pn_stavelog_wire_HistoryStartPinLaw : plainName "stavelog/wire/HistoryStartPinLaw" = true := by first | (simp [plainName, overriddenIn]; done) | decide +kernel
theorem ef2_1 (m : MethodId) (a1 : Addr) (a2 : Addr) : entryFrame m #[(.ref a1), (.ref a2)] 2 = mkF m 0 #[.val (.ref a1), .val (.ref a2)] [] := by first | (simp [entryFrame, mkF, argsToLocals, Value.category]; done) | rfl
def Q2_1 (Z : State) (a1 : Addr) (a2 : Addr) (h0 : Heap) (n0 : Nat) (v : Option Value) (h : Heap) (L : List Loc) : Prop := v = none ∧ Fr n0 L ∧ Keep h0 h [a1] ∧ Exa Z h a1 "stavelog/wire/Decompression" ∧ Fld Z h a1 "stavelog/wire/Decompression" "memory" "Lstavelog/wire/Decompression$Memory;" (.ref a2)
set_option maxRecDepth 65536 in
set_option maxHeartbeats 40000000 in
theorem rm2_1 (l : Launch) (Z : State) (a0 : Array Value) (hw : ∀ d ∈ tables_1, d.before a0 Z = true) (ws : List Jvm.Cond) (a1 : Addr) (a2 : Addr) (h0 : Heap) (n0 : Nat) (Z0 : n0 ≤ h0.size) (E_a1 : Exa Z h0 a1 "stavelog/wire/Decompression") (F_a1_memory : Fld Z h0 a1 "stavelog/wire/Decompression" "memory" "Lstavelog/wire/Decompression$Memory;" .null) (g_a1 : n0 ≤ a1) :
    MetFree l (⟨"stavelog/wire/Decompression", "<init>", "(Lstavelog/wire/Decompression$Memory;)V"⟩ : MethodName) (head1 (Jvm.Cond.code (⟨"stavelog/wire/Decompression", "<init>", "(Lstavelog/wire/Decompression$Memory;)V"⟩ : MethodName) prog_192_method_2_code 2 none :: ws) ({ frames := 1, cells := 0, slots := 0, locals := 12 } : Room)) (fun a U => a = #[(.ref a1), (.ref a2)] ∧ Z.Warmed39 U.vm ∧ U.heap = h0) (fun _ _ _ _ _ => True) (fun _ U o U' => ∃ v L, o = .returned v ∧ Q2_1 Z a1 a2 h0 n0 v U'.heap L ∧ FrameEnd U o U' L ({ frames := 1, cells := 0, slots := 0, locals := 12 } : Room).cells ({ frames := 1, cells := 0, slots := 0, locals := 12 } : Room).slots) := by
  refine MetFree.of_bodySF (plainFor_of_name pn_stavelog_wire_Decompression) hisR ?_
  intro p e s m args below meth c s₁ Bd hml0 hP hK
  obtain ⟨rfl, hZ, hh⟩ := hP
  have hx := Bd.exec
  have hby := Bd.bytes
  have hml : c.maxLocals = 2 := hml0
  have hown : s.vm.findClass "stavelog/wire/Decompression" = some m.cls := findClass_of_methodNamed Bd.named
  have hnm := (name_of_methodNamed Bd.named Bd.method).1
  have X0 : Stand p l e ({ frames := 1, cells := 0, slots := 0, locals := 12 } : Room) s m #[(.ref a1), (.ref a2)] below meth c s₁ [] 0 0 := Stand.of_body Bd
  have e0 : s₁.heap = h0 := by rw [← hh, Bd.state]; rfl
  have N0 := Fr.nil n0
  have pre0 : ∀ t, Steps p.tables e below (s₁.setTop (mkF m 0 #[.val (.ref a1), .val (.ref a2)] [])) t → Steps p.tables e below (s₁.setTop (entryFrame m #[(.ref a1), (.ref a2)] 2)) t := fun t k => castTop (ef2_1 m a1 a2) k
  obtain ⟨T1, X1, e1, st1⟩ := initO X0 hx hZ hown (own_w17 hw) (own_w18 hw) (own_w19 hw) e0 (g := (mkF m 1 #[.val (.ref a1), .val (.ref a2)] [(.ref a1)])) rfl (by rw [hml]; rfl) rfl (hb hby d2_1) (by decide) (W := 0) (by show 2 * 0 + _ ≤ _; exact Nat.le_of_eq rfl) (by decide)
  obtain ⟨T2, h2, X2, e2, W2, st2⟩ := putF X1 hx hZ hown (host := "") (Or.inl (own_w20 hw)) Via.refl e1 F_a1_memory E_a1 (Or.inr ⟨(own_w21 hw), rfl, hnm⟩) (own_w6 hw) (ty := (.object "stavelog/wire/Decompression$Memory")) (by decide) rfl rfl (g := (mkF m 6 #[.val (.ref a1), .val (.ref a2)] [(.ref a2), (.ref a1)])) rfl rfl (hb hby d2_6)
  have KC3 : Keep h0 h2 [a1] := (Keep.refl h0 [a1]).wr W2 (Or.inl (List.mem_of_getElem? (i := 0) rfl))
  have Fw2 := F_a1_memory.same W2
  have N2 := Fr.snoc X2 N0 g_a1
  have c4 := E_a1.wr W2
  obtain ⟨fs, hr, hrun, hended, hW, hsame⟩ := X2.leave (v := none) (fun _ => rfl)
  refine ⟨_, _, pre0 _ ?_, hrun, hended, _, _, rfl, ?_, ⟨_, rfl⟩, hW, hsame.mono (by decide) (by decide)⟩
  · show Steps p.tables e below (s₁.setTop (mkF m 0 #[.val (.ref a1), .val (.ref a2)] [])) _
    refine XS.aloadN X0.here hx rfl (hb hby d2_0) rfl rfl ?_
    show Steps p.tables e below (s₁.setTop (mkF m 1 #[.val (.ref a1), .val (.ref a2)] [(.ref a1)])) _
    refine st1 _ ?_
    show Steps p.tables e below (T1.setTop (mkF m 4 #[.val (.ref a1), .val (.ref a2)] [])) _
    refine XS.aloadN X1.here hx rfl (hb hby d2_4) rfl rfl ?_
    show Steps p.tables e below (T1.setTop (mkF m 5 #[.val (.ref a1), .val (.ref a2)] [(.ref a1)])) _
    refine XS.aloadN X1.here hx rfl (hb hby d2_5) rfl rfl ?_
    show Steps p.tables e below (T1.setTop (mkF m 6 #[.val (.ref a1), .val (.ref a2)] [(.ref a2), (.ref a1)])) _
    refine st2 _ ?_
    show Steps p.tables e below (T2.setTop (mkF m 9 #[.val (.ref a1), .val (.ref a2)] [])) _
    exact X2.returnOut hx Bd.returns (hb hby d2_9) hr
  · show Q2_1 Z a1 a2 h0 n0 _ T2.heap _
    rw [e2]
    exact ⟨rfl, N2, KC3, c4, Fw2⟩
theorem ef1_2 (m : MethodId) (a1 : Addr) : entryFrame m #[(.ref a1)] 1 = mkF m 0 #[.val (.ref a1)] [] := by first | (simp [entryFrame, mkF, argsToLocals, Value.category]; done) | rfl
def Q1_2 (Z : State) (a1 : Addr) (h0 : Heap) (n0 : Nat) (v : Option Value) (h : Heap) (L : List Loc) : Prop := ∃ lam1 : Addr, v = none ∧ Fr n0 L ∧ Keep h0 h [a1] ∧ Exa Z h a1 "stavelog/wire/Decompression" ∧ Fld Z h a1 "stavelog/wire/Decompression" "memory" "Lstavelog/wire/Decompression$Memory;" (.ref lam1)
set_option maxRecDepth 65536 in
set_option maxHeartbeats 40000000 in
theorem rm1_2 (l : Launch) (Z : State) (a0 : Array Value) (hw : ∀ d ∈ tables_1, d.before a0 Z = true) (ws : List Jvm.Cond) (a1 : Addr) (h0 : Heap) (n0 : Nat) (Z0 : n0 ≤ h0.size) (E_a1 : Exa Z h0 a1 "stavelog/wire/Decompression") (F_a1_memory : Fld Z h0 a1 "stavelog/wire/Decompression" "memory" "Lstavelog/wire/Decompression$Memory;" .null) (g_a1 : n0 ≤ a1) :
    MetFree l (⟨"stavelog/wire/Decompression", "<init>", "()V"⟩ : MethodName) (head1 (Jvm.Cond.code (⟨"stavelog/wire/Decompression", "<init>", "()V"⟩ : MethodName) prog_192_method_1_code 1 none :: ws) ({ frames := 2, cells := 0, slots := 0, locals := 3073 } : Room)) (fun a U => a = #[(.ref a1)] ∧ Z.Warmed39 U.vm ∧ U.heap = h0) (fun _ _ _ _ _ => True) (fun _ U o U' => ∃ v L, o = .returned v ∧ Q1_2 Z a1 h0 n0 v U'.heap L ∧ FrameEnd U o U' L ({ frames := 2, cells := 0, slots := 0, locals := 3073 } : Room).cells ({ frames := 2, cells := 0, slots := 0, locals := 3073 } : Room).slots) := by
  refine MetFree.of_bodySF (plainFor_of_name pn_stavelog_wire_Decompression) hisR ?_
  intro p e s m args below meth c s₁ Bd hml0 hP hK
  obtain ⟨rfl, hZ, hh⟩ := hP
  have hx := Bd.exec
  have hby := Bd.bytes
  have hml : c.maxLocals = 1 := hml0
  have hown : s.vm.findClass "stavelog/wire/Decompression" = some m.cls := findClass_of_methodNamed Bd.named
  have hnm := (name_of_methodNamed Bd.named Bd.method).1
  have X0 : Stand p l e ({ frames := 2, cells := 0, slots := 0, locals := 3073 } : Room) s m #[(.ref a1)] below meth c s₁ [] 0 0 := Stand.of_body Bd
  have e0 : s₁.heap = h0 := by rw [← hh, Bd.state]; rfl
  have N0 := Fr.nil n0
  have pre0 : ∀ t, Steps p.tables e below (s₁.setTop (mkF m 0 #[.val (.ref a1)] [])) t → Steps p.tables e below (s₁.setTop (entryFrame m #[(.ref a1)] 1)) t := fun t k => castTop (ef1_2 m a1) k
  obtain ⟨lk1, li1, lp1, lam1, hlk1, hls1⟩ := own_lam hZ (own_w11 hw) rfl Bd.named
  obtain ⟨_, _, ⟨T2, L2, k2, n2⟩, -, X2, ⟨Lc2, hQ2, l2, y2, z2⟩, st2⟩ := X0.specialBack hx (y := (⟨"stavelog/wire/Decompression", "<init>", "(Lstavelog/wire/Decompression$Memory;)V"⟩ : MethodName)) rfl hown (mvT hZ (own_w14 hw)) (mvT hZ (own_w15 hw)) (mvT hZ (own_w16 hw)) (by decide) (backOf (W := 0) (rm2_1 l Z a0 hw [] a1 lam1 h0 n0 Z0 E_a1 F_a1_memory g_a1) hZ (own_w16 hw) (own_w7 hw) (by decide) (by decide)) (g := (mkF m 6 #[.val (.ref a1)] [(.ref lam1), (.ref a1)])) rfl (by rw [hml]; rfl) (Steps.refl _) (a := a1) (argsL := [(.ref lam1)]) (rest := []) (lenOf pd__Lstavelog_wire_Decompression_Memory__V rfl) rfl (by show 2 * 0 + _ ≤ _; exact Nat.le_of_eq rfl) (hb hby d1_6) (fun _ _ => ⟨rfl, e0, (by decide : 0 + 0 ≤ _), (by decide : 0 + 0 ≤ _)⟩)
  dsimp only [Pt.U, Pt.locs, Pt.cells, Pt.slots] at X2 l2 y2 z2 st2 hQ2
  subst l2 y2 z2
  obtain ⟨rfl, N2q, K2, f2_0, f2_1⟩ := hQ2
  have N2 := Fr.app N0 N2q
  have KC3 : Keep h0 T2.heap [a1] := (Keep.refl h0 [a1]).trans K2 (allS (Or.inl (List.mem_of_getElem? (i := 0) rfl)) all0)
  obtain ⟨fs, hr, hrun, hended, hW, hsame⟩ := X2.leave (v := none) (fun _ => rfl)
  refine ⟨_, _, pre0 _ ?_, hrun, hended, _, _, rfl, ?_, ⟨_, rfl⟩, hW, hsame.mono (by decide) (by decide)⟩
  · show Steps p.tables e below (s₁.setTop (mkF m 0 #[.val (.ref a1)] [])) _
    refine XS.aloadN X0.here hx rfl (hb hby d1_0) rfl rfl ?_
    show Steps p.tables e below (s₁.setTop (mkF m 1 #[.val (.ref a1)] [(.ref a1)])) _
    refine X0.lambdaConstant hx (g := (mkF m 1 #[.val (.ref a1)] [(.ref a1)])) rfl (by rw [hml]; rfl) (hb hby d1_1) hlk1 hls1 (by rw [X0.admits.platform]; show 2 * 0 + 1 + 3072 ≤ _; decide) ?_
    show Steps p.tables e below (s₁.setTop (mkF m 6 #[.val (.ref a1)] [(.ref lam1), (.ref a1)])) _
    refine st2.trans ?_
    show Steps p.tables e below (T2.setTop (mkF m 9 #[.val (.ref a1)] [])) _
    exact X2.returnOut hx Bd.returns (hb hby d1_9) hr
  · show Q1_2 Z a1 h0 n0 _ T2.heap _
    exact ⟨lam1, rfl, N2, KC3, f2_0, f2_1⟩
theorem ef4_3 (m : MethodId) (a1 : Addr) (a2 : Addr) : entryFrame m #[(.ref a1), (.ref a2)] 2 = mkF m 0 #[.val (.ref a1), .val (.ref a2)] [] := by first | (simp [entryFrame, mkF, argsToLocals, Value.category]; done) | rfl
def Q4_3 (Z : State) (a1 : Addr) (a2 : Addr) (h0 : Heap) (n0 : Nat) (v : Option Value) (h : Heap) (L : List Loc) : Prop := v = none ∧ Fr n0 L ∧ Keep h0 h [a1] ∧ Exa Z h a1 "stavelog/wire/History" ∧ Fld Z h a1 "stavelog/wire/History" "decompression" "Lstavelog/wire/Decompression;" (.ref a2) ∧ Fld Z h a1 "stavelog/wire/History" "copyLeft" "I" (.int (0 : Int32)) ∧ Fld Z h a1 "stavelog/wire/History" "distance" "I" (.int (0 : Int32)) ∧ Fld Z h a1 "stavelog/wire/History" "kept" "I" (.int (0 : Int32)) ∧ Fld Z h a1 "stavelog/wire/History" "literalAt" "I" (.int (0 : Int32)) ∧ Fld Z h a1 "stavelog/wire/History" "literals" "Ljava/nio/ByteBuffer;" .null ∧ Fld Z h a1 "stavelog/wire/History" "literalsLeft" "I" (.int (0 : Int32)) ∧ Fld Z h a1 "stavelog/wire/History" "reachable" "J" (.long (0 : Int64)) ∧ Fld Z h a1 "stavelog/wire/History" "sum" "Ljava/util/zip/Checksum;" .null ∧ Fld Z h a1 "stavelog/wire/History" "written" "J" (.long (0 : Int64))
set_option maxRecDepth 65536 in
set_option maxHeartbeats 40000000 in
theorem rm4_3 (l : Launch) (Z : State) (a0 : Array Value) (hw : ∀ d ∈ tables_1, d.before a0 Z = true) (ws : List Jvm.Cond) (a1 : Addr) (a2 : Addr) (h0 : Heap) (n0 : Nat) (Z0 : n0 ≤ h0.size) (E_a1 : Exa Z h0 a1 "stavelog/wire/History") (F_a1_decompression : Fld Z h0 a1 "stavelog/wire/History" "decompression" "Lstavelog/wire/Decompression;" .null) (g_a1 : n0 ≤ a1) (F_a1_copyLeft : Fld Z h0 a1 "stavelog/wire/History" "copyLeft" "I" (.int (0 : Int32))) (F_a1_distance : Fld Z h0 a1 "stavelog/wire/History" "distance" "I" (.int (0 : Int32))) (F_a1_kept : Fld Z h0 a1 "stavelog/wire/History" "kept" "I" (.int (0 : Int32))) (F_a1_literalAt : Fld Z h0 a1 "stavelog/wire/History" "literalAt" "I" (.int (0 : Int32))) (F_a1_literals : Fld Z h0 a1 "stavelog/wire/History" "literals" "Ljava/nio/ByteBuffer;" .null) (F_a1_literalsLeft : Fld Z h0 a1 "stavelog/wire/History" "literalsLeft" "I" (.int (0 : Int32))) (F_a1_reachable : Fld Z h0 a1 "stavelog/wire/History" "reachable" "J" (.long (0 : Int64))) (F_a1_sum : Fld Z h0 a1 "stavelog/wire/History" "sum" "Ljava/util/zip/Checksum;" .null) (F_a1_written : Fld Z h0 a1 "stavelog/wire/History" "written" "J" (.long (0 : Int64))) :
    MetFree l (⟨"stavelog/wire/History", "<init>", "(Lstavelog/wire/Decompression;)V"⟩ : MethodName) (head1 (Jvm.Cond.code (⟨"stavelog/wire/History", "<init>", "(Lstavelog/wire/Decompression;)V"⟩ : MethodName) prog_235_method_1_code 2 none :: ws) ({ frames := 1, cells := 0, slots := 0, locals := 12 } : Room)) (fun a U => a = #[(.ref a1), (.ref a2)] ∧ Z.Warmed39 U.vm ∧ U.heap = h0) (fun _ _ _ _ _ => True) (fun _ U o U' => ∃ v L, o = .returned v ∧ Q4_3 Z a1 a2 h0 n0 v U'.heap L ∧ FrameEnd U o U' L ({ frames := 1, cells := 0, slots := 0, locals := 12 } : Room).cells ({ frames := 1, cells := 0, slots := 0, locals := 12 } : Room).slots) := by
  refine MetFree.of_bodySF (plainFor_of_name pn_stavelog_wire_History) hisR ?_
  intro p e s m args below meth c s₁ Bd hml0 hP hK
  obtain ⟨rfl, hZ, hh⟩ := hP
  have hx := Bd.exec
  have hby := Bd.bytes
  have hml : c.maxLocals = 2 := hml0
  have hown : s.vm.findClass "stavelog/wire/History" = some m.cls := findClass_of_methodNamed Bd.named
  have hnm := (name_of_methodNamed Bd.named Bd.method).1
  have X0 : Stand p l e ({ frames := 1, cells := 0, slots := 0, locals := 12 } : Room) s m #[(.ref a1), (.ref a2)] below meth c s₁ [] 0 0 := Stand.of_body Bd
  have e0 : s₁.heap = h0 := by rw [← hh, Bd.state]; rfl
  have N0 := Fr.nil n0
  have pre0 : ∀ t, Steps p.tables e below (s₁.setTop (mkF m 0 #[.val (.ref a1), .val (.ref a2)] [])) t → Steps p.tables e below (s₁.setTop (entryFrame m #[(.ref a1), (.ref a2)] 2)) t := fun t k => castTop (ef4_3 m a1 a2) k
  obtain ⟨T1, X1, e1, st1⟩ := initO X0 hx hZ hown (own_w25 hw) (own_w18 hw) (own_w19 hw) e0 (g := (mkF m 1 #[.val (.ref a1), .val (.ref a2)] [(.ref a1)])) rfl (by rw [hml]; rfl) rfl (hb hby d4_1) (by decide) (W := 0) (by show 2 * 0 + _ ≤ _; exact Nat.le_of_eq rfl) (by decide)
  obtain ⟨T2, h2, X2, e2, W2, st2⟩ := putF X1 hx hZ hown (host := "") (Or.inl (own_w26 hw)) Via.refl e1 F_a1_decompression E_a1 (Or.inr ⟨(own_w27 hw), rfl, hnm⟩) (own_w3 hw) (ty := (.object "stavelog/wire/Decompression")) (by decide) rfl rfl (g := (mkF m 6 #[.val (.ref a1), .val (.ref a2)] [(.ref a2), (.ref a1)])) rfl rfl (hb hby d4_6)
  have KC3 : Keep h0 h2 [a1] := (Keep.refl h0 [a1]).wr W2 (Or.inl (List.mem_of_getElem? (i := 0) rfl))
  have Fw2 := F_a1_decompression.same W2
  have N2 := Fr.snoc X2 N0 g_a1
  have c4 := F_a1_copyLeft.other W2 (Or.inr (slot_ne (C := "stavelog/wire/History") (Or.inl (own_w42 hw)) (Or.inr (own_w27 hw)) (by decide) (t := .int) (t' := (.object "stavelog/wire/Decompression")) (by decide) (by decide)))
  have c5 := F_a1_distance.other W2 (Or.inr (slot_ne (C := "stavelog/wire/History") (Or.inl (own_w64 hw)) (Or.inr (own_w27 hw)) (by decide) (t := .int) (t' := (.object "stavelog/wire/Decompression")) (by decide) (by decide)))
  have c6 := F_a1_kept.other W2 (Or.inr (slot_ne (C := "stavelog/wire/History") (Or.inl (own_w34 hw)) (Or.inr (own_w27 hw)) (by decide) (t := .int) (t' := (.object "stavelog/wire/Decompression")) (by decide) (by decide)))
  have c7 := F_a1_literalAt.other W2 (Or.inr (slot_ne (C := "stavelog/wire/History") (Or.inl (own_w53 hw)) (Or.inr (own_w27 hw)) (by decide) (t := .int) (t' := (.object "stavelog/wire/Decompression")) (by decide) (by decide)))
  have c8 := F_a1_literals.other W2 (Or.inr (slot_ne (C := "stavelog/wire/History") (Or.inl (own_w51 hw)) (Or.inr (own_w27 hw)) (by decide) (t := (.object "java/nio/ByteBuffer")) (t' := (.object "stavelog/wire/Decompression")) (by decide) (by decide)))
  have c9 := F_a1_literalsLeft.other W2 (Or.inr (slot_ne (C := "stavelog/wire/History") (Or.inl (own_w40 hw)) (Or.inr (own_w27 hw)) (by decide) (t := .int) (t' := (.object "stavelog/wire/Decompression")) (by decide) (by decide)))
  have c10 := F_a1_reachable.other W2 (Or.inr (slot_ne (C := "stavelog/wire/History") (Or.inl (own_w38 hw)) (Or.inr (own_w27 hw)) (by decide) (t := .long) (t' := (.object "stavelog/wire/Decompression")) (by decide) (by decide)))
  have c11 := F_a1_sum.other W2 (Or.inr (slot_ne (C := "stavelog/wire/History") (Or.inl (own_w44 hw)) (Or.inr (own_w27 hw)) (by decide) (t := (.object "java/util/zip/Checksum")) (t' := (.object "stavelog/wire/Decompression")) (by decide) (by decide)))
  have c12 := F_a1_written.other W2 (Or.inr (slot_ne (C := "stavelog/wire/History") (Or.inl (own_w36 hw)) (Or.inr (own_w27 hw)) (by decide) (t := .long) (t' := (.object "stavelog/wire/Decompression")) (by decide) (by decide)))
  have c13 := E_a1.wr W2
  obtain ⟨fs, hr, hrun, hended, hW, hsame⟩ := X2.leave (v := none) (fun _ => rfl)
  refine ⟨_, _, pre0 _ ?_, hrun, hended, _, _, rfl, ?_, ⟨_, rfl⟩, hW, hsame.mono (by decide) (by decide)⟩
  · show Steps p.tables e below (s₁.setTop (mkF m 0 #[.val (.ref a1), .val (.ref a2)] [])) _
    refine XS.aloadN X0.here hx rfl (hb hby d4_0) rfl rfl ?_
    show Steps p.tables e below (s₁.setTop (mkF m 1 #[.val (.ref a1), .val (.ref a2)] [(.ref a1)])) _
    refine st1 _ ?_
    show Steps p.tables e below (T1.setTop (mkF m 4 #[.val (.ref a1), .val (.ref a2)] [])) _
    refine XS.aloadN X1.here hx rfl (hb hby d4_4) rfl rfl ?_
    show Steps p.tables e below (T1.setTop (mkF m 5 #[.val (.ref a1), .val (.ref a2)] [(.ref a1)])) _
    refine XS.aloadN X1.here hx rfl (hb hby d4_5) rfl rfl ?_
    show Steps p.tables e below (T1.setTop (mkF m 6 #[.val (.ref a1), .val (.ref a2)] [(.ref a2), (.ref a1)])) _
    refine st2 _ ?_
    show Steps p.tables e below (T2.setTop (mkF m 9 #[.val (.ref a1), .val (.ref a2)] [])) _
    exact X2.returnOut hx Bd.returns (hb hby d4_9) hr
  · show Q4_3 Z a1 a2 h0 n0 _ T2.heap _
    rw [e2]
    exact ⟨rfl, N2, KC3, c13, Fw2, c4, c5, c6, c7, c8, c9, c10, c11, c12⟩
theorem ef5_4 (m : MethodId) (a1 : Addr) (p2 : Int32) : entryFrame m #[(.ref a1), (.int p2)] 2 = mkF m 0 #[.val (.ref a1), .val (.int p2)] [] := by first | (simp [entryFrame, mkF, argsToLocals, Value.category]; done) | rfl
def Q5_4 (Z : State) (a1 : Addr) (p2 : Int32) (a3 : Addr) (h0 : Heap) (n0 : Nat) (v : Option Value) (h : Heap) (L : List Loc) : Prop := v = none ∧ Fr n0 L ∧ Keep h0 h [a1] ∧ Exa Z h a1 "stavelog/wire/History" ∧ Fld Z h a1 "stavelog/wire/History" "kept" "I" (.int p2) ∧ Fld Z h a1 "stavelog/wire/History" "written" "J" (.long (0 : Int64)) ∧ Fld Z h a1 "stavelog/wire/History" "reachable" "J" (.long (0 : Int64)) ∧ Fld Z h a1 "stavelog/wire/History" "literalsLeft" "I" (.int (0 : Int32)) ∧ Fld Z h a1 "stavelog/wire/History" "copyLeft" "I" (.int (0 : Int32)) ∧ Fld Z h a1 "stavelog/wire/History" "sum" "Ljava/util/zip/Checksum;" .null ∧ Fld Z h a1 "stavelog/wire/History" "decompression" "Lstavelog/wire/Decompression;" (.ref a3) ∧ Fld Z h a1 "stavelog/wire/History" "distance" "I" (.int (0 : Int32)) ∧ Fld Z h a1 "stavelog/wire/History" "literalAt" "I" (.int (0 : Int32)) ∧ Fld Z h a1 "stavelog/wire/History" "literals" "Ljava/nio/ByteBuffer;" .null
set_option maxRecDepth 65536 in
set_option maxHeartbeats 40000000 in
theorem rm5_4 (l : Launch) (Z : State) (a0 : Array Value) (hw : ∀ d ∈ tables_1, d.before a0 Z = true) (ws : List Jvm.Cond) (a1 : Addr) (p2 : Int32) (a3 : Addr) (h0 : Heap) (n0 : Nat) (Z0 : n0 ≤ h0.size) (E_a1 : Exa Z h0 a1 "stavelog/wire/History") (F_a1_kept : Fld Z h0 a1 "stavelog/wire/History" "kept" "I" (.int (0 : Int32))) (g_a1 : n0 ≤ a1) (F_a1_written : Fld Z h0 a1 "stavelog/wire/History" "written" "J" (.long (0 : Int64))) (F_a1_reachable : Fld Z h0 a1 "stavelog/wire/History" "reachable" "J" (.long (0 : Int64))) (F_a1_literalsLeft : Fld Z h0 a1 "stavelog/wire/History" "literalsLeft" "I" (.int (0 : Int32))) (F_a1_copyLeft : Fld Z h0 a1 "stavelog/wire/History" "copyLeft" "I" (.int (0 : Int32))) (F_a1_sum : Fld Z h0 a1 "stavelog/wire/History" "sum" "Ljava/util/zip/Checksum;" .null) (F_a1_decompression : Fld Z h0 a1 "stavelog/wire/History" "decompression" "Lstavelog/wire/Decompression;" (.ref a3)) (F_a1_distance : Fld Z h0 a1 "stavelog/wire/History" "distance" "I" (.int (0 : Int32))) (F_a1_literalAt : Fld Z h0 a1 "stavelog/wire/History" "literalAt" "I" (.int (0 : Int32))) (F_a1_literals : Fld Z h0 a1 "stavelog/wire/History" "literals" "Ljava/nio/ByteBuffer;" .null) :
    MetFree l (⟨"stavelog/wire/History", "start", "(I)V"⟩ : MethodName) (head1 (Jvm.Cond.code (⟨"stavelog/wire/History", "start", "(I)V"⟩ : MethodName) prog_235_method_2_code 2 none :: ws) ({ frames := 0, cells := 0, slots := 0, locals := 0 } : Room)) (fun a U => a = #[(.ref a1), (.int p2)] ∧ Z.Warmed39 U.vm ∧ U.heap = h0) (fun _ _ _ _ _ => True) (fun _ U o U' => ∃ v L, o = .returned v ∧ Q5_4 Z a1 p2 a3 h0 n0 v U'.heap L ∧ FrameEnd U o U' L ({ frames := 0, cells := 0, slots := 0, locals := 0 } : Room).cells ({ frames := 0, cells := 0, slots := 0, locals := 0 } : Room).slots) := by
  refine MetFree.of_bodySF (plainFor_of_name pn_stavelog_wire_History) hisR ?_
  intro p e s m args below meth c s₁ Bd hml0 hP hK
  obtain ⟨rfl, hZ, hh⟩ := hP
  have hx := Bd.exec
  have hby := Bd.bytes
  have hml : c.maxLocals = 2 := hml0
  have hown : s.vm.findClass "stavelog/wire/History" = some m.cls := findClass_of_methodNamed Bd.named
  have hnm := (name_of_methodNamed Bd.named Bd.method).1
  have X0 : Stand p l e ({ frames := 0, cells := 0, slots := 0, locals := 0 } : Room) s m #[(.ref a1), (.int p2)] below meth c s₁ [] 0 0 := Stand.of_body Bd
  have e0 : s₁.heap = h0 := by rw [← hh, Bd.state]; rfl
  have N0 := Fr.nil n0
  have pre0 : ∀ t, Steps p.tables e below (s₁.setTop (mkF m 0 #[.val (.ref a1), .val (.int p2)] [])) t → Steps p.tables e below (s₁.setTop (entryFrame m #[(.ref a1), (.int p2)] 2)) t := fun t k => castTop (ef5_4 m a1 p2) k
  obtain ⟨T1, h1, X1, e1, W1, st1⟩ := putF X0 hx hZ hown (host := "") (Or.inl (own_w33 hw)) Via.refl e0 F_a1_kept E_a1 (Or.inl (own_w34 hw)) (own_w3 hw) (ty := .int) (by decide) rfl rfl (g := (mkF m 2 #[.val (.ref a1), .val (.int p2)] [(.int p2), (.ref a1)])) rfl rfl (hb hby d5_2)
  have KC2 : Keep h0 h1 [a1] := (Keep.refl h0 [a1]).wr W1 (Or.inl (List.mem_of_getElem? (i := 0) rfl))
  have Fw1 := F_a1_kept.same W1
  have N1 := Fr.snoc X1 N0 g_a1
  have c3 := E_a1.wr W1
  have c4 := F_a1_written.other W1 (Or.inr (slot_ne (C := "stavelog/wire/History") (Or.inl (own_w36 hw)) (Or.inl (own_w34 hw)) (by decide) (t := .long) (t' := .int) (by decide) (by decide)))
  obtain ⟨T5, h5, X5, e5, W5, st5⟩ := putF X1 hx hZ hown (host := "") (Or.inl (own_w35 hw)) Via.refl e1 c4 c3 (Or.inl (own_w36 hw)) (own_w3 hw) (ty := .long) (by decide) rfl rfl (g := (mkF m 7 #[.val (.ref a1), .val (.int p2)] [(.long (0 : Int64)), (.ref a1)])) rfl rfl (hb hby d5_7)
  have KC6 : Keep h0 h5 [a1] := KC2.wr W5 (Or.inl (List.mem_of_getElem? (i := 0) rfl))
  have Fw5 := c4.same W5
  have N5 := Fr.snoc X5 N1 g_a1
  have c7 := c3.wr W5
  have c8 := F_a1_reachable.other W1 (Or.inr (slot_ne (C := "stavelog/wire/History") (Or.inl (own_w38 hw)) (Or.inl (own_w34 hw)) (by decide) (t := .long) (t' := .int) (by decide) (by decide)))
  have c9 := c8.other W5 (Or.inr (slot_ne (C := "stavelog/wire/History") (Or.inl (own_w38 hw)) (Or.inl (own_w36 hw)) (by decide) (t := .long) (t' := .long) (by decide) (by decide)))
  obtain ⟨T10, h10, X10, e10, W10, st10⟩ := putF X5 hx hZ hown (host := "") (Or.inl (own_w37 hw)) Via.refl e5 c9 c7 (Or.inl (own_w38 hw)) (own_w3 hw) (ty := .long) (by decide) rfl rfl (g := (mkF m 12 #[.val (.ref a1), .val (.int p2)] [(.long (0 : Int64)), (.ref a1)])) rfl rfl (hb hby d5_12)
  have KC11 : Keep h0 h10 [a1] := KC6.wr W10 (Or.inl (List.mem_of_getElem? (i := 0) rfl))
  have Fw10 := c9.same W10
  have N10 := Fr.snoc X10 N5 g_a1
  have c12 := c7.wr W10
  have c13 := F_a1_literalsLeft.other W1 (Or.inr (slot_ne (C := "stavelog/wire/History") (Or.inl (own_w40 hw)) (Or.inl (own_w34 hw)) (by decide) (t := .int) (t' := .int) (by decide) (by decide)))
  have c14 := c13.other W5 (Or.inr (slot_ne (C := "stavelog/wire/History") (Or.inl (own_w40 hw)) (Or.inl (own_w36 hw)) (by decide) (t := .int) (t' := .long) (by decide) (by decide)))
  have c15 := c14.other W10 (Or.inr (slot_ne (C := "stavelog/wire/History") (Or.inl (own_w40 hw)) (Or.inl (own_w38 hw)) (by decide) (t := .int) (t' := .long) (by decide) (by decide)))
  obtain ⟨T16, h16, X16, e16, W16, st16⟩ := putF X10 hx hZ hown (host := "") (Or.inl (own_w39 hw)) Via.refl e10 c15 c12 (Or.inl (own_w40 hw)) (own_w3 hw) (ty := .int) (by decide) rfl rfl (g := (mkF m 17 #[.val (.ref a1), .val (.int p2)] [(.int (0 : Int32)), (.ref a1)])) rfl rfl (hb hby d5_17)
  have KC17 : Keep h0 h16 [a1] := KC11.wr W16 (Or.inl (List.mem_of_getElem? (i := 0) rfl))
  have Fw16 := c15.same W16
  have N16 := Fr.snoc X16 N10 g_a1
  have c18 := c12.wr W16
  have c19 := F_a1_copyLeft.other W1 (Or.inr (slot_ne (C := "stavelog/wire/History") (Or.inl (own_w42 hw)) (Or.inl (own_w34 hw)) (by decide) (t := .int) (t' := .int) (by decide) (by decide)))
  have c20 := c19.other W5 (Or.inr (slot_ne (C := "stavelog/wire/History") (Or.inl (own_w42 hw)) (Or.inl (own_w36 hw)) (by decide) (t := .int) (t' := .long) (by decide) (by decide)))
  have c21 := c20.other W10 (Or.inr (slot_ne (C := "stavelog/wire/History") (Or.inl (own_w42 hw)) (Or.inl (own_w38 hw)) (by decide) (t := .int) (t' := .long) (by decide) (by decide)))
  have c22 := c21.other W16 (Or.inr (slot_ne (C := "stavelog/wire/History") (Or.inl (own_w42 hw)) (Or.inl (own_w40 hw)) (by decide) (t := .int) (t' := .int) (by decide) (by decide)))
  obtain ⟨T23, h23, X23, e23, W23, st23⟩ := putF X16 hx hZ hown (host := "") (Or.inl (own_w41 hw)) Via.refl e16 c22 c18 (Or.inl (own_w42 hw)) (own_w3 hw) (ty := .int) (by decide) rfl rfl (g := (mkF m 22 #[.val (.ref a1), .val (.int p2)] [(.int (0 : Int32)), (.ref a1)])) rfl rfl (hb hby d5_22)
  have KC24 : Keep h0 h23 [a1] := KC17.wr W23 (Or.inl (List.mem_of_getElem? (i := 0) rfl))
  have Fw23 := c22.same W23
  have N23 := Fr.snoc X23 N16 g_a1
  have c25 := c18.wr W23
  have c26 := F_a1_sum.other W1 (Or.inr (slot_ne (C := "stavelog/wire/History") (Or.inl (own_w44 hw)) (Or.inl (own_w34 hw)) (by decide) (t := (.object "java/util/zip/Checksum")) (t' := .int) (by decide) (by decide)))
  have c27 := c26.other W5 (Or.inr (slot_ne (C := "stavelog/wire/History") (Or.inl (own_w44 hw)) (Or.inl (own_w36 hw)) (by decide) (t := (.object "java/util/zip/Checksum")) (t' := .long) (by decide) (by decide)))
  have c28 := c27.other W10 (Or.inr (slot_ne (C := "stavelog/wire/History") (Or.inl (own_w44 hw)) (Or.inl (own_w38 hw)) (by decide) (t := (.object "java/util/zip/Checksum")) (t' := .long) (by decide) (by decide)))
  have c29 := c28.other W16 (Or.inr (slot_ne (C := "stavelog/wire/History") (Or.inl (own_w44 hw)) (Or.inl (own_w40 hw)) (by decide) (t := (.object "java/util/zip/Checksum")) (t' := .int) (by decide) (by decide)))
  have c30 := c29.other W23 (Or.inr (slot_ne (C := "stavelog/wire/History") (Or.inl (own_w44 hw)) (Or.inl (own_w42 hw)) (by decide) (t := (.object "java/util/zip/Checksum")) (t' := .int) (by decide) (by decide)))
  obtain ⟨T31, h31, X31, e31, W31, st31⟩ := putF X23 hx hZ hown (host := "") (Or.inl (own_w43 hw)) Via.refl e23 c30 c25 (Or.inl (own_w44 hw)) (own_w3 hw) (ty := (.object "java/util/zip/Checksum")) (by decide) rfl rfl (g := (mkF m 27 #[.val (.ref a1), .val (.int p2)] [.null, (.ref a1)])) rfl rfl (hb hby d5_27)
  have KC32 : Keep h0 h31 [a1] := KC24.wr W31 (Or.inl (List.mem_of_getElem? (i := 0) rfl))
  have Fw31 := c30.same W31
  have N31 := Fr.snoc X31 N23 g_a1
  have c33 := F_a1_decompression.other W1 (Or.inr (slot_ne (C := "stavelog/wire/History") (Or.inr (own_w27 hw)) (Or.inl (own_w34 hw)) (by decide) (t := (.object "stavelog/wire/Decompression")) (t' := .int) (by decide) (by decide)))
  have c34 := c33.other W5 (Or.inr (slot_ne (C := "stavelog/wire/History") (Or.inr (own_w27 hw)) (Or.inl (own_w36 hw)) (by decide) (t := (.object "stavelog/wire/Decompression")) (t' := .long) (by decide) (by decide)))
  have c35 := c34.other W10 (Or.inr (slot_ne (C := "stavelog/wire/History") (Or.inr (own_w27 hw)) (Or.inl (own_w38 hw)) (by decide) (t := (.object "stavelog/wire/Decompression")) (t' := .long) (by decide) (by decide)))
  have c36 := c35.other W16 (Or.inr (slot_ne (C := "stavelog/wire/History") (Or.inr (own_w27 hw)) (Or.inl (own_w40 hw)) (by decide) (t := (.object "stavelog/wire/Decompression")) (t' := .int) (by decide) (by decide)))
  have c37 := c36.other W23 (Or.inr (slot_ne (C := "stavelog/wire/History") (Or.inr (own_w27 hw)) (Or.inl (own_w42 hw)) (by decide) (t := (.object "stavelog/wire/Decompression")) (t' := .int) (by decide) (by decide)))
  have c38 := c37.other W31 (Or.inr (slot_ne (C := "stavelog/wire/History") (Or.inr (own_w27 hw)) (Or.inl (own_w44 hw)) (by decide) (t := (.object "stavelog/wire/Decompression")) (t' := (.object "java/util/zip/Checksum")) (by decide) (by decide)))
  have c39 := F_a1_distance.other W1 (Or.inr (slot_ne (C := "stavelog/wire/History") (Or.inl (own_w64 hw)) (Or.inl (own_w34 hw)) (by decide) (t := .int) (t' := .int) (by decide) (by decide)))
  have c40 := c39.other W5 (Or.inr (slot_ne (C := "stavelog/wire/History") (Or.inl (own_w64 hw)) (Or.inl (own_w36 hw)) (by decide) (t := .int) (t' := .long) (by decide) (by decide)))
  have c41 := c40.other W10 (Or.inr (slot_ne (C := "stavelog/wire/History") (Or.inl (own_w64 hw)) (Or.inl (own_w38 hw)) (by decide) (t := .int) (t' := .long) (by decide) (by decide)))
  have c42 := c41.other W16 (Or.inr (slot_ne (C := "stavelog/wire/History") (Or.inl (own_w64 hw)) (Or.inl (own_w40 hw)) (by decide) (t := .int) (t' := .int) (by decide) (by decide)))
  have c43 := c42.other W23 (Or.inr (slot_ne (C := "stavelog/wire/History") (Or.inl (own_w64 hw)) (Or.inl (own_w42 hw)) (by decide) (t := .int) (t' := .int) (by decide) (by decide)))
  have c44 := c43.other W31 (Or.inr (slot_ne (C := "stavelog/wire/History") (Or.inl (own_w64 hw)) (Or.inl (own_w44 hw)) (by decide) (t := .int) (t' := (.object "java/util/zip/Checksum")) (by decide) (by decide)))
  have c45 := F_a1_literalAt.other W1 (Or.inr (slot_ne (C := "stavelog/wire/History") (Or.inl (own_w53 hw)) (Or.inl (own_w34 hw)) (by decide) (t := .int) (t' := .int) (by decide) (by decide)))
  have c46 := c45.other W5 (Or.inr (slot_ne (C := "stavelog/wire/History") (Or.inl (own_w53 hw)) (Or.inl (own_w36 hw)) (by decide) (t := .int) (t' := .long) (by decide) (by decide)))
  have c47 := c46.other W10 (Or.inr (slot_ne (C := "stavelog/wire/History") (Or.inl (own_w53 hw)) (Or.inl (own_w38 hw)) (by decide) (t := .int) (t' := .long) (by decide) (by decide)))
  have c48 := c47.other W16 (Or.inr (slot_ne (C := "stavelog/wire/History") (Or.inl (own_w53 hw)) (Or.inl (own_w40 hw)) (by decide) (t := .int) (t' := .int) (by decide) (by decide)))
  have c49 := c48.other W23 (Or.inr (slot_ne (C := "stavelog/wire/History") (Or.inl (own_w53 hw)) (Or.inl (own_w42 hw)) (by decide) (t := .int) (t' := .int) (by decide) (by decide)))
  have c50 := c49.other W31 (Or.inr (slot_ne (C := "stavelog/wire/History") (Or.inl (own_w53 hw)) (Or.inl (own_w44 hw)) (by decide) (t := .int) (t' := (.object "java/util/zip/Checksum")) (by decide) (by decide)))
  have c51 := F_a1_literals.other W1 (Or.inr (slot_ne (C := "stavelog/wire/History") (Or.inl (own_w51 hw)) (Or.inl (own_w34 hw)) (by decide) (t := (.object "java/nio/ByteBuffer")) (t' := .int) (by decide) (by decide)))
  have c52 := c51.other W5 (Or.inr (slot_ne (C := "stavelog/wire/History") (Or.inl (own_w51 hw)) (Or.inl (own_w36 hw)) (by decide) (t := (.object "java/nio/ByteBuffer")) (t' := .long) (by decide) (by decide)))
  have c53 := c52.other W10 (Or.inr (slot_ne (C := "stavelog/wire/History") (Or.inl (own_w51 hw)) (Or.inl (own_w38 hw)) (by decide) (t := (.object "java/nio/ByteBuffer")) (t' := .long) (by decide) (by decide)))
  have c54 := c53.other W16 (Or.inr (slot_ne (C := "stavelog/wire/History") (Or.inl (own_w51 hw)) (Or.inl (own_w40 hw)) (by decide) (t := (.object "java/nio/ByteBuffer")) (t' := .int) (by decide) (by decide)))
  have c55 := c54.other W23 (Or.inr (slot_ne (C := "stavelog/wire/History") (Or.inl (own_w51 hw)) (Or.inl (own_w42 hw)) (by decide) (t := (.object "java/nio/ByteBuffer")) (t' := .int) (by decide) (by decide)))
  have c56 := c55.other W31 (Or.inr (slot_ne (C := "stavelog/wire/History") (Or.inl (own_w51 hw)) (Or.inl (own_w44 hw)) (by decide) (t := (.object "java/nio/ByteBuffer")) (t' := (.object "java/util/zip/Checksum")) (by decide) (by decide)))
  have c57 := c25.wr W31
  have c58 := Fw1.other W5 (Or.inr (slot_ne (C := "stavelog/wire/History") (Or.inl (own_w34 hw)) (Or.inl (own_w36 hw)) (by decide) (t := .int) (t' := .long) (by decide) (by decide)))
  have c59 := c58.other W10 (Or.inr (slot_ne (C := "stavelog/wire/History") (Or.inl (own_w34 hw)) (Or.inl (own_w38 hw)) (by decide) (t := .int) (t' := .long) (by decide) (by decide)))
  have c60 := c59.other W16 (Or.inr (slot_ne (C := "stavelog/wire/History") (Or.inl (own_w34 hw)) (Or.inl (own_w40 hw)) (by decide) (t := .int) (t' := .int) (by decide) (by decide)))
  have c61 := c60.other W23 (Or.inr (slot_ne (C := "stavelog/wire/History") (Or.inl (own_w34 hw)) (Or.inl (own_w42 hw)) (by decide) (t := .int) (t' := .int) (by decide) (by decide)))
  have c62 := c61.other W31 (Or.inr (slot_ne (C := "stavelog/wire/History") (Or.inl (own_w34 hw)) (Or.inl (own_w44 hw)) (by decide) (t := .int) (t' := (.object "java/util/zip/Checksum")) (by decide) (by decide)))
  have c63 := Fw5.other W10 (Or.inr (slot_ne (C := "stavelog/wire/History") (Or.inl (own_w36 hw)) (Or.inl (own_w38 hw)) (by decide) (t := .long) (t' := .long) (by decide) (by decide)))
  have c64 := c63.other W16 (Or.inr (slot_ne (C := "stavelog/wire/History") (Or.inl (own_w36 hw)) (Or.inl (own_w40 hw)) (by decide) (t := .long) (t' := .int) (by decide) (by decide)))
  have c65 := c64.other W23 (Or.inr (slot_ne (C := "stavelog/wire/History") (Or.inl (own_w36 hw)) (Or.inl (own_w42 hw)) (by decide) (t := .long) (t' := .int) (by decide) (by decide)))
  have c66 := c65.other W31 (Or.inr (slot_ne (C := "stavelog/wire/History") (Or.inl (own_w36 hw)) (Or.inl (own_w44 hw)) (by decide) (t := .long) (t' := (.object "java/util/zip/Checksum")) (by decide) (by decide)))
  have c67 := Fw10.other W16 (Or.inr (slot_ne (C := "stavelog/wire/History") (Or.inl (own_w38 hw)) (Or.inl (own_w40 hw)) (by decide) (t := .long) (t' := .int) (by decide) (by decide)))
  have c68 := c67.other W23 (Or.inr (slot_ne (C := "stavelog/wire/History") (Or.inl (own_w38 hw)) (Or.inl (own_w42 hw)) (by decide) (t := .long) (t' := .int) (by decide) (by decide)))
  have c69 := c68.other W31 (Or.inr (slot_ne (C := "stavelog/wire/History") (Or.inl (own_w38 hw)) (Or.inl (own_w44 hw)) (by decide) (t := .long) (t' := (.object "java/util/zip/Checksum")) (by decide) (by decide)))
  have c70 := Fw16.other W23 (Or.inr (slot_ne (C := "stavelog/wire/History") (Or.inl (own_w40 hw)) (Or.inl (own_w42 hw)) (by decide) (t := .int) (t' := .int) (by decide) (by decide)))
  have c71 := c70.other W31 (Or.inr (slot_ne (C := "stavelog/wire/History") (Or.inl (own_w40 hw)) (Or.inl (own_w44 hw)) (by decide) (t := .int) (t' := (.object "java/util/zip/Checksum")) (by decide) (by decide)))
  have c72 := Fw23.other W31 (Or.inr (slot_ne (C := "stavelog/wire/History") (Or.inl (own_w42 hw)) (Or.inl (own_w44 hw)) (by decide) (t := .int) (t' := (.object "java/util/zip/Checksum")) (by decide) (by decide)))
  obtain ⟨fs, hr, hrun, hended, hW, hsame⟩ := X31.leave (v := none) (fun _ => rfl)
  refine ⟨_, _, pre0 _ ?_, hrun, hended, _, _, rfl, ?_, ⟨_, rfl⟩, hW, hsame.mono (by decide) (by decide)⟩
  · show Steps p.tables e below (s₁.setTop (mkF m 0 #[.val (.ref a1), .val (.int p2)] [])) _
    refine XS.aloadN X0.here hx rfl (hb hby d5_0) rfl rfl ?_
    show Steps p.tables e below (s₁.setTop (mkF m 1 #[.val (.ref a1), .val (.int p2)] [(.ref a1)])) _
    refine XS.iloadN X0.here hx rfl (hb hby d5_1) rfl ?_
    show Steps p.tables e below (s₁.setTop (mkF m 2 #[.val (.ref a1), .val (.int p2)] [(.int p2), (.ref a1)])) _
    refine st1 _ ?_
    show Steps p.tables e below (T1.setTop (mkF m 5 #[.val (.ref a1), .val (.int p2)] [])) _
    refine XS.aloadN X1.here hx rfl (hb hby d5_5) rfl rfl ?_
    show Steps p.tables e below (T1.setTop (mkF m 6 #[.val (.ref a1), .val (.int p2)] [(.ref a1)])) _
    refine XS.lconst X1.here hx rfl (hb hby d5_6) ?_
    show Steps p.tables e below (T1.setTop (mkF m 7 #[.val (.ref a1), .val (.int p2)] [(.long (0 : Int64)), (.ref a1)])) _
    refine st5 _ ?_
    show Steps p.tables e below (T5.setTop (mkF m 10 #[.val (.ref a1), .val (.int p2)] [])) _
    refine XS.aloadN X5.here hx rfl (hb hby d5_10) rfl rfl ?_
    show Steps p.tables e below (T5.setTop (mkF m 11 #[.val (.ref a1), .val (.int p2)] [(.ref a1)])) _
    refine XS.lconst X5.here hx rfl (hb hby d5_11) ?_
    show Steps p.tables e below (T5.setTop (mkF m 12 #[.val (.ref a1), .val (.int p2)] [(.long (0 : Int64)), (.ref a1)])) _
    refine st10 _ ?_
    show Steps p.tables e below (T10.setTop (mkF m 15 #[.val (.ref a1), .val (.int p2)] [])) _
    refine XS.aloadN X10.here hx rfl (hb hby d5_15) rfl rfl ?_
    show Steps p.tables e below (T10.setTop (mkF m 16 #[.val (.ref a1), .val (.int p2)] [(.ref a1)])) _
    refine XS.iconst X10.here hx rfl (hb hby d5_16) ?_
    show Steps p.tables e below (T10.setTop (mkF m 17 #[.val (.ref a1), .val (.int p2)] [(.int (0 : Int32)), (.ref a1)])) _
    refine st16 _ ?_
    show Steps p.tables e below (T16.setTop (mkF m 20 #[.val (.ref a1), .val (.int p2)] [])) _
    refine XS.aloadN X16.here hx rfl (hb hby d5_20) rfl rfl ?_
    show Steps p.tables e below (T16.setTop (mkF m 21 #[.val (.ref a1), .val (.int p2)] [(.ref a1)])) _
    refine XS.iconst X16.here hx rfl (hb hby d5_21) ?_
    show Steps p.tables e below (T16.setTop (mkF m 22 #[.val (.ref a1), .val (.int p2)] [(.int (0 : Int32)), (.ref a1)])) _
    refine st23 _ ?_
    show Steps p.tables e below (T23.setTop (mkF m 25 #[.val (.ref a1), .val (.int p2)] [])) _
    refine XS.aloadN X23.here hx rfl (hb hby d5_25) rfl rfl ?_
    show Steps p.tables e below (T23.setTop (mkF m 26 #[.val (.ref a1), .val (.int p2)] [(.ref a1)])) _
    refine XS.aconstNull X23.here hx rfl (hb hby d5_26) ?_
    show Steps p.tables e below (T23.setTop (mkF m 27 #[.val (.ref a1), .val (.int p2)] [.null, (.ref a1)])) _
    refine st31 _ ?_
    show Steps p.tables e below (T31.setTop (mkF m 30 #[.val (.ref a1), .val (.int p2)] [])) _
    exact X31.returnOut hx Bd.returns (hb hby d5_30) hr
  · show Q5_4 Z a1 p2 a3 h0 n0 _ T31.heap _
    rw [e31]
    exact ⟨rfl, N31, KC32, c57, c62, c66, c69, c71, c72, Fw31, c38, c44, c50, c56⟩
theorem ef6_5 (m : MethodId) (a1 : Addr) (p2 : Int32) : entryFrame m #[(.ref a1), .null, (.int (0 : Int32)), (.int p2)] 4 = mkF m 0 #[.val (.ref a1), .val .null, .val (.int (0 : Int32)), .val (.int p2)] [] := by first | (simp [entryFrame, mkF, argsToLocals, Value.category]; done) | rfl
def Q6_5 (Z : State) (a1 : Addr) (p2 : Int32) (a3 : Addr) (p4 : Int32) (h0 : Heap) (n0 : Nat) (v : Option Value) (h : Heap) (L : List Loc) : Prop := v = none ∧ Fr n0 L ∧ Keep h0 h [a1] ∧ Exa Z h a1 "stavelog/wire/History" ∧ Fld Z h a1 "stavelog/wire/History" "literals" "Ljava/nio/ByteBuffer;" .null ∧ Fld Z h a1 "stavelog/wire/History" "literalAt" "I" (.int (0 : Int32)) ∧ Fld Z h a1 "stavelog/wire/History" "literalsLeft" "I" (.int p2) ∧ Fld Z h a1 "stavelog/wire/History" "copyLeft" "I" (.int (0 : Int32)) ∧ Fld Z h a1 "stavelog/wire/History" "decompression" "Lstavelog/wire/Decompression;" (.ref a3) ∧ Fld Z h a1 "stavelog/wire/History" "distance" "I" (.int (0 : Int32)) ∧ Fld Z h a1 "stavelog/wire/History" "kept" "I" (.int p4) ∧ Fld Z h a1 "stavelog/wire/History" "reachable" "J" (.long (0 : Int64)) ∧ Fld Z h a1 "stavelog/wire/History" "sum" "Ljava/util/zip/Checksum;" .null ∧ Fld Z h a1 "stavelog/wire/History" "written" "J" (.long (0 : Int64))
set_option maxRecDepth 65536 in
set_option maxHeartbeats 40000000 in
theorem rm6_5 (l : Launch) (Z : State) (a0 : Array Value) (hw : ∀ d ∈ tables_1, d.before a0 Z = true) (ws : List Jvm.Cond) (a1 : Addr) (p2 : Int32) (a3 : Addr) (p4 : Int32) (h0 : Heap) (n0 : Nat) (Z0 : n0 ≤ h0.size) (E_a1 : Exa Z h0 a1 "stavelog/wire/History") (F_a1_literals : Fld Z h0 a1 "stavelog/wire/History" "literals" "Ljava/nio/ByteBuffer;" .null) (g_a1 : n0 ≤ a1) (F_a1_literalAt : Fld Z h0 a1 "stavelog/wire/History" "literalAt" "I" (.int (0 : Int32))) (F_a1_literalsLeft : Fld Z h0 a1 "stavelog/wire/History" "literalsLeft" "I" (.int (0 : Int32))) (F_a1_copyLeft : Fld Z h0 a1 "stavelog/wire/History" "copyLeft" "I" (.int (0 : Int32))) (F_a1_decompression : Fld Z h0 a1 "stavelog/wire/History" "decompression" "Lstavelog/wire/Decompression;" (.ref a3)) (F_a1_distance : Fld Z h0 a1 "stavelog/wire/History" "distance" "I" (.int (0 : Int32))) (F_a1_kept : Fld Z h0 a1 "stavelog/wire/History" "kept" "I" (.int p4)) (F_a1_reachable : Fld Z h0 a1 "stavelog/wire/History" "reachable" "J" (.long (0 : Int64))) (F_a1_sum : Fld Z h0 a1 "stavelog/wire/History" "sum" "Ljava/util/zip/Checksum;" .null) (F_a1_written : Fld Z h0 a1 "stavelog/wire/History" "written" "J" (.long (0 : Int64))) :
    MetFree l (⟨"stavelog/wire/History", "literals", "(Ljava/nio/ByteBuffer;II)V"⟩ : MethodName) (head1 (Jvm.Cond.code (⟨"stavelog/wire/History", "literals", "(Ljava/nio/ByteBuffer;II)V"⟩ : MethodName) prog_235_method_10_code 4 none :: ws) ({ frames := 0, cells := 0, slots := 0, locals := 0 } : Room)) (fun a U => a = #[(.ref a1), .null, (.int (0 : Int32)), (.int p2)] ∧ Z.Warmed39 U.vm ∧ U.heap = h0) (fun _ _ _ _ _ => True) (fun _ U o U' => ∃ v L, o = .returned v ∧ Q6_5 Z a1 p2 a3 p4 h0 n0 v U'.heap L ∧ FrameEnd U o U' L ({ frames := 0, cells := 0, slots := 0, locals := 0 } : Room).cells ({ frames := 0, cells := 0, slots := 0, locals := 0 } : Room).slots) := by
  refine MetFree.of_bodySF (plainFor_of_name pn_stavelog_wire_History) hisR ?_
  intro p e s m args below meth c s₁ Bd hml0 hP hK
  obtain ⟨rfl, hZ, hh⟩ := hP
  have hx := Bd.exec
  have hby := Bd.bytes
  have hml : c.maxLocals = 4 := hml0
  have hown : s.vm.findClass "stavelog/wire/History" = some m.cls := findClass_of_methodNamed Bd.named
  have hnm := (name_of_methodNamed Bd.named Bd.method).1
  have X0 : Stand p l e ({ frames := 0, cells := 0, slots := 0, locals := 0 } : Room) s m #[(.ref a1), .null, (.int (0 : Int32)), (.int p2)] below meth c s₁ [] 0 0 := Stand.of_body Bd
  have e0 : s₁.heap = h0 := by rw [← hh, Bd.state]; rfl
  have N0 := Fr.nil n0
  have pre0 : ∀ t, Steps p.tables e below (s₁.setTop (mkF m 0 #[.val (.ref a1), .val .null, .val (.int (0 : Int32)), .val (.int p2)] [])) t → Steps p.tables e below (s₁.setTop (entryFrame m #[(.ref a1), .null, (.int (0 : Int32)), (.int p2)] 4)) t := fun t k => castTop (ef6_5 m a1 p2) k
  obtain ⟨T1, h1, X1, e1, W1, st1⟩ := putF X0 hx hZ hown (host := "") (Or.inl (own_w50 hw)) Via.refl e0 F_a1_literals E_a1 (Or.inl (own_w51 hw)) (own_w3 hw) (ty := (.object "java/nio/ByteBuffer")) (by decide) rfl rfl (g := (mkF m 2 #[.val (.ref a1), .val .null, .val (.int (0 : Int32)), .val (.int p2)] [.null, (.ref a1)])) rfl rfl (hb hby d6_2)
  have KC2 : Keep h0 h1 [a1] := (Keep.refl h0 [a1]).wr W1 (Or.inl (List.mem_of_getElem? (i := 0) rfl))
  have Fw1 := F_a1_literals.same W1
  have N1 := Fr.snoc X1 N0 g_a1
  have c3 := E_a1.wr W1
  have c4 := F_a1_literalAt.other W1 (Or.inr (slot_ne (C := "stavelog/wire/History") (Or.inl (own_w53 hw)) (Or.inl (own_w51 hw)) (by decide) (t := .int) (t' := (.object "java/nio/ByteBuffer")) (by decide) (by decide)))
  obtain ⟨T5, h5, X5, e5, W5, st5⟩ := putF X1 hx hZ hown (host := "") (Or.inl (own_w52 hw)) Via.refl e1 c4 c3 (Or.inl (own_w53 hw)) (own_w3 hw) (ty := .int) (by decide) rfl rfl (g := (mkF m 7 #[.val (.ref a1), .val .null, .val (.int (0 : Int32)), .val (.int p2)] [(.int (0 : Int32)), (.ref a1)])) rfl rfl (hb hby d6_7)
  have KC6 : Keep h0 h5 [a1] := KC2.wr W5 (Or.inl (List.mem_of_getElem? (i := 0) rfl))
  have Fw5 := c4.same W5
  have N5 := Fr.snoc X5 N1 g_a1
  have c7 := c3.wr W5
  have c8 := F_a1_literalsLeft.other W1 (Or.inr (slot_ne (C := "stavelog/wire/History") (Or.inl (own_w40 hw)) (Or.inl (own_w51 hw)) (by decide) (t := .int) (t' := (.object "java/nio/ByteBuffer")) (by decide) (by decide)))
  have c9 := c8.other W5 (Or.inr (slot_ne (C := "stavelog/wire/History") (Or.inl (own_w40 hw)) (Or.inl (own_w53 hw)) (by decide) (t := .int) (t' := .int) (by decide) (by decide)))
  obtain ⟨T10, h10, X10, e10, W10, st10⟩ := putF X5 hx hZ hown (host := "") (Or.inl (own_w39 hw)) Via.refl e5 c9 c7 (Or.inl (own_w40 hw)) (own_w3 hw) (ty := .int) (by decide) rfl rfl (g := (mkF m 12 #[.val (.ref a1), .val .null, .val (.int (0 : Int32)), .val (.int p2)] [(.int p2), (.ref a1)])) rfl rfl (hb hby d6_12)
  have KC11 : Keep h0 h10 [a1] := KC6.wr W10 (Or.inl (List.mem_of_getElem? (i := 0) rfl))
  have Fw10 := c9.same W10
  have N10 := Fr.snoc X10 N5 g_a1
  have c12 := F_a1_copyLeft.other W1 (Or.inr (slot_ne (C := "stavelog/wire/History") (Or.inl (own_w42 hw)) (Or.inl (own_w51 hw)) (by decide) (t := .int) (t' := (.object "java/nio/ByteBuffer")) (by decide) (by decide)))
  have c13 := c12.other W5 (Or.inr (slot_ne (C := "stavelog/wire/History") (Or.inl (own_w42 hw)) (Or.inl (own_w53 hw)) (by decide) (t := .int) (t' := .int) (by decide) (by decide)))
  have c14 := c13.other W10 (Or.inr (slot_ne (C := "stavelog/wire/History") (Or.inl (own_w42 hw)) (Or.inl (own_w40 hw)) (by decide) (t := .int) (t' := .int) (by decide) (by decide)))
  have c15 := F_a1_decompression.other W1 (Or.inr (slot_ne (C := "stavelog/wire/History") (Or.inr (own_w27 hw)) (Or.inl (own_w51 hw)) (by decide) (t := (.object "stavelog/wire/Decompression")) (t' := (.object "java/nio/ByteBuffer")) (by decide) (by decide)))
  have c16 := c15.other W5 (Or.inr (slot_ne (C := "stavelog/wire/History") (Or.inr (own_w27 hw)) (Or.inl (own_w53 hw)) (by decide) (t := (.object "stavelog/wire/Decompression")) (t' := .int) (by decide) (by decide)))
  have c17 := c16.other W10 (Or.inr (slot_ne (C := "stavelog/wire/History") (Or.inr (own_w27 hw)) (Or.inl (own_w40 hw)) (by decide) (t := (.object "stavelog/wire/Decompression")) (t' := .int) (by decide) (by decide)))
  have c18 := F_a1_distance.other W1 (Or.inr (slot_ne (C := "stavelog/wire/History") (Or.inl (own_w64 hw)) (Or.inl (own_w51 hw)) (by decide) (t := .int) (t' := (.object "java/nio/ByteBuffer")) (by decide) (by decide)))
  have c19 := c18.other W5 (Or.inr (slot_ne (C := "stavelog/wire/History") (Or.inl (own_w64 hw)) (Or.inl (own_w53 hw)) (by decide) (t := .int) (t' := .int) (by decide) (by decide)))
  have c20 := c19.other W10 (Or.inr (slot_ne (C := "stavelog/wire/History") (Or.inl (own_w64 hw)) (Or.inl (own_w40 hw)) (by decide) (t := .int) (t' := .int) (by decide) (by decide)))
  have c21 := F_a1_kept.other W1 (Or.inr (slot_ne (C := "stavelog/wire/History") (Or.inl (own_w34 hw)) (Or.inl (own_w51 hw)) (by decide) (t := .int) (t' := (.object "java/nio/ByteBuffer")) (by decide) (by decide)))
  have c22 := c21.other W5 (Or.inr (slot_ne (C := "stavelog/wire/History") (Or.inl (own_w34 hw)) (Or.inl (own_w53 hw)) (by decide) (t := .int) (t' := .int) (by decide) (by decide)))
  have c23 := c22.other W10 (Or.inr (slot_ne (C := "stavelog/wire/History") (Or.inl (own_w34 hw)) (Or.inl (own_w40 hw)) (by decide) (t := .int) (t' := .int) (by decide) (by decide)))
  have c24 := F_a1_reachable.other W1 (Or.inr (slot_ne (C := "stavelog/wire/History") (Or.inl (own_w38 hw)) (Or.inl (own_w51 hw)) (by decide) (t := .long) (t' := (.object "java/nio/ByteBuffer")) (by decide) (by decide)))
  have c25 := c24.other W5 (Or.inr (slot_ne (C := "stavelog/wire/History") (Or.inl (own_w38 hw)) (Or.inl (own_w53 hw)) (by decide) (t := .long) (t' := .int) (by decide) (by decide)))
  have c26 := c25.other W10 (Or.inr (slot_ne (C := "stavelog/wire/History") (Or.inl (own_w38 hw)) (Or.inl (own_w40 hw)) (by decide) (t := .long) (t' := .int) (by decide) (by decide)))
  have c27 := F_a1_sum.other W1 (Or.inr (slot_ne (C := "stavelog/wire/History") (Or.inl (own_w44 hw)) (Or.inl (own_w51 hw)) (by decide) (t := (.object "java/util/zip/Checksum")) (t' := (.object "java/nio/ByteBuffer")) (by decide) (by decide)))
  have c28 := c27.other W5 (Or.inr (slot_ne (C := "stavelog/wire/History") (Or.inl (own_w44 hw)) (Or.inl (own_w53 hw)) (by decide) (t := (.object "java/util/zip/Checksum")) (t' := .int) (by decide) (by decide)))
  have c29 := c28.other W10 (Or.inr (slot_ne (C := "stavelog/wire/History") (Or.inl (own_w44 hw)) (Or.inl (own_w40 hw)) (by decide) (t := (.object "java/util/zip/Checksum")) (t' := .int) (by decide) (by decide)))
  have c30 := F_a1_written.other W1 (Or.inr (slot_ne (C := "stavelog/wire/History") (Or.inl (own_w36 hw)) (Or.inl (own_w51 hw)) (by decide) (t := .long) (t' := (.object "java/nio/ByteBuffer")) (by decide) (by decide)))
  have c31 := c30.other W5 (Or.inr (slot_ne (C := "stavelog/wire/History") (Or.inl (own_w36 hw)) (Or.inl (own_w53 hw)) (by decide) (t := .long) (t' := .int) (by decide) (by decide)))
  have c32 := c31.other W10 (Or.inr (slot_ne (C := "stavelog/wire/History") (Or.inl (own_w36 hw)) (Or.inl (own_w40 hw)) (by decide) (t := .long) (t' := .int) (by decide) (by decide)))
  have c33 := c7.wr W10
  have c34 := Fw1.other W5 (Or.inr (slot_ne (C := "stavelog/wire/History") (Or.inl (own_w51 hw)) (Or.inl (own_w53 hw)) (by decide) (t := (.object "java/nio/ByteBuffer")) (t' := .int) (by decide) (by decide)))
  have c35 := c34.other W10 (Or.inr (slot_ne (C := "stavelog/wire/History") (Or.inl (own_w51 hw)) (Or.inl (own_w40 hw)) (by decide) (t := (.object "java/nio/ByteBuffer")) (t' := .int) (by decide) (by decide)))
  have c36 := Fw5.other W10 (Or.inr (slot_ne (C := "stavelog/wire/History") (Or.inl (own_w53 hw)) (Or.inl (own_w40 hw)) (by decide) (t := .int) (t' := .int) (by decide) (by decide)))
  obtain ⟨fs, hr, hrun, hended, hW, hsame⟩ := X10.leave (v := none) (fun _ => rfl)
  refine ⟨_, _, pre0 _ ?_, hrun, hended, _, _, rfl, ?_, ⟨_, rfl⟩, hW, hsame.mono (by decide) (by decide)⟩
  · show Steps p.tables e below (s₁.setTop (mkF m 0 #[.val (.ref a1), .val .null, .val (.int (0 : Int32)), .val (.int p2)] [])) _
    refine XS.aloadN X0.here hx rfl (hb hby d6_0) rfl rfl ?_
    show Steps p.tables e below (s₁.setTop (mkF m 1 #[.val (.ref a1), .val .null, .val (.int (0 : Int32)), .val (.int p2)] [(.ref a1)])) _
    refine XS.aloadN X0.here hx rfl (hb hby d6_1) rfl rfl ?_
    show Steps p.tables e below (s₁.setTop (mkF m 2 #[.val (.ref a1), .val .null, .val (.int (0 : Int32)), .val (.int p2)] [.null, (.ref a1)])) _
    refine st1 _ ?_
    show Steps p.tables e below (T1.setTop (mkF m 5 #[.val (.ref a1), .val .null, .val (.int (0 : Int32)), .val (.int p2)] [])) _
    refine XS.aloadN X1.here hx rfl (hb hby d6_5) rfl rfl ?_
    show Steps p.tables e below (T1.setTop (mkF m 6 #[.val (.ref a1), .val .null, .val (.int (0 : Int32)), .val (.int p2)] [(.ref a1)])) _
    refine XS.iloadN X1.here hx rfl (hb hby d6_6) rfl ?_
    show Steps p.tables e below (T1.setTop (mkF m 7 #[.val (.ref a1), .val .null, .val (.int (0 : Int32)), .val (.int p2)] [(.int (0 : Int32)), (.ref a1)])) _
    refine st5 _ ?_
    show Steps p.tables e below (T5.setTop (mkF m 10 #[.val (.ref a1), .val .null, .val (.int (0 : Int32)), .val (.int p2)] [])) _
    refine XS.aloadN X5.here hx rfl (hb hby d6_10) rfl rfl ?_
    show Steps p.tables e below (T5.setTop (mkF m 11 #[.val (.ref a1), .val .null, .val (.int (0 : Int32)), .val (.int p2)] [(.ref a1)])) _
    refine XS.iloadN X5.here hx rfl (hb hby d6_11) rfl ?_
    show Steps p.tables e below (T5.setTop (mkF m 12 #[.val (.ref a1), .val .null, .val (.int (0 : Int32)), .val (.int p2)] [(.int p2), (.ref a1)])) _
    refine st10 _ ?_
    show Steps p.tables e below (T10.setTop (mkF m 15 #[.val (.ref a1), .val .null, .val (.int (0 : Int32)), .val (.int p2)] [])) _
    exact X10.returnOut hx Bd.returns (hb hby d6_15) hr
  · show Q6_5 Z a1 p2 a3 p4 h0 n0 _ T10.heap _
    rw [e10]
    exact ⟨rfl, N10, KC11, c33, c35, c36, Fw10, c14, c17, c20, c23, c26, c29, c32⟩
theorem ef5_6 (m : MethodId) (a1 : Addr) (p2 : Int32) : entryFrame m #[(.ref a1), (.int p2)] 2 = mkF m 0 #[.val (.ref a1), .val (.int p2)] [] := by first | (simp [entryFrame, mkF, argsToLocals, Value.category]; done) | rfl
def Q5_6 (Z : State) (a1 : Addr) (p2 : Int32) (p3 : Int32) (p4 : Int32) (a5 : Addr) (h0 : Heap) (n0 : Nat) (v : Option Value) (h : Heap) (L : List Loc) : Prop := v = none ∧ Fr n0 L ∧ Keep h0 h [a1] ∧ Exa Z h a1 "stavelog/wire/History" ∧ Fld Z h a1 "stavelog/wire/History" "kept" "I" (.int p2) ∧ Fld Z h a1 "stavelog/wire/History" "written" "J" (.long (0 : Int64)) ∧ Fld Z h a1 "stavelog/wire/History" "reachable" "J" (.long (0 : Int64)) ∧ Fld Z h a1 "stavelog/wire/History" "literalsLeft" "I" (.int (0 : Int32)) ∧ Fld Z h a1 "stavelog/wire/History" "copyLeft" "I" (.int (0 : Int32)) ∧ Fld Z h a1 "stavelog/wire/History" "sum" "Ljava/util/zip/Checksum;" .null ∧ Fld Z h a1 "stavelog/wire/History" "decompression" "Lstavelog/wire/Decompression;" (.ref a5) ∧ Fld Z h a1 "stavelog/wire/History" "distance" "I" (.int (0 : Int32)) ∧ Fld Z h a1 "stavelog/wire/History" "literalAt" "I" (.int (0 : Int32)) ∧ Fld Z h a1 "stavelog/wire/History" "literals" "Ljava/nio/ByteBuffer;" .null
set_option maxRecDepth 65536 in
set_option maxHeartbeats 40000000 in
theorem rm5_6 (l : Launch) (Z : State) (a0 : Array Value) (hw : ∀ d ∈ tables_1, d.before a0 Z = true) (ws : List Jvm.Cond) (a1 : Addr) (p2 : Int32) (p3 : Int32) (p4 : Int32) (a5 : Addr) (h0 : Heap) (n0 : Nat) (Z0 : n0 ≤ h0.size) (E_a1 : Exa Z h0 a1 "stavelog/wire/History") (F_a1_kept : Fld Z h0 a1 "stavelog/wire/History" "kept" "I" (.int p3)) (g_a1 : n0 ≤ a1) (F_a1_written : Fld Z h0 a1 "stavelog/wire/History" "written" "J" (.long (0 : Int64))) (F_a1_reachable : Fld Z h0 a1 "stavelog/wire/History" "reachable" "J" (.long (0 : Int64))) (F_a1_literalsLeft : Fld Z h0 a1 "stavelog/wire/History" "literalsLeft" "I" (.int p4)) (F_a1_copyLeft : Fld Z h0 a1 "stavelog/wire/History" "copyLeft" "I" (.int (0 : Int32))) (F_a1_sum : Fld Z h0 a1 "stavelog/wire/History" "sum" "Ljava/util/zip/Checksum;" .null) (F_a1_decompression : Fld Z h0 a1 "stavelog/wire/History" "decompression" "Lstavelog/wire/Decompression;" (.ref a5)) (F_a1_distance : Fld Z h0 a1 "stavelog/wire/History" "distance" "I" (.int (0 : Int32))) (F_a1_literalAt : Fld Z h0 a1 "stavelog/wire/History" "literalAt" "I" (.int (0 : Int32))) (F_a1_literals : Fld Z h0 a1 "stavelog/wire/History" "literals" "Ljava/nio/ByteBuffer;" .null) :
    MetFree l (⟨"stavelog/wire/History", "start", "(I)V"⟩ : MethodName) (head1 (Jvm.Cond.code (⟨"stavelog/wire/History", "start", "(I)V"⟩ : MethodName) prog_235_method_2_code 2 none :: ws) ({ frames := 0, cells := 0, slots := 0, locals := 0 } : Room)) (fun a U => a = #[(.ref a1), (.int p2)] ∧ Z.Warmed39 U.vm ∧ U.heap = h0) (fun _ _ _ _ _ => True) (fun _ U o U' => ∃ v L, o = .returned v ∧ Q5_6 Z a1 p2 p3 p4 a5 h0 n0 v U'.heap L ∧ FrameEnd U o U' L ({ frames := 0, cells := 0, slots := 0, locals := 0 } : Room).cells ({ frames := 0, cells := 0, slots := 0, locals := 0 } : Room).slots) := by
  refine MetFree.of_bodySF (plainFor_of_name pn_stavelog_wire_History) hisR ?_
  intro p e s m args below meth c s₁ Bd hml0 hP hK
  obtain ⟨rfl, hZ, hh⟩ := hP
  have hx := Bd.exec
  have hby := Bd.bytes
  have hml : c.maxLocals = 2 := hml0
  have hown : s.vm.findClass "stavelog/wire/History" = some m.cls := findClass_of_methodNamed Bd.named
  have hnm := (name_of_methodNamed Bd.named Bd.method).1
  have X0 : Stand p l e ({ frames := 0, cells := 0, slots := 0, locals := 0 } : Room) s m #[(.ref a1), (.int p2)] below meth c s₁ [] 0 0 := Stand.of_body Bd
  have e0 : s₁.heap = h0 := by rw [← hh, Bd.state]; rfl
  have N0 := Fr.nil n0
  have pre0 : ∀ t, Steps p.tables e below (s₁.setTop (mkF m 0 #[.val (.ref a1), .val (.int p2)] [])) t → Steps p.tables e below (s₁.setTop (entryFrame m #[(.ref a1), (.int p2)] 2)) t := fun t k => castTop (ef5_6 m a1 p2) k
  obtain ⟨T1, h1, X1, e1, W1, st1⟩ := putF X0 hx hZ hown (host := "") (Or.inl (own_w33 hw)) Via.refl e0 F_a1_kept E_a1 (Or.inl (own_w34 hw)) (own_w3 hw) (ty := .int) (by decide) rfl rfl (g := (mkF m 2 #[.val (.ref a1), .val (.int p2)] [(.int p2), (.ref a1)])) rfl rfl (hb hby d5_2)
  have KC2 : Keep h0 h1 [a1] := (Keep.refl h0 [a1]).wr W1 (Or.inl (List.mem_of_getElem? (i := 0) rfl))
  have Fw1 := F_a1_kept.same W1
  have N1 := Fr.snoc X1 N0 g_a1
  have c3 := E_a1.wr W1
  have c4 := F_a1_written.other W1 (Or.inr (slot_ne (C := "stavelog/wire/History") (Or.inl (own_w36 hw)) (Or.inl (own_w34 hw)) (by decide) (t := .long) (t' := .int) (by decide) (by decide)))
  obtain ⟨T5, h5, X5, e5, W5, st5⟩ := putF X1 hx hZ hown (host := "") (Or.inl (own_w35 hw)) Via.refl e1 c4 c3 (Or.inl (own_w36 hw)) (own_w3 hw) (ty := .long) (by decide) rfl rfl (g := (mkF m 7 #[.val (.ref a1), .val (.int p2)] [(.long (0 : Int64)), (.ref a1)])) rfl rfl (hb hby d5_7)
  have KC6 : Keep h0 h5 [a1] := KC2.wr W5 (Or.inl (List.mem_of_getElem? (i := 0) rfl))
  have Fw5 := c4.same W5
  have N5 := Fr.snoc X5 N1 g_a1
  have c7 := c3.wr W5
  have c8 := F_a1_reachable.other W1 (Or.inr (slot_ne (C := "stavelog/wire/History") (Or.inl (own_w38 hw)) (Or.inl (own_w34 hw)) (by decide) (t := .long) (t' := .int) (by decide) (by decide)))
  have c9 := c8.other W5 (Or.inr (slot_ne (C := "stavelog/wire/History") (Or.inl (own_w38 hw)) (Or.inl (own_w36 hw)) (by decide) (t := .long) (t' := .long) (by decide) (by decide)))
  obtain ⟨T10, h10, X10, e10, W10, st10⟩ := putF X5 hx hZ hown (host := "") (Or.inl (own_w37 hw)) Via.refl e5 c9 c7 (Or.inl (own_w38 hw)) (own_w3 hw) (ty := .long) (by decide) rfl rfl (g := (mkF m 12 #[.val (.ref a1), .val (.int p2)] [(.long (0 : Int64)), (.ref a1)])) rfl rfl (hb hby d5_12)
  have KC11 : Keep h0 h10 [a1] := KC6.wr W10 (Or.inl (List.mem_of_getElem? (i := 0) rfl))
  have Fw10 := c9.same W10
  have N10 := Fr.snoc X10 N5 g_a1
  have c12 := c7.wr W10
  have c13 := F_a1_literalsLeft.other W1 (Or.inr (slot_ne (C := "stavelog/wire/History") (Or.inl (own_w40 hw)) (Or.inl (own_w34 hw)) (by decide) (t := .int) (t' := .int) (by decide) (by decide)))
  have c14 := c13.other W5 (Or.inr (slot_ne (C := "stavelog/wire/History") (Or.inl (own_w40 hw)) (Or.inl (own_w36 hw)) (by decide) (t := .int) (t' := .long) (by decide) (by decide)))
  have c15 := c14.other W10 (Or.inr (slot_ne (C := "stavelog/wire/History") (Or.inl (own_w40 hw)) (Or.inl (own_w38 hw)) (by decide) (t := .int) (t' := .long) (by decide) (by decide)))
  obtain ⟨T16, h16, X16, e16, W16, st16⟩ := putF X10 hx hZ hown (host := "") (Or.inl (own_w39 hw)) Via.refl e10 c15 c12 (Or.inl (own_w40 hw)) (own_w3 hw) (ty := .int) (by decide) rfl rfl (g := (mkF m 17 #[.val (.ref a1), .val (.int p2)] [(.int (0 : Int32)), (.ref a1)])) rfl rfl (hb hby d5_17)
  have KC17 : Keep h0 h16 [a1] := KC11.wr W16 (Or.inl (List.mem_of_getElem? (i := 0) rfl))
  have Fw16 := c15.same W16
  have N16 := Fr.snoc X16 N10 g_a1
  have c18 := c12.wr W16
  have c19 := F_a1_copyLeft.other W1 (Or.inr (slot_ne (C := "stavelog/wire/History") (Or.inl (own_w42 hw)) (Or.inl (own_w34 hw)) (by decide) (t := .int) (t' := .int) (by decide) (by decide)))
  have c20 := c19.other W5 (Or.inr (slot_ne (C := "stavelog/wire/History") (Or.inl (own_w42 hw)) (Or.inl (own_w36 hw)) (by decide) (t := .int) (t' := .long) (by decide) (by decide)))
  have c21 := c20.other W10 (Or.inr (slot_ne (C := "stavelog/wire/History") (Or.inl (own_w42 hw)) (Or.inl (own_w38 hw)) (by decide) (t := .int) (t' := .long) (by decide) (by decide)))
  have c22 := c21.other W16 (Or.inr (slot_ne (C := "stavelog/wire/History") (Or.inl (own_w42 hw)) (Or.inl (own_w40 hw)) (by decide) (t := .int) (t' := .int) (by decide) (by decide)))
  obtain ⟨T23, h23, X23, e23, W23, st23⟩ := putF X16 hx hZ hown (host := "") (Or.inl (own_w41 hw)) Via.refl e16 c22 c18 (Or.inl (own_w42 hw)) (own_w3 hw) (ty := .int) (by decide) rfl rfl (g := (mkF m 22 #[.val (.ref a1), .val (.int p2)] [(.int (0 : Int32)), (.ref a1)])) rfl rfl (hb hby d5_22)
  have KC24 : Keep h0 h23 [a1] := KC17.wr W23 (Or.inl (List.mem_of_getElem? (i := 0) rfl))
  have Fw23 := c22.same W23
  have N23 := Fr.snoc X23 N16 g_a1
  have c25 := c18.wr W23
  have c26 := F_a1_sum.other W1 (Or.inr (slot_ne (C := "stavelog/wire/History") (Or.inl (own_w44 hw)) (Or.inl (own_w34 hw)) (by decide) (t := (.object "java/util/zip/Checksum")) (t' := .int) (by decide) (by decide)))
  have c27 := c26.other W5 (Or.inr (slot_ne (C := "stavelog/wire/History") (Or.inl (own_w44 hw)) (Or.inl (own_w36 hw)) (by decide) (t := (.object "java/util/zip/Checksum")) (t' := .long) (by decide) (by decide)))
  have c28 := c27.other W10 (Or.inr (slot_ne (C := "stavelog/wire/History") (Or.inl (own_w44 hw)) (Or.inl (own_w38 hw)) (by decide) (t := (.object "java/util/zip/Checksum")) (t' := .long) (by decide) (by decide)))
  have c29 := c28.other W16 (Or.inr (slot_ne (C := "stavelog/wire/History") (Or.inl (own_w44 hw)) (Or.inl (own_w40 hw)) (by decide) (t := (.object "java/util/zip/Checksum")) (t' := .int) (by decide) (by decide)))
  have c30 := c29.other W23 (Or.inr (slot_ne (C := "stavelog/wire/History") (Or.inl (own_w44 hw)) (Or.inl (own_w42 hw)) (by decide) (t := (.object "java/util/zip/Checksum")) (t' := .int) (by decide) (by decide)))
  obtain ⟨T31, h31, X31, e31, W31, st31⟩ := putF X23 hx hZ hown (host := "") (Or.inl (own_w43 hw)) Via.refl e23 c30 c25 (Or.inl (own_w44 hw)) (own_w3 hw) (ty := (.object "java/util/zip/Checksum")) (by decide) rfl rfl (g := (mkF m 27 #[.val (.ref a1), .val (.int p2)] [.null, (.ref a1)])) rfl rfl (hb hby d5_27)
  have KC32 : Keep h0 h31 [a1] := KC24.wr W31 (Or.inl (List.mem_of_getElem? (i := 0) rfl))
  have Fw31 := c30.same W31
  have N31 := Fr.snoc X31 N23 g_a1
  have c33 := F_a1_decompression.other W1 (Or.inr (slot_ne (C := "stavelog/wire/History") (Or.inr (own_w27 hw)) (Or.inl (own_w34 hw)) (by decide) (t := (.object "stavelog/wire/Decompression")) (t' := .int) (by decide) (by decide)))
  have c34 := c33.other W5 (Or.inr (slot_ne (C := "stavelog/wire/History") (Or.inr (own_w27 hw)) (Or.inl (own_w36 hw)) (by decide) (t := (.object "stavelog/wire/Decompression")) (t' := .long) (by decide) (by decide)))
  have c35 := c34.other W10 (Or.inr (slot_ne (C := "stavelog/wire/History") (Or.inr (own_w27 hw)) (Or.inl (own_w38 hw)) (by decide) (t := (.object "stavelog/wire/Decompression")) (t' := .long) (by decide) (by decide)))
  have c36 := c35.other W16 (Or.inr (slot_ne (C := "stavelog/wire/History") (Or.inr (own_w27 hw)) (Or.inl (own_w40 hw)) (by decide) (t := (.object "stavelog/wire/Decompression")) (t' := .int) (by decide) (by decide)))
  have c37 := c36.other W23 (Or.inr (slot_ne (C := "stavelog/wire/History") (Or.inr (own_w27 hw)) (Or.inl (own_w42 hw)) (by decide) (t := (.object "stavelog/wire/Decompression")) (t' := .int) (by decide) (by decide)))
  have c38 := c37.other W31 (Or.inr (slot_ne (C := "stavelog/wire/History") (Or.inr (own_w27 hw)) (Or.inl (own_w44 hw)) (by decide) (t := (.object "stavelog/wire/Decompression")) (t' := (.object "java/util/zip/Checksum")) (by decide) (by decide)))
  have c39 := F_a1_distance.other W1 (Or.inr (slot_ne (C := "stavelog/wire/History") (Or.inl (own_w64 hw)) (Or.inl (own_w34 hw)) (by decide) (t := .int) (t' := .int) (by decide) (by decide)))
  have c40 := c39.other W5 (Or.inr (slot_ne (C := "stavelog/wire/History") (Or.inl (own_w64 hw)) (Or.inl (own_w36 hw)) (by decide) (t := .int) (t' := .long) (by decide) (by decide)))
  have c41 := c40.other W10 (Or.inr (slot_ne (C := "stavelog/wire/History") (Or.inl (own_w64 hw)) (Or.inl (own_w38 hw)) (by decide) (t := .int) (t' := .long) (by decide) (by decide)))
  have c42 := c41.other W16 (Or.inr (slot_ne (C := "stavelog/wire/History") (Or.inl (own_w64 hw)) (Or.inl (own_w40 hw)) (by decide) (t := .int) (t' := .int) (by decide) (by decide)))
  have c43 := c42.other W23 (Or.inr (slot_ne (C := "stavelog/wire/History") (Or.inl (own_w64 hw)) (Or.inl (own_w42 hw)) (by decide) (t := .int) (t' := .int) (by decide) (by decide)))
  have c44 := c43.other W31 (Or.inr (slot_ne (C := "stavelog/wire/History") (Or.inl (own_w64 hw)) (Or.inl (own_w44 hw)) (by decide) (t := .int) (t' := (.object "java/util/zip/Checksum")) (by decide) (by decide)))
  have c45 := F_a1_literalAt.other W1 (Or.inr (slot_ne (C := "stavelog/wire/History") (Or.inl (own_w53 hw)) (Or.inl (own_w34 hw)) (by decide) (t := .int) (t' := .int) (by decide) (by decide)))
  have c46 := c45.other W5 (Or.inr (slot_ne (C := "stavelog/wire/History") (Or.inl (own_w53 hw)) (Or.inl (own_w36 hw)) (by decide) (t := .int) (t' := .long) (by decide) (by decide)))
  have c47 := c46.other W10 (Or.inr (slot_ne (C := "stavelog/wire/History") (Or.inl (own_w53 hw)) (Or.inl (own_w38 hw)) (by decide) (t := .int) (t' := .long) (by decide) (by decide)))
  have c48 := c47.other W16 (Or.inr (slot_ne (C := "stavelog/wire/History") (Or.inl (own_w53 hw)) (Or.inl (own_w40 hw)) (by decide) (t := .int) (t' := .int) (by decide) (by decide)))
  have c49 := c48.other W23 (Or.inr (slot_ne (C := "stavelog/wire/History") (Or.inl (own_w53 hw)) (Or.inl (own_w42 hw)) (by decide) (t := .int) (t' := .int) (by decide) (by decide)))
  have c50 := c49.other W31 (Or.inr (slot_ne (C := "stavelog/wire/History") (Or.inl (own_w53 hw)) (Or.inl (own_w44 hw)) (by decide) (t := .int) (t' := (.object "java/util/zip/Checksum")) (by decide) (by decide)))
  have c51 := F_a1_literals.other W1 (Or.inr (slot_ne (C := "stavelog/wire/History") (Or.inl (own_w51 hw)) (Or.inl (own_w34 hw)) (by decide) (t := (.object "java/nio/ByteBuffer")) (t' := .int) (by decide) (by decide)))
  have c52 := c51.other W5 (Or.inr (slot_ne (C := "stavelog/wire/History") (Or.inl (own_w51 hw)) (Or.inl (own_w36 hw)) (by decide) (t := (.object "java/nio/ByteBuffer")) (t' := .long) (by decide) (by decide)))
  have c53 := c52.other W10 (Or.inr (slot_ne (C := "stavelog/wire/History") (Or.inl (own_w51 hw)) (Or.inl (own_w38 hw)) (by decide) (t := (.object "java/nio/ByteBuffer")) (t' := .long) (by decide) (by decide)))
  have c54 := c53.other W16 (Or.inr (slot_ne (C := "stavelog/wire/History") (Or.inl (own_w51 hw)) (Or.inl (own_w40 hw)) (by decide) (t := (.object "java/nio/ByteBuffer")) (t' := .int) (by decide) (by decide)))
  have c55 := c54.other W23 (Or.inr (slot_ne (C := "stavelog/wire/History") (Or.inl (own_w51 hw)) (Or.inl (own_w42 hw)) (by decide) (t := (.object "java/nio/ByteBuffer")) (t' := .int) (by decide) (by decide)))
  have c56 := c55.other W31 (Or.inr (slot_ne (C := "stavelog/wire/History") (Or.inl (own_w51 hw)) (Or.inl (own_w44 hw)) (by decide) (t := (.object "java/nio/ByteBuffer")) (t' := (.object "java/util/zip/Checksum")) (by decide) (by decide)))
  have c57 := c25.wr W31
  have c58 := Fw1.other W5 (Or.inr (slot_ne (C := "stavelog/wire/History") (Or.inl (own_w34 hw)) (Or.inl (own_w36 hw)) (by decide) (t := .int) (t' := .long) (by decide) (by decide)))
  have c59 := c58.other W10 (Or.inr (slot_ne (C := "stavelog/wire/History") (Or.inl (own_w34 hw)) (Or.inl (own_w38 hw)) (by decide) (t := .int) (t' := .long) (by decide) (by decide)))
  have c60 := c59.other W16 (Or.inr (slot_ne (C := "stavelog/wire/History") (Or.inl (own_w34 hw)) (Or.inl (own_w40 hw)) (by decide) (t := .int) (t' := .int) (by decide) (by decide)))
  have c61 := c60.other W23 (Or.inr (slot_ne (C := "stavelog/wire/History") (Or.inl (own_w34 hw)) (Or.inl (own_w42 hw)) (by decide) (t := .int) (t' := .int) (by decide) (by decide)))
  have c62 := c61.other W31 (Or.inr (slot_ne (C := "stavelog/wire/History") (Or.inl (own_w34 hw)) (Or.inl (own_w44 hw)) (by decide) (t := .int) (t' := (.object "java/util/zip/Checksum")) (by decide) (by decide)))
  have c63 := Fw5.other W10 (Or.inr (slot_ne (C := "stavelog/wire/History") (Or.inl (own_w36 hw)) (Or.inl (own_w38 hw)) (by decide) (t := .long) (t' := .long) (by decide) (by decide)))
  have c64 := c63.other W16 (Or.inr (slot_ne (C := "stavelog/wire/History") (Or.inl (own_w36 hw)) (Or.inl (own_w40 hw)) (by decide) (t := .long) (t' := .int) (by decide) (by decide)))
  have c65 := c64.other W23 (Or.inr (slot_ne (C := "stavelog/wire/History") (Or.inl (own_w36 hw)) (Or.inl (own_w42 hw)) (by decide) (t := .long) (t' := .int) (by decide) (by decide)))
  have c66 := c65.other W31 (Or.inr (slot_ne (C := "stavelog/wire/History") (Or.inl (own_w36 hw)) (Or.inl (own_w44 hw)) (by decide) (t := .long) (t' := (.object "java/util/zip/Checksum")) (by decide) (by decide)))
  have c67 := Fw10.other W16 (Or.inr (slot_ne (C := "stavelog/wire/History") (Or.inl (own_w38 hw)) (Or.inl (own_w40 hw)) (by decide) (t := .long) (t' := .int) (by decide) (by decide)))
  have c68 := c67.other W23 (Or.inr (slot_ne (C := "stavelog/wire/History") (Or.inl (own_w38 hw)) (Or.inl (own_w42 hw)) (by decide) (t := .long) (t' := .int) (by decide) (by decide)))
  have c69 := c68.other W31 (Or.inr (slot_ne (C := "stavelog/wire/History") (Or.inl (own_w38 hw)) (Or.inl (own_w44 hw)) (by decide) (t := .long) (t' := (.object "java/util/zip/Checksum")) (by decide) (by decide)))
  have c70 := Fw16.other W23 (Or.inr (slot_ne (C := "stavelog/wire/History") (Or.inl (own_w40 hw)) (Or.inl (own_w42 hw)) (by decide) (t := .int) (t' := .int) (by decide) (by decide)))
  have c71 := c70.other W31 (Or.inr (slot_ne (C := "stavelog/wire/History") (Or.inl (own_w40 hw)) (Or.inl (own_w44 hw)) (by decide) (t := .int) (t' := (.object "java/util/zip/Checksum")) (by decide) (by decide)))
  have c72 := Fw23.other W31 (Or.inr (slot_ne (C := "stavelog/wire/History") (Or.inl (own_w42 hw)) (Or.inl (own_w44 hw)) (by decide) (t := .int) (t' := (.object "java/util/zip/Checksum")) (by decide) (by decide)))
  obtain ⟨fs, hr, hrun, hended, hW, hsame⟩ := X31.leave (v := none) (fun _ => rfl)
  refine ⟨_, _, pre0 _ ?_, hrun, hended, _, _, rfl, ?_, ⟨_, rfl⟩, hW, hsame.mono (by decide) (by decide)⟩
  · show Steps p.tables e below (s₁.setTop (mkF m 0 #[.val (.ref a1), .val (.int p2)] [])) _
    refine XS.aloadN X0.here hx rfl (hb hby d5_0) rfl rfl ?_
    show Steps p.tables e below (s₁.setTop (mkF m 1 #[.val (.ref a1), .val (.int p2)] [(.ref a1)])) _
    refine XS.iloadN X0.here hx rfl (hb hby d5_1) rfl ?_
    show Steps p.tables e below (s₁.setTop (mkF m 2 #[.val (.ref a1), .val (.int p2)] [(.int p2), (.ref a1)])) _
    refine st1 _ ?_
    show Steps p.tables e below (T1.setTop (mkF m 5 #[.val (.ref a1), .val (.int p2)] [])) _
    refine XS.aloadN X1.here hx rfl (hb hby d5_5) rfl rfl ?_
    show Steps p.tables e below (T1.setTop (mkF m 6 #[.val (.ref a1), .val (.int p2)] [(.ref a1)])) _
    refine XS.lconst X1.here hx rfl (hb hby d5_6) ?_
    show Steps p.tables e below (T1.setTop (mkF m 7 #[.val (.ref a1), .val (.int p2)] [(.long (0 : Int64)), (.ref a1)])) _
    refine st5 _ ?_
    show Steps p.tables e below (T5.setTop (mkF m 10 #[.val (.ref a1), .val (.int p2)] [])) _
    refine XS.aloadN X5.here hx rfl (hb hby d5_10) rfl rfl ?_
    show Steps p.tables e below (T5.setTop (mkF m 11 #[.val (.ref a1), .val (.int p2)] [(.ref a1)])) _
    refine XS.lconst X5.here hx rfl (hb hby d5_11) ?_
    show Steps p.tables e below (T5.setTop (mkF m 12 #[.val (.ref a1), .val (.int p2)] [(.long (0 : Int64)), (.ref a1)])) _
    refine st10 _ ?_
    show Steps p.tables e below (T10.setTop (mkF m 15 #[.val (.ref a1), .val (.int p2)] [])) _
    refine XS.aloadN X10.here hx rfl (hb hby d5_15) rfl rfl ?_
    show Steps p.tables e below (T10.setTop (mkF m 16 #[.val (.ref a1), .val (.int p2)] [(.ref a1)])) _
    refine XS.iconst X10.here hx rfl (hb hby d5_16) ?_
    show Steps p.tables e below (T10.setTop (mkF m 17 #[.val (.ref a1), .val (.int p2)] [(.int (0 : Int32)), (.ref a1)])) _
    refine st16 _ ?_
    show Steps p.tables e below (T16.setTop (mkF m 20 #[.val (.ref a1), .val (.int p2)] [])) _
    refine XS.aloadN X16.here hx rfl (hb hby d5_20) rfl rfl ?_
    show Steps p.tables e below (T16.setTop (mkF m 21 #[.val (.ref a1), .val (.int p2)] [(.ref a1)])) _
    refine XS.iconst X16.here hx rfl (hb hby d5_21) ?_
    show Steps p.tables e below (T16.setTop (mkF m 22 #[.val (.ref a1), .val (.int p2)] [(.int (0 : Int32)), (.ref a1)])) _
    refine st23 _ ?_
    show Steps p.tables e below (T23.setTop (mkF m 25 #[.val (.ref a1), .val (.int p2)] [])) _
    refine XS.aloadN X23.here hx rfl (hb hby d5_25) rfl rfl ?_
    show Steps p.tables e below (T23.setTop (mkF m 26 #[.val (.ref a1), .val (.int p2)] [(.ref a1)])) _
    refine XS.aconstNull X23.here hx rfl (hb hby d5_26) ?_
    show Steps p.tables e below (T23.setTop (mkF m 27 #[.val (.ref a1), .val (.int p2)] [.null, (.ref a1)])) _
    refine st31 _ ?_
    show Steps p.tables e below (T31.setTop (mkF m 30 #[.val (.ref a1), .val (.int p2)] [])) _
    exact X31.returnOut hx Bd.returns (hb hby d5_30) hr
  · show Q5_6 Z a1 p2 p3 p4 a5 h0 n0 _ T31.heap _
    rw [e31]
    exact ⟨rfl, N31, KC32, c57, c62, c66, c69, c71, c72, Fw31, c38, c44, c50, c56⟩
theorem ef10_7 (m : MethodId) (a1 : Addr) : entryFrame m #[(.ref a1)] 1 = mkF m 0 #[.val (.ref a1)] [] := by first | (simp [entryFrame, mkF, argsToLocals, Value.category]; done) | rfl
def Q10_7 (Z : State) (a1 : Addr) (h0 : Heap) (n0 : Nat) (v : Option Value) (h : Heap) (L : List Loc) : Prop := v = some (.long (0 : Int64)) ∧ Fr n0 L ∧ h = h0
set_option maxRecDepth 65536 in
set_option maxHeartbeats 40000000 in
theorem rm10_7 (l : Launch) (Z : State) (a0 : Array Value) (hw : ∀ d ∈ tables_1, d.before a0 Z = true) (ws : List Jvm.Cond) (a1 : Addr) (h0 : Heap) (n0 : Nat) (Z0 : n0 ≤ h0.size) (F_a1_written : Fld Z h0 a1 "stavelog/wire/History" "written" "J" (.long (0 : Int64))) (F_a1_literalsLeft : Fld Z h0 a1 "stavelog/wire/History" "literalsLeft" "I" (.int (0 : Int32))) (F_a1_copyLeft : Fld Z h0 a1 "stavelog/wire/History" "copyLeft" "I" (.int (0 : Int32))) :
    MetFree l (⟨"stavelog/wire/History", "written", "()J"⟩ : MethodName) (head1 (Jvm.Cond.code (⟨"stavelog/wire/History", "written", "()J"⟩ : MethodName) prog_235_method_7_code 1 (some .long) :: ws) ({ frames := 0, cells := 0, slots := 0, locals := 0 } : Room)) (fun a U => a = #[(.ref a1)] ∧ Z.Warmed39 U.vm ∧ U.heap = h0) (fun _ _ _ _ _ => True) (fun _ U o U' => ∃ v L, o = .returned v ∧ Q10_7 Z a1 h0 n0 v U'.heap L ∧ FrameEnd U o U' L ({ frames := 0, cells := 0, slots := 0, locals := 0 } : Room).cells ({ frames := 0, cells := 0, slots := 0, locals := 0 } : Room).slots) := by
  refine MetFree.of_bodySF (plainFor_of_name pn_stavelog_wire_History) hisR ?_
  intro p e s m args below meth c s₁ Bd hml0 hP hK
  obtain ⟨rfl, hZ, hh⟩ := hP
  have hx := Bd.exec
  have hby := Bd.bytes
  have hml : c.maxLocals = 1 := hml0
  have hown : s.vm.findClass "stavelog/wire/History" = some m.cls := findClass_of_methodNamed Bd.named
  have hnm := (name_of_methodNamed Bd.named Bd.method).1
  have X0 : Stand p l e ({ frames := 0, cells := 0, slots := 0, locals := 0 } : Room) s m #[(.ref a1)] below meth c s₁ [] 0 0 := Stand.of_body Bd
  have e0 : s₁.heap = h0 := by rw [← hh, Bd.state]; rfl
  have N0 := Fr.nil n0
  have pre0 : ∀ t, Steps p.tables e below (s₁.setTop (mkF m 0 #[.val (.ref a1)] [])) t → Steps p.tables e below (s₁.setTop (entryFrame m #[(.ref a1)] 1)) t := fun t k => castTop (ef10_7 m a1) k
  obtain ⟨T1, X1, e1, st1⟩ := getF X0 hx hZ hown (host := "") (Or.inl (own_w35 hw)) Via.refl e0 F_a1_written (g := (mkF m 1 #[.val (.ref a1)] [(.ref a1)])) rfl rfl (hb hby d10_1)
  obtain ⟨T2, X2, e2, st2⟩ := getF X1 hx hZ hown (host := "") (Or.inl (own_w39 hw)) Via.refl e1 F_a1_literalsLeft (g := (mkF m 5 #[.val (.ref a1)] [(.ref a1), (.long (0 : Int64))])) rfl rfl (hb hby d10_5)
  obtain ⟨T3, X3, e3, st3⟩ := getF X2 hx hZ hown (host := "") (Or.inl (own_w41 hw)) Via.refl e2 F_a1_copyLeft (g := (mkF m 11 #[.val (.ref a1)] [(.ref a1), (.long (0 : Int64))])) rfl rfl (hb hby d10_11)
  obtain ⟨fs, hr, hrun, hended, hW, hsame⟩ := X3.leave (v := some (.long (0 : Int64))) (fun h => by rw [Bd.returns] at h; cases h)
  refine ⟨_, _, pre0 _ ?_, hrun, hended, _, _, rfl, ?_, ⟨_, rfl⟩, hW, hsame.mono (by decide) (by decide)⟩
  · show Steps p.tables e below (s₁.setTop (mkF m 0 #[.val (.ref a1)] [])) _
    refine XS.aloadN X0.here hx rfl (hb hby d10_0) rfl rfl ?_
    show Steps p.tables e below (s₁.setTop (mkF m 1 #[.val (.ref a1)] [(.ref a1)])) _
    refine st1 _ ?_
    show Steps p.tables e below (T1.setTop (mkF m 4 #[.val (.ref a1)] [(.long (0 : Int64))])) _
    refine XS.aloadN X1.here hx rfl (hb hby d10_4) rfl rfl ?_
    show Steps p.tables e below (T1.setTop (mkF m 5 #[.val (.ref a1)] [(.ref a1), (.long (0 : Int64))])) _
    refine st2 _ ?_
    show Steps p.tables e below (T2.setTop (mkF m 8 #[.val (.ref a1)] [(.int (0 : Int32)), (.long (0 : Int64))])) _
    refine XS.i2l X2.here hx rfl (hb hby d10_8) rfl ?_
    show Steps p.tables e below (T2.setTop (mkF m 9 #[.val (.ref a1)] [(.long ((0 : Int32).toInt64)), (.long (0 : Int64))])) _
    rw [(by decide : ((0 : Int32).toInt64) = (0 : Int64))]
    show Steps p.tables e below (T2.setTop (mkF m 9 #[.val (.ref a1)] [(.long (0 : Int64)), (.long (0 : Int64))])) _
    refine XS.ladd X2.here hx rfl (hb hby d10_9) rfl ?_
    show Steps p.tables e below (T2.setTop (mkF m 10 #[.val (.ref a1)] [(.long ((0 : Int64) + (0 : Int64)))])) _
    rw [(by decide : ((0 : Int64) + (0 : Int64)) = (0 : Int64))]
    show Steps p.tables e below (T2.setTop (mkF m 10 #[.val (.ref a1)] [(.long (0 : Int64))])) _
    refine XS.aloadN X2.here hx rfl (hb hby d10_10) rfl rfl ?_
    show Steps p.tables e below (T2.setTop (mkF m 11 #[.val (.ref a1)] [(.ref a1), (.long (0 : Int64))])) _
    refine st3 _ ?_
    show Steps p.tables e below (T3.setTop (mkF m 14 #[.val (.ref a1)] [(.int (0 : Int32)), (.long (0 : Int64))])) _
    refine XS.i2l X3.here hx rfl (hb hby d10_14) rfl ?_
    show Steps p.tables e below (T3.setTop (mkF m 15 #[.val (.ref a1)] [(.long ((0 : Int32).toInt64)), (.long (0 : Int64))])) _
    rw [(by decide : ((0 : Int32).toInt64) = (0 : Int64))]
    show Steps p.tables e below (T3.setTop (mkF m 15 #[.val (.ref a1)] [(.long (0 : Int64)), (.long (0 : Int64))])) _
    refine XS.ladd X3.here hx rfl (hb hby d10_15) rfl ?_
    show Steps p.tables e below (T3.setTop (mkF m 16 #[.val (.ref a1)] [(.long ((0 : Int64) + (0 : Int64)))])) _
    rw [(by decide : ((0 : Int64) + (0 : Int64)) = (0 : Int64))]
    show Steps p.tables e below (T3.setTop (mkF m 16 #[.val (.ref a1)] [(.long (0 : Int64))])) _
    exact retOut X3 hx Bd.returns rfl (Or.inr (Or.inl ⟨rfl, rfl, _, rfl⟩)) (hb hby d10_16) hr
  · show Q10_7 Z a1 h0 n0 _ T3.heap _
    rw [e3]
    exact ⟨rfl, N0, rfl⟩
theorem ef10_8 (m : MethodId) (a1 : Addr) : entryFrame m #[(.ref a1)] 1 = mkF m 0 #[.val (.ref a1)] [] := by first | (simp [entryFrame, mkF, argsToLocals, Value.category]; done) | rfl
def Q10_8 (Z : State) (a1 : Addr) (p2 : Int32) (h0 : Heap) (n0 : Nat) (v : Option Value) (h : Heap) (L : List Loc) : Prop := v = some (.long (p2.toInt64)) ∧ Fr n0 L ∧ h = h0
set_option maxRecDepth 65536 in
set_option maxHeartbeats 40000000 in
theorem rm10_8 (l : Launch) (Z : State) (a0 : Array Value) (hw : ∀ d ∈ tables_1, d.before a0 Z = true) (ws : List Jvm.Cond) (a1 : Addr) (p2 : Int32) (h0 : Heap) (n0 : Nat) (Z0 : n0 ≤ h0.size) (F_a1_written : Fld Z h0 a1 "stavelog/wire/History" "written" "J" (.long (0 : Int64))) (F_a1_literalsLeft : Fld Z h0 a1 "stavelog/wire/History" "literalsLeft" "I" (.int p2)) (F_a1_copyLeft : Fld Z h0 a1 "stavelog/wire/History" "copyLeft" "I" (.int (0 : Int32))) :
    MetFree l (⟨"stavelog/wire/History", "written", "()J"⟩ : MethodName) (head1 (Jvm.Cond.code (⟨"stavelog/wire/History", "written", "()J"⟩ : MethodName) prog_235_method_7_code 1 (some .long) :: ws) ({ frames := 0, cells := 0, slots := 0, locals := 0 } : Room)) (fun a U => a = #[(.ref a1)] ∧ Z.Warmed39 U.vm ∧ U.heap = h0) (fun _ _ _ _ _ => True) (fun _ U o U' => ∃ v L, o = .returned v ∧ Q10_8 Z a1 p2 h0 n0 v U'.heap L ∧ FrameEnd U o U' L ({ frames := 0, cells := 0, slots := 0, locals := 0 } : Room).cells ({ frames := 0, cells := 0, slots := 0, locals := 0 } : Room).slots) := by
  refine MetFree.of_bodySF (plainFor_of_name pn_stavelog_wire_History) hisR ?_
  intro p e s m args below meth c s₁ Bd hml0 hP hK
  obtain ⟨rfl, hZ, hh⟩ := hP
  have hx := Bd.exec
  have hby := Bd.bytes
  have hml : c.maxLocals = 1 := hml0
  have hown : s.vm.findClass "stavelog/wire/History" = some m.cls := findClass_of_methodNamed Bd.named
  have hnm := (name_of_methodNamed Bd.named Bd.method).1
  have X0 : Stand p l e ({ frames := 0, cells := 0, slots := 0, locals := 0 } : Room) s m #[(.ref a1)] below meth c s₁ [] 0 0 := Stand.of_body Bd
  have e0 : s₁.heap = h0 := by rw [← hh, Bd.state]; rfl
  have N0 := Fr.nil n0
  have pre0 : ∀ t, Steps p.tables e below (s₁.setTop (mkF m 0 #[.val (.ref a1)] [])) t → Steps p.tables e below (s₁.setTop (entryFrame m #[(.ref a1)] 1)) t := fun t k => castTop (ef10_8 m a1) k
  obtain ⟨T1, X1, e1, st1⟩ := getF X0 hx hZ hown (host := "") (Or.inl (own_w35 hw)) Via.refl e0 F_a1_written (g := (mkF m 1 #[.val (.ref a1)] [(.ref a1)])) rfl rfl (hb hby d10_1)
  obtain ⟨T2, X2, e2, st2⟩ := getF X1 hx hZ hown (host := "") (Or.inl (own_w39 hw)) Via.refl e1 F_a1_literalsLeft (g := (mkF m 5 #[.val (.ref a1)] [(.ref a1), (.long (0 : Int64))])) rfl rfl (hb hby d10_5)
  obtain ⟨T3, X3, e3, st3⟩ := getF X2 hx hZ hown (host := "") (Or.inl (own_w41 hw)) Via.refl e2 F_a1_copyLeft (g := (mkF m 11 #[.val (.ref a1)] [(.ref a1), (.long (p2.toInt64))])) rfl rfl (hb hby d10_11)
  obtain ⟨fs, hr, hrun, hended, hW, hsame⟩ := X3.leave (v := some (.long (p2.toInt64))) (fun h => by rw [Bd.returns] at h; cases h)
  refine ⟨_, _, pre0 _ ?_, hrun, hended, _, _, rfl, ?_, ⟨_, rfl⟩, hW, hsame.mono (by decide) (by decide)⟩
  · show Steps p.tables e below (s₁.setTop (mkF m 0 #[.val (.ref a1)] [])) _
    refine XS.aloadN X0.here hx rfl (hb hby d10_0) rfl rfl ?_
    show Steps p.tables e below (s₁.setTop (mkF m 1 #[.val (.ref a1)] [(.ref a1)])) _
    refine st1 _ ?_
    show Steps p.tables e below (T1.setTop (mkF m 4 #[.val (.ref a1)] [(.long (0 : Int64))])) _
    refine XS.aloadN X1.here hx rfl (hb hby d10_4) rfl rfl ?_
    show Steps p.tables e below (T1.setTop (mkF m 5 #[.val (.ref a1)] [(.ref a1), (.long (0 : Int64))])) _
    refine st2 _ ?_
    show Steps p.tables e below (T2.setTop (mkF m 8 #[.val (.ref a1)] [(.int p2), (.long (0 : Int64))])) _
    refine XS.i2l X2.here hx rfl (hb hby d10_8) rfl ?_
    show Steps p.tables e below (T2.setTop (mkF m 9 #[.val (.ref a1)] [(.long (p2.toInt64)), (.long (0 : Int64))])) _
    refine XS.ladd X2.here hx rfl (hb hby d10_9) rfl ?_
    show Steps p.tables e below (T2.setTop (mkF m 10 #[.val (.ref a1)] [(.long ((0 : Int64) + (p2.toInt64)))])) _
    rw [Int64.zero_add]
    show Steps p.tables e below (T2.setTop (mkF m 10 #[.val (.ref a1)] [(.long (p2.toInt64))])) _
    refine XS.aloadN X2.here hx rfl (hb hby d10_10) rfl rfl ?_
    show Steps p.tables e below (T2.setTop (mkF m 11 #[.val (.ref a1)] [(.ref a1), (.long (p2.toInt64))])) _
    refine st3 _ ?_
    show Steps p.tables e below (T3.setTop (mkF m 14 #[.val (.ref a1)] [(.int (0 : Int32)), (.long (p2.toInt64))])) _
    refine XS.i2l X3.here hx rfl (hb hby d10_14) rfl ?_
    show Steps p.tables e below (T3.setTop (mkF m 15 #[.val (.ref a1)] [(.long ((0 : Int32).toInt64)), (.long (p2.toInt64))])) _
    rw [(by decide : ((0 : Int32).toInt64) = (0 : Int64))]
    show Steps p.tables e below (T3.setTop (mkF m 15 #[.val (.ref a1)] [(.long (0 : Int64)), (.long (p2.toInt64))])) _
    refine XS.ladd X3.here hx rfl (hb hby d10_15) rfl ?_
    show Steps p.tables e below (T3.setTop (mkF m 16 #[.val (.ref a1)] [(.long ((p2.toInt64) + (0 : Int64)))])) _
    rw [Int64.add_zero]
    show Steps p.tables e below (T3.setTop (mkF m 16 #[.val (.ref a1)] [(.long (p2.toInt64))])) _
    exact retOut X3 hx Bd.returns rfl (Or.inr (Or.inl ⟨rfl, rfl, _, rfl⟩)) (hb hby d10_16) hr
  · show Q10_8 Z a1 p2 h0 n0 _ T3.heap _
    rw [e3]
    exact ⟨rfl, N0, rfl⟩
theorem ef8_9 (m : MethodId) (q1 : Int64) (q2 : Int64) : entryFrame m #[(.long q1), (.long q2)] 4 = mkF m 0 #[.val (.long q1), .second, .val (.long q2), .second] [] := by first | (simp [entryFrame, mkF, argsToLocals, Value.category]; done) | rfl
def Q8_9 (Z : State) (q1 : Int64) (q2 : Int64) (h0 : Heap) (n0 : Nat) (v : Option Value) (h : Heap) (L : List Loc) : Prop := v = some (.long q2) ∧ Fr n0 L ∧ h = h0
set_option maxRecDepth 65536 in
set_option maxHeartbeats 40000000 in
theorem rm8_9 (l : Launch) (Z : State) (a0 : Array Value) (hw : ∀ d ∈ tables_1, d.before a0 Z = true) (ws : List Jvm.Cond) (q1 : Int64) (q2 : Int64) (h0 : Heap) (n0 : Nat) (Z0 : n0 ≤ h0.size) (hc0 : (0 : Int32) < (lcmpW q1 q2)) :
    MetFree l (⟨"java/lang/Math", "min", "(JJ)J"⟩ : MethodName) (head1 (Jvm.Cond.code (⟨"java/lang/Math", "min", "(JJ)J"⟩ : MethodName) jdk_29_method_70_code 4 (some .long) :: ws) ({ frames := 0, cells := 0, slots := 0, locals := 0 } : Room)) (fun a U => a = #[(.long q1), (.long q2)] ∧ Z.Warmed39 U.vm ∧ U.heap = h0) (fun _ _ _ _ _ => True) (fun _ U o U' => ∃ v L, o = .returned v ∧ Q8_9 Z q1 q2 h0 n0 v U'.heap L ∧ FrameEnd U o U' L ({ frames := 0, cells := 0, slots := 0, locals := 0 } : Room).cells ({ frames := 0, cells := 0, slots := 0, locals := 0 } : Room).slots) := by
  refine MetFree.of_bodySF (Jvm.Free.JP.mathPlain rfl (by decide +kernel)) hisR ?_
  intro p e s m args below meth c s₁ Bd hml0 hP hK
  obtain ⟨rfl, hZ, hh⟩ := hP
  have hx := Bd.exec
  have hby := Bd.bytes
  have hml : c.maxLocals = 4 := hml0
  have hown : s.vm.findClass "java/lang/Math" = some m.cls := findClass_of_methodNamed Bd.named
  have hnm := (name_of_methodNamed Bd.named Bd.method).1
  have X0 : Stand p l e ({ frames := 0, cells := 0, slots := 0, locals := 0 } : Room) s m #[(.long q1), (.long q2)] below meth c s₁ [] 0 0 := Stand.of_body Bd
  have e0 : s₁.heap = h0 := by rw [← hh, Bd.state]; rfl
  have N0 := Fr.nil n0
  have pre0 : ∀ t, Steps p.tables e below (s₁.setTop (mkF m 0 #[.val (.long q1), .second, .val (.long q2), .second] [])) t → Steps p.tables e below (s₁.setTop (entryFrame m #[(.long q1), (.long q2)] 4)) t := fun t k => castTop (ef8_9 m q1 q2) k
  obtain ⟨fs, hr, hrun, hended, hW, hsame⟩ := X0.leave (v := some (.long q2)) (fun h => by rw [Bd.returns] at h; cases h)
  refine ⟨_, _, pre0 _ ?_, hrun, hended, _, _, rfl, ?_, ⟨_, rfl⟩, hW, hsame.mono (by decide) (by decide)⟩
  · show Steps p.tables e below (s₁.setTop (mkF m 0 #[.val (.long q1), .second, .val (.long q2), .second] [])) _
    refine XS.lloadN X0.here hx rfl (hb hby d8_0) rfl ?_
    show Steps p.tables e below (s₁.setTop (mkF m 1 #[.val (.long q1), .second, .val (.long q2), .second] [(.long q1)])) _
    refine XS.lloadN X0.here hx rfl (hb hby d8_1) rfl ?_
    show Steps p.tables e below (s₁.setTop (mkF m 2 #[.val (.long q1), .second, .val (.long q2), .second] [(.long q2), (.long q1)])) _
    refine XS.lcmp X0.here hx rfl (hb hby d8_2) rfl ?_
    show Steps p.tables e below (s₁.setTop (mkF m 3 #[.val (.long q1), .second, .val (.long q2), .second] [(.int (lcmpW q1 q2))])) _
    refine XS.ifYes X0.here hx rfl (pc0 := 3) (pc' := 10) rfl (hb hby d8_3) rfl ((if0 _ _).trans (tlt hc0).2.2.1) (by decide) (by decide) ?_
    show Steps p.tables e below (s₁.setTop (mkF m 10 #[.val (.long q1), .second, .val (.long q2), .second] [])) _
    refine XS.lloadN X0.here hx rfl (hb hby d8_10) rfl ?_
    show Steps p.tables e below (s₁.setTop (mkF m 11 #[.val (.long q1), .second, .val (.long q2), .second] [(.long q2)])) _
    exact retOut X0 hx Bd.returns rfl (Or.inr (Or.inl ⟨rfl, rfl, _, rfl⟩)) (hb hby d8_11) hr
  · show Q8_9 Z q1 q2 h0 n0 _ s₁.heap _
    rw [e0]
    exact ⟨rfl, N0, rfl⟩
theorem ef7_10 (m : MethodId) (a1 : Addr) (q2 : Int64) (p3 : Int32) : entryFrame m #[(.ref a1), (.long q2), (.int p3)] 6 = mkF m 0 #[.val (.ref a1), .val (.long q2), .second, .val (.int p3), .unset, .unset] [] := by first | (simp [entryFrame, mkF, argsToLocals, Value.category]; done) | rfl
def Q7_10 (Z : State) (a1 : Addr) (q2 : Int64) (p3 : Int32) (p4 : Int32) (p5 : Int32) (a6 : Addr) (h0 : Heap) (n0 : Nat) (v : Option Value) (h : Heap) (L : List Loc) : Prop := v = none ∧ Fr n0 L ∧ Keep h0 h [a1] ∧ Fld Z h a1 "stavelog/wire/History" "written" "J" (.long (0 : Int64)) ∧ Fld Z h a1 "stavelog/wire/History" "literalsLeft" "I" (.int p4) ∧ Fld Z h a1 "stavelog/wire/History" "reachable" "J" (.long (0 : Int64)) ∧ Fld Z h a1 "stavelog/wire/History" "kept" "I" (.int p5) ∧ Exa Z h a1 "stavelog/wire/History" ∧ Fld Z h a1 "stavelog/wire/History" "distance" "I" (.int (q2.toInt32)) ∧ Fld Z h a1 "stavelog/wire/History" "copyLeft" "I" (.int p3) ∧ Fld Z h a1 "stavelog/wire/History" "decompression" "Lstavelog/wire/Decompression;" (.ref a6) ∧ Fld Z h a1 "stavelog/wire/History" "literalAt" "I" (.int (0 : Int32)) ∧ Fld Z h a1 "stavelog/wire/History" "literals" "Ljava/nio/ByteBuffer;" .null ∧ Fld Z h a1 "stavelog/wire/History" "sum" "Ljava/util/zip/Checksum;" .null
set_option maxRecDepth 65536 in
set_option maxHeartbeats 40000000 in
theorem rm7_10 (l : Launch) (Z : State) (a0 : Array Value) (hw : ∀ d ∈ tables_1, d.before a0 Z = true) (ws : List Jvm.Cond) (a1 : Addr) (q2 : Int64) (p3 : Int32) (p4 : Int32) (p5 : Int32) (a6 : Addr) (h0 : Heap) (n0 : Nat) (Z0 : n0 ≤ h0.size) (F_a1_written : Fld Z h0 a1 "stavelog/wire/History" "written" "J" (.long (0 : Int64))) (F_a1_literalsLeft : Fld Z h0 a1 "stavelog/wire/History" "literalsLeft" "I" (.int p4)) (F_a1_reachable : Fld Z h0 a1 "stavelog/wire/History" "reachable" "J" (.long (0 : Int64))) (F_a1_kept : Fld Z h0 a1 "stavelog/wire/History" "kept" "I" (.int p5)) (hc4 : (0 : Int32) < (lcmpW (p4.toInt64) (p5.toInt64))) (hc5 : ¬ ((lcmpW q2 (1 : Int64)) < (0 : Int32))) (hc6 : ¬ ((0 : Int32) < (lcmpW q2 (p5.toInt64)))) (E_a1 : Exa Z h0 a1 "stavelog/wire/History") (F_a1_distance : Fld Z h0 a1 "stavelog/wire/History" "distance" "I" (.int (0 : Int32))) (g_a1 : n0 ≤ a1) (F_a1_copyLeft : Fld Z h0 a1 "stavelog/wire/History" "copyLeft" "I" (.int (0 : Int32))) (F_a1_decompression : Fld Z h0 a1 "stavelog/wire/History" "decompression" "Lstavelog/wire/Decompression;" (.ref a6)) (F_a1_literalAt : Fld Z h0 a1 "stavelog/wire/History" "literalAt" "I" (.int (0 : Int32))) (F_a1_literals : Fld Z h0 a1 "stavelog/wire/History" "literals" "Ljava/nio/ByteBuffer;" .null) (F_a1_sum : Fld Z h0 a1 "stavelog/wire/History" "sum" "Ljava/util/zip/Checksum;" .null) :
    MetFree l (⟨"stavelog/wire/History", "copy", "(JI)V"⟩ : MethodName) (head1 (Jvm.Cond.code (⟨"stavelog/wire/History", "copy", "(JI)V"⟩ : MethodName) prog_235_method_11_code 6 none :: ws) ({ frames := 1, cells := 0, slots := 0, locals := 15 } : Room)) (fun a U => a = #[(.ref a1), (.long q2), (.int p3)] ∧ Z.Warmed39 U.vm ∧ U.heap = h0) (fun _ _ _ _ _ => True) (fun _ U o U' => ∃ v L, o = .returned v ∧ Q7_10 Z a1 q2 p3 p4 p5 a6 h0 n0 v U'.heap L ∧ FrameEnd U o U' L ({ frames := 1, cells := 0, slots := 0, locals := 15 } : Room).cells ({ frames := 1, cells := 0, slots := 0, locals := 15 } : Room).slots) := by
  refine MetFree.of_bodySF (plainFor_of_name pn_stavelog_wire_History) hisR ?_
  intro p e s m args below meth c s₁ Bd hml0 hP hK
  obtain ⟨rfl, hZ, hh⟩ := hP
  have hx := Bd.exec
  have hby := Bd.bytes
  have hml : c.maxLocals = 6 := hml0
  have hown : s.vm.findClass "stavelog/wire/History" = some m.cls := findClass_of_methodNamed Bd.named
  have hnm := (name_of_methodNamed Bd.named Bd.method).1
  have X0 : Stand p l e ({ frames := 1, cells := 0, slots := 0, locals := 15 } : Room) s m #[(.ref a1), (.long q2), (.int p3)] below meth c s₁ [] 0 0 := Stand.of_body Bd
  have e0 : s₁.heap = h0 := by rw [← hh, Bd.state]; rfl
  have N0 := Fr.nil n0
  have pre0 : ∀ t, Steps p.tables e below (s₁.setTop (mkF m 0 #[.val (.ref a1), .val (.long q2), .second, .val (.int p3), .unset, .unset] [])) t → Steps p.tables e below (s₁.setTop (entryFrame m #[(.ref a1), (.long q2), (.int p3)] 6)) t := fun t k => castTop (ef7_10 m a1 q2 p3) k
  obtain ⟨T1, X1, e1, st1⟩ := getF X0 hx hZ hown (host := "") (Or.inl (own_w35 hw)) Via.refl e0 F_a1_written (g := (mkF m 1 #[.val (.ref a1), .val (.long q2), .second, .val (.int p3), .unset, .unset] [(.ref a1)])) rfl rfl (hb hby d7_1)
  obtain ⟨T2, X2, e2, st2⟩ := getF X1 hx hZ hown (host := "") (Or.inl (own_w39 hw)) Via.refl e1 F_a1_literalsLeft (g := (mkF m 5 #[.val (.ref a1), .val (.long q2), .second, .val (.int p3), .unset, .unset] [(.ref a1), (.long (0 : Int64))])) rfl rfl (hb hby d7_5)
  obtain ⟨T3, X3, e3, st3⟩ := getF X2 hx hZ hown (host := "") (Or.inl (own_w37 hw)) Via.refl e2 F_a1_reachable (g := (mkF m 11 #[.val (.ref a1), .val (.long q2), .second, .val (.int p3), .unset, .unset] [(.ref a1), (.long (p4.toInt64))])) rfl rfl (hb hby d7_11)
  obtain ⟨T4, X4, e4, st4⟩ := getF X3 hx hZ hown (host := "") (Or.inl (own_w33 hw)) Via.refl e3 F_a1_kept (g := (mkF m 16 #[.val (.ref a1), .val (.long q2), .second, .val (.int p3), .unset, .unset] [(.ref a1), (.long (p4.toInt64))])) rfl rfl (hb hby d7_16)
  obtain ⟨_, _, ⟨T5, L5, k5, n5⟩, -, X5, ⟨Lc5, hQ5, l5, y5, z5⟩, st5⟩ := Jvm.LawKit.callS X4 hx (y := (⟨"java/lang/Math", "min", "(JJ)J"⟩ : MethodName)) hown (mvT hZ (own_w59 hw)) (mvT hZ (own_w60 hw)) (mvT hZ (own_w61 hw)) (mvT hZ (own_w62 hw)) (by decide) (backOf (W := 0) (rm8_9 l Z a0 hw [] (p4.toInt64) (p5.toInt64) h0 n0 Z0 hc4) hZ (own_w62 hw) (own_w61 hw) (by decide) (by decide)) (g := (mkF m 20 #[.val (.ref a1), .val (.long q2), .second, .val (.int p3), .unset, .unset] [(.long (p5.toInt64)), (.long (p4.toInt64))])) rfl (by rw [hml]; rfl) (argsL := [(.long (p4.toInt64)), (.long (p5.toInt64))]) (rest := []) (lenOf pd__JJ_J rfl) rfl (by show 2 * 0 + _ ≤ _; exact Nat.le_of_eq rfl) (hb hby d7_20) (fun _ _ => ⟨rfl, e4, (by decide : 0 + 0 ≤ _), (by decide : 0 + 0 ≤ _)⟩)
  dsimp only [Pt.U, Pt.locs, Pt.cells, Pt.slots] at X5 l5 y5 z5 st5 hQ5
  subst l5 y5 z5
  obtain ⟨rfl, N5q, e5⟩ := hQ5
  have N5 := Fr.app N0 N5q
  obtain ⟨T6, h6, X6, e6, W6, st6⟩ := putF X5 hx hZ hown (host := "") (Or.inl (own_w63 hw)) Via.refl e5 F_a1_distance E_a1 (Or.inl (own_w64 hw)) (own_w3 hw) (ty := .int) (by decide) rfl rfl (g := (mkF m 57 #[.val (.ref a1), .val (.long q2), .second, .val (.int p3), .val (.long (p5.toInt64)), .second] [(.int (q2.toInt32)), (.ref a1)])) rfl rfl (hb hby d7_57)
  have KC7 : Keep h0 h6 [a1] := (Keep.refl h0 [a1]).wr W6 (Or.inl (List.mem_of_getElem? (i := 0) rfl))
  have Fw6 := F_a1_distance.same W6
  have N6 := Fr.snoc X6 N5 g_a1
  have c8 := E_a1.wr W6
  have c9 := F_a1_copyLeft.other W6 (Or.inr (slot_ne (C := "stavelog/wire/History") (Or.inl (own_w42 hw)) (Or.inl (own_w64 hw)) (by decide) (t := .int) (t' := .int) (by decide) (by decide)))
  obtain ⟨T10, h10, X10, e10, W10, st10⟩ := putF X6 hx hZ hown (host := "") (Or.inl (own_w41 hw)) Via.refl e6 c9 c8 (Or.inl (own_w42 hw)) (own_w3 hw) (ty := .int) (by decide) rfl rfl (g := (mkF m 62 #[.val (.ref a1), .val (.long q2), .second, .val (.int p3), .val (.long (p5.toInt64)), .second] [(.int p3), (.ref a1)])) rfl rfl (hb hby d7_62)
  have KC11 : Keep h0 h10 [a1] := KC7.wr W10 (Or.inl (List.mem_of_getElem? (i := 0) rfl))
  have Fw10 := c9.same W10
  have N10 := Fr.snoc X10 N6 g_a1
  have c12 := F_a1_decompression.other W6 (Or.inr (slot_ne (C := "stavelog/wire/History") (Or.inr (own_w27 hw)) (Or.inl (own_w64 hw)) (by decide) (t := (.object "stavelog/wire/Decompression")) (t' := .int) (by decide) (by decide)))
  have c13 := c12.other W10 (Or.inr (slot_ne (C := "stavelog/wire/History") (Or.inr (own_w27 hw)) (Or.inl (own_w42 hw)) (by decide) (t := (.object "stavelog/wire/Decompression")) (t' := .int) (by decide) (by decide)))
  have c14 := F_a1_literalAt.other W6 (Or.inr (slot_ne (C := "stavelog/wire/History") (Or.inl (own_w53 hw)) (Or.inl (own_w64 hw)) (by decide) (t := .int) (t' := .int) (by decide) (by decide)))
  have c15 := c14.other W10 (Or.inr (slot_ne (C := "stavelog/wire/History") (Or.inl (own_w53 hw)) (Or.inl (own_w42 hw)) (by decide) (t := .int) (t' := .int) (by decide) (by decide)))
  have c16 := F_a1_literals.other W6 (Or.inr (slot_ne (C := "stavelog/wire/History") (Or.inl (own_w51 hw)) (Or.inl (own_w64 hw)) (by decide) (t := (.object "java/nio/ByteBuffer")) (t' := .int) (by decide) (by decide)))
  have c17 := c16.other W10 (Or.inr (slot_ne (C := "stavelog/wire/History") (Or.inl (own_w51 hw)) (Or.inl (own_w42 hw)) (by decide) (t := (.object "java/nio/ByteBuffer")) (t' := .int) (by decide) (by decide)))
  have c18 := F_a1_sum.other W6 (Or.inr (slot_ne (C := "stavelog/wire/History") (Or.inl (own_w44 hw)) (Or.inl (own_w64 hw)) (by decide) (t := (.object "java/util/zip/Checksum")) (t' := .int) (by decide) (by decide)))
  have c19 := c18.other W10 (Or.inr (slot_ne (C := "stavelog/wire/History") (Or.inl (own_w44 hw)) (Or.inl (own_w42 hw)) (by decide) (t := (.object "java/util/zip/Checksum")) (t' := .int) (by decide) (by decide)))
  have c20 := F_a1_written.other W6 (Or.inr (slot_ne (C := "stavelog/wire/History") (Or.inl (own_w36 hw)) (Or.inl (own_w64 hw)) (by decide) (t := .long) (t' := .int) (by decide) (by decide)))
  have c21 := c20.other W10 (Or.inr (slot_ne (C := "stavelog/wire/History") (Or.inl (own_w36 hw)) (Or.inl (own_w42 hw)) (by decide) (t := .long) (t' := .int) (by decide) (by decide)))
  have c22 := F_a1_literalsLeft.other W6 (Or.inr (slot_ne (C := "stavelog/wire/History") (Or.inl (own_w40 hw)) (Or.inl (own_w64 hw)) (by decide) (t := .int) (t' := .int) (by decide) (by decide)))
  have c23 := c22.other W10 (Or.inr (slot_ne (C := "stavelog/wire/History") (Or.inl (own_w40 hw)) (Or.inl (own_w42 hw)) (by decide) (t := .int) (t' := .int) (by decide) (by decide)))
  have c24 := F_a1_reachable.other W6 (Or.inr (slot_ne (C := "stavelog/wire/History") (Or.inl (own_w38 hw)) (Or.inl (own_w64 hw)) (by decide) (t := .long) (t' := .int) (by decide) (by decide)))
  have c25 := c24.other W10 (Or.inr (slot_ne (C := "stavelog/wire/History") (Or.inl (own_w38 hw)) (Or.inl (own_w42 hw)) (by decide) (t := .long) (t' := .int) (by decide) (by decide)))
  have c26 := F_a1_kept.other W6 (Or.inr (slot_ne (C := "stavelog/wire/History") (Or.inl (own_w34 hw)) (Or.inl (own_w64 hw)) (by decide) (t := .int) (t' := .int) (by decide) (by decide)))
  have c27 := c26.other W10 (Or.inr (slot_ne (C := "stavelog/wire/History") (Or.inl (own_w34 hw)) (Or.inl (own_w42 hw)) (by decide) (t := .int) (t' := .int) (by decide) (by decide)))
  have c28 := c8.wr W10
  have c29 := Fw6.other W10 (Or.inr (slot_ne (C := "stavelog/wire/History") (Or.inl (own_w64 hw)) (Or.inl (own_w42 hw)) (by decide) (t := .int) (t' := .int) (by decide) (by decide)))
  obtain ⟨fs, hr, hrun, hended, hW, hsame⟩ := X10.leave (v := none) (fun _ => rfl)
  refine ⟨_, _, pre0 _ ?_, hrun, hended, _, _, rfl, ?_, ⟨_, rfl⟩, hW, hsame.mono (by decide) (by decide)⟩
  · show Steps p.tables e below (s₁.setTop (mkF m 0 #[.val (.ref a1), .val (.long q2), .second, .val (.int p3), .unset, .unset] [])) _
    refine XS.aloadN X0.here hx rfl (hb hby d7_0) rfl rfl ?_
    show Steps p.tables e below (s₁.setTop (mkF m 1 #[.val (.ref a1), .val (.long q2), .second, .val (.int p3), .unset, .unset] [(.ref a1)])) _
    refine st1 _ ?_
    show Steps p.tables e below (T1.setTop (mkF m 4 #[.val (.ref a1), .val (.long q2), .second, .val (.int p3), .unset, .unset] [(.long (0 : Int64))])) _
    refine XS.aloadN X1.here hx rfl (hb hby d7_4) rfl rfl ?_
    show Steps p.tables e below (T1.setTop (mkF m 5 #[.val (.ref a1), .val (.long q2), .second, .val (.int p3), .unset, .unset] [(.ref a1), (.long (0 : Int64))])) _
    refine st2 _ ?_
    show Steps p.tables e below (T2.setTop (mkF m 8 #[.val (.ref a1), .val (.long q2), .second, .val (.int p3), .unset, .unset] [(.int p4), (.long (0 : Int64))])) _
    refine XS.i2l X2.here hx rfl (hb hby d7_8) rfl ?_
    show Steps p.tables e below (T2.setTop (mkF m 9 #[.val (.ref a1), .val (.long q2), .second, .val (.int p3), .unset, .unset] [(.long (p4.toInt64)), (.long (0 : Int64))])) _
    refine XS.ladd X2.here hx rfl (hb hby d7_9) rfl ?_
    show Steps p.tables e below (T2.setTop (mkF m 10 #[.val (.ref a1), .val (.long q2), .second, .val (.int p3), .unset, .unset] [(.long ((0 : Int64) + (p4.toInt64)))])) _
    rw [Int64.zero_add]
    show Steps p.tables e below (T2.setTop (mkF m 10 #[.val (.ref a1), .val (.long q2), .second, .val (.int p3), .unset, .unset] [(.long (p4.toInt64))])) _
    refine XS.aloadN X2.here hx rfl (hb hby d7_10) rfl rfl ?_
    show Steps p.tables e below (T2.setTop (mkF m 11 #[.val (.ref a1), .val (.long q2), .second, .val (.int p3), .unset, .unset] [(.ref a1), (.long (p4.toInt64))])) _
    refine st3 _ ?_
    show Steps p.tables e below (T3.setTop (mkF m 14 #[.val (.ref a1), .val (.long q2), .second, .val (.int p3), .unset, .unset] [(.long (0 : Int64)), (.long (p4.toInt64))])) _
    refine XS.lsub X3.here hx rfl (hb hby d7_14) rfl ?_
    show Steps p.tables e below (T3.setTop (mkF m 15 #[.val (.ref a1), .val (.long q2), .second, .val (.int p3), .unset, .unset] [(.long ((p4.toInt64) - (0 : Int64)))])) _
    rw [Int64.sub_zero]
    show Steps p.tables e below (T3.setTop (mkF m 15 #[.val (.ref a1), .val (.long q2), .second, .val (.int p3), .unset, .unset] [(.long (p4.toInt64))])) _
    refine XS.aloadN X3.here hx rfl (hb hby d7_15) rfl rfl ?_
    show Steps p.tables e below (T3.setTop (mkF m 16 #[.val (.ref a1), .val (.long q2), .second, .val (.int p3), .unset, .unset] [(.ref a1), (.long (p4.toInt64))])) _
    refine st4 _ ?_
    show Steps p.tables e below (T4.setTop (mkF m 19 #[.val (.ref a1), .val (.long q2), .second, .val (.int p3), .unset, .unset] [(.int p5), (.long (p4.toInt64))])) _
    refine XS.i2l X4.here hx rfl (hb hby d7_19) rfl ?_
    show Steps p.tables e below (T4.setTop (mkF m 20 #[.val (.ref a1), .val (.long q2), .second, .val (.int p3), .unset, .unset] [(.long (p5.toInt64)), (.long (p4.toInt64))])) _
    refine st5 _ ?_
    show Steps p.tables e below (T5.setTop (mkF m 23 #[.val (.ref a1), .val (.long q2), .second, .val (.int p3), .unset, .unset] [(.long (p5.toInt64))])) _
    refine XS.lstore X5.here hx rfl (hb hby d7_23) rfl (l' := #[.val (.ref a1), .val (.long q2), .second, .val (.int p3), .val (.long (p5.toInt64)), .second]) rfl ?_
    show Steps p.tables e below (T5.setTop (mkF m 25 #[.val (.ref a1), .val (.long q2), .second, .val (.int p3), .val (.long (p5.toInt64)), .second] [])) _
    refine XS.lloadN X5.here hx rfl (hb hby d7_25) rfl ?_
    show Steps p.tables e below (T5.setTop (mkF m 26 #[.val (.ref a1), .val (.long q2), .second, .val (.int p3), .val (.long (p5.toInt64)), .second] [(.long q2)])) _
    refine XS.lconst X5.here hx rfl (hb hby d7_26) ?_
    show Steps p.tables e below (T5.setTop (mkF m 27 #[.val (.ref a1), .val (.long q2), .second, .val (.int p3), .val (.long (p5.toInt64)), .second] [(.long (1 : Int64)), (.long q2)])) _
    refine XS.lcmp X5.here hx rfl (hb hby d7_27) rfl ?_
    show Steps p.tables e below (T5.setTop (mkF m 28 #[.val (.ref a1), .val (.long q2), .second, .val (.int p3), .val (.long (p5.toInt64)), .second] [(.int (lcmpW q2 (1 : Int64)))])) _
    refine XS.ifNo X5.here hx rfl (hb hby d7_28) rfl ((if0 _ _).trans (flt hc5).1) ?_
    show Steps p.tables e below (T5.setTop (mkF m 31 #[.val (.ref a1), .val (.long q2), .second, .val (.int p3), .val (.long (p5.toInt64)), .second] [])) _
    refine XS.lloadN X5.here hx rfl (hb hby d7_31) rfl ?_
    show Steps p.tables e below (T5.setTop (mkF m 32 #[.val (.ref a1), .val (.long q2), .second, .val (.int p3), .val (.long (p5.toInt64)), .second] [(.long q2)])) _
    refine XS.lload X5.here hx rfl (hb hby d7_32) rfl ?_
    show Steps p.tables e below (T5.setTop (mkF m 34 #[.val (.ref a1), .val (.long q2), .second, .val (.int p3), .val (.long (p5.toInt64)), .second] [(.long (p5.toInt64)), (.long q2)])) _
    refine XS.lcmp X5.here hx rfl (hb hby d7_34) rfl ?_
    show Steps p.tables e below (T5.setTop (mkF m 35 #[.val (.ref a1), .val (.long q2), .second, .val (.int p3), .val (.long (p5.toInt64)), .second] [(.int (lcmpW q2 (p5.toInt64)))])) _
    refine XS.ifYes X5.here hx rfl (pc0 := 35) (pc' := 54) rfl (hb hby d7_35) rfl ((if0 _ _).trans (flt hc6).2.2.2) (by decide) (by decide) ?_
    show Steps p.tables e below (T5.setTop (mkF m 54 #[.val (.ref a1), .val (.long q2), .second, .val (.int p3), .val (.long (p5.toInt64)), .second] [])) _
    refine XS.aloadN X5.here hx rfl (hb hby d7_54) rfl rfl ?_
    show Steps p.tables e below (T5.setTop (mkF m 55 #[.val (.ref a1), .val (.long q2), .second, .val (.int p3), .val (.long (p5.toInt64)), .second] [(.ref a1)])) _
    refine XS.lloadN X5.here hx rfl (hb hby d7_55) rfl ?_
    show Steps p.tables e below (T5.setTop (mkF m 56 #[.val (.ref a1), .val (.long q2), .second, .val (.int p3), .val (.long (p5.toInt64)), .second] [(.long q2), (.ref a1)])) _
    refine XS.l2i X5.here hx rfl (hb hby d7_56) rfl ?_
    show Steps p.tables e below (T5.setTop (mkF m 57 #[.val (.ref a1), .val (.long q2), .second, .val (.int p3), .val (.long (p5.toInt64)), .second] [(.int (q2.toInt32)), (.ref a1)])) _
    refine st6 _ ?_
    show Steps p.tables e below (T6.setTop (mkF m 60 #[.val (.ref a1), .val (.long q2), .second, .val (.int p3), .val (.long (p5.toInt64)), .second] [])) _
    refine XS.aloadN X6.here hx rfl (hb hby d7_60) rfl rfl ?_
    show Steps p.tables e below (T6.setTop (mkF m 61 #[.val (.ref a1), .val (.long q2), .second, .val (.int p3), .val (.long (p5.toInt64)), .second] [(.ref a1)])) _
    refine XS.iloadN X6.here hx rfl (hb hby d7_61) rfl ?_
    show Steps p.tables e below (T6.setTop (mkF m 62 #[.val (.ref a1), .val (.long q2), .second, .val (.int p3), .val (.long (p5.toInt64)), .second] [(.int p3), (.ref a1)])) _
    refine st10 _ ?_
    show Steps p.tables e below (T10.setTop (mkF m 65 #[.val (.ref a1), .val (.long q2), .second, .val (.int p3), .val (.long (p5.toInt64)), .second] [])) _
    exact X10.returnOut hx Bd.returns (hb hby d7_65) hr
  · show Q7_10 Z a1 q2 p3 p4 p5 a6 h0 n0 _ T10.heap _
    rw [e10]
    exact ⟨rfl, N10, KC11, c21, c23, c25, c27, c28, c29, Fw10, c13, c15, c17, c19⟩
theorem ef10_11 (m : MethodId) (a1 : Addr) : entryFrame m #[(.ref a1)] 1 = mkF m 0 #[.val (.ref a1)] [] := by first | (simp [entryFrame, mkF, argsToLocals, Value.category]; done) | rfl
def Q10_11 (Z : State) (a1 : Addr) (p2 : Int32) (p3 : Int32) (h0 : Heap) (n0 : Nat) (v : Option Value) (h : Heap) (L : List Loc) : Prop := v = some (.long ((p2.toInt64) + (p3.toInt64))) ∧ Fr n0 L ∧ h = h0
set_option maxRecDepth 65536 in
set_option maxHeartbeats 40000000 in
theorem rm10_11 (l : Launch) (Z : State) (a0 : Array Value) (hw : ∀ d ∈ tables_1, d.before a0 Z = true) (ws : List Jvm.Cond) (a1 : Addr) (p2 : Int32) (p3 : Int32) (h0 : Heap) (n0 : Nat) (Z0 : n0 ≤ h0.size) (F_a1_written : Fld Z h0 a1 "stavelog/wire/History" "written" "J" (.long (0 : Int64))) (F_a1_literalsLeft : Fld Z h0 a1 "stavelog/wire/History" "literalsLeft" "I" (.int p2)) (F_a1_copyLeft : Fld Z h0 a1 "stavelog/wire/History" "copyLeft" "I" (.int p3)) :
    MetFree l (⟨"stavelog/wire/History", "written", "()J"⟩ : MethodName) (head1 (Jvm.Cond.code (⟨"stavelog/wire/History", "written", "()J"⟩ : MethodName) prog_235_method_7_code 1 (some .long) :: ws) ({ frames := 0, cells := 0, slots := 0, locals := 0 } : Room)) (fun a U => a = #[(.ref a1)] ∧ Z.Warmed39 U.vm ∧ U.heap = h0) (fun _ _ _ _ _ => True) (fun _ U o U' => ∃ v L, o = .returned v ∧ Q10_11 Z a1 p2 p3 h0 n0 v U'.heap L ∧ FrameEnd U o U' L ({ frames := 0, cells := 0, slots := 0, locals := 0 } : Room).cells ({ frames := 0, cells := 0, slots := 0, locals := 0 } : Room).slots) := by
  refine MetFree.of_bodySF (plainFor_of_name pn_stavelog_wire_History) hisR ?_
  intro p e s m args below meth c s₁ Bd hml0 hP hK
  obtain ⟨rfl, hZ, hh⟩ := hP
  have hx := Bd.exec
  have hby := Bd.bytes
  have hml : c.maxLocals = 1 := hml0
  have hown : s.vm.findClass "stavelog/wire/History" = some m.cls := findClass_of_methodNamed Bd.named
  have hnm := (name_of_methodNamed Bd.named Bd.method).1
  have X0 : Stand p l e ({ frames := 0, cells := 0, slots := 0, locals := 0 } : Room) s m #[(.ref a1)] below meth c s₁ [] 0 0 := Stand.of_body Bd
  have e0 : s₁.heap = h0 := by rw [← hh, Bd.state]; rfl
  have N0 := Fr.nil n0
  have pre0 : ∀ t, Steps p.tables e below (s₁.setTop (mkF m 0 #[.val (.ref a1)] [])) t → Steps p.tables e below (s₁.setTop (entryFrame m #[(.ref a1)] 1)) t := fun t k => castTop (ef10_11 m a1) k
  obtain ⟨T1, X1, e1, st1⟩ := getF X0 hx hZ hown (host := "") (Or.inl (own_w35 hw)) Via.refl e0 F_a1_written (g := (mkF m 1 #[.val (.ref a1)] [(.ref a1)])) rfl rfl (hb hby d10_1)
  obtain ⟨T2, X2, e2, st2⟩ := getF X1 hx hZ hown (host := "") (Or.inl (own_w39 hw)) Via.refl e1 F_a1_literalsLeft (g := (mkF m 5 #[.val (.ref a1)] [(.ref a1), (.long (0 : Int64))])) rfl rfl (hb hby d10_5)
  obtain ⟨T3, X3, e3, st3⟩ := getF X2 hx hZ hown (host := "") (Or.inl (own_w41 hw)) Via.refl e2 F_a1_copyLeft (g := (mkF m 11 #[.val (.ref a1)] [(.ref a1), (.long (p2.toInt64))])) rfl rfl (hb hby d10_11)
  obtain ⟨fs, hr, hrun, hended, hW, hsame⟩ := X3.leave (v := some (.long ((p2.toInt64) + (p3.toInt64)))) (fun h => by rw [Bd.returns] at h; cases h)
  refine ⟨_, _, pre0 _ ?_, hrun, hended, _, _, rfl, ?_, ⟨_, rfl⟩, hW, hsame.mono (by decide) (by decide)⟩
  · show Steps p.tables e below (s₁.setTop (mkF m 0 #[.val (.ref a1)] [])) _
    refine XS.aloadN X0.here hx rfl (hb hby d10_0) rfl rfl ?_
    show Steps p.tables e below (s₁.setTop (mkF m 1 #[.val (.ref a1)] [(.ref a1)])) _
    refine st1 _ ?_
    show Steps p.tables e below (T1.setTop (mkF m 4 #[.val (.ref a1)] [(.long (0 : Int64))])) _
    refine XS.aloadN X1.here hx rfl (hb hby d10_4) rfl rfl ?_
    show Steps p.tables e below (T1.setTop (mkF m 5 #[.val (.ref a1)] [(.ref a1), (.long (0 : Int64))])) _
    refine st2 _ ?_
    show Steps p.tables e below (T2.setTop (mkF m 8 #[.val (.ref a1)] [(.int p2), (.long (0 : Int64))])) _
    refine XS.i2l X2.here hx rfl (hb hby d10_8) rfl ?_
    show Steps p.tables e below (T2.setTop (mkF m 9 #[.val (.ref a1)] [(.long (p2.toInt64)), (.long (0 : Int64))])) _
    refine XS.ladd X2.here hx rfl (hb hby d10_9) rfl ?_
    show Steps p.tables e below (T2.setTop (mkF m 10 #[.val (.ref a1)] [(.long ((0 : Int64) + (p2.toInt64)))])) _
    rw [Int64.zero_add]
    show Steps p.tables e below (T2.setTop (mkF m 10 #[.val (.ref a1)] [(.long (p2.toInt64))])) _
    refine XS.aloadN X2.here hx rfl (hb hby d10_10) rfl rfl ?_
    show Steps p.tables e below (T2.setTop (mkF m 11 #[.val (.ref a1)] [(.ref a1), (.long (p2.toInt64))])) _
    refine st3 _ ?_
    show Steps p.tables e below (T3.setTop (mkF m 14 #[.val (.ref a1)] [(.int p3), (.long (p2.toInt64))])) _
    refine XS.i2l X3.here hx rfl (hb hby d10_14) rfl ?_
    show Steps p.tables e below (T3.setTop (mkF m 15 #[.val (.ref a1)] [(.long (p3.toInt64)), (.long (p2.toInt64))])) _
    refine XS.ladd X3.here hx rfl (hb hby d10_15) rfl ?_
    show Steps p.tables e below (T3.setTop (mkF m 16 #[.val (.ref a1)] [(.long ((p2.toInt64) + (p3.toInt64)))])) _
    exact retOut X3 hx Bd.returns rfl (Or.inr (Or.inl ⟨rfl, rfl, _, rfl⟩)) (hb hby d10_16) hr
  · show Q10_11 Z a1 p2 p3 h0 n0 _ T3.heap _
    rw [e3]
    exact ⟨rfl, N0, rfl⟩
theorem ef8_12 (m : MethodId) (q1 : Int64) (q2 : Int64) : entryFrame m #[(.long q1), (.long q2)] 4 = mkF m 0 #[.val (.long q1), .second, .val (.long q2), .second] [] := by first | (simp [entryFrame, mkF, argsToLocals, Value.category]; done) | rfl
def Q8_12 (Z : State) (q1 : Int64) (q2 : Int64) (h0 : Heap) (n0 : Nat) (v : Option Value) (h : Heap) (L : List Loc) : Prop := v = some (.long q1) ∧ Fr n0 L ∧ h = h0
set_option maxRecDepth 65536 in
set_option maxHeartbeats 40000000 in
theorem rm8_12 (l : Launch) (Z : State) (a0 : Array Value) (hw : ∀ d ∈ tables_1, d.before a0 Z = true) (ws : List Jvm.Cond) (q1 : Int64) (q2 : Int64) (h0 : Heap) (n0 : Nat) (Z0 : n0 ≤ h0.size) (hc0 : ¬ ((0 : Int32) < (lcmpW q1 q2))) :
    MetFree l (⟨"java/lang/Math", "min", "(JJ)J"⟩ : MethodName) (head1 (Jvm.Cond.code (⟨"java/lang/Math", "min", "(JJ)J"⟩ : MethodName) jdk_29_method_70_code 4 (some .long) :: ws) ({ frames := 0, cells := 0, slots := 0, locals := 0 } : Room)) (fun a U => a = #[(.long q1), (.long q2)] ∧ Z.Warmed39 U.vm ∧ U.heap = h0) (fun _ _ _ _ _ => True) (fun _ U o U' => ∃ v L, o = .returned v ∧ Q8_12 Z q1 q2 h0 n0 v U'.heap L ∧ FrameEnd U o U' L ({ frames := 0, cells := 0, slots := 0, locals := 0 } : Room).cells ({ frames := 0, cells := 0, slots := 0, locals := 0 } : Room).slots) := by
  refine MetFree.of_bodySF (Jvm.Free.JP.mathPlain rfl (by decide +kernel)) hisR ?_
  intro p e s m args below meth c s₁ Bd hml0 hP hK
  obtain ⟨rfl, hZ, hh⟩ := hP
  have hx := Bd.exec
  have hby := Bd.bytes
  have hml : c.maxLocals = 4 := hml0
  have hown : s.vm.findClass "java/lang/Math" = some m.cls := findClass_of_methodNamed Bd.named
  have hnm := (name_of_methodNamed Bd.named Bd.method).1
  have X0 : Stand p l e ({ frames := 0, cells := 0, slots := 0, locals := 0 } : Room) s m #[(.long q1), (.long q2)] below meth c s₁ [] 0 0 := Stand.of_body Bd
  have e0 : s₁.heap = h0 := by rw [← hh, Bd.state]; rfl
  have N0 := Fr.nil n0
  have pre0 : ∀ t, Steps p.tables e below (s₁.setTop (mkF m 0 #[.val (.long q1), .second, .val (.long q2), .second] [])) t → Steps p.tables e below (s₁.setTop (entryFrame m #[(.long q1), (.long q2)] 4)) t := fun t k => castTop (ef8_12 m q1 q2) k
  obtain ⟨fs, hr, hrun, hended, hW, hsame⟩ := X0.leave (v := some (.long q1)) (fun h => by rw [Bd.returns] at h; cases h)
  refine ⟨_, _, pre0 _ ?_, hrun, hended, _, _, rfl, ?_, ⟨_, rfl⟩, hW, hsame.mono (by decide) (by decide)⟩
  · show Steps p.tables e below (s₁.setTop (mkF m 0 #[.val (.long q1), .second, .val (.long q2), .second] [])) _
    refine XS.lloadN X0.here hx rfl (hb hby d8_0) rfl ?_
    show Steps p.tables e below (s₁.setTop (mkF m 1 #[.val (.long q1), .second, .val (.long q2), .second] [(.long q1)])) _
    refine XS.lloadN X0.here hx rfl (hb hby d8_1) rfl ?_
    show Steps p.tables e below (s₁.setTop (mkF m 2 #[.val (.long q1), .second, .val (.long q2), .second] [(.long q2), (.long q1)])) _
    refine XS.lcmp X0.here hx rfl (hb hby d8_2) rfl ?_
    show Steps p.tables e below (s₁.setTop (mkF m 3 #[.val (.long q1), .second, .val (.long q2), .second] [(.int (lcmpW q1 q2))])) _
    refine XS.ifNo X0.here hx rfl (hb hby d8_3) rfl ((if0 _ _).trans (flt hc0).2.2.1) ?_
    show Steps p.tables e below (s₁.setTop (mkF m 6 #[.val (.long q1), .second, .val (.long q2), .second] [])) _
    refine XS.lloadN X0.here hx rfl (hb hby d8_6) rfl ?_
    show Steps p.tables e below (s₁.setTop (mkF m 7 #[.val (.long q1), .second, .val (.long q2), .second] [(.long q1)])) _
    refine XS.goto X0.here hx rfl (pc0 := 7) (pc' := 11) rfl (hb hby d8_7) (by decide) (by decide) ?_
    show Steps p.tables e below (s₁.setTop (mkF m 11 #[.val (.long q1), .second, .val (.long q2), .second] [(.long q1)])) _
    exact retOut X0 hx Bd.returns rfl (Or.inr (Or.inl ⟨rfl, rfl, _, rfl⟩)) (hb hby d8_11) hr
  · show Q8_12 Z q1 q2 h0 n0 _ s₁.heap _
    rw [e0]
    exact ⟨rfl, N0, rfl⟩
theorem ef7_13 (m : MethodId) (a1 : Addr) (q2 : Int64) (p3 : Int32) : entryFrame m #[(.ref a1), (.long q2), (.int p3)] 6 = mkF m 0 #[.val (.ref a1), .val (.long q2), .second, .val (.int p3), .unset, .unset] [] := by first | (simp [entryFrame, mkF, argsToLocals, Value.category]; done) | rfl
def Q7_13 (Z : State) (a1 : Addr) (q2 : Int64) (p3 : Int32) (p4 : Int32) (p5 : Int32) (a6 : Addr) (h0 : Heap) (n0 : Nat) (v : Option Value) (h : Heap) (L : List Loc) : Prop := v = none ∧ Fr n0 L ∧ Keep h0 h [a1] ∧ Fld Z h a1 "stavelog/wire/History" "written" "J" (.long (0 : Int64)) ∧ Fld Z h a1 "stavelog/wire/History" "literalsLeft" "I" (.int p4) ∧ Fld Z h a1 "stavelog/wire/History" "reachable" "J" (.long (0 : Int64)) ∧ Fld Z h a1 "stavelog/wire/History" "kept" "I" (.int p5) ∧ Exa Z h a1 "stavelog/wire/History" ∧ Fld Z h a1 "stavelog/wire/History" "distance" "I" (.int (q2.toInt32)) ∧ Fld Z h a1 "stavelog/wire/History" "copyLeft" "I" (.int p3) ∧ Fld Z h a1 "stavelog/wire/History" "decompression" "Lstavelog/wire/Decompression;" (.ref a6) ∧ Fld Z h a1 "stavelog/wire/History" "literalAt" "I" (.int (0 : Int32)) ∧ Fld Z h a1 "stavelog/wire/History" "literals" "Ljava/nio/ByteBuffer;" .null ∧ Fld Z h a1 "stavelog/wire/History" "sum" "Ljava/util/zip/Checksum;" .null
set_option maxRecDepth 65536 in
set_option maxHeartbeats 40000000 in
theorem rm7_13 (l : Launch) (Z : State) (a0 : Array Value) (hw : ∀ d ∈ tables_1, d.before a0 Z = true) (ws : List Jvm.Cond) (a1 : Addr) (q2 : Int64) (p3 : Int32) (p4 : Int32) (p5 : Int32) (a6 : Addr) (h0 : Heap) (n0 : Nat) (Z0 : n0 ≤ h0.size) (F_a1_written : Fld Z h0 a1 "stavelog/wire/History" "written" "J" (.long (0 : Int64))) (F_a1_literalsLeft : Fld Z h0 a1 "stavelog/wire/History" "literalsLeft" "I" (.int p4)) (F_a1_reachable : Fld Z h0 a1 "stavelog/wire/History" "reachable" "J" (.long (0 : Int64))) (F_a1_kept : Fld Z h0 a1 "stavelog/wire/History" "kept" "I" (.int p5)) (hc4 : ¬ ((0 : Int32) < (lcmpW (p4.toInt64) (p5.toInt64)))) (hc5 : ¬ ((lcmpW q2 (1 : Int64)) < (0 : Int32))) (hc6 : ¬ ((0 : Int32) < (lcmpW q2 (p4.toInt64)))) (E_a1 : Exa Z h0 a1 "stavelog/wire/History") (F_a1_distance : Fld Z h0 a1 "stavelog/wire/History" "distance" "I" (.int (0 : Int32))) (g_a1 : n0 ≤ a1) (F_a1_copyLeft : Fld Z h0 a1 "stavelog/wire/History" "copyLeft" "I" (.int (0 : Int32))) (F_a1_decompression : Fld Z h0 a1 "stavelog/wire/History" "decompression" "Lstavelog/wire/Decompression;" (.ref a6)) (F_a1_literalAt : Fld Z h0 a1 "stavelog/wire/History" "literalAt" "I" (.int (0 : Int32))) (F_a1_literals : Fld Z h0 a1 "stavelog/wire/History" "literals" "Ljava/nio/ByteBuffer;" .null) (F_a1_sum : Fld Z h0 a1 "stavelog/wire/History" "sum" "Ljava/util/zip/Checksum;" .null) :
    MetFree l (⟨"stavelog/wire/History", "copy", "(JI)V"⟩ : MethodName) (head1 (Jvm.Cond.code (⟨"stavelog/wire/History", "copy", "(JI)V"⟩ : MethodName) prog_235_method_11_code 6 none :: ws) ({ frames := 1, cells := 0, slots := 0, locals := 15 } : Room)) (fun a U => a = #[(.ref a1), (.long q2), (.int p3)] ∧ Z.Warmed39 U.vm ∧ U.heap = h0) (fun _ _ _ _ _ => True) (fun _ U o U' => ∃ v L, o = .returned v ∧ Q7_13 Z a1 q2 p3 p4 p5 a6 h0 n0 v U'.heap L ∧ FrameEnd U o U' L ({ frames := 1, cells := 0, slots := 0, locals := 15 } : Room).cells ({ frames := 1, cells := 0, slots := 0, locals := 15 } : Room).slots) := by
  refine MetFree.of_bodySF (plainFor_of_name pn_stavelog_wire_History) hisR ?_
  intro p e s m args below meth c s₁ Bd hml0 hP hK
  obtain ⟨rfl, hZ, hh⟩ := hP
  have hx := Bd.exec
  have hby := Bd.bytes
  have hml : c.maxLocals = 6 := hml0
  have hown : s.vm.findClass "stavelog/wire/History" = some m.cls := findClass_of_methodNamed Bd.named
  have hnm := (name_of_methodNamed Bd.named Bd.method).1
  have X0 : Stand p l e ({ frames := 1, cells := 0, slots := 0, locals := 15 } : Room) s m #[(.ref a1), (.long q2), (.int p3)] below meth c s₁ [] 0 0 := Stand.of_body Bd
  have e0 : s₁.heap = h0 := by rw [← hh, Bd.state]; rfl
  have N0 := Fr.nil n0
  have pre0 : ∀ t, Steps p.tables e below (s₁.setTop (mkF m 0 #[.val (.ref a1), .val (.long q2), .second, .val (.int p3), .unset, .unset] [])) t → Steps p.tables e below (s₁.setTop (entryFrame m #[(.ref a1), (.long q2), (.int p3)] 6)) t := fun t k => castTop (ef7_13 m a1 q2 p3) k
  obtain ⟨T1, X1, e1, st1⟩ := getF X0 hx hZ hown (host := "") (Or.inl (own_w35 hw)) Via.refl e0 F_a1_written (g := (mkF m 1 #[.val (.ref a1), .val (.long q2), .second, .val (.int p3), .unset, .unset] [(.ref a1)])) rfl rfl (hb hby d7_1)
  obtain ⟨T2, X2, e2, st2⟩ := getF X1 hx hZ hown (host := "") (Or.inl (own_w39 hw)) Via.refl e1 F_a1_literalsLeft (g := (mkF m 5 #[.val (.ref a1), .val (.long q2), .second, .val (.int p3), .unset, .unset] [(.ref a1), (.long (0 : Int64))])) rfl rfl (hb hby d7_5)
  obtain ⟨T3, X3, e3, st3⟩ := getF X2 hx hZ hown (host := "") (Or.inl (own_w37 hw)) Via.refl e2 F_a1_reachable (g := (mkF m 11 #[.val (.ref a1), .val (.long q2), .second, .val (.int p3), .unset, .unset] [(.ref a1), (.long (p4.toInt64))])) rfl rfl (hb hby d7_11)
  obtain ⟨T4, X4, e4, st4⟩ := getF X3 hx hZ hown (host := "") (Or.inl (own_w33 hw)) Via.refl e3 F_a1_kept (g := (mkF m 16 #[.val (.ref a1), .val (.long q2), .second, .val (.int p3), .unset, .unset] [(.ref a1), (.long (p4.toInt64))])) rfl rfl (hb hby d7_16)
  obtain ⟨_, _, ⟨T5, L5, k5, n5⟩, -, X5, ⟨Lc5, hQ5, l5, y5, z5⟩, st5⟩ := Jvm.LawKit.callS X4 hx (y := (⟨"java/lang/Math", "min", "(JJ)J"⟩ : MethodName)) hown (mvT hZ (own_w59 hw)) (mvT hZ (own_w60 hw)) (mvT hZ (own_w61 hw)) (mvT hZ (own_w62 hw)) (by decide) (backOf (W := 0) (rm8_12 l Z a0 hw [] (p4.toInt64) (p5.toInt64) h0 n0 Z0 hc4) hZ (own_w62 hw) (own_w61 hw) (by decide) (by decide)) (g := (mkF m 20 #[.val (.ref a1), .val (.long q2), .second, .val (.int p3), .unset, .unset] [(.long (p5.toInt64)), (.long (p4.toInt64))])) rfl (by rw [hml]; rfl) (argsL := [(.long (p4.toInt64)), (.long (p5.toInt64))]) (rest := []) (lenOf pd__JJ_J rfl) rfl (by show 2 * 0 + _ ≤ _; exact Nat.le_of_eq rfl) (hb hby d7_20) (fun _ _ => ⟨rfl, e4, (by decide : 0 + 0 ≤ _), (by decide : 0 + 0 ≤ _)⟩)
  dsimp only [Pt.U, Pt.locs, Pt.cells, Pt.slots] at X5 l5 y5 z5 st5 hQ5
  subst l5 y5 z5
  obtain ⟨rfl, N5q, e5⟩ := hQ5
  have N5 := Fr.app N0 N5q
  obtain ⟨T6, h6, X6, e6, W6, st6⟩ := putF X5 hx hZ hown (host := "") (Or.inl (own_w63 hw)) Via.refl e5 F_a1_distance E_a1 (Or.inl (own_w64 hw)) (own_w3 hw) (ty := .int) (by decide) rfl rfl (g := (mkF m 57 #[.val (.ref a1), .val (.long q2), .second, .val (.int p3), .val (.long (p4.toInt64)), .second] [(.int (q2.toInt32)), (.ref a1)])) rfl rfl (hb hby d7_57)
  have KC7 : Keep h0 h6 [a1] := (Keep.refl h0 [a1]).wr W6 (Or.inl (List.mem_of_getElem? (i := 0) rfl))
  have Fw6 := F_a1_distance.same W6
  have N6 := Fr.snoc X6 N5 g_a1
  have c8 := E_a1.wr W6
  have c9 := F_a1_copyLeft.other W6 (Or.inr (slot_ne (C := "stavelog/wire/History") (Or.inl (own_w42 hw)) (Or.inl (own_w64 hw)) (by decide) (t := .int) (t' := .int) (by decide) (by decide)))
  obtain ⟨T10, h10, X10, e10, W10, st10⟩ := putF X6 hx hZ hown (host := "") (Or.inl (own_w41 hw)) Via.refl e6 c9 c8 (Or.inl (own_w42 hw)) (own_w3 hw) (ty := .int) (by decide) rfl rfl (g := (mkF m 62 #[.val (.ref a1), .val (.long q2), .second, .val (.int p3), .val (.long (p4.toInt64)), .second] [(.int p3), (.ref a1)])) rfl rfl (hb hby d7_62)
  have KC11 : Keep h0 h10 [a1] := KC7.wr W10 (Or.inl (List.mem_of_getElem? (i := 0) rfl))
  have Fw10 := c9.same W10
  have N10 := Fr.snoc X10 N6 g_a1
  have c12 := F_a1_decompression.other W6 (Or.inr (slot_ne (C := "stavelog/wire/History") (Or.inr (own_w27 hw)) (Or.inl (own_w64 hw)) (by decide) (t := (.object "stavelog/wire/Decompression")) (t' := .int) (by decide) (by decide)))
  have c13 := c12.other W10 (Or.inr (slot_ne (C := "stavelog/wire/History") (Or.inr (own_w27 hw)) (Or.inl (own_w42 hw)) (by decide) (t := (.object "stavelog/wire/Decompression")) (t' := .int) (by decide) (by decide)))
  have c14 := F_a1_literalAt.other W6 (Or.inr (slot_ne (C := "stavelog/wire/History") (Or.inl (own_w53 hw)) (Or.inl (own_w64 hw)) (by decide) (t := .int) (t' := .int) (by decide) (by decide)))
  have c15 := c14.other W10 (Or.inr (slot_ne (C := "stavelog/wire/History") (Or.inl (own_w53 hw)) (Or.inl (own_w42 hw)) (by decide) (t := .int) (t' := .int) (by decide) (by decide)))
  have c16 := F_a1_literals.other W6 (Or.inr (slot_ne (C := "stavelog/wire/History") (Or.inl (own_w51 hw)) (Or.inl (own_w64 hw)) (by decide) (t := (.object "java/nio/ByteBuffer")) (t' := .int) (by decide) (by decide)))
  have c17 := c16.other W10 (Or.inr (slot_ne (C := "stavelog/wire/History") (Or.inl (own_w51 hw)) (Or.inl (own_w42 hw)) (by decide) (t := (.object "java/nio/ByteBuffer")) (t' := .int) (by decide) (by decide)))
  have c18 := F_a1_sum.other W6 (Or.inr (slot_ne (C := "stavelog/wire/History") (Or.inl (own_w44 hw)) (Or.inl (own_w64 hw)) (by decide) (t := (.object "java/util/zip/Checksum")) (t' := .int) (by decide) (by decide)))
  have c19 := c18.other W10 (Or.inr (slot_ne (C := "stavelog/wire/History") (Or.inl (own_w44 hw)) (Or.inl (own_w42 hw)) (by decide) (t := (.object "java/util/zip/Checksum")) (t' := .int) (by decide) (by decide)))
  have c20 := F_a1_written.other W6 (Or.inr (slot_ne (C := "stavelog/wire/History") (Or.inl (own_w36 hw)) (Or.inl (own_w64 hw)) (by decide) (t := .long) (t' := .int) (by decide) (by decide)))
  have c21 := c20.other W10 (Or.inr (slot_ne (C := "stavelog/wire/History") (Or.inl (own_w36 hw)) (Or.inl (own_w42 hw)) (by decide) (t := .long) (t' := .int) (by decide) (by decide)))
  have c22 := F_a1_literalsLeft.other W6 (Or.inr (slot_ne (C := "stavelog/wire/History") (Or.inl (own_w40 hw)) (Or.inl (own_w64 hw)) (by decide) (t := .int) (t' := .int) (by decide) (by decide)))
  have c23 := c22.other W10 (Or.inr (slot_ne (C := "stavelog/wire/History") (Or.inl (own_w40 hw)) (Or.inl (own_w42 hw)) (by decide) (t := .int) (t' := .int) (by decide) (by decide)))
  have c24 := F_a1_reachable.other W6 (Or.inr (slot_ne (C := "stavelog/wire/History") (Or.inl (own_w38 hw)) (Or.inl (own_w64 hw)) (by decide) (t := .long) (t' := .int) (by decide) (by decide)))
  have c25 := c24.other W10 (Or.inr (slot_ne (C := "stavelog/wire/History") (Or.inl (own_w38 hw)) (Or.inl (own_w42 hw)) (by decide) (t := .long) (t' := .int) (by decide) (by decide)))
  have c26 := F_a1_kept.other W6 (Or.inr (slot_ne (C := "stavelog/wire/History") (Or.inl (own_w34 hw)) (Or.inl (own_w64 hw)) (by decide) (t := .int) (t' := .int) (by decide) (by decide)))
  have c27 := c26.other W10 (Or.inr (slot_ne (C := "stavelog/wire/History") (Or.inl (own_w34 hw)) (Or.inl (own_w42 hw)) (by decide) (t := .int) (t' := .int) (by decide) (by decide)))
  have c28 := c8.wr W10
  have c29 := Fw6.other W10 (Or.inr (slot_ne (C := "stavelog/wire/History") (Or.inl (own_w64 hw)) (Or.inl (own_w42 hw)) (by decide) (t := .int) (t' := .int) (by decide) (by decide)))
  obtain ⟨fs, hr, hrun, hended, hW, hsame⟩ := X10.leave (v := none) (fun _ => rfl)
  refine ⟨_, _, pre0 _ ?_, hrun, hended, _, _, rfl, ?_, ⟨_, rfl⟩, hW, hsame.mono (by decide) (by decide)⟩
  · show Steps p.tables e below (s₁.setTop (mkF m 0 #[.val (.ref a1), .val (.long q2), .second, .val (.int p3), .unset, .unset] [])) _
    refine XS.aloadN X0.here hx rfl (hb hby d7_0) rfl rfl ?_
    show Steps p.tables e below (s₁.setTop (mkF m 1 #[.val (.ref a1), .val (.long q2), .second, .val (.int p3), .unset, .unset] [(.ref a1)])) _
    refine st1 _ ?_
    show Steps p.tables e below (T1.setTop (mkF m 4 #[.val (.ref a1), .val (.long q2), .second, .val (.int p3), .unset, .unset] [(.long (0 : Int64))])) _
    refine XS.aloadN X1.here hx rfl (hb hby d7_4) rfl rfl ?_
    show Steps p.tables e below (T1.setTop (mkF m 5 #[.val (.ref a1), .val (.long q2), .second, .val (.int p3), .unset, .unset] [(.ref a1), (.long (0 : Int64))])) _
    refine st2 _ ?_
    show Steps p.tables e below (T2.setTop (mkF m 8 #[.val (.ref a1), .val (.long q2), .second, .val (.int p3), .unset, .unset] [(.int p4), (.long (0 : Int64))])) _
    refine XS.i2l X2.here hx rfl (hb hby d7_8) rfl ?_
    show Steps p.tables e below (T2.setTop (mkF m 9 #[.val (.ref a1), .val (.long q2), .second, .val (.int p3), .unset, .unset] [(.long (p4.toInt64)), (.long (0 : Int64))])) _
    refine XS.ladd X2.here hx rfl (hb hby d7_9) rfl ?_
    show Steps p.tables e below (T2.setTop (mkF m 10 #[.val (.ref a1), .val (.long q2), .second, .val (.int p3), .unset, .unset] [(.long ((0 : Int64) + (p4.toInt64)))])) _
    rw [Int64.zero_add]
    show Steps p.tables e below (T2.setTop (mkF m 10 #[.val (.ref a1), .val (.long q2), .second, .val (.int p3), .unset, .unset] [(.long (p4.toInt64))])) _
    refine XS.aloadN X2.here hx rfl (hb hby d7_10) rfl rfl ?_
    show Steps p.tables e below (T2.setTop (mkF m 11 #[.val (.ref a1), .val (.long q2), .second, .val (.int p3), .unset, .unset] [(.ref a1), (.long (p4.toInt64))])) _
    refine st3 _ ?_
    show Steps p.tables e below (T3.setTop (mkF m 14 #[.val (.ref a1), .val (.long q2), .second, .val (.int p3), .unset, .unset] [(.long (0 : Int64)), (.long (p4.toInt64))])) _
    refine XS.lsub X3.here hx rfl (hb hby d7_14) rfl ?_
    show Steps p.tables e below (T3.setTop (mkF m 15 #[.val (.ref a1), .val (.long q2), .second, .val (.int p3), .unset, .unset] [(.long ((p4.toInt64) - (0 : Int64)))])) _
    rw [Int64.sub_zero]
    show Steps p.tables e below (T3.setTop (mkF m 15 #[.val (.ref a1), .val (.long q2), .second, .val (.int p3), .unset, .unset] [(.long (p4.toInt64))])) _
    refine XS.aloadN X3.here hx rfl (hb hby d7_15) rfl rfl ?_
    show Steps p.tables e below (T3.setTop (mkF m 16 #[.val (.ref a1), .val (.long q2), .second, .val (.int p3), .unset, .unset] [(.ref a1), (.long (p4.toInt64))])) _
    refine st4 _ ?_
    show Steps p.tables e below (T4.setTop (mkF m 19 #[.val (.ref a1), .val (.long q2), .second, .val (.int p3), .unset, .unset] [(.int p5), (.long (p4.toInt64))])) _
    refine XS.i2l X4.here hx rfl (hb hby d7_19) rfl ?_
    show Steps p.tables e below (T4.setTop (mkF m 20 #[.val (.ref a1), .val (.long q2), .second, .val (.int p3), .unset, .unset] [(.long (p5.toInt64)), (.long (p4.toInt64))])) _
    refine st5 _ ?_
    show Steps p.tables e below (T5.setTop (mkF m 23 #[.val (.ref a1), .val (.long q2), .second, .val (.int p3), .unset, .unset] [(.long (p4.toInt64))])) _
    refine XS.lstore X5.here hx rfl (hb hby d7_23) rfl (l' := #[.val (.ref a1), .val (.long q2), .second, .val (.int p3), .val (.long (p4.toInt64)), .second]) rfl ?_
    show Steps p.tables e below (T5.setTop (mkF m 25 #[.val (.ref a1), .val (.long q2), .second, .val (.int p3), .val (.long (p4.toInt64)), .second] [])) _
    refine XS.lloadN X5.here hx rfl (hb hby d7_25) rfl ?_
    show Steps p.tables e below (T5.setTop (mkF m 26 #[.val (.ref a1), .val (.long q2), .second, .val (.int p3), .val (.long (p4.toInt64)), .second] [(.long q2)])) _
    refine XS.lconst X5.here hx rfl (hb hby d7_26) ?_
    show Steps p.tables e below (T5.setTop (mkF m 27 #[.val (.ref a1), .val (.long q2), .second, .val (.int p3), .val (.long (p4.toInt64)), .second] [(.long (1 : Int64)), (.long q2)])) _
    refine XS.lcmp X5.here hx rfl (hb hby d7_27) rfl ?_
    show Steps p.tables e below (T5.setTop (mkF m 28 #[.val (.ref a1), .val (.long q2), .second, .val (.int p3), .val (.long (p4.toInt64)), .second] [(.int (lcmpW q2 (1 : Int64)))])) _
    refine XS.ifNo X5.here hx rfl (hb hby d7_28) rfl ((if0 _ _).trans (flt hc5).1) ?_
    show Steps p.tables e below (T5.setTop (mkF m 31 #[.val (.ref a1), .val (.long q2), .second, .val (.int p3), .val (.long (p4.toInt64)), .second] [])) _
    refine XS.lloadN X5.here hx rfl (hb hby d7_31) rfl ?_
    show Steps p.tables e below (T5.setTop (mkF m 32 #[.val (.ref a1), .val (.long q2), .second, .val (.int p3), .val (.long (p4.toInt64)), .second] [(.long q2)])) _
    refine XS.lload X5.here hx rfl (hb hby d7_32) rfl ?_
    show Steps p.tables e below (T5.setTop (mkF m 34 #[.val (.ref a1), .val (.long q2), .second, .val (.int p3), .val (.long (p4.toInt64)), .second] [(.long (p4.toInt64)), (.long q2)])) _
    refine XS.lcmp X5.here hx rfl (hb hby d7_34) rfl ?_
    show Steps p.tables e below (T5.setTop (mkF m 35 #[.val (.ref a1), .val (.long q2), .second, .val (.int p3), .val (.long (p4.toInt64)), .second] [(.int (lcmpW q2 (p4.toInt64)))])) _
    refine XS.ifYes X5.here hx rfl (pc0 := 35) (pc' := 54) rfl (hb hby d7_35) rfl ((if0 _ _).trans (flt hc6).2.2.2) (by decide) (by decide) ?_
    show Steps p.tables e below (T5.setTop (mkF m 54 #[.val (.ref a1), .val (.long q2), .second, .val (.int p3), .val (.long (p4.toInt64)), .second] [])) _
    refine XS.aloadN X5.here hx rfl (hb hby d7_54) rfl rfl ?_
    show Steps p.tables e below (T5.setTop (mkF m 55 #[.val (.ref a1), .val (.long q2), .second, .val (.int p3), .val (.long (p4.toInt64)), .second] [(.ref a1)])) _
    refine XS.lloadN X5.here hx rfl (hb hby d7_55) rfl ?_
    show Steps p.tables e below (T5.setTop (mkF m 56 #[.val (.ref a1), .val (.long q2), .second, .val (.int p3), .val (.long (p4.toInt64)), .second] [(.long q2), (.ref a1)])) _
    refine XS.l2i X5.here hx rfl (hb hby d7_56) rfl ?_
    show Steps p.tables e below (T5.setTop (mkF m 57 #[.val (.ref a1), .val (.long q2), .second, .val (.int p3), .val (.long (p4.toInt64)), .second] [(.int (q2.toInt32)), (.ref a1)])) _
    refine st6 _ ?_
    show Steps p.tables e below (T6.setTop (mkF m 60 #[.val (.ref a1), .val (.long q2), .second, .val (.int p3), .val (.long (p4.toInt64)), .second] [])) _
    refine XS.aloadN X6.here hx rfl (hb hby d7_60) rfl rfl ?_
    show Steps p.tables e below (T6.setTop (mkF m 61 #[.val (.ref a1), .val (.long q2), .second, .val (.int p3), .val (.long (p4.toInt64)), .second] [(.ref a1)])) _
    refine XS.iloadN X6.here hx rfl (hb hby d7_61) rfl ?_
    show Steps p.tables e below (T6.setTop (mkF m 62 #[.val (.ref a1), .val (.long q2), .second, .val (.int p3), .val (.long (p4.toInt64)), .second] [(.int p3), (.ref a1)])) _
    refine st10 _ ?_
    show Steps p.tables e below (T10.setTop (mkF m 65 #[.val (.ref a1), .val (.long q2), .second, .val (.int p3), .val (.long (p4.toInt64)), .second] [])) _
    exact X10.returnOut hx Bd.returns (hb hby d7_65) hr
  · show Q7_13 Z a1 q2 p3 p4 p5 a6 h0 n0 _ T10.heap _
    rw [e10]
    exact ⟨rfl, N10, KC11, c21, c23, c25, c27, c28, c29, Fw10, c13, c15, c17, c19⟩
theorem ef9_14 (m : MethodId) (a1 : Addr) : entryFrame m #[(.ref a1)] 1 = mkF m 0 #[.val (.ref a1)] [] := by first | (simp [entryFrame, mkF, argsToLocals, Value.category]; done) | rfl
def Q9_14 (Z : State) (a1 : Addr) (p2 : Int32) (a3 : Addr) (p4 : Int32) (h0 : Heap) (n0 : Nat) (v : Option Value) (h : Heap) (L : List Loc) : Prop := v = none ∧ Fr n0 L ∧ Keep h0 h [a1] ∧ Exa Z h a1 "stavelog/wire/History" ∧ Fld Z h a1 "stavelog/wire/History" "written" "J" (.long (0 : Int64)) ∧ Fld Z h a1 "stavelog/wire/History" "literalsLeft" "I" (.int p2) ∧ Fld Z h a1 "stavelog/wire/History" "copyLeft" "I" (.int (0 : Int32)) ∧ Fld Z h a1 "stavelog/wire/History" "reachable" "J" (.long (p2.toInt64)) ∧ Fld Z h a1 "stavelog/wire/History" "decompression" "Lstavelog/wire/Decompression;" (.ref a3) ∧ Fld Z h a1 "stavelog/wire/History" "distance" "I" (.int (0 : Int32)) ∧ Fld Z h a1 "stavelog/wire/History" "kept" "I" (.int p4) ∧ Fld Z h a1 "stavelog/wire/History" "literalAt" "I" (.int (0 : Int32)) ∧ Fld Z h a1 "stavelog/wire/History" "literals" "Ljava/nio/ByteBuffer;" .null ∧ Fld Z h a1 "stavelog/wire/History" "sum" "Ljava/util/zip/Checksum;" .null
set_option maxRecDepth 65536 in
set_option maxHeartbeats 40000000 in
theorem rm9_14 (l : Launch) (Z : State) (a0 : Array Value) (hw : ∀ d ∈ tables_1, d.before a0 Z = true) (ws : List Jvm.Cond) (a1 : Addr) (p2 : Int32) (a3 : Addr) (p4 : Int32) (h0 : Heap) (n0 : Nat) (Z0 : n0 ≤ h0.size) (E_a1 : Exa Z h0 a1 "stavelog/wire/History") (F_a1_written : Fld Z h0 a1 "stavelog/wire/History" "written" "J" (.long (0 : Int64))) (F_a1_literalsLeft : Fld Z h0 a1 "stavelog/wire/History" "literalsLeft" "I" (.int p2)) (F_a1_copyLeft : Fld Z h0 a1 "stavelog/wire/History" "copyLeft" "I" (.int (0 : Int32))) (F_a1_reachable : Fld Z h0 a1 "stavelog/wire/History" "reachable" "J" (.long (0 : Int64))) (g_a1 : n0 ≤ a1) (F_a1_decompression : Fld Z h0 a1 "stavelog/wire/History" "decompression" "Lstavelog/wire/Decompression;" (.ref a3)) (F_a1_distance : Fld Z h0 a1 "stavelog/wire/History" "distance" "I" (.int (0 : Int32))) (F_a1_kept : Fld Z h0 a1 "stavelog/wire/History" "kept" "I" (.int p4)) (F_a1_literalAt : Fld Z h0 a1 "stavelog/wire/History" "literalAt" "I" (.int (0 : Int32))) (F_a1_literals : Fld Z h0 a1 "stavelog/wire/History" "literals" "Ljava/nio/ByteBuffer;" .null) (F_a1_sum : Fld Z h0 a1 "stavelog/wire/History" "sum" "Ljava/util/zip/Checksum;" .null) :
    MetFree l (⟨"stavelog/wire/History", "forget", "()V"⟩ : MethodName) (head1 (Jvm.Cond.code (⟨"stavelog/wire/History", "forget", "()V"⟩ : MethodName) prog_235_method_3_code 1 none :: ws) ({ frames := 1, cells := 0, slots := 0, locals := 13 } : Room)) (fun a U => a = #[(.ref a1)] ∧ Z.Warmed39 U.vm ∧ U.heap = h0) (fun _ _ _ _ _ => True) (fun _ U o U' => ∃ v L, o = .returned v ∧ Q9_14 Z a1 p2 a3 p4 h0 n0 v U'.heap L ∧ FrameEnd U o U' L ({ frames := 1, cells := 0, slots := 0, locals := 13 } : Room).cells ({ frames := 1, cells := 0, slots := 0, locals := 13 } : Room).slots) := by
  refine MetFree.of_bodySF (plainFor_of_name pn_stavelog_wire_History) hisR ?_
  intro p e s m args below meth c s₁ Bd hml0 hP hK
  obtain ⟨rfl, hZ, hh⟩ := hP
  have hx := Bd.exec
  have hby := Bd.bytes
  have hml : c.maxLocals = 1 := hml0
  have hown : s.vm.findClass "stavelog/wire/History" = some m.cls := findClass_of_methodNamed Bd.named
  have hnm := (name_of_methodNamed Bd.named Bd.method).1
  have X0 : Stand p l e ({ frames := 1, cells := 0, slots := 0, locals := 13 } : Room) s m #[(.ref a1)] below meth c s₁ [] 0 0 := Stand.of_body Bd
  have e0 : s₁.heap = h0 := by rw [← hh, Bd.state]; rfl
  have N0 := Fr.nil n0
  have pre0 : ∀ t, Steps p.tables e below (s₁.setTop (mkF m 0 #[.val (.ref a1)] [])) t → Steps p.tables e below (s₁.setTop (entryFrame m #[(.ref a1)] 1)) t := fun t k => castTop (ef9_14 m a1) k
  obtain ⟨cq1, kq1, q1a, q1b, q1c⟩ := isOf hZ e0 E_a1
  obtain ⟨_, _, ⟨T1, L1, k1, n1⟩, -, X1, ⟨Lc1, hQ1, l1, y1, z1⟩, st1⟩ := X0.virtualBack hx (y := (⟨"stavelog/wire/History", "written", "()J"⟩ : MethodName)) (z := (⟨"stavelog/wire/History", "written", "()J"⟩ : MethodName)) hown (mvT hZ (own_w70 hw)) (mvT hZ (own_w71 hw)) (notFace_of_selects (args := #[]) (mvT hZ (own_w73 hw))) (mvT hZ (own_w73 hw)) (mvT hZ (own_w72 hw)) (by decide) (backOf (W := 1) (rm10_8 l Z a0 hw [] a1 p2 h0 n0 Z0 F_a1_written F_a1_literalsLeft F_a1_copyLeft) hZ (own_w74 hw) (own_w4 hw) (by decide) (by decide)) q1a q1c (g := (mkF m 2 #[.val (.ref a1)] [(.ref a1), (.ref a1)])) rfl (by rw [hml]; rfl) (Steps.refl _) (argsL := []) (rest := [(.ref a1)]) (lenOf pd___J rfl) rfl (by show 2 * 0 + _ ≤ _; exact Nat.le_of_eq rfl) (hb hby d9_2) (fun _ _ => ⟨rfl, e0, (by decide : 0 + 0 ≤ _), (by decide : 0 + 0 ≤ _)⟩)
  dsimp only [Pt.U, Pt.locs, Pt.cells, Pt.slots] at X1 l1 y1 z1 st1 hQ1
  subst l1 y1 z1
  obtain ⟨rfl, N1q, e1⟩ := hQ1
  have N1 := Fr.app N0 N1q
  obtain ⟨T2, h2, X2, e2, W2, st2⟩ := putF X1 hx hZ hown (host := "") (Or.inl (own_w37 hw)) Via.refl e1 F_a1_reachable E_a1 (Or.inl (own_w38 hw)) (own_w3 hw) (ty := .long) (by decide) rfl rfl (g := (mkF m 5 #[.val (.ref a1)] [(.long (p2.toInt64)), (.ref a1)])) rfl rfl (hb hby d9_5)
  have KC3 : Keep h0 h2 [a1] := (Keep.refl h0 [a1]).wr W2 (Or.inl (List.mem_of_getElem? (i := 0) rfl))
  have Fw2 := F_a1_reachable.same W2
  have N2 := Fr.snoc X2 N1 g_a1
  have c4 := F_a1_decompression.other W2 (Or.inr (slot_ne (C := "stavelog/wire/History") (Or.inr (own_w27 hw)) (Or.inl (own_w38 hw)) (by decide) (t := (.object "stavelog/wire/Decompression")) (t' := .long) (by decide) (by decide)))
  have c5 := F_a1_distance.other W2 (Or.inr (slot_ne (C := "stavelog/wire/History") (Or.inl (own_w64 hw)) (Or.inl (own_w38 hw)) (by decide) (t := .int) (t' := .long) (by decide) (by decide)))
  have c6 := F_a1_kept.other W2 (Or.inr (slot_ne (C := "stavelog/wire/History") (Or.inl (own_w34 hw)) (Or.inl (own_w38 hw)) (by decide) (t := .int) (t' := .long) (by decide) (by decide)))
  have c7 := F_a1_literalAt.other W2 (Or.inr (slot_ne (C := "stavelog/wire/History") (Or.inl (own_w53 hw)) (Or.inl (own_w38 hw)) (by decide) (t := .int) (t' := .long) (by decide) (by decide)))
  have c8 := F_a1_literals.other W2 (Or.inr (slot_ne (C := "stavelog/wire/History") (Or.inl (own_w51 hw)) (Or.inl (own_w38 hw)) (by decide) (t := (.object "java/nio/ByteBuffer")) (t' := .long) (by decide) (by decide)))
  have c9 := F_a1_sum.other W2 (Or.inr (slot_ne (C := "stavelog/wire/History") (Or.inl (own_w44 hw)) (Or.inl (own_w38 hw)) (by decide) (t := (.object "java/util/zip/Checksum")) (t' := .long) (by decide) (by decide)))
  have c10 := E_a1.wr W2
  have c11 := F_a1_written.other W2 (Or.inr (slot_ne (C := "stavelog/wire/History") (Or.inl (own_w36 hw)) (Or.inl (own_w38 hw)) (by decide) (t := .long) (t' := .long) (by decide) (by decide)))
  have c12 := F_a1_literalsLeft.other W2 (Or.inr (slot_ne (C := "stavelog/wire/History") (Or.inl (own_w40 hw)) (Or.inl (own_w38 hw)) (by decide) (t := .int) (t' := .long) (by decide) (by decide)))
  have c13 := F_a1_copyLeft.other W2 (Or.inr (slot_ne (C := "stavelog/wire/History") (Or.inl (own_w42 hw)) (Or.inl (own_w38 hw)) (by decide) (t := .int) (t' := .long) (by decide) (by decide)))
  obtain ⟨fs, hr, hrun, hended, hW, hsame⟩ := X2.leave (v := none) (fun _ => rfl)
  refine ⟨_, _, pre0 _ ?_, hrun, hended, _, _, rfl, ?_, ⟨_, rfl⟩, hW, hsame.mono (by decide) (by decide)⟩
  · show Steps p.tables e below (s₁.setTop (mkF m 0 #[.val (.ref a1)] [])) _
    refine XS.aloadN X0.here hx rfl (hb hby d9_0) rfl rfl ?_
    show Steps p.tables e below (s₁.setTop (mkF m 1 #[.val (.ref a1)] [(.ref a1)])) _
    refine XS.aloadN X0.here hx rfl (hb hby d9_1) rfl rfl ?_
    show Steps p.tables e below (s₁.setTop (mkF m 2 #[.val (.ref a1)] [(.ref a1), (.ref a1)])) _
    refine st1.trans ?_
    show Steps p.tables e below (T1.setTop (mkF m 5 #[.val (.ref a1)] [(.long (p2.toInt64)), (.ref a1)])) _
    refine st2 _ ?_
    show Steps p.tables e below (T2.setTop (mkF m 8 #[.val (.ref a1)] [])) _
    exact X2.returnOut hx Bd.returns (hb hby d9_8) hr
  · show Q9_14 Z a1 p2 a3 p4 h0 n0 _ T2.heap _
    rw [e2]
    exact ⟨rfl, N2, KC3, c10, c11, c12, c13, Fw2, c4, c5, c6, c7, c8, c9⟩
theorem ef5_15 (m : MethodId) (a1 : Addr) (p2 : Int32) : entryFrame m #[(.ref a1), (.int p2)] 2 = mkF m 0 #[.val (.ref a1), .val (.int p2)] [] := by first | (simp [entryFrame, mkF, argsToLocals, Value.category]; done) | rfl
def Q5_15 (Z : State) (a1 : Addr) (p2 : Int32) (p3 : Int32) (q4 : Int64) (p5 : Int32) (a6 : Addr) (h0 : Heap) (n0 : Nat) (v : Option Value) (h : Heap) (L : List Loc) : Prop := v = none ∧ Fr n0 L ∧ Keep h0 h [a1] ∧ Exa Z h a1 "stavelog/wire/History" ∧ Fld Z h a1 "stavelog/wire/History" "kept" "I" (.int p2) ∧ Fld Z h a1 "stavelog/wire/History" "written" "J" (.long (0 : Int64)) ∧ Fld Z h a1 "stavelog/wire/History" "reachable" "J" (.long (0 : Int64)) ∧ Fld Z h a1 "stavelog/wire/History" "literalsLeft" "I" (.int (0 : Int32)) ∧ Fld Z h a1 "stavelog/wire/History" "copyLeft" "I" (.int (0 : Int32)) ∧ Fld Z h a1 "stavelog/wire/History" "sum" "Ljava/util/zip/Checksum;" .null ∧ Fld Z h a1 "stavelog/wire/History" "decompression" "Lstavelog/wire/Decompression;" (.ref a6) ∧ Fld Z h a1 "stavelog/wire/History" "distance" "I" (.int (0 : Int32)) ∧ Fld Z h a1 "stavelog/wire/History" "literalAt" "I" (.int (0 : Int32)) ∧ Fld Z h a1 "stavelog/wire/History" "literals" "Ljava/nio/ByteBuffer;" .null
set_option maxRecDepth 65536 in
set_option maxHeartbeats 40000000 in
theorem rm5_15 (l : Launch) (Z : State) (a0 : Array Value) (hw : ∀ d ∈ tables_1, d.before a0 Z = true) (ws : List Jvm.Cond) (a1 : Addr) (p2 : Int32) (p3 : Int32) (q4 : Int64) (p5 : Int32) (a6 : Addr) (h0 : Heap) (n0 : Nat) (Z0 : n0 ≤ h0.size) (E_a1 : Exa Z h0 a1 "stavelog/wire/History") (F_a1_kept : Fld Z h0 a1 "stavelog/wire/History" "kept" "I" (.int p3)) (g_a1 : n0 ≤ a1) (F_a1_written : Fld Z h0 a1 "stavelog/wire/History" "written" "J" (.long (0 : Int64))) (F_a1_reachable : Fld Z h0 a1 "stavelog/wire/History" "reachable" "J" (.long q4)) (F_a1_literalsLeft : Fld Z h0 a1 "stavelog/wire/History" "literalsLeft" "I" (.int p5)) (F_a1_copyLeft : Fld Z h0 a1 "stavelog/wire/History" "copyLeft" "I" (.int (0 : Int32))) (F_a1_sum : Fld Z h0 a1 "stavelog/wire/History" "sum" "Ljava/util/zip/Checksum;" .null) (F_a1_decompression : Fld Z h0 a1 "stavelog/wire/History" "decompression" "Lstavelog/wire/Decompression;" (.ref a6)) (F_a1_distance : Fld Z h0 a1 "stavelog/wire/History" "distance" "I" (.int (0 : Int32))) (F_a1_literalAt : Fld Z h0 a1 "stavelog/wire/History" "literalAt" "I" (.int (0 : Int32))) (F_a1_literals : Fld Z h0 a1 "stavelog/wire/History" "literals" "Ljava/nio/ByteBuffer;" .null) :
    MetFree l (⟨"stavelog/wire/History", "start", "(I)V"⟩ : MethodName) (head1 (Jvm.Cond.code (⟨"stavelog/wire/History", "start", "(I)V"⟩ : MethodName) prog_235_method_2_code 2 none :: ws) ({ frames := 0, cells := 0, slots := 0, locals := 0 } : Room)) (fun a U => a = #[(.ref a1), (.int p2)] ∧ Z.Warmed39 U.vm ∧ U.heap = h0) (fun _ _ _ _ _ => True) (fun _ U o U' => ∃ v L, o = .returned v ∧ Q5_15 Z a1 p2 p3 q4 p5 a6 h0 n0 v U'.heap L ∧ FrameEnd U o U' L ({ frames := 0, cells := 0, slots := 0, locals := 0 } : Room).cells ({ frames := 0, cells := 0, slots := 0, locals := 0 } : Room).slots) := by
  refine MetFree.of_bodySF (plainFor_of_name pn_stavelog_wire_History) hisR ?_
  intro p e s m args below meth c s₁ Bd hml0 hP hK
  obtain ⟨rfl, hZ, hh⟩ := hP
  have hx := Bd.exec
  have hby := Bd.bytes
  have hml : c.maxLocals = 2 := hml0
  have hown : s.vm.findClass "stavelog/wire/History" = some m.cls := findClass_of_methodNamed Bd.named
  have hnm := (name_of_methodNamed Bd.named Bd.method).1
  have X0 : Stand p l e ({ frames := 0, cells := 0, slots := 0, locals := 0 } : Room) s m #[(.ref a1), (.int p2)] below meth c s₁ [] 0 0 := Stand.of_body Bd
  have e0 : s₁.heap = h0 := by rw [← hh, Bd.state]; rfl
  have N0 := Fr.nil n0
  have pre0 : ∀ t, Steps p.tables e below (s₁.setTop (mkF m 0 #[.val (.ref a1), .val (.int p2)] [])) t → Steps p.tables e below (s₁.setTop (entryFrame m #[(.ref a1), (.int p2)] 2)) t := fun t k => castTop (ef5_15 m a1 p2) k
  obtain ⟨T1, h1, X1, e1, W1, st1⟩ := putF X0 hx hZ hown (host := "") (Or.inl (own_w33 hw)) Via.refl e0 F_a1_kept E_a1 (Or.inl (own_w34 hw)) (own_w3 hw) (ty := .int) (by decide) rfl rfl (g := (mkF m 2 #[.val (.ref a1), .val (.int p2)] [(.int p2), (.ref a1)])) rfl rfl (hb hby d5_2)
  have KC2 : Keep h0 h1 [a1] := (Keep.refl h0 [a1]).wr W1 (Or.inl (List.mem_of_getElem? (i := 0) rfl))
  have Fw1 := F_a1_kept.same W1
  have N1 := Fr.snoc X1 N0 g_a1
  have c3 := E_a1.wr W1
  have c4 := F_a1_written.other W1 (Or.inr (slot_ne (C := "stavelog/wire/History") (Or.inl (own_w36 hw)) (Or.inl (own_w34 hw)) (by decide) (t := .long) (t' := .int) (by decide) (by decide)))
  obtain ⟨T5, h5, X5, e5, W5, st5⟩ := putF X1 hx hZ hown (host := "") (Or.inl (own_w35 hw)) Via.refl e1 c4 c3 (Or.inl (own_w36 hw)) (own_w3 hw) (ty := .long) (by decide) rfl rfl (g := (mkF m 7 #[.val (.ref a1), .val (.int p2)] [(.long (0 : Int64)), (.ref a1)])) rfl rfl (hb hby d5_7)
  have KC6 : Keep h0 h5 [a1] := KC2.wr W5 (Or.inl (List.mem_of_getElem? (i := 0) rfl))
  have Fw5 := c4.same W5
  have N5 := Fr.snoc X5 N1 g_a1
  have c7 := c3.wr W5
  have c8 := F_a1_reachable.other W1 (Or.inr (slot_ne (C := "stavelog/wire/History") (Or.inl (own_w38 hw)) (Or.inl (own_w34 hw)) (by decide) (t := .long) (t' := .int) (by decide) (by decide)))
  have c9 := c8.other W5 (Or.inr (slot_ne (C := "stavelog/wire/History") (Or.inl (own_w38 hw)) (Or.inl (own_w36 hw)) (by decide) (t := .long) (t' := .long) (by decide) (by decide)))
  obtain ⟨T10, h10, X10, e10, W10, st10⟩ := putF X5 hx hZ hown (host := "") (Or.inl (own_w37 hw)) Via.refl e5 c9 c7 (Or.inl (own_w38 hw)) (own_w3 hw) (ty := .long) (by decide) rfl rfl (g := (mkF m 12 #[.val (.ref a1), .val (.int p2)] [(.long (0 : Int64)), (.ref a1)])) rfl rfl (hb hby d5_12)
  have KC11 : Keep h0 h10 [a1] := KC6.wr W10 (Or.inl (List.mem_of_getElem? (i := 0) rfl))
  have Fw10 := c9.same W10
  have N10 := Fr.snoc X10 N5 g_a1
  have c12 := c7.wr W10
  have c13 := F_a1_literalsLeft.other W1 (Or.inr (slot_ne (C := "stavelog/wire/History") (Or.inl (own_w40 hw)) (Or.inl (own_w34 hw)) (by decide) (t := .int) (t' := .int) (by decide) (by decide)))
  have c14 := c13.other W5 (Or.inr (slot_ne (C := "stavelog/wire/History") (Or.inl (own_w40 hw)) (Or.inl (own_w36 hw)) (by decide) (t := .int) (t' := .long) (by decide) (by decide)))
  have c15 := c14.other W10 (Or.inr (slot_ne (C := "stavelog/wire/History") (Or.inl (own_w40 hw)) (Or.inl (own_w38 hw)) (by decide) (t := .int) (t' := .long) (by decide) (by decide)))
  obtain ⟨T16, h16, X16, e16, W16, st16⟩ := putF X10 hx hZ hown (host := "") (Or.inl (own_w39 hw)) Via.refl e10 c15 c12 (Or.inl (own_w40 hw)) (own_w3 hw) (ty := .int) (by decide) rfl rfl (g := (mkF m 17 #[.val (.ref a1), .val (.int p2)] [(.int (0 : Int32)), (.ref a1)])) rfl rfl (hb hby d5_17)
  have KC17 : Keep h0 h16 [a1] := KC11.wr W16 (Or.inl (List.mem_of_getElem? (i := 0) rfl))
  have Fw16 := c15.same W16
  have N16 := Fr.snoc X16 N10 g_a1
  have c18 := c12.wr W16
  have c19 := F_a1_copyLeft.other W1 (Or.inr (slot_ne (C := "stavelog/wire/History") (Or.inl (own_w42 hw)) (Or.inl (own_w34 hw)) (by decide) (t := .int) (t' := .int) (by decide) (by decide)))
  have c20 := c19.other W5 (Or.inr (slot_ne (C := "stavelog/wire/History") (Or.inl (own_w42 hw)) (Or.inl (own_w36 hw)) (by decide) (t := .int) (t' := .long) (by decide) (by decide)))
  have c21 := c20.other W10 (Or.inr (slot_ne (C := "stavelog/wire/History") (Or.inl (own_w42 hw)) (Or.inl (own_w38 hw)) (by decide) (t := .int) (t' := .long) (by decide) (by decide)))
  have c22 := c21.other W16 (Or.inr (slot_ne (C := "stavelog/wire/History") (Or.inl (own_w42 hw)) (Or.inl (own_w40 hw)) (by decide) (t := .int) (t' := .int) (by decide) (by decide)))
  obtain ⟨T23, h23, X23, e23, W23, st23⟩ := putF X16 hx hZ hown (host := "") (Or.inl (own_w41 hw)) Via.refl e16 c22 c18 (Or.inl (own_w42 hw)) (own_w3 hw) (ty := .int) (by decide) rfl rfl (g := (mkF m 22 #[.val (.ref a1), .val (.int p2)] [(.int (0 : Int32)), (.ref a1)])) rfl rfl (hb hby d5_22)
  have KC24 : Keep h0 h23 [a1] := KC17.wr W23 (Or.inl (List.mem_of_getElem? (i := 0) rfl))
  have Fw23 := c22.same W23
  have N23 := Fr.snoc X23 N16 g_a1
  have c25 := c18.wr W23
  have c26 := F_a1_sum.other W1 (Or.inr (slot_ne (C := "stavelog/wire/History") (Or.inl (own_w44 hw)) (Or.inl (own_w34 hw)) (by decide) (t := (.object "java/util/zip/Checksum")) (t' := .int) (by decide) (by decide)))
  have c27 := c26.other W5 (Or.inr (slot_ne (C := "stavelog/wire/History") (Or.inl (own_w44 hw)) (Or.inl (own_w36 hw)) (by decide) (t := (.object "java/util/zip/Checksum")) (t' := .long) (by decide) (by decide)))
  have c28 := c27.other W10 (Or.inr (slot_ne (C := "stavelog/wire/History") (Or.inl (own_w44 hw)) (Or.inl (own_w38 hw)) (by decide) (t := (.object "java/util/zip/Checksum")) (t' := .long) (by decide) (by decide)))
  have c29 := c28.other W16 (Or.inr (slot_ne (C := "stavelog/wire/History") (Or.inl (own_w44 hw)) (Or.inl (own_w40 hw)) (by decide) (t := (.object "java/util/zip/Checksum")) (t' := .int) (by decide) (by decide)))
  have c30 := c29.other W23 (Or.inr (slot_ne (C := "stavelog/wire/History") (Or.inl (own_w44 hw)) (Or.inl (own_w42 hw)) (by decide) (t := (.object "java/util/zip/Checksum")) (t' := .int) (by decide) (by decide)))
  obtain ⟨T31, h31, X31, e31, W31, st31⟩ := putF X23 hx hZ hown (host := "") (Or.inl (own_w43 hw)) Via.refl e23 c30 c25 (Or.inl (own_w44 hw)) (own_w3 hw) (ty := (.object "java/util/zip/Checksum")) (by decide) rfl rfl (g := (mkF m 27 #[.val (.ref a1), .val (.int p2)] [.null, (.ref a1)])) rfl rfl (hb hby d5_27)
  have KC32 : Keep h0 h31 [a1] := KC24.wr W31 (Or.inl (List.mem_of_getElem? (i := 0) rfl))
  have Fw31 := c30.same W31
  have N31 := Fr.snoc X31 N23 g_a1
  have c33 := F_a1_decompression.other W1 (Or.inr (slot_ne (C := "stavelog/wire/History") (Or.inr (own_w27 hw)) (Or.inl (own_w34 hw)) (by decide) (t := (.object "stavelog/wire/Decompression")) (t' := .int) (by decide) (by decide)))
  have c34 := c33.other W5 (Or.inr (slot_ne (C := "stavelog/wire/History") (Or.inr (own_w27 hw)) (Or.inl (own_w36 hw)) (by decide) (t := (.object "stavelog/wire/Decompression")) (t' := .long) (by decide) (by decide)))
  have c35 := c34.other W10 (Or.inr (slot_ne (C := "stavelog/wire/History") (Or.inr (own_w27 hw)) (Or.inl (own_w38 hw)) (by decide) (t := (.object "stavelog/wire/Decompression")) (t' := .long) (by decide) (by decide)))
  have c36 := c35.other W16 (Or.inr (slot_ne (C := "stavelog/wire/History") (Or.inr (own_w27 hw)) (Or.inl (own_w40 hw)) (by decide) (t := (.object "stavelog/wire/Decompression")) (t' := .int) (by decide) (by decide)))
  have c37 := c36.other W23 (Or.inr (slot_ne (C := "stavelog/wire/History") (Or.inr (own_w27 hw)) (Or.inl (own_w42 hw)) (by decide) (t := (.object "stavelog/wire/Decompression")) (t' := .int) (by decide) (by decide)))
  have c38 := c37.other W31 (Or.inr (slot_ne (C := "stavelog/wire/History") (Or.inr (own_w27 hw)) (Or.inl (own_w44 hw)) (by decide) (t := (.object "stavelog/wire/Decompression")) (t' := (.object "java/util/zip/Checksum")) (by decide) (by decide)))
  have c39 := F_a1_distance.other W1 (Or.inr (slot_ne (C := "stavelog/wire/History") (Or.inl (own_w64 hw)) (Or.inl (own_w34 hw)) (by decide) (t := .int) (t' := .int) (by decide) (by decide)))
  have c40 := c39.other W5 (Or.inr (slot_ne (C := "stavelog/wire/History") (Or.inl (own_w64 hw)) (Or.inl (own_w36 hw)) (by decide) (t := .int) (t' := .long) (by decide) (by decide)))
  have c41 := c40.other W10 (Or.inr (slot_ne (C := "stavelog/wire/History") (Or.inl (own_w64 hw)) (Or.inl (own_w38 hw)) (by decide) (t := .int) (t' := .long) (by decide) (by decide)))
  have c42 := c41.other W16 (Or.inr (slot_ne (C := "stavelog/wire/History") (Or.inl (own_w64 hw)) (Or.inl (own_w40 hw)) (by decide) (t := .int) (t' := .int) (by decide) (by decide)))
  have c43 := c42.other W23 (Or.inr (slot_ne (C := "stavelog/wire/History") (Or.inl (own_w64 hw)) (Or.inl (own_w42 hw)) (by decide) (t := .int) (t' := .int) (by decide) (by decide)))
  have c44 := c43.other W31 (Or.inr (slot_ne (C := "stavelog/wire/History") (Or.inl (own_w64 hw)) (Or.inl (own_w44 hw)) (by decide) (t := .int) (t' := (.object "java/util/zip/Checksum")) (by decide) (by decide)))
  have c45 := F_a1_literalAt.other W1 (Or.inr (slot_ne (C := "stavelog/wire/History") (Or.inl (own_w53 hw)) (Or.inl (own_w34 hw)) (by decide) (t := .int) (t' := .int) (by decide) (by decide)))
  have c46 := c45.other W5 (Or.inr (slot_ne (C := "stavelog/wire/History") (Or.inl (own_w53 hw)) (Or.inl (own_w36 hw)) (by decide) (t := .int) (t' := .long) (by decide) (by decide)))
  have c47 := c46.other W10 (Or.inr (slot_ne (C := "stavelog/wire/History") (Or.inl (own_w53 hw)) (Or.inl (own_w38 hw)) (by decide) (t := .int) (t' := .long) (by decide) (by decide)))
  have c48 := c47.other W16 (Or.inr (slot_ne (C := "stavelog/wire/History") (Or.inl (own_w53 hw)) (Or.inl (own_w40 hw)) (by decide) (t := .int) (t' := .int) (by decide) (by decide)))
  have c49 := c48.other W23 (Or.inr (slot_ne (C := "stavelog/wire/History") (Or.inl (own_w53 hw)) (Or.inl (own_w42 hw)) (by decide) (t := .int) (t' := .int) (by decide) (by decide)))
  have c50 := c49.other W31 (Or.inr (slot_ne (C := "stavelog/wire/History") (Or.inl (own_w53 hw)) (Or.inl (own_w44 hw)) (by decide) (t := .int) (t' := (.object "java/util/zip/Checksum")) (by decide) (by decide)))
  have c51 := F_a1_literals.other W1 (Or.inr (slot_ne (C := "stavelog/wire/History") (Or.inl (own_w51 hw)) (Or.inl (own_w34 hw)) (by decide) (t := (.object "java/nio/ByteBuffer")) (t' := .int) (by decide) (by decide)))
  have c52 := c51.other W5 (Or.inr (slot_ne (C := "stavelog/wire/History") (Or.inl (own_w51 hw)) (Or.inl (own_w36 hw)) (by decide) (t := (.object "java/nio/ByteBuffer")) (t' := .long) (by decide) (by decide)))
  have c53 := c52.other W10 (Or.inr (slot_ne (C := "stavelog/wire/History") (Or.inl (own_w51 hw)) (Or.inl (own_w38 hw)) (by decide) (t := (.object "java/nio/ByteBuffer")) (t' := .long) (by decide) (by decide)))
  have c54 := c53.other W16 (Or.inr (slot_ne (C := "stavelog/wire/History") (Or.inl (own_w51 hw)) (Or.inl (own_w40 hw)) (by decide) (t := (.object "java/nio/ByteBuffer")) (t' := .int) (by decide) (by decide)))
  have c55 := c54.other W23 (Or.inr (slot_ne (C := "stavelog/wire/History") (Or.inl (own_w51 hw)) (Or.inl (own_w42 hw)) (by decide) (t := (.object "java/nio/ByteBuffer")) (t' := .int) (by decide) (by decide)))
  have c56 := c55.other W31 (Or.inr (slot_ne (C := "stavelog/wire/History") (Or.inl (own_w51 hw)) (Or.inl (own_w44 hw)) (by decide) (t := (.object "java/nio/ByteBuffer")) (t' := (.object "java/util/zip/Checksum")) (by decide) (by decide)))
  have c57 := c25.wr W31
  have c58 := Fw1.other W5 (Or.inr (slot_ne (C := "stavelog/wire/History") (Or.inl (own_w34 hw)) (Or.inl (own_w36 hw)) (by decide) (t := .int) (t' := .long) (by decide) (by decide)))
  have c59 := c58.other W10 (Or.inr (slot_ne (C := "stavelog/wire/History") (Or.inl (own_w34 hw)) (Or.inl (own_w38 hw)) (by decide) (t := .int) (t' := .long) (by decide) (by decide)))
  have c60 := c59.other W16 (Or.inr (slot_ne (C := "stavelog/wire/History") (Or.inl (own_w34 hw)) (Or.inl (own_w40 hw)) (by decide) (t := .int) (t' := .int) (by decide) (by decide)))
  have c61 := c60.other W23 (Or.inr (slot_ne (C := "stavelog/wire/History") (Or.inl (own_w34 hw)) (Or.inl (own_w42 hw)) (by decide) (t := .int) (t' := .int) (by decide) (by decide)))
  have c62 := c61.other W31 (Or.inr (slot_ne (C := "stavelog/wire/History") (Or.inl (own_w34 hw)) (Or.inl (own_w44 hw)) (by decide) (t := .int) (t' := (.object "java/util/zip/Checksum")) (by decide) (by decide)))
  have c63 := Fw5.other W10 (Or.inr (slot_ne (C := "stavelog/wire/History") (Or.inl (own_w36 hw)) (Or.inl (own_w38 hw)) (by decide) (t := .long) (t' := .long) (by decide) (by decide)))
  have c64 := c63.other W16 (Or.inr (slot_ne (C := "stavelog/wire/History") (Or.inl (own_w36 hw)) (Or.inl (own_w40 hw)) (by decide) (t := .long) (t' := .int) (by decide) (by decide)))
  have c65 := c64.other W23 (Or.inr (slot_ne (C := "stavelog/wire/History") (Or.inl (own_w36 hw)) (Or.inl (own_w42 hw)) (by decide) (t := .long) (t' := .int) (by decide) (by decide)))
  have c66 := c65.other W31 (Or.inr (slot_ne (C := "stavelog/wire/History") (Or.inl (own_w36 hw)) (Or.inl (own_w44 hw)) (by decide) (t := .long) (t' := (.object "java/util/zip/Checksum")) (by decide) (by decide)))
  have c67 := Fw10.other W16 (Or.inr (slot_ne (C := "stavelog/wire/History") (Or.inl (own_w38 hw)) (Or.inl (own_w40 hw)) (by decide) (t := .long) (t' := .int) (by decide) (by decide)))
  have c68 := c67.other W23 (Or.inr (slot_ne (C := "stavelog/wire/History") (Or.inl (own_w38 hw)) (Or.inl (own_w42 hw)) (by decide) (t := .long) (t' := .int) (by decide) (by decide)))
  have c69 := c68.other W31 (Or.inr (slot_ne (C := "stavelog/wire/History") (Or.inl (own_w38 hw)) (Or.inl (own_w44 hw)) (by decide) (t := .long) (t' := (.object "java/util/zip/Checksum")) (by decide) (by decide)))
  have c70 := Fw16.other W23 (Or.inr (slot_ne (C := "stavelog/wire/History") (Or.inl (own_w40 hw)) (Or.inl (own_w42 hw)) (by decide) (t := .int) (t' := .int) (by decide) (by decide)))
  have c71 := c70.other W31 (Or.inr (slot_ne (C := "stavelog/wire/History") (Or.inl (own_w40 hw)) (Or.inl (own_w44 hw)) (by decide) (t := .int) (t' := (.object "java/util/zip/Checksum")) (by decide) (by decide)))
  have c72 := Fw23.other W31 (Or.inr (slot_ne (C := "stavelog/wire/History") (Or.inl (own_w42 hw)) (Or.inl (own_w44 hw)) (by decide) (t := .int) (t' := (.object "java/util/zip/Checksum")) (by decide) (by decide)))
  obtain ⟨fs, hr, hrun, hended, hW, hsame⟩ := X31.leave (v := none) (fun _ => rfl)
  refine ⟨_, _, pre0 _ ?_, hrun, hended, _, _, rfl, ?_, ⟨_, rfl⟩, hW, hsame.mono (by decide) (by decide)⟩
  · show Steps p.tables e below (s₁.setTop (mkF m 0 #[.val (.ref a1), .val (.int p2)] [])) _
    refine XS.aloadN X0.here hx rfl (hb hby d5_0) rfl rfl ?_
    show Steps p.tables e below (s₁.setTop (mkF m 1 #[.val (.ref a1), .val (.int p2)] [(.ref a1)])) _
    refine XS.iloadN X0.here hx rfl (hb hby d5_1) rfl ?_
    show Steps p.tables e below (s₁.setTop (mkF m 2 #[.val (.ref a1), .val (.int p2)] [(.int p2), (.ref a1)])) _
    refine st1 _ ?_
    show Steps p.tables e below (T1.setTop (mkF m 5 #[.val (.ref a1), .val (.int p2)] [])) _
    refine XS.aloadN X1.here hx rfl (hb hby d5_5) rfl rfl ?_
    show Steps p.tables e below (T1.setTop (mkF m 6 #[.val (.ref a1), .val (.int p2)] [(.ref a1)])) _
    refine XS.lconst X1.here hx rfl (hb hby d5_6) ?_
    show Steps p.tables e below (T1.setTop (mkF m 7 #[.val (.ref a1), .val (.int p2)] [(.long (0 : Int64)), (.ref a1)])) _
    refine st5 _ ?_
    show Steps p.tables e below (T5.setTop (mkF m 10 #[.val (.ref a1), .val (.int p2)] [])) _
    refine XS.aloadN X5.here hx rfl (hb hby d5_10) rfl rfl ?_
    show Steps p.tables e below (T5.setTop (mkF m 11 #[.val (.ref a1), .val (.int p2)] [(.ref a1)])) _
    refine XS.lconst X5.here hx rfl (hb hby d5_11) ?_
    show Steps p.tables e below (T5.setTop (mkF m 12 #[.val (.ref a1), .val (.int p2)] [(.long (0 : Int64)), (.ref a1)])) _
    refine st10 _ ?_
    show Steps p.tables e below (T10.setTop (mkF m 15 #[.val (.ref a1), .val (.int p2)] [])) _
    refine XS.aloadN X10.here hx rfl (hb hby d5_15) rfl rfl ?_
    show Steps p.tables e below (T10.setTop (mkF m 16 #[.val (.ref a1), .val (.int p2)] [(.ref a1)])) _
    refine XS.iconst X10.here hx rfl (hb hby d5_16) ?_
    show Steps p.tables e below (T10.setTop (mkF m 17 #[.val (.ref a1), .val (.int p2)] [(.int (0 : Int32)), (.ref a1)])) _
    refine st16 _ ?_
    show Steps p.tables e below (T16.setTop (mkF m 20 #[.val (.ref a1), .val (.int p2)] [])) _
    refine XS.aloadN X16.here hx rfl (hb hby d5_20) rfl rfl ?_
    show Steps p.tables e below (T16.setTop (mkF m 21 #[.val (.ref a1), .val (.int p2)] [(.ref a1)])) _
    refine XS.iconst X16.here hx rfl (hb hby d5_21) ?_
    show Steps p.tables e below (T16.setTop (mkF m 22 #[.val (.ref a1), .val (.int p2)] [(.int (0 : Int32)), (.ref a1)])) _
    refine st23 _ ?_
    show Steps p.tables e below (T23.setTop (mkF m 25 #[.val (.ref a1), .val (.int p2)] [])) _
    refine XS.aloadN X23.here hx rfl (hb hby d5_25) rfl rfl ?_
    show Steps p.tables e below (T23.setTop (mkF m 26 #[.val (.ref a1), .val (.int p2)] [(.ref a1)])) _
    refine XS.aconstNull X23.here hx rfl (hb hby d5_26) ?_
    show Steps p.tables e below (T23.setTop (mkF m 27 #[.val (.ref a1), .val (.int p2)] [.null, (.ref a1)])) _
    refine st31 _ ?_
    show Steps p.tables e below (T31.setTop (mkF m 30 #[.val (.ref a1), .val (.int p2)] [])) _
    exact X31.returnOut hx Bd.returns (hb hby d5_30) hr
  · show Q5_15 Z a1 p2 p3 q4 p5 a6 h0 n0 _ T31.heap _
    rw [e31]
    exact ⟨rfl, N31, KC32, c57, c62, c66, c69, c71, c72, Fw31, c38, c44, c50, c56⟩
theorem ef7_16 (m : MethodId) (a1 : Addr) (p2 : Int32) : entryFrame m #[(.ref a1), (.long (1 : Int64)), (.int p2)] 6 = mkF m 0 #[.val (.ref a1), .val (.long (1 : Int64)), .second, .val (.int p2), .unset, .unset] [] := by first | (simp [entryFrame, mkF, argsToLocals, Value.category]; done) | rfl
def Q7_16 (Z : State) (a1 : Addr) (p2 : Int32) (p3 : Int32) (p4 : Int32) (a5 : Addr) (h0 : Heap) (n0 : Nat) (v : Option Value) (h : Heap) (L : List Loc) : Prop := v = none ∧ Fr n0 L ∧ Keep h0 h [a1] ∧ Fld Z h a1 "stavelog/wire/History" "written" "J" (.long (0 : Int64)) ∧ Fld Z h a1 "stavelog/wire/History" "literalsLeft" "I" (.int p3) ∧ Fld Z h a1 "stavelog/wire/History" "reachable" "J" (.long (0 : Int64)) ∧ Fld Z h a1 "stavelog/wire/History" "kept" "I" (.int p4) ∧ Exa Z h a1 "stavelog/wire/History" ∧ Fld Z h a1 "stavelog/wire/History" "distance" "I" (.int (1 : Int32)) ∧ Fld Z h a1 "stavelog/wire/History" "copyLeft" "I" (.int p2) ∧ Fld Z h a1 "stavelog/wire/History" "decompression" "Lstavelog/wire/Decompression;" (.ref a5) ∧ Fld Z h a1 "stavelog/wire/History" "literalAt" "I" (.int (0 : Int32)) ∧ Fld Z h a1 "stavelog/wire/History" "literals" "Ljava/nio/ByteBuffer;" .null ∧ Fld Z h a1 "stavelog/wire/History" "sum" "Ljava/util/zip/Checksum;" .null
set_option maxRecDepth 65536 in
set_option maxHeartbeats 40000000 in
theorem rm7_16 (l : Launch) (Z : State) (a0 : Array Value) (hw : ∀ d ∈ tables_1, d.before a0 Z = true) (ws : List Jvm.Cond) (a1 : Addr) (p2 : Int32) (p3 : Int32) (p4 : Int32) (a5 : Addr) (h0 : Heap) (n0 : Nat) (Z0 : n0 ≤ h0.size) (F_a1_written : Fld Z h0 a1 "stavelog/wire/History" "written" "J" (.long (0 : Int64))) (F_a1_literalsLeft : Fld Z h0 a1 "stavelog/wire/History" "literalsLeft" "I" (.int p3)) (F_a1_reachable : Fld Z h0 a1 "stavelog/wire/History" "reachable" "J" (.long (0 : Int64))) (F_a1_kept : Fld Z h0 a1 "stavelog/wire/History" "kept" "I" (.int p4)) (hj0 : (0 : Int32) < (lcmpW (p3.toInt64) (p4.toInt64))) (hc5 : ¬ ((0 : Int32) < (lcmpW (1 : Int64) (p4.toInt64)))) (E_a1 : Exa Z h0 a1 "stavelog/wire/History") (F_a1_distance : Fld Z h0 a1 "stavelog/wire/History" "distance" "I" (.int (0 : Int32))) (g_a1 : n0 ≤ a1) (F_a1_copyLeft : Fld Z h0 a1 "stavelog/wire/History" "copyLeft" "I" (.int (0 : Int32))) (F_a1_decompression : Fld Z h0 a1 "stavelog/wire/History" "decompression" "Lstavelog/wire/Decompression;" (.ref a5)) (F_a1_literalAt : Fld Z h0 a1 "stavelog/wire/History" "literalAt" "I" (.int (0 : Int32))) (F_a1_literals : Fld Z h0 a1 "stavelog/wire/History" "literals" "Ljava/nio/ByteBuffer;" .null) (F_a1_sum : Fld Z h0 a1 "stavelog/wire/History" "sum" "Ljava/util/zip/Checksum;" .null) :
    MetFree l (⟨"stavelog/wire/History", "copy", "(JI)V"⟩ : MethodName) (head1 (Jvm.Cond.code (⟨"stavelog/wire/History", "copy", "(JI)V"⟩ : MethodName) prog_235_method_11_code 6 none :: ws) ({ frames := 1, cells := 0, slots := 0, locals := 15 } : Room)) (fun a U => a = #[(.ref a1), (.long (1 : Int64)), (.int p2)] ∧ Z.Warmed39 U.vm ∧ U.heap = h0) (fun _ _ _ _ _ => True) (fun _ U o U' => ∃ v L, o = .returned v ∧ Q7_16 Z a1 p2 p3 p4 a5 h0 n0 v U'.heap L ∧ FrameEnd U o U' L ({ frames := 1, cells := 0, slots := 0, locals := 15 } : Room).cells ({ frames := 1, cells := 0, slots := 0, locals := 15 } : Room).slots) := by
  refine MetFree.of_bodySF (plainFor_of_name pn_stavelog_wire_History) hisR ?_
  intro p e s m args below meth c s₁ Bd hml0 hP hK
  obtain ⟨rfl, hZ, hh⟩ := hP
  have hx := Bd.exec
  have hby := Bd.bytes
  have hml : c.maxLocals = 6 := hml0
  have hown : s.vm.findClass "stavelog/wire/History" = some m.cls := findClass_of_methodNamed Bd.named
  have hnm := (name_of_methodNamed Bd.named Bd.method).1
  have X0 : Stand p l e ({ frames := 1, cells := 0, slots := 0, locals := 15 } : Room) s m #[(.ref a1), (.long (1 : Int64)), (.int p2)] below meth c s₁ [] 0 0 := Stand.of_body Bd
  have e0 : s₁.heap = h0 := by rw [← hh, Bd.state]; rfl
  have N0 := Fr.nil n0
  have pre0 : ∀ t, Steps p.tables e below (s₁.setTop (mkF m 0 #[.val (.ref a1), .val (.long (1 : Int64)), .second, .val (.int p2), .unset, .unset] [])) t → Steps p.tables e below (s₁.setTop (entryFrame m #[(.ref a1), (.long (1 : Int64)), (.int p2)] 6)) t := fun t k => castTop (ef7_16 m a1 p2) k
  obtain ⟨T1, X1, e1, st1⟩ := getF X0 hx hZ hown (host := "") (Or.inl (own_w35 hw)) Via.refl e0 F_a1_written (g := (mkF m 1 #[.val (.ref a1), .val (.long (1 : Int64)), .second, .val (.int p2), .unset, .unset] [(.ref a1)])) rfl rfl (hb hby d7_1)
  obtain ⟨T2, X2, e2, st2⟩ := getF X1 hx hZ hown (host := "") (Or.inl (own_w39 hw)) Via.refl e1 F_a1_literalsLeft (g := (mkF m 5 #[.val (.ref a1), .val (.long (1 : Int64)), .second, .val (.int p2), .unset, .unset] [(.ref a1), (.long (0 : Int64))])) rfl rfl (hb hby d7_5)
  obtain ⟨T3, X3, e3, st3⟩ := getF X2 hx hZ hown (host := "") (Or.inl (own_w37 hw)) Via.refl e2 F_a1_reachable (g := (mkF m 11 #[.val (.ref a1), .val (.long (1 : Int64)), .second, .val (.int p2), .unset, .unset] [(.ref a1), (.long (p3.toInt64))])) rfl rfl (hb hby d7_11)
  obtain ⟨T4, X4, e4, st4⟩ := getF X3 hx hZ hown (host := "") (Or.inl (own_w33 hw)) Via.refl e3 F_a1_kept (g := (mkF m 16 #[.val (.ref a1), .val (.long (1 : Int64)), .second, .val (.int p2), .unset, .unset] [(.ref a1), (.long (p3.toInt64))])) rfl rfl (hb hby d7_16)
  obtain ⟨_, _, ⟨T5, L5, k5, n5⟩, -, X5, ⟨Lc5, hQ5, l5, y5, z5⟩, st5⟩ := Jvm.LawKit.callS X4 hx (y := (⟨"java/lang/Math", "min", "(JJ)J"⟩ : MethodName)) hown (mvT hZ (own_w59 hw)) (mvT hZ (own_w60 hw)) (mvT hZ (own_w61 hw)) (mvT hZ (own_w62 hw)) (by decide) (backOf (W := 0) (rm8_9 l Z a0 hw [] (p3.toInt64) (p4.toInt64) h0 n0 Z0 hj0) hZ (own_w62 hw) (own_w61 hw) (by decide) (by decide)) (g := (mkF m 20 #[.val (.ref a1), .val (.long (1 : Int64)), .second, .val (.int p2), .unset, .unset] [(.long (p4.toInt64)), (.long (p3.toInt64))])) rfl (by rw [hml]; rfl) (argsL := [(.long (p3.toInt64)), (.long (p4.toInt64))]) (rest := []) (lenOf pd__JJ_J rfl) rfl (by show 2 * 0 + _ ≤ _; exact Nat.le_of_eq rfl) (hb hby d7_20) (fun _ _ => ⟨rfl, e4, (by decide : 0 + 0 ≤ _), (by decide : 0 + 0 ≤ _)⟩)
  dsimp only [Pt.U, Pt.locs, Pt.cells, Pt.slots] at X5 l5 y5 z5 st5 hQ5
  subst l5 y5 z5
  obtain ⟨rfl, N5q, e5⟩ := hQ5
  have N5 := Fr.app N0 N5q
  obtain ⟨T6, h6, X6, e6, W6, st6⟩ := putF X5 hx hZ hown (host := "") (Or.inl (own_w63 hw)) Via.refl e5 F_a1_distance E_a1 (Or.inl (own_w64 hw)) (own_w3 hw) (ty := .int) (by decide) rfl rfl (g := (mkF m 57 #[.val (.ref a1), .val (.long (1 : Int64)), .second, .val (.int p2), .val (.long (p4.toInt64)), .second] [(.int (1 : Int32)), (.ref a1)])) rfl rfl (hb hby d7_57)
  have KC7 : Keep h0 h6 [a1] := (Keep.refl h0 [a1]).wr W6 (Or.inl (List.mem_of_getElem? (i := 0) rfl))
  have Fw6 := F_a1_distance.same W6
  have N6 := Fr.snoc X6 N5 g_a1
  have c8 := E_a1.wr W6
  have c9 := F_a1_copyLeft.other W6 (Or.inr (slot_ne (C := "stavelog/wire/History") (Or.inl (own_w42 hw)) (Or.inl (own_w64 hw)) (by decide) (t := .int) (t' := .int) (by decide) (by decide)))
  obtain ⟨T10, h10, X10, e10, W10, st10⟩ := putF X6 hx hZ hown (host := "") (Or.inl (own_w41 hw)) Via.refl e6 c9 c8 (Or.inl (own_w42 hw)) (own_w3 hw) (ty := .int) (by decide) rfl rfl (g := (mkF m 62 #[.val (.ref a1), .val (.long (1 : Int64)), .second, .val (.int p2), .val (.long (p4.toInt64)), .second] [(.int p2), (.ref a1)])) rfl rfl (hb hby d7_62)
  have KC11 : Keep h0 h10 [a1] := KC7.wr W10 (Or.inl (List.mem_of_getElem? (i := 0) rfl))
  have Fw10 := c9.same W10
  have N10 := Fr.snoc X10 N6 g_a1
  have c12 := F_a1_decompression.other W6 (Or.inr (slot_ne (C := "stavelog/wire/History") (Or.inr (own_w27 hw)) (Or.inl (own_w64 hw)) (by decide) (t := (.object "stavelog/wire/Decompression")) (t' := .int) (by decide) (by decide)))
  have c13 := c12.other W10 (Or.inr (slot_ne (C := "stavelog/wire/History") (Or.inr (own_w27 hw)) (Or.inl (own_w42 hw)) (by decide) (t := (.object "stavelog/wire/Decompression")) (t' := .int) (by decide) (by decide)))
  have c14 := F_a1_literalAt.other W6 (Or.inr (slot_ne (C := "stavelog/wire/History") (Or.inl (own_w53 hw)) (Or.inl (own_w64 hw)) (by decide) (t := .int) (t' := .int) (by decide) (by decide)))
  have c15 := c14.other W10 (Or.inr (slot_ne (C := "stavelog/wire/History") (Or.inl (own_w53 hw)) (Or.inl (own_w42 hw)) (by decide) (t := .int) (t' := .int) (by decide) (by decide)))
  have c16 := F_a1_literals.other W6 (Or.inr (slot_ne (C := "stavelog/wire/History") (Or.inl (own_w51 hw)) (Or.inl (own_w64 hw)) (by decide) (t := (.object "java/nio/ByteBuffer")) (t' := .int) (by decide) (by decide)))
  have c17 := c16.other W10 (Or.inr (slot_ne (C := "stavelog/wire/History") (Or.inl (own_w51 hw)) (Or.inl (own_w42 hw)) (by decide) (t := (.object "java/nio/ByteBuffer")) (t' := .int) (by decide) (by decide)))
  have c18 := F_a1_sum.other W6 (Or.inr (slot_ne (C := "stavelog/wire/History") (Or.inl (own_w44 hw)) (Or.inl (own_w64 hw)) (by decide) (t := (.object "java/util/zip/Checksum")) (t' := .int) (by decide) (by decide)))
  have c19 := c18.other W10 (Or.inr (slot_ne (C := "stavelog/wire/History") (Or.inl (own_w44 hw)) (Or.inl (own_w42 hw)) (by decide) (t := (.object "java/util/zip/Checksum")) (t' := .int) (by decide) (by decide)))
  have c20 := F_a1_written.other W6 (Or.inr (slot_ne (C := "stavelog/wire/History") (Or.inl (own_w36 hw)) (Or.inl (own_w64 hw)) (by decide) (t := .long) (t' := .int) (by decide) (by decide)))
  have c21 := c20.other W10 (Or.inr (slot_ne (C := "stavelog/wire/History") (Or.inl (own_w36 hw)) (Or.inl (own_w42 hw)) (by decide) (t := .long) (t' := .int) (by decide) (by decide)))
  have c22 := F_a1_literalsLeft.other W6 (Or.inr (slot_ne (C := "stavelog/wire/History") (Or.inl (own_w40 hw)) (Or.inl (own_w64 hw)) (by decide) (t := .int) (t' := .int) (by decide) (by decide)))
  have c23 := c22.other W10 (Or.inr (slot_ne (C := "stavelog/wire/History") (Or.inl (own_w40 hw)) (Or.inl (own_w42 hw)) (by decide) (t := .int) (t' := .int) (by decide) (by decide)))
  have c24 := F_a1_reachable.other W6 (Or.inr (slot_ne (C := "stavelog/wire/History") (Or.inl (own_w38 hw)) (Or.inl (own_w64 hw)) (by decide) (t := .long) (t' := .int) (by decide) (by decide)))
  have c25 := c24.other W10 (Or.inr (slot_ne (C := "stavelog/wire/History") (Or.inl (own_w38 hw)) (Or.inl (own_w42 hw)) (by decide) (t := .long) (t' := .int) (by decide) (by decide)))
  have c26 := F_a1_kept.other W6 (Or.inr (slot_ne (C := "stavelog/wire/History") (Or.inl (own_w34 hw)) (Or.inl (own_w64 hw)) (by decide) (t := .int) (t' := .int) (by decide) (by decide)))
  have c27 := c26.other W10 (Or.inr (slot_ne (C := "stavelog/wire/History") (Or.inl (own_w34 hw)) (Or.inl (own_w42 hw)) (by decide) (t := .int) (t' := .int) (by decide) (by decide)))
  have c28 := c8.wr W10
  have c29 := Fw6.other W10 (Or.inr (slot_ne (C := "stavelog/wire/History") (Or.inl (own_w64 hw)) (Or.inl (own_w42 hw)) (by decide) (t := .int) (t' := .int) (by decide) (by decide)))
  obtain ⟨fs, hr, hrun, hended, hW, hsame⟩ := X10.leave (v := none) (fun _ => rfl)
  refine ⟨_, _, pre0 _ ?_, hrun, hended, _, _, rfl, ?_, ⟨_, rfl⟩, hW, hsame.mono (by decide) (by decide)⟩
  · show Steps p.tables e below (s₁.setTop (mkF m 0 #[.val (.ref a1), .val (.long (1 : Int64)), .second, .val (.int p2), .unset, .unset] [])) _
    refine XS.aloadN X0.here hx rfl (hb hby d7_0) rfl rfl ?_
    show Steps p.tables e below (s₁.setTop (mkF m 1 #[.val (.ref a1), .val (.long (1 : Int64)), .second, .val (.int p2), .unset, .unset] [(.ref a1)])) _
    refine st1 _ ?_
    show Steps p.tables e below (T1.setTop (mkF m 4 #[.val (.ref a1), .val (.long (1 : Int64)), .second, .val (.int p2), .unset, .unset] [(.long (0 : Int64))])) _
    refine XS.aloadN X1.here hx rfl (hb hby d7_4) rfl rfl ?_
    show Steps p.tables e below (T1.setTop (mkF m 5 #[.val (.ref a1), .val (.long (1 : Int64)), .second, .val (.int p2), .unset, .unset] [(.ref a1), (.long (0 : Int64))])) _
    refine st2 _ ?_
    show Steps p.tables e below (T2.setTop (mkF m 8 #[.val (.ref a1), .val (.long (1 : Int64)), .second, .val (.int p2), .unset, .unset] [(.int p3), (.long (0 : Int64))])) _
    refine XS.i2l X2.here hx rfl (hb hby d7_8) rfl ?_
    show Steps p.tables e below (T2.setTop (mkF m 9 #[.val (.ref a1), .val (.long (1 : Int64)), .second, .val (.int p2), .unset, .unset] [(.long (p3.toInt64)), (.long (0 : Int64))])) _
    refine XS.ladd X2.here hx rfl (hb hby d7_9) rfl ?_
    show Steps p.tables e below (T2.setTop (mkF m 10 #[.val (.ref a1), .val (.long (1 : Int64)), .second, .val (.int p2), .unset, .unset] [(.long ((0 : Int64) + (p3.toInt64)))])) _
    rw [Int64.zero_add]
    show Steps p.tables e below (T2.setTop (mkF m 10 #[.val (.ref a1), .val (.long (1 : Int64)), .second, .val (.int p2), .unset, .unset] [(.long (p3.toInt64))])) _
    refine XS.aloadN X2.here hx rfl (hb hby d7_10) rfl rfl ?_
    show Steps p.tables e below (T2.setTop (mkF m 11 #[.val (.ref a1), .val (.long (1 : Int64)), .second, .val (.int p2), .unset, .unset] [(.ref a1), (.long (p3.toInt64))])) _
    refine st3 _ ?_
    show Steps p.tables e below (T3.setTop (mkF m 14 #[.val (.ref a1), .val (.long (1 : Int64)), .second, .val (.int p2), .unset, .unset] [(.long (0 : Int64)), (.long (p3.toInt64))])) _
    refine XS.lsub X3.here hx rfl (hb hby d7_14) rfl ?_
    show Steps p.tables e below (T3.setTop (mkF m 15 #[.val (.ref a1), .val (.long (1 : Int64)), .second, .val (.int p2), .unset, .unset] [(.long ((p3.toInt64) - (0 : Int64)))])) _
    rw [Int64.sub_zero]
    show Steps p.tables e below (T3.setTop (mkF m 15 #[.val (.ref a1), .val (.long (1 : Int64)), .second, .val (.int p2), .unset, .unset] [(.long (p3.toInt64))])) _
    refine XS.aloadN X3.here hx rfl (hb hby d7_15) rfl rfl ?_
    show Steps p.tables e below (T3.setTop (mkF m 16 #[.val (.ref a1), .val (.long (1 : Int64)), .second, .val (.int p2), .unset, .unset] [(.ref a1), (.long (p3.toInt64))])) _
    refine st4 _ ?_
    show Steps p.tables e below (T4.setTop (mkF m 19 #[.val (.ref a1), .val (.long (1 : Int64)), .second, .val (.int p2), .unset, .unset] [(.int p4), (.long (p3.toInt64))])) _
    refine XS.i2l X4.here hx rfl (hb hby d7_19) rfl ?_
    show Steps p.tables e below (T4.setTop (mkF m 20 #[.val (.ref a1), .val (.long (1 : Int64)), .second, .val (.int p2), .unset, .unset] [(.long (p4.toInt64)), (.long (p3.toInt64))])) _
    refine st5 _ ?_
    show Steps p.tables e below (T5.setTop (mkF m 23 #[.val (.ref a1), .val (.long (1 : Int64)), .second, .val (.int p2), .unset, .unset] [(.long (p4.toInt64))])) _
    refine XS.lstore X5.here hx rfl (hb hby d7_23) rfl (l' := #[.val (.ref a1), .val (.long (1 : Int64)), .second, .val (.int p2), .val (.long (p4.toInt64)), .second]) rfl ?_
    show Steps p.tables e below (T5.setTop (mkF m 25 #[.val (.ref a1), .val (.long (1 : Int64)), .second, .val (.int p2), .val (.long (p4.toInt64)), .second] [])) _
    refine XS.lloadN X5.here hx rfl (hb hby d7_25) rfl ?_
    show Steps p.tables e below (T5.setTop (mkF m 26 #[.val (.ref a1), .val (.long (1 : Int64)), .second, .val (.int p2), .val (.long (p4.toInt64)), .second] [(.long (1 : Int64))])) _
    refine XS.lconst X5.here hx rfl (hb hby d7_26) ?_
    show Steps p.tables e below (T5.setTop (mkF m 27 #[.val (.ref a1), .val (.long (1 : Int64)), .second, .val (.int p2), .val (.long (p4.toInt64)), .second] [(.long (1 : Int64)), (.long (1 : Int64))])) _
    refine XS.lcmp X5.here hx rfl (hb hby d7_27) rfl ?_
    show Steps p.tables e below (T5.setTop (mkF m 28 #[.val (.ref a1), .val (.long (1 : Int64)), .second, .val (.int p2), .val (.long (p4.toInt64)), .second] [(.int (lcmpW (1 : Int64) (1 : Int64)))])) _
    rw [(by decide : (lcmpW (1 : Int64) (1 : Int64)) = (0 : Int32))]
    show Steps p.tables e below (T5.setTop (mkF m 28 #[.val (.ref a1), .val (.long (1 : Int64)), .second, .val (.int p2), .val (.long (p4.toInt64)), .second] [(.int (0 : Int32))])) _
    refine XS.ifNo X5.here hx rfl (hb hby d7_28) rfl ((if0 _ _).trans (flt (by decide : ¬ ((0 : Int32) < (0 : Int32)))).1) ?_
    show Steps p.tables e below (T5.setTop (mkF m 31 #[.val (.ref a1), .val (.long (1 : Int64)), .second, .val (.int p2), .val (.long (p4.toInt64)), .second] [])) _
    refine XS.lloadN X5.here hx rfl (hb hby d7_31) rfl ?_
    show Steps p.tables e below (T5.setTop (mkF m 32 #[.val (.ref a1), .val (.long (1 : Int64)), .second, .val (.int p2), .val (.long (p4.toInt64)), .second] [(.long (1 : Int64))])) _
    refine XS.lload X5.here hx rfl (hb hby d7_32) rfl ?_
    show Steps p.tables e below (T5.setTop (mkF m 34 #[.val (.ref a1), .val (.long (1 : Int64)), .second, .val (.int p2), .val (.long (p4.toInt64)), .second] [(.long (p4.toInt64)), (.long (1 : Int64))])) _
    refine XS.lcmp X5.here hx rfl (hb hby d7_34) rfl ?_
    show Steps p.tables e below (T5.setTop (mkF m 35 #[.val (.ref a1), .val (.long (1 : Int64)), .second, .val (.int p2), .val (.long (p4.toInt64)), .second] [(.int (lcmpW (1 : Int64) (p4.toInt64)))])) _
    refine XS.ifYes X5.here hx rfl (pc0 := 35) (pc' := 54) rfl (hb hby d7_35) rfl ((if0 _ _).trans (flt hc5).2.2.2) (by decide) (by decide) ?_
    show Steps p.tables e below (T5.setTop (mkF m 54 #[.val (.ref a1), .val (.long (1 : Int64)), .second, .val (.int p2), .val (.long (p4.toInt64)), .second] [])) _
    refine XS.aloadN X5.here hx rfl (hb hby d7_54) rfl rfl ?_
    show Steps p.tables e below (T5.setTop (mkF m 55 #[.val (.ref a1), .val (.long (1 : Int64)), .second, .val (.int p2), .val (.long (p4.toInt64)), .second] [(.ref a1)])) _
    refine XS.lloadN X5.here hx rfl (hb hby d7_55) rfl ?_
    show Steps p.tables e below (T5.setTop (mkF m 56 #[.val (.ref a1), .val (.long (1 : Int64)), .second, .val (.int p2), .val (.long (p4.toInt64)), .second] [(.long (1 : Int64)), (.ref a1)])) _
    refine XS.l2i X5.here hx rfl (hb hby d7_56) rfl ?_
    show Steps p.tables e below (T5.setTop (mkF m 57 #[.val (.ref a1), .val (.long (1 : Int64)), .second, .val (.int p2), .val (.long (p4.toInt64)), .second] [(.int ((1 : Int64).toInt32)), (.ref a1)])) _
    rw [(by decide : ((1 : Int64).toInt32) = (1 : Int32))]
    show Steps p.tables e below (T5.setTop (mkF m 57 #[.val (.ref a1), .val (.long (1 : Int64)), .second, .val (.int p2), .val (.long (p4.toInt64)), .second] [(.int (1 : Int32)), (.ref a1)])) _
    refine st6 _ ?_
    show Steps p.tables e below (T6.setTop (mkF m 60 #[.val (.ref a1), .val (.long (1 : Int64)), .second, .val (.int p2), .val (.long (p4.toInt64)), .second] [])) _
    refine XS.aloadN X6.here hx rfl (hb hby d7_60) rfl rfl ?_
    show Steps p.tables e below (T6.setTop (mkF m 61 #[.val (.ref a1), .val (.long (1 : Int64)), .second, .val (.int p2), .val (.long (p4.toInt64)), .second] [(.ref a1)])) _
    refine XS.iloadN X6.here hx rfl (hb hby d7_61) rfl ?_
    show Steps p.tables e below (T6.setTop (mkF m 62 #[.val (.ref a1), .val (.long (1 : Int64)), .second, .val (.int p2), .val (.long (p4.toInt64)), .second] [(.int p2), (.ref a1)])) _
    refine st10 _ ?_
    show Steps p.tables e below (T10.setTop (mkF m 65 #[.val (.ref a1), .val (.long (1 : Int64)), .second, .val (.int p2), .val (.long (p4.toInt64)), .second] [])) _
    exact X10.returnOut hx Bd.returns (hb hby d7_65) hr
  · show Q7_16 Z a1 p2 p3 p4 a5 h0 n0 _ T10.heap _
    rw [e10]
    exact ⟨rfl, N10, KC11, c21, c23, c25, c27, c28, c29, Fw10, c13, c15, c17, c19⟩
theorem ef7_17 (m : MethodId) (a1 : Addr) (p2 : Int32) : entryFrame m #[(.ref a1), (.long (1 : Int64)), (.int p2)] 6 = mkF m 0 #[.val (.ref a1), .val (.long (1 : Int64)), .second, .val (.int p2), .unset, .unset] [] := by first | (simp [entryFrame, mkF, argsToLocals, Value.category]; done) | rfl
def Q7_17 (Z : State) (a1 : Addr) (p2 : Int32) (p3 : Int32) (p4 : Int32) (a5 : Addr) (h0 : Heap) (n0 : Nat) (v : Option Value) (h : Heap) (L : List Loc) : Prop := v = none ∧ Fr n0 L ∧ Keep h0 h [a1] ∧ Fld Z h a1 "stavelog/wire/History" "written" "J" (.long (0 : Int64)) ∧ Fld Z h a1 "stavelog/wire/History" "literalsLeft" "I" (.int p3) ∧ Fld Z h a1 "stavelog/wire/History" "reachable" "J" (.long (0 : Int64)) ∧ Fld Z h a1 "stavelog/wire/History" "kept" "I" (.int p4) ∧ Exa Z h a1 "stavelog/wire/History" ∧ Fld Z h a1 "stavelog/wire/History" "distance" "I" (.int (1 : Int32)) ∧ Fld Z h a1 "stavelog/wire/History" "copyLeft" "I" (.int p2) ∧ Fld Z h a1 "stavelog/wire/History" "decompression" "Lstavelog/wire/Decompression;" (.ref a5) ∧ Fld Z h a1 "stavelog/wire/History" "literalAt" "I" (.int (0 : Int32)) ∧ Fld Z h a1 "stavelog/wire/History" "literals" "Ljava/nio/ByteBuffer;" .null ∧ Fld Z h a1 "stavelog/wire/History" "sum" "Ljava/util/zip/Checksum;" .null
set_option maxRecDepth 65536 in
set_option maxHeartbeats 40000000 in
theorem rm7_17 (l : Launch) (Z : State) (a0 : Array Value) (hw : ∀ d ∈ tables_1, d.before a0 Z = true) (ws : List Jvm.Cond) (a1 : Addr) (p2 : Int32) (p3 : Int32) (p4 : Int32) (a5 : Addr) (h0 : Heap) (n0 : Nat) (Z0 : n0 ≤ h0.size) (F_a1_written : Fld Z h0 a1 "stavelog/wire/History" "written" "J" (.long (0 : Int64))) (F_a1_literalsLeft : Fld Z h0 a1 "stavelog/wire/History" "literalsLeft" "I" (.int p3)) (F_a1_reachable : Fld Z h0 a1 "stavelog/wire/History" "reachable" "J" (.long (0 : Int64))) (F_a1_kept : Fld Z h0 a1 "stavelog/wire/History" "kept" "I" (.int p4)) (hj0 : ¬ ((0 : Int32) < (lcmpW (p3.toInt64) (p4.toInt64)))) (hc5 : ¬ ((0 : Int32) < (lcmpW (1 : Int64) (p3.toInt64)))) (E_a1 : Exa Z h0 a1 "stavelog/wire/History") (F_a1_distance : Fld Z h0 a1 "stavelog/wire/History" "distance" "I" (.int (0 : Int32))) (g_a1 : n0 ≤ a1) (F_a1_copyLeft : Fld Z h0 a1 "stavelog/wire/History" "copyLeft" "I" (.int (0 : Int32))) (F_a1_decompression : Fld Z h0 a1 "stavelog/wire/History" "decompression" "Lstavelog/wire/Decompression;" (.ref a5)) (F_a1_literalAt : Fld Z h0 a1 "stavelog/wire/History" "literalAt" "I" (.int (0 : Int32))) (F_a1_literals : Fld Z h0 a1 "stavelog/wire/History" "literals" "Ljava/nio/ByteBuffer;" .null) (F_a1_sum : Fld Z h0 a1 "stavelog/wire/History" "sum" "Ljava/util/zip/Checksum;" .null) :
    MetFree l (⟨"stavelog/wire/History", "copy", "(JI)V"⟩ : MethodName) (head1 (Jvm.Cond.code (⟨"stavelog/wire/History", "copy", "(JI)V"⟩ : MethodName) prog_235_method_11_code 6 none :: ws) ({ frames := 1, cells := 0, slots := 0, locals := 15 } : Room)) (fun a U => a = #[(.ref a1), (.long (1 : Int64)), (.int p2)] ∧ Z.Warmed39 U.vm ∧ U.heap = h0) (fun _ _ _ _ _ => True) (fun _ U o U' => ∃ v L, o = .returned v ∧ Q7_17 Z a1 p2 p3 p4 a5 h0 n0 v U'.heap L ∧ FrameEnd U o U' L ({ frames := 1, cells := 0, slots := 0, locals := 15 } : Room).cells ({ frames := 1, cells := 0, slots := 0, locals := 15 } : Room).slots) := by
  refine MetFree.of_bodySF (plainFor_of_name pn_stavelog_wire_History) hisR ?_
  intro p e s m args below meth c s₁ Bd hml0 hP hK
  obtain ⟨rfl, hZ, hh⟩ := hP
  have hx := Bd.exec
  have hby := Bd.bytes
  have hml : c.maxLocals = 6 := hml0
  have hown : s.vm.findClass "stavelog/wire/History" = some m.cls := findClass_of_methodNamed Bd.named
  have hnm := (name_of_methodNamed Bd.named Bd.method).1
  have X0 : Stand p l e ({ frames := 1, cells := 0, slots := 0, locals := 15 } : Room) s m #[(.ref a1), (.long (1 : Int64)), (.int p2)] below meth c s₁ [] 0 0 := Stand.of_body Bd
  have e0 : s₁.heap = h0 := by rw [← hh, Bd.state]; rfl
  have N0 := Fr.nil n0
  have pre0 : ∀ t, Steps p.tables e below (s₁.setTop (mkF m 0 #[.val (.ref a1), .val (.long (1 : Int64)), .second, .val (.int p2), .unset, .unset] [])) t → Steps p.tables e below (s₁.setTop (entryFrame m #[(.ref a1), (.long (1 : Int64)), (.int p2)] 6)) t := fun t k => castTop (ef7_17 m a1 p2) k
  obtain ⟨T1, X1, e1, st1⟩ := getF X0 hx hZ hown (host := "") (Or.inl (own_w35 hw)) Via.refl e0 F_a1_written (g := (mkF m 1 #[.val (.ref a1), .val (.long (1 : Int64)), .second, .val (.int p2), .unset, .unset] [(.ref a1)])) rfl rfl (hb hby d7_1)
  obtain ⟨T2, X2, e2, st2⟩ := getF X1 hx hZ hown (host := "") (Or.inl (own_w39 hw)) Via.refl e1 F_a1_literalsLeft (g := (mkF m 5 #[.val (.ref a1), .val (.long (1 : Int64)), .second, .val (.int p2), .unset, .unset] [(.ref a1), (.long (0 : Int64))])) rfl rfl (hb hby d7_5)
  obtain ⟨T3, X3, e3, st3⟩ := getF X2 hx hZ hown (host := "") (Or.inl (own_w37 hw)) Via.refl e2 F_a1_reachable (g := (mkF m 11 #[.val (.ref a1), .val (.long (1 : Int64)), .second, .val (.int p2), .unset, .unset] [(.ref a1), (.long (p3.toInt64))])) rfl rfl (hb hby d7_11)
  obtain ⟨T4, X4, e4, st4⟩ := getF X3 hx hZ hown (host := "") (Or.inl (own_w33 hw)) Via.refl e3 F_a1_kept (g := (mkF m 16 #[.val (.ref a1), .val (.long (1 : Int64)), .second, .val (.int p2), .unset, .unset] [(.ref a1), (.long (p3.toInt64))])) rfl rfl (hb hby d7_16)
  obtain ⟨_, _, ⟨T5, L5, k5, n5⟩, -, X5, ⟨Lc5, hQ5, l5, y5, z5⟩, st5⟩ := Jvm.LawKit.callS X4 hx (y := (⟨"java/lang/Math", "min", "(JJ)J"⟩ : MethodName)) hown (mvT hZ (own_w59 hw)) (mvT hZ (own_w60 hw)) (mvT hZ (own_w61 hw)) (mvT hZ (own_w62 hw)) (by decide) (backOf (W := 0) (rm8_12 l Z a0 hw [] (p3.toInt64) (p4.toInt64) h0 n0 Z0 hj0) hZ (own_w62 hw) (own_w61 hw) (by decide) (by decide)) (g := (mkF m 20 #[.val (.ref a1), .val (.long (1 : Int64)), .second, .val (.int p2), .unset, .unset] [(.long (p4.toInt64)), (.long (p3.toInt64))])) rfl (by rw [hml]; rfl) (argsL := [(.long (p3.toInt64)), (.long (p4.toInt64))]) (rest := []) (lenOf pd__JJ_J rfl) rfl (by show 2 * 0 + _ ≤ _; exact Nat.le_of_eq rfl) (hb hby d7_20) (fun _ _ => ⟨rfl, e4, (by decide : 0 + 0 ≤ _), (by decide : 0 + 0 ≤ _)⟩)
  dsimp only [Pt.U, Pt.locs, Pt.cells, Pt.slots] at X5 l5 y5 z5 st5 hQ5
  subst l5 y5 z5
  obtain ⟨rfl, N5q, e5⟩ := hQ5
  have N5 := Fr.app N0 N5q
  obtain ⟨T6, h6, X6, e6, W6, st6⟩ := putF X5 hx hZ hown (host := "") (Or.inl (own_w63 hw)) Via.refl e5 F_a1_distance E_a1 (Or.inl (own_w64 hw)) (own_w3 hw) (ty := .int) (by decide) rfl rfl (g := (mkF m 57 #[.val (.ref a1), .val (.long (1 : Int64)), .second, .val (.int p2), .val (.long (p3.toInt64)), .second] [(.int (1 : Int32)), (.ref a1)])) rfl rfl (hb hby d7_57)
  have KC7 : Keep h0 h6 [a1] := (Keep.refl h0 [a1]).wr W6 (Or.inl (List.mem_of_getElem? (i := 0) rfl))
  have Fw6 := F_a1_distance.same W6
  have N6 := Fr.snoc X6 N5 g_a1
  have c8 := E_a1.wr W6
  have c9 := F_a1_copyLeft.other W6 (Or.inr (slot_ne (C := "stavelog/wire/History") (Or.inl (own_w42 hw)) (Or.inl (own_w64 hw)) (by decide) (t := .int) (t' := .int) (by decide) (by decide)))
  obtain ⟨T10, h10, X10, e10, W10, st10⟩ := putF X6 hx hZ hown (host := "") (Or.inl (own_w41 hw)) Via.refl e6 c9 c8 (Or.inl (own_w42 hw)) (own_w3 hw) (ty := .int) (by decide) rfl rfl (g := (mkF m 62 #[.val (.ref a1), .val (.long (1 : Int64)), .second, .val (.int p2), .val (.long (p3.toInt64)), .second] [(.int p2), (.ref a1)])) rfl rfl (hb hby d7_62)
  have KC11 : Keep h0 h10 [a1] := KC7.wr W10 (Or.inl (List.mem_of_getElem? (i := 0) rfl))
  have Fw10 := c9.same W10
  have N10 := Fr.snoc X10 N6 g_a1
  have c12 := F_a1_decompression.other W6 (Or.inr (slot_ne (C := "stavelog/wire/History") (Or.inr (own_w27 hw)) (Or.inl (own_w64 hw)) (by decide) (t := (.object "stavelog/wire/Decompression")) (t' := .int) (by decide) (by decide)))
  have c13 := c12.other W10 (Or.inr (slot_ne (C := "stavelog/wire/History") (Or.inr (own_w27 hw)) (Or.inl (own_w42 hw)) (by decide) (t := (.object "stavelog/wire/Decompression")) (t' := .int) (by decide) (by decide)))
  have c14 := F_a1_literalAt.other W6 (Or.inr (slot_ne (C := "stavelog/wire/History") (Or.inl (own_w53 hw)) (Or.inl (own_w64 hw)) (by decide) (t := .int) (t' := .int) (by decide) (by decide)))
  have c15 := c14.other W10 (Or.inr (slot_ne (C := "stavelog/wire/History") (Or.inl (own_w53 hw)) (Or.inl (own_w42 hw)) (by decide) (t := .int) (t' := .int) (by decide) (by decide)))
  have c16 := F_a1_literals.other W6 (Or.inr (slot_ne (C := "stavelog/wire/History") (Or.inl (own_w51 hw)) (Or.inl (own_w64 hw)) (by decide) (t := (.object "java/nio/ByteBuffer")) (t' := .int) (by decide) (by decide)))
  have c17 := c16.other W10 (Or.inr (slot_ne (C := "stavelog/wire/History") (Or.inl (own_w51 hw)) (Or.inl (own_w42 hw)) (by decide) (t := (.object "java/nio/ByteBuffer")) (t' := .int) (by decide) (by decide)))
  have c18 := F_a1_sum.other W6 (Or.inr (slot_ne (C := "stavelog/wire/History") (Or.inl (own_w44 hw)) (Or.inl (own_w64 hw)) (by decide) (t := (.object "java/util/zip/Checksum")) (t' := .int) (by decide) (by decide)))
  have c19 := c18.other W10 (Or.inr (slot_ne (C := "stavelog/wire/History") (Or.inl (own_w44 hw)) (Or.inl (own_w42 hw)) (by decide) (t := (.object "java/util/zip/Checksum")) (t' := .int) (by decide) (by decide)))
  have c20 := F_a1_written.other W6 (Or.inr (slot_ne (C := "stavelog/wire/History") (Or.inl (own_w36 hw)) (Or.inl (own_w64 hw)) (by decide) (t := .long) (t' := .int) (by decide) (by decide)))
  have c21 := c20.other W10 (Or.inr (slot_ne (C := "stavelog/wire/History") (Or.inl (own_w36 hw)) (Or.inl (own_w42 hw)) (by decide) (t := .long) (t' := .int) (by decide) (by decide)))
  have c22 := F_a1_literalsLeft.other W6 (Or.inr (slot_ne (C := "stavelog/wire/History") (Or.inl (own_w40 hw)) (Or.inl (own_w64 hw)) (by decide) (t := .int) (t' := .int) (by decide) (by decide)))
  have c23 := c22.other W10 (Or.inr (slot_ne (C := "stavelog/wire/History") (Or.inl (own_w40 hw)) (Or.inl (own_w42 hw)) (by decide) (t := .int) (t' := .int) (by decide) (by decide)))
  have c24 := F_a1_reachable.other W6 (Or.inr (slot_ne (C := "stavelog/wire/History") (Or.inl (own_w38 hw)) (Or.inl (own_w64 hw)) (by decide) (t := .long) (t' := .int) (by decide) (by decide)))
  have c25 := c24.other W10 (Or.inr (slot_ne (C := "stavelog/wire/History") (Or.inl (own_w38 hw)) (Or.inl (own_w42 hw)) (by decide) (t := .long) (t' := .int) (by decide) (by decide)))
  have c26 := F_a1_kept.other W6 (Or.inr (slot_ne (C := "stavelog/wire/History") (Or.inl (own_w34 hw)) (Or.inl (own_w64 hw)) (by decide) (t := .int) (t' := .int) (by decide) (by decide)))
  have c27 := c26.other W10 (Or.inr (slot_ne (C := "stavelog/wire/History") (Or.inl (own_w34 hw)) (Or.inl (own_w42 hw)) (by decide) (t := .int) (t' := .int) (by decide) (by decide)))
  have c28 := c8.wr W10
  have c29 := Fw6.other W10 (Or.inr (slot_ne (C := "stavelog/wire/History") (Or.inl (own_w64 hw)) (Or.inl (own_w42 hw)) (by decide) (t := .int) (t' := .int) (by decide) (by decide)))
  obtain ⟨fs, hr, hrun, hended, hW, hsame⟩ := X10.leave (v := none) (fun _ => rfl)
  refine ⟨_, _, pre0 _ ?_, hrun, hended, _, _, rfl, ?_, ⟨_, rfl⟩, hW, hsame.mono (by decide) (by decide)⟩
  · show Steps p.tables e below (s₁.setTop (mkF m 0 #[.val (.ref a1), .val (.long (1 : Int64)), .second, .val (.int p2), .unset, .unset] [])) _
    refine XS.aloadN X0.here hx rfl (hb hby d7_0) rfl rfl ?_
    show Steps p.tables e below (s₁.setTop (mkF m 1 #[.val (.ref a1), .val (.long (1 : Int64)), .second, .val (.int p2), .unset, .unset] [(.ref a1)])) _
    refine st1 _ ?_
    show Steps p.tables e below (T1.setTop (mkF m 4 #[.val (.ref a1), .val (.long (1 : Int64)), .second, .val (.int p2), .unset, .unset] [(.long (0 : Int64))])) _
    refine XS.aloadN X1.here hx rfl (hb hby d7_4) rfl rfl ?_
    show Steps p.tables e below (T1.setTop (mkF m 5 #[.val (.ref a1), .val (.long (1 : Int64)), .second, .val (.int p2), .unset, .unset] [(.ref a1), (.long (0 : Int64))])) _
    refine st2 _ ?_
    show Steps p.tables e below (T2.setTop (mkF m 8 #[.val (.ref a1), .val (.long (1 : Int64)), .second, .val (.int p2), .unset, .unset] [(.int p3), (.long (0 : Int64))])) _
    refine XS.i2l X2.here hx rfl (hb hby d7_8) rfl ?_
    show Steps p.tables e below (T2.setTop (mkF m 9 #[.val (.ref a1), .val (.long (1 : Int64)), .second, .val (.int p2), .unset, .unset] [(.long (p3.toInt64)), (.long (0 : Int64))])) _
    refine XS.ladd X2.here hx rfl (hb hby d7_9) rfl ?_
    show Steps p.tables e below (T2.setTop (mkF m 10 #[.val (.ref a1), .val (.long (1 : Int64)), .second, .val (.int p2), .unset, .unset] [(.long ((0 : Int64) + (p3.toInt64)))])) _
    rw [Int64.zero_add]
    show Steps p.tables e below (T2.setTop (mkF m 10 #[.val (.ref a1), .val (.long (1 : Int64)), .second, .val (.int p2), .unset, .unset] [(.long (p3.toInt64))])) _
    refine XS.aloadN X2.here hx rfl (hb hby d7_10) rfl rfl ?_
    show Steps p.tables e below (T2.setTop (mkF m 11 #[.val (.ref a1), .val (.long (1 : Int64)), .second, .val (.int p2), .unset, .unset] [(.ref a1), (.long (p3.toInt64))])) _
    refine st3 _ ?_
    show Steps p.tables e below (T3.setTop (mkF m 14 #[.val (.ref a1), .val (.long (1 : Int64)), .second, .val (.int p2), .unset, .unset] [(.long (0 : Int64)), (.long (p3.toInt64))])) _
    refine XS.lsub X3.here hx rfl (hb hby d7_14) rfl ?_
    show Steps p.tables e below (T3.setTop (mkF m 15 #[.val (.ref a1), .val (.long (1 : Int64)), .second, .val (.int p2), .unset, .unset] [(.long ((p3.toInt64) - (0 : Int64)))])) _
    rw [Int64.sub_zero]
    show Steps p.tables e below (T3.setTop (mkF m 15 #[.val (.ref a1), .val (.long (1 : Int64)), .second, .val (.int p2), .unset, .unset] [(.long (p3.toInt64))])) _
    refine XS.aloadN X3.here hx rfl (hb hby d7_15) rfl rfl ?_
    show Steps p.tables e below (T3.setTop (mkF m 16 #[.val (.ref a1), .val (.long (1 : Int64)), .second, .val (.int p2), .unset, .unset] [(.ref a1), (.long (p3.toInt64))])) _
    refine st4 _ ?_
    show Steps p.tables e below (T4.setTop (mkF m 19 #[.val (.ref a1), .val (.long (1 : Int64)), .second, .val (.int p2), .unset, .unset] [(.int p4), (.long (p3.toInt64))])) _
    refine XS.i2l X4.here hx rfl (hb hby d7_19) rfl ?_
    show Steps p.tables e below (T4.setTop (mkF m 20 #[.val (.ref a1), .val (.long (1 : Int64)), .second, .val (.int p2), .unset, .unset] [(.long (p4.toInt64)), (.long (p3.toInt64))])) _
    refine st5 _ ?_
    show Steps p.tables e below (T5.setTop (mkF m 23 #[.val (.ref a1), .val (.long (1 : Int64)), .second, .val (.int p2), .unset, .unset] [(.long (p3.toInt64))])) _
    refine XS.lstore X5.here hx rfl (hb hby d7_23) rfl (l' := #[.val (.ref a1), .val (.long (1 : Int64)), .second, .val (.int p2), .val (.long (p3.toInt64)), .second]) rfl ?_
    show Steps p.tables e below (T5.setTop (mkF m 25 #[.val (.ref a1), .val (.long (1 : Int64)), .second, .val (.int p2), .val (.long (p3.toInt64)), .second] [])) _
    refine XS.lloadN X5.here hx rfl (hb hby d7_25) rfl ?_
    show Steps p.tables e below (T5.setTop (mkF m 26 #[.val (.ref a1), .val (.long (1 : Int64)), .second, .val (.int p2), .val (.long (p3.toInt64)), .second] [(.long (1 : Int64))])) _
    refine XS.lconst X5.here hx rfl (hb hby d7_26) ?_
    show Steps p.tables e below (T5.setTop (mkF m 27 #[.val (.ref a1), .val (.long (1 : Int64)), .second, .val (.int p2), .val (.long (p3.toInt64)), .second] [(.long (1 : Int64)), (.long (1 : Int64))])) _
    refine XS.lcmp X5.here hx rfl (hb hby d7_27) rfl ?_
    show Steps p.tables e below (T5.setTop (mkF m 28 #[.val (.ref a1), .val (.long (1 : Int64)), .second, .val (.int p2), .val (.long (p3.toInt64)), .second] [(.int (lcmpW (1 : Int64) (1 : Int64)))])) _
    rw [(by decide : (lcmpW (1 : Int64) (1 : Int64)) = (0 : Int32))]
    show Steps p.tables e below (T5.setTop (mkF m 28 #[.val (.ref a1), .val (.long (1 : Int64)), .second, .val (.int p2), .val (.long (p3.toInt64)), .second] [(.int (0 : Int32))])) _
    refine XS.ifNo X5.here hx rfl (hb hby d7_28) rfl ((if0 _ _).trans (flt (by decide : ¬ ((0 : Int32) < (0 : Int32)))).1) ?_
    show Steps p.tables e below (T5.setTop (mkF m 31 #[.val (.ref a1), .val (.long (1 : Int64)), .second, .val (.int p2), .val (.long (p3.toInt64)), .second] [])) _
    refine XS.lloadN X5.here hx rfl (hb hby d7_31) rfl ?_
    show Steps p.tables e below (T5.setTop (mkF m 32 #[.val (.ref a1), .val (.long (1 : Int64)), .second, .val (.int p2), .val (.long (p3.toInt64)), .second] [(.long (1 : Int64))])) _
    refine XS.lload X5.here hx rfl (hb hby d7_32) rfl ?_
    show Steps p.tables e below (T5.setTop (mkF m 34 #[.val (.ref a1), .val (.long (1 : Int64)), .second, .val (.int p2), .val (.long (p3.toInt64)), .second] [(.long (p3.toInt64)), (.long (1 : Int64))])) _
    refine XS.lcmp X5.here hx rfl (hb hby d7_34) rfl ?_
    show Steps p.tables e below (T5.setTop (mkF m 35 #[.val (.ref a1), .val (.long (1 : Int64)), .second, .val (.int p2), .val (.long (p3.toInt64)), .second] [(.int (lcmpW (1 : Int64) (p3.toInt64)))])) _
    refine XS.ifYes X5.here hx rfl (pc0 := 35) (pc' := 54) rfl (hb hby d7_35) rfl ((if0 _ _).trans (flt hc5).2.2.2) (by decide) (by decide) ?_
    show Steps p.tables e below (T5.setTop (mkF m 54 #[.val (.ref a1), .val (.long (1 : Int64)), .second, .val (.int p2), .val (.long (p3.toInt64)), .second] [])) _
    refine XS.aloadN X5.here hx rfl (hb hby d7_54) rfl rfl ?_
    show Steps p.tables e below (T5.setTop (mkF m 55 #[.val (.ref a1), .val (.long (1 : Int64)), .second, .val (.int p2), .val (.long (p3.toInt64)), .second] [(.ref a1)])) _
    refine XS.lloadN X5.here hx rfl (hb hby d7_55) rfl ?_
    show Steps p.tables e below (T5.setTop (mkF m 56 #[.val (.ref a1), .val (.long (1 : Int64)), .second, .val (.int p2), .val (.long (p3.toInt64)), .second] [(.long (1 : Int64)), (.ref a1)])) _
    refine XS.l2i X5.here hx rfl (hb hby d7_56) rfl ?_
    show Steps p.tables e below (T5.setTop (mkF m 57 #[.val (.ref a1), .val (.long (1 : Int64)), .second, .val (.int p2), .val (.long (p3.toInt64)), .second] [(.int ((1 : Int64).toInt32)), (.ref a1)])) _
    rw [(by decide : ((1 : Int64).toInt32) = (1 : Int32))]
    show Steps p.tables e below (T5.setTop (mkF m 57 #[.val (.ref a1), .val (.long (1 : Int64)), .second, .val (.int p2), .val (.long (p3.toInt64)), .second] [(.int (1 : Int32)), (.ref a1)])) _
    refine st6 _ ?_
    show Steps p.tables e below (T6.setTop (mkF m 60 #[.val (.ref a1), .val (.long (1 : Int64)), .second, .val (.int p2), .val (.long (p3.toInt64)), .second] [])) _
    refine XS.aloadN X6.here hx rfl (hb hby d7_60) rfl rfl ?_
    show Steps p.tables e below (T6.setTop (mkF m 61 #[.val (.ref a1), .val (.long (1 : Int64)), .second, .val (.int p2), .val (.long (p3.toInt64)), .second] [(.ref a1)])) _
    refine XS.iloadN X6.here hx rfl (hb hby d7_61) rfl ?_
    show Steps p.tables e below (T6.setTop (mkF m 62 #[.val (.ref a1), .val (.long (1 : Int64)), .second, .val (.int p2), .val (.long (p3.toInt64)), .second] [(.int p2), (.ref a1)])) _
    refine st10 _ ?_
    show Steps p.tables e below (T10.setTop (mkF m 65 #[.val (.ref a1), .val (.long (1 : Int64)), .second, .val (.int p2), .val (.long (p3.toInt64)), .second] [])) _
    exact X10.returnOut hx Bd.returns (hb hby d7_65) hr
  · show Q7_17 Z a1 p2 p3 p4 a5 h0 n0 _ T10.heap _
    rw [e10]
    exact ⟨rfl, N10, KC11, c21, c23, c25, c27, c28, c29, Fw10, c13, c15, c17, c19⟩
def QrmJ7_18 (Z : State) (j0 : Addr) (j1 : Int32) (j2 : Int32) (j3 : Int32) (j4 : Addr) (h0 : Heap) (n0 : Nat) (v : Option Value) (h : Heap) (L : List Loc) : Prop := v = none ∧ Fr n0 L ∧ Keep h0 h [j0] ∧ Fld Z h j0 "stavelog/wire/History" "written" "J" (.long (0 : Int64)) ∧ Fld Z h j0 "stavelog/wire/History" "literalsLeft" "I" (.int j2) ∧ Fld Z h j0 "stavelog/wire/History" "reachable" "J" (.long (0 : Int64)) ∧ Fld Z h j0 "stavelog/wire/History" "kept" "I" (.int j3) ∧ Exa Z h j0 "stavelog/wire/History" ∧ Fld Z h j0 "stavelog/wire/History" "distance" "I" (.int (1 : Int32)) ∧ Fld Z h j0 "stavelog/wire/History" "copyLeft" "I" (.int j1) ∧ Fld Z h j0 "stavelog/wire/History" "decompression" "Lstavelog/wire/Decompression;" (.ref j4) ∧ Fld Z h j0 "stavelog/wire/History" "literalAt" "I" (.int (0 : Int32)) ∧ Fld Z h j0 "stavelog/wire/History" "literals" "Ljava/nio/ByteBuffer;" .null ∧ Fld Z h j0 "stavelog/wire/History" "sum" "Ljava/util/zip/Checksum;" .null
set_option maxRecDepth 65536 in
set_option maxHeartbeats 40000000 in
theorem rmJ7_18 (l : Launch) (Z : State) (a0 : Array Value) (hw : ∀ d ∈ tables_1, d.before a0 Z = true) (ws : List Jvm.Cond) (j0 : Addr) (j1 : Int32) (j2 : Int32) (j3 : Int32) (j4 : Addr) (h0 : Heap) (n0 : Nat) (Z0 : n0 ≤ h0.size) (u0 : Fld Z h0 j0 "stavelog/wire/History" "written" "J" (.long (0 : Int64))) (u1 : Fld Z h0 j0 "stavelog/wire/History" "literalsLeft" "I" (.int j2)) (u2 : Fld Z h0 j0 "stavelog/wire/History" "reachable" "J" (.long (0 : Int64))) (u3 : Fld Z h0 j0 "stavelog/wire/History" "kept" "I" (.int j3)) (u4 : ¬ ((0 : Int32) < (lcmpW (1 : Int64) (j3.toInt64)))) (u5 : Exa Z h0 j0 "stavelog/wire/History") (u6 : Fld Z h0 j0 "stavelog/wire/History" "distance" "I" (.int (0 : Int32))) (u7 : n0 ≤ j0) (u8 : Fld Z h0 j0 "stavelog/wire/History" "copyLeft" "I" (.int (0 : Int32))) (u9 : Fld Z h0 j0 "stavelog/wire/History" "decompression" "Lstavelog/wire/Decompression;" (.ref j4)) (u10 : Fld Z h0 j0 "stavelog/wire/History" "literalAt" "I" (.int (0 : Int32))) (u11 : Fld Z h0 j0 "stavelog/wire/History" "literals" "Ljava/nio/ByteBuffer;" .null) (u12 : Fld Z h0 j0 "stavelog/wire/History" "sum" "Ljava/util/zip/Checksum;" .null) (u13 : ¬ ((0 : Int32) < (lcmpW (1 : Int64) (j2.toInt64)))) :
    MetFree l (⟨"stavelog/wire/History", "copy", "(JI)V"⟩ : MethodName) (head1 (Jvm.Cond.code (⟨"stavelog/wire/History", "copy", "(JI)V"⟩ : MethodName) prog_235_method_11_code 6 none :: ws) ({ frames := 1, cells := 0, slots := 0, locals := 15 } : Room)) (fun a U => a = #[(.ref j0), (.long (1 : Int64)), (.int j1)] ∧ Z.Warmed39 U.vm ∧ U.heap = h0) (fun _ _ _ _ _ => True) (fun _ U o U' => ∃ v L, o = .returned v ∧ QrmJ7_18 Z j0 j1 j2 j3 j4 h0 n0 v U'.heap L ∧ FrameEnd U o U' L ({ frames := 1, cells := 0, slots := 0, locals := 15 } : Room).cells ({ frames := 1, cells := 0, slots := 0, locals := 15 } : Room).slots) := by
  by_cases hj0 : (0 : Int32) < (lcmpW (j2.toInt64) (j3.toInt64))
  · exact rm7_16 l Z a0 hw ws j0 j1 j2 j3 j4 h0 n0 Z0 u0 u1 u2 u3 hj0 u4 u5 u6 u7 u8 u9 u10 u11 u12
  · exact rm7_17 l Z a0 hw ws j0 j1 j2 j3 j4 h0 n0 Z0 u0 u1 u2 u3 hj0 u13 u5 u6 u7 u8 u9 u10 u11 u12
theorem ef5_19 (m : MethodId) (a1 : Addr) (p2 : Int32) : entryFrame m #[(.ref a1), (.int p2)] 2 = mkF m 0 #[.val (.ref a1), .val (.int p2)] [] := by first | (simp [entryFrame, mkF, argsToLocals, Value.category]; done) | rfl
def Q5_19 (Z : State) (a1 : Addr) (p2 : Int32) (p3 : Int32) (p4 : Int32) (p5 : Int32) (a6 : Addr) (h0 : Heap) (n0 : Nat) (v : Option Value) (h : Heap) (L : List Loc) : Prop := v = none ∧ Fr n0 L ∧ Keep h0 h [a1] ∧ Exa Z h a1 "stavelog/wire/History" ∧ Fld Z h a1 "stavelog/wire/History" "kept" "I" (.int p2) ∧ Fld Z h a1 "stavelog/wire/History" "written" "J" (.long (0 : Int64)) ∧ Fld Z h a1 "stavelog/wire/History" "reachable" "J" (.long (0 : Int64)) ∧ Fld Z h a1 "stavelog/wire/History" "literalsLeft" "I" (.int (0 : Int32)) ∧ Fld Z h a1 "stavelog/wire/History" "copyLeft" "I" (.int (0 : Int32)) ∧ Fld Z h a1 "stavelog/wire/History" "sum" "Ljava/util/zip/Checksum;" .null ∧ Fld Z h a1 "stavelog/wire/History" "decompression" "Lstavelog/wire/Decompression;" (.ref a6) ∧ Fld Z h a1 "stavelog/wire/History" "distance" "I" (.int (1 : Int32)) ∧ Fld Z h a1 "stavelog/wire/History" "literalAt" "I" (.int (0 : Int32)) ∧ Fld Z h a1 "stavelog/wire/History" "literals" "Ljava/nio/ByteBuffer;" .null
set_option maxRecDepth 65536 in
set_option maxHeartbeats 40000000 in
theorem rm5_19 (l : Launch) (Z : State) (a0 : Array Value) (hw : ∀ d ∈ tables_1, d.before a0 Z = true) (ws : List Jvm.Cond) (a1 : Addr) (p2 : Int32) (p3 : Int32) (p4 : Int32) (p5 : Int32) (a6 : Addr) (h0 : Heap) (n0 : Nat) (Z0 : n0 ≤ h0.size) (E_a1 : Exa Z h0 a1 "stavelog/wire/History") (F_a1_kept : Fld Z h0 a1 "stavelog/wire/History" "kept" "I" (.int p3)) (g_a1 : n0 ≤ a1) (F_a1_written : Fld Z h0 a1 "stavelog/wire/History" "written" "J" (.long (0 : Int64))) (F_a1_reachable : Fld Z h0 a1 "stavelog/wire/History" "reachable" "J" (.long (0 : Int64))) (F_a1_literalsLeft : Fld Z h0 a1 "stavelog/wire/History" "literalsLeft" "I" (.int p4)) (F_a1_copyLeft : Fld Z h0 a1 "stavelog/wire/History" "copyLeft" "I" (.int p5)) (F_a1_sum : Fld Z h0 a1 "stavelog/wire/History" "sum" "Ljava/util/zip/Checksum;" .null) (F_a1_decompression : Fld Z h0 a1 "stavelog/wire/History" "decompression" "Lstavelog/wire/Decompression;" (.ref a6)) (F_a1_distance : Fld Z h0 a1 "stavelog/wire/History" "distance" "I" (.int (1 : Int32))) (F_a1_literalAt : Fld Z h0 a1 "stavelog/wire/History" "literalAt" "I" (.int (0 : Int32))) (F_a1_literals : Fld Z h0 a1 "stavelog/wire/History" "literals" "Ljava/nio/ByteBuffer;" .null) :
    MetFree l (⟨"stavelog/wire/History", "start", "(I)V"⟩ : MethodName) (head1 (Jvm.Cond.code (⟨"stavelog/wire/History", "start", "(I)V"⟩ : MethodName) prog_235_method_2_code 2 none :: ws) ({ frames := 0, cells := 0, slots := 0, locals := 0 } : Room)) (fun a U => a = #[(.ref a1), (.int p2)] ∧ Z.Warmed39 U.vm ∧ U.heap = h0) (fun _ _ _ _ _ => True) (fun _ U o U' => ∃ v L, o = .returned v ∧ Q5_19 Z a1 p2 p3 p4 p5 a6 h0 n0 v U'.heap L ∧ FrameEnd U o U' L ({ frames := 0, cells := 0, slots := 0, locals := 0 } : Room).cells ({ frames := 0, cells := 0, slots := 0, locals := 0 } : Room).slots) := by
  refine MetFree.of_bodySF (plainFor_of_name pn_stavelog_wire_History) hisR ?_
  intro p e s m args below meth c s₁ Bd hml0 hP hK
  obtain ⟨rfl, hZ, hh⟩ := hP
  have hx := Bd.exec
  have hby := Bd.bytes
  have hml : c.maxLocals = 2 := hml0
  have hown : s.vm.findClass "stavelog/wire/History" = some m.cls := findClass_of_methodNamed Bd.named
  have hnm := (name_of_methodNamed Bd.named Bd.method).1
  have X0 : Stand p l e ({ frames := 0, cells := 0, slots := 0, locals := 0 } : Room) s m #[(.ref a1), (.int p2)] below meth c s₁ [] 0 0 := Stand.of_body Bd
  have e0 : s₁.heap = h0 := by rw [← hh, Bd.state]; rfl
  have N0 := Fr.nil n0
  have pre0 : ∀ t, Steps p.tables e below (s₁.setTop (mkF m 0 #[.val (.ref a1), .val (.int p2)] [])) t → Steps p.tables e below (s₁.setTop (entryFrame m #[(.ref a1), (.int p2)] 2)) t := fun t k => castTop (ef5_19 m a1 p2) k
  obtain ⟨T1, h1, X1, e1, W1, st1⟩ := putF X0 hx hZ hown (host := "") (Or.inl (own_w33 hw)) Via.refl e0 F_a1_kept E_a1 (Or.inl (own_w34 hw)) (own_w3 hw) (ty := .int) (by decide) rfl rfl (g := (mkF m 2 #[.val (.ref a1), .val (.int p2)] [(.int p2), (.ref a1)])) rfl rfl (hb hby d5_2)
  have KC2 : Keep h0 h1 [a1] := (Keep.refl h0 [a1]).wr W1 (Or.inl (List.mem_of_getElem? (i := 0) rfl))
  have Fw1 := F_a1_kept.same W1
  have N1 := Fr.snoc X1 N0 g_a1
  have c3 := E_a1.wr W1
  have c4 := F_a1_written.other W1 (Or.inr (slot_ne (C := "stavelog/wire/History") (Or.inl (own_w36 hw)) (Or.inl (own_w34 hw)) (by decide) (t := .long) (t' := .int) (by decide) (by decide)))
  obtain ⟨T5, h5, X5, e5, W5, st5⟩ := putF X1 hx hZ hown (host := "") (Or.inl (own_w35 hw)) Via.refl e1 c4 c3 (Or.inl (own_w36 hw)) (own_w3 hw) (ty := .long) (by decide) rfl rfl (g := (mkF m 7 #[.val (.ref a1), .val (.int p2)] [(.long (0 : Int64)), (.ref a1)])) rfl rfl (hb hby d5_7)
  have KC6 : Keep h0 h5 [a1] := KC2.wr W5 (Or.inl (List.mem_of_getElem? (i := 0) rfl))
  have Fw5 := c4.same W5
  have N5 := Fr.snoc X5 N1 g_a1
  have c7 := c3.wr W5
  have c8 := F_a1_reachable.other W1 (Or.inr (slot_ne (C := "stavelog/wire/History") (Or.inl (own_w38 hw)) (Or.inl (own_w34 hw)) (by decide) (t := .long) (t' := .int) (by decide) (by decide)))
  have c9 := c8.other W5 (Or.inr (slot_ne (C := "stavelog/wire/History") (Or.inl (own_w38 hw)) (Or.inl (own_w36 hw)) (by decide) (t := .long) (t' := .long) (by decide) (by decide)))
  obtain ⟨T10, h10, X10, e10, W10, st10⟩ := putF X5 hx hZ hown (host := "") (Or.inl (own_w37 hw)) Via.refl e5 c9 c7 (Or.inl (own_w38 hw)) (own_w3 hw) (ty := .long) (by decide) rfl rfl (g := (mkF m 12 #[.val (.ref a1), .val (.int p2)] [(.long (0 : Int64)), (.ref a1)])) rfl rfl (hb hby d5_12)
  have KC11 : Keep h0 h10 [a1] := KC6.wr W10 (Or.inl (List.mem_of_getElem? (i := 0) rfl))
  have Fw10 := c9.same W10
  have N10 := Fr.snoc X10 N5 g_a1
  have c12 := c7.wr W10
  have c13 := F_a1_literalsLeft.other W1 (Or.inr (slot_ne (C := "stavelog/wire/History") (Or.inl (own_w40 hw)) (Or.inl (own_w34 hw)) (by decide) (t := .int) (t' := .int) (by decide) (by decide)))
  have c14 := c13.other W5 (Or.inr (slot_ne (C := "stavelog/wire/History") (Or.inl (own_w40 hw)) (Or.inl (own_w36 hw)) (by decide) (t := .int) (t' := .long) (by decide) (by decide)))
  have c15 := c14.other W10 (Or.inr (slot_ne (C := "stavelog/wire/History") (Or.inl (own_w40 hw)) (Or.inl (own_w38 hw)) (by decide) (t := .int) (t' := .long) (by decide) (by decide)))
  obtain ⟨T16, h16, X16, e16, W16, st16⟩ := putF X10 hx hZ hown (host := "") (Or.inl (own_w39 hw)) Via.refl e10 c15 c12 (Or.inl (own_w40 hw)) (own_w3 hw) (ty := .int) (by decide) rfl rfl (g := (mkF m 17 #[.val (.ref a1), .val (.int p2)] [(.int (0 : Int32)), (.ref a1)])) rfl rfl (hb hby d5_17)
  have KC17 : Keep h0 h16 [a1] := KC11.wr W16 (Or.inl (List.mem_of_getElem? (i := 0) rfl))
  have Fw16 := c15.same W16
  have N16 := Fr.snoc X16 N10 g_a1
  have c18 := c12.wr W16
  have c19 := F_a1_copyLeft.other W1 (Or.inr (slot_ne (C := "stavelog/wire/History") (Or.inl (own_w42 hw)) (Or.inl (own_w34 hw)) (by decide) (t := .int) (t' := .int) (by decide) (by decide)))
  have c20 := c19.other W5 (Or.inr (slot_ne (C := "stavelog/wire/History") (Or.inl (own_w42 hw)) (Or.inl (own_w36 hw)) (by decide) (t := .int) (t' := .long) (by decide) (by decide)))
  have c21 := c20.other W10 (Or.inr (slot_ne (C := "stavelog/wire/History") (Or.inl (own_w42 hw)) (Or.inl (own_w38 hw)) (by decide) (t := .int) (t' := .long) (by decide) (by decide)))
  have c22 := c21.other W16 (Or.inr (slot_ne (C := "stavelog/wire/History") (Or.inl (own_w42 hw)) (Or.inl (own_w40 hw)) (by decide) (t := .int) (t' := .int) (by decide) (by decide)))
  obtain ⟨T23, h23, X23, e23, W23, st23⟩ := putF X16 hx hZ hown (host := "") (Or.inl (own_w41 hw)) Via.refl e16 c22 c18 (Or.inl (own_w42 hw)) (own_w3 hw) (ty := .int) (by decide) rfl rfl (g := (mkF m 22 #[.val (.ref a1), .val (.int p2)] [(.int (0 : Int32)), (.ref a1)])) rfl rfl (hb hby d5_22)
  have KC24 : Keep h0 h23 [a1] := KC17.wr W23 (Or.inl (List.mem_of_getElem? (i := 0) rfl))
  have Fw23 := c22.same W23
  have N23 := Fr.snoc X23 N16 g_a1
  have c25 := c18.wr W23
  have c26 := F_a1_sum.other W1 (Or.inr (slot_ne (C := "stavelog/wire/History") (Or.inl (own_w44 hw)) (Or.inl (own_w34 hw)) (by decide) (t := (.object "java/util/zip/Checksum")) (t' := .int) (by decide) (by decide)))
  have c27 := c26.other W5 (Or.inr (slot_ne (C := "stavelog/wire/History") (Or.inl (own_w44 hw)) (Or.inl (own_w36 hw)) (by decide) (t := (.object "java/util/zip/Checksum")) (t' := .long) (by decide) (by decide)))
  have c28 := c27.other W10 (Or.inr (slot_ne (C := "stavelog/wire/History") (Or.inl (own_w44 hw)) (Or.inl (own_w38 hw)) (by decide) (t := (.object "java/util/zip/Checksum")) (t' := .long) (by decide) (by decide)))
  have c29 := c28.other W16 (Or.inr (slot_ne (C := "stavelog/wire/History") (Or.inl (own_w44 hw)) (Or.inl (own_w40 hw)) (by decide) (t := (.object "java/util/zip/Checksum")) (t' := .int) (by decide) (by decide)))
  have c30 := c29.other W23 (Or.inr (slot_ne (C := "stavelog/wire/History") (Or.inl (own_w44 hw)) (Or.inl (own_w42 hw)) (by decide) (t := (.object "java/util/zip/Checksum")) (t' := .int) (by decide) (by decide)))
  obtain ⟨T31, h31, X31, e31, W31, st31⟩ := putF X23 hx hZ hown (host := "") (Or.inl (own_w43 hw)) Via.refl e23 c30 c25 (Or.inl (own_w44 hw)) (own_w3 hw) (ty := (.object "java/util/zip/Checksum")) (by decide) rfl rfl (g := (mkF m 27 #[.val (.ref a1), .val (.int p2)] [.null, (.ref a1)])) rfl rfl (hb hby d5_27)
  have KC32 : Keep h0 h31 [a1] := KC24.wr W31 (Or.inl (List.mem_of_getElem? (i := 0) rfl))
  have Fw31 := c30.same W31
  have N31 := Fr.snoc X31 N23 g_a1
  have c33 := F_a1_decompression.other W1 (Or.inr (slot_ne (C := "stavelog/wire/History") (Or.inr (own_w27 hw)) (Or.inl (own_w34 hw)) (by decide) (t := (.object "stavelog/wire/Decompression")) (t' := .int) (by decide) (by decide)))
  have c34 := c33.other W5 (Or.inr (slot_ne (C := "stavelog/wire/History") (Or.inr (own_w27 hw)) (Or.inl (own_w36 hw)) (by decide) (t := (.object "stavelog/wire/Decompression")) (t' := .long) (by decide) (by decide)))
  have c35 := c34.other W10 (Or.inr (slot_ne (C := "stavelog/wire/History") (Or.inr (own_w27 hw)) (Or.inl (own_w38 hw)) (by decide) (t := (.object "stavelog/wire/Decompression")) (t' := .long) (by decide) (by decide)))
  have c36 := c35.other W16 (Or.inr (slot_ne (C := "stavelog/wire/History") (Or.inr (own_w27 hw)) (Or.inl (own_w40 hw)) (by decide) (t := (.object "stavelog/wire/Decompression")) (t' := .int) (by decide) (by decide)))
  have c37 := c36.other W23 (Or.inr (slot_ne (C := "stavelog/wire/History") (Or.inr (own_w27 hw)) (Or.inl (own_w42 hw)) (by decide) (t := (.object "stavelog/wire/Decompression")) (t' := .int) (by decide) (by decide)))
  have c38 := c37.other W31 (Or.inr (slot_ne (C := "stavelog/wire/History") (Or.inr (own_w27 hw)) (Or.inl (own_w44 hw)) (by decide) (t := (.object "stavelog/wire/Decompression")) (t' := (.object "java/util/zip/Checksum")) (by decide) (by decide)))
  have c39 := F_a1_distance.other W1 (Or.inr (slot_ne (C := "stavelog/wire/History") (Or.inl (own_w64 hw)) (Or.inl (own_w34 hw)) (by decide) (t := .int) (t' := .int) (by decide) (by decide)))
  have c40 := c39.other W5 (Or.inr (slot_ne (C := "stavelog/wire/History") (Or.inl (own_w64 hw)) (Or.inl (own_w36 hw)) (by decide) (t := .int) (t' := .long) (by decide) (by decide)))
  have c41 := c40.other W10 (Or.inr (slot_ne (C := "stavelog/wire/History") (Or.inl (own_w64 hw)) (Or.inl (own_w38 hw)) (by decide) (t := .int) (t' := .long) (by decide) (by decide)))
  have c42 := c41.other W16 (Or.inr (slot_ne (C := "stavelog/wire/History") (Or.inl (own_w64 hw)) (Or.inl (own_w40 hw)) (by decide) (t := .int) (t' := .int) (by decide) (by decide)))
  have c43 := c42.other W23 (Or.inr (slot_ne (C := "stavelog/wire/History") (Or.inl (own_w64 hw)) (Or.inl (own_w42 hw)) (by decide) (t := .int) (t' := .int) (by decide) (by decide)))
  have c44 := c43.other W31 (Or.inr (slot_ne (C := "stavelog/wire/History") (Or.inl (own_w64 hw)) (Or.inl (own_w44 hw)) (by decide) (t := .int) (t' := (.object "java/util/zip/Checksum")) (by decide) (by decide)))
  have c45 := F_a1_literalAt.other W1 (Or.inr (slot_ne (C := "stavelog/wire/History") (Or.inl (own_w53 hw)) (Or.inl (own_w34 hw)) (by decide) (t := .int) (t' := .int) (by decide) (by decide)))
  have c46 := c45.other W5 (Or.inr (slot_ne (C := "stavelog/wire/History") (Or.inl (own_w53 hw)) (Or.inl (own_w36 hw)) (by decide) (t := .int) (t' := .long) (by decide) (by decide)))
  have c47 := c46.other W10 (Or.inr (slot_ne (C := "stavelog/wire/History") (Or.inl (own_w53 hw)) (Or.inl (own_w38 hw)) (by decide) (t := .int) (t' := .long) (by decide) (by decide)))
  have c48 := c47.other W16 (Or.inr (slot_ne (C := "stavelog/wire/History") (Or.inl (own_w53 hw)) (Or.inl (own_w40 hw)) (by decide) (t := .int) (t' := .int) (by decide) (by decide)))
  have c49 := c48.other W23 (Or.inr (slot_ne (C := "stavelog/wire/History") (Or.inl (own_w53 hw)) (Or.inl (own_w42 hw)) (by decide) (t := .int) (t' := .int) (by decide) (by decide)))
  have c50 := c49.other W31 (Or.inr (slot_ne (C := "stavelog/wire/History") (Or.inl (own_w53 hw)) (Or.inl (own_w44 hw)) (by decide) (t := .int) (t' := (.object "java/util/zip/Checksum")) (by decide) (by decide)))
  have c51 := F_a1_literals.other W1 (Or.inr (slot_ne (C := "stavelog/wire/History") (Or.inl (own_w51 hw)) (Or.inl (own_w34 hw)) (by decide) (t := (.object "java/nio/ByteBuffer")) (t' := .int) (by decide) (by decide)))
  have c52 := c51.other W5 (Or.inr (slot_ne (C := "stavelog/wire/History") (Or.inl (own_w51 hw)) (Or.inl (own_w36 hw)) (by decide) (t := (.object "java/nio/ByteBuffer")) (t' := .long) (by decide) (by decide)))
  have c53 := c52.other W10 (Or.inr (slot_ne (C := "stavelog/wire/History") (Or.inl (own_w51 hw)) (Or.inl (own_w38 hw)) (by decide) (t := (.object "java/nio/ByteBuffer")) (t' := .long) (by decide) (by decide)))
  have c54 := c53.other W16 (Or.inr (slot_ne (C := "stavelog/wire/History") (Or.inl (own_w51 hw)) (Or.inl (own_w40 hw)) (by decide) (t := (.object "java/nio/ByteBuffer")) (t' := .int) (by decide) (by decide)))
  have c55 := c54.other W23 (Or.inr (slot_ne (C := "stavelog/wire/History") (Or.inl (own_w51 hw)) (Or.inl (own_w42 hw)) (by decide) (t := (.object "java/nio/ByteBuffer")) (t' := .int) (by decide) (by decide)))
  have c56 := c55.other W31 (Or.inr (slot_ne (C := "stavelog/wire/History") (Or.inl (own_w51 hw)) (Or.inl (own_w44 hw)) (by decide) (t := (.object "java/nio/ByteBuffer")) (t' := (.object "java/util/zip/Checksum")) (by decide) (by decide)))
  have c57 := c25.wr W31
  have c58 := Fw1.other W5 (Or.inr (slot_ne (C := "stavelog/wire/History") (Or.inl (own_w34 hw)) (Or.inl (own_w36 hw)) (by decide) (t := .int) (t' := .long) (by decide) (by decide)))
  have c59 := c58.other W10 (Or.inr (slot_ne (C := "stavelog/wire/History") (Or.inl (own_w34 hw)) (Or.inl (own_w38 hw)) (by decide) (t := .int) (t' := .long) (by decide) (by decide)))
  have c60 := c59.other W16 (Or.inr (slot_ne (C := "stavelog/wire/History") (Or.inl (own_w34 hw)) (Or.inl (own_w40 hw)) (by decide) (t := .int) (t' := .int) (by decide) (by decide)))
  have c61 := c60.other W23 (Or.inr (slot_ne (C := "stavelog/wire/History") (Or.inl (own_w34 hw)) (Or.inl (own_w42 hw)) (by decide) (t := .int) (t' := .int) (by decide) (by decide)))
  have c62 := c61.other W31 (Or.inr (slot_ne (C := "stavelog/wire/History") (Or.inl (own_w34 hw)) (Or.inl (own_w44 hw)) (by decide) (t := .int) (t' := (.object "java/util/zip/Checksum")) (by decide) (by decide)))
  have c63 := Fw5.other W10 (Or.inr (slot_ne (C := "stavelog/wire/History") (Or.inl (own_w36 hw)) (Or.inl (own_w38 hw)) (by decide) (t := .long) (t' := .long) (by decide) (by decide)))
  have c64 := c63.other W16 (Or.inr (slot_ne (C := "stavelog/wire/History") (Or.inl (own_w36 hw)) (Or.inl (own_w40 hw)) (by decide) (t := .long) (t' := .int) (by decide) (by decide)))
  have c65 := c64.other W23 (Or.inr (slot_ne (C := "stavelog/wire/History") (Or.inl (own_w36 hw)) (Or.inl (own_w42 hw)) (by decide) (t := .long) (t' := .int) (by decide) (by decide)))
  have c66 := c65.other W31 (Or.inr (slot_ne (C := "stavelog/wire/History") (Or.inl (own_w36 hw)) (Or.inl (own_w44 hw)) (by decide) (t := .long) (t' := (.object "java/util/zip/Checksum")) (by decide) (by decide)))
  have c67 := Fw10.other W16 (Or.inr (slot_ne (C := "stavelog/wire/History") (Or.inl (own_w38 hw)) (Or.inl (own_w40 hw)) (by decide) (t := .long) (t' := .int) (by decide) (by decide)))
  have c68 := c67.other W23 (Or.inr (slot_ne (C := "stavelog/wire/History") (Or.inl (own_w38 hw)) (Or.inl (own_w42 hw)) (by decide) (t := .long) (t' := .int) (by decide) (by decide)))
  have c69 := c68.other W31 (Or.inr (slot_ne (C := "stavelog/wire/History") (Or.inl (own_w38 hw)) (Or.inl (own_w44 hw)) (by decide) (t := .long) (t' := (.object "java/util/zip/Checksum")) (by decide) (by decide)))
  have c70 := Fw16.other W23 (Or.inr (slot_ne (C := "stavelog/wire/History") (Or.inl (own_w40 hw)) (Or.inl (own_w42 hw)) (by decide) (t := .int) (t' := .int) (by decide) (by decide)))
  have c71 := c70.other W31 (Or.inr (slot_ne (C := "stavelog/wire/History") (Or.inl (own_w40 hw)) (Or.inl (own_w44 hw)) (by decide) (t := .int) (t' := (.object "java/util/zip/Checksum")) (by decide) (by decide)))
  have c72 := Fw23.other W31 (Or.inr (slot_ne (C := "stavelog/wire/History") (Or.inl (own_w42 hw)) (Or.inl (own_w44 hw)) (by decide) (t := .int) (t' := (.object "java/util/zip/Checksum")) (by decide) (by decide)))
  obtain ⟨fs, hr, hrun, hended, hW, hsame⟩ := X31.leave (v := none) (fun _ => rfl)
  refine ⟨_, _, pre0 _ ?_, hrun, hended, _, _, rfl, ?_, ⟨_, rfl⟩, hW, hsame.mono (by decide) (by decide)⟩
  · show Steps p.tables e below (s₁.setTop (mkF m 0 #[.val (.ref a1), .val (.int p2)] [])) _
    refine XS.aloadN X0.here hx rfl (hb hby d5_0) rfl rfl ?_
    show Steps p.tables e below (s₁.setTop (mkF m 1 #[.val (.ref a1), .val (.int p2)] [(.ref a1)])) _
    refine XS.iloadN X0.here hx rfl (hb hby d5_1) rfl ?_
    show Steps p.tables e below (s₁.setTop (mkF m 2 #[.val (.ref a1), .val (.int p2)] [(.int p2), (.ref a1)])) _
    refine st1 _ ?_
    show Steps p.tables e below (T1.setTop (mkF m 5 #[.val (.ref a1), .val (.int p2)] [])) _
    refine XS.aloadN X1.here hx rfl (hb hby d5_5) rfl rfl ?_
    show Steps p.tables e below (T1.setTop (mkF m 6 #[.val (.ref a1), .val (.int p2)] [(.ref a1)])) _
    refine XS.lconst X1.here hx rfl (hb hby d5_6) ?_
    show Steps p.tables e below (T1.setTop (mkF m 7 #[.val (.ref a1), .val (.int p2)] [(.long (0 : Int64)), (.ref a1)])) _
    refine st5 _ ?_
    show Steps p.tables e below (T5.setTop (mkF m 10 #[.val (.ref a1), .val (.int p2)] [])) _
    refine XS.aloadN X5.here hx rfl (hb hby d5_10) rfl rfl ?_
    show Steps p.tables e below (T5.setTop (mkF m 11 #[.val (.ref a1), .val (.int p2)] [(.ref a1)])) _
    refine XS.lconst X5.here hx rfl (hb hby d5_11) ?_
    show Steps p.tables e below (T5.setTop (mkF m 12 #[.val (.ref a1), .val (.int p2)] [(.long (0 : Int64)), (.ref a1)])) _
    refine st10 _ ?_
    show Steps p.tables e below (T10.setTop (mkF m 15 #[.val (.ref a1), .val (.int p2)] [])) _
    refine XS.aloadN X10.here hx rfl (hb hby d5_15) rfl rfl ?_
    show Steps p.tables e below (T10.setTop (mkF m 16 #[.val (.ref a1), .val (.int p2)] [(.ref a1)])) _
    refine XS.iconst X10.here hx rfl (hb hby d5_16) ?_
    show Steps p.tables e below (T10.setTop (mkF m 17 #[.val (.ref a1), .val (.int p2)] [(.int (0 : Int32)), (.ref a1)])) _
    refine st16 _ ?_
    show Steps p.tables e below (T16.setTop (mkF m 20 #[.val (.ref a1), .val (.int p2)] [])) _
    refine XS.aloadN X16.here hx rfl (hb hby d5_20) rfl rfl ?_
    show Steps p.tables e below (T16.setTop (mkF m 21 #[.val (.ref a1), .val (.int p2)] [(.ref a1)])) _
    refine XS.iconst X16.here hx rfl (hb hby d5_21) ?_
    show Steps p.tables e below (T16.setTop (mkF m 22 #[.val (.ref a1), .val (.int p2)] [(.int (0 : Int32)), (.ref a1)])) _
    refine st23 _ ?_
    show Steps p.tables e below (T23.setTop (mkF m 25 #[.val (.ref a1), .val (.int p2)] [])) _
    refine XS.aloadN X23.here hx rfl (hb hby d5_25) rfl rfl ?_
    show Steps p.tables e below (T23.setTop (mkF m 26 #[.val (.ref a1), .val (.int p2)] [(.ref a1)])) _
    refine XS.aconstNull X23.here hx rfl (hb hby d5_26) ?_
    show Steps p.tables e below (T23.setTop (mkF m 27 #[.val (.ref a1), .val (.int p2)] [.null, (.ref a1)])) _
    refine st31 _ ?_
    show Steps p.tables e below (T31.setTop (mkF m 30 #[.val (.ref a1), .val (.int p2)] [])) _
    exact X31.returnOut hx Bd.returns (hb hby d5_30) hr
  · show Q5_19 Z a1 p2 p3 p4 p5 a6 h0 n0 _ T31.heap _
    rw [e31]
    exact ⟨rfl, N31, KC32, c57, c62, c66, c69, c71, c72, Fw31, c38, c44, c50, c56⟩
theorem ef6_20 (m : MethodId) (a1 : Addr) (p2 : Int32) : entryFrame m #[(.ref a1), .null, (.int (0 : Int32)), (.int p2)] 4 = mkF m 0 #[.val (.ref a1), .val .null, .val (.int (0 : Int32)), .val (.int p2)] [] := by first | (simp [entryFrame, mkF, argsToLocals, Value.category]; done) | rfl
def Q6_20 (Z : State) (a1 : Addr) (p2 : Int32) (a3 : Addr) (p4 : Int32) (h0 : Heap) (n0 : Nat) (v : Option Value) (h : Heap) (L : List Loc) : Prop := v = none ∧ Fr n0 L ∧ Keep h0 h [a1] ∧ Exa Z h a1 "stavelog/wire/History" ∧ Fld Z h a1 "stavelog/wire/History" "literals" "Ljava/nio/ByteBuffer;" .null ∧ Fld Z h a1 "stavelog/wire/History" "literalAt" "I" (.int (0 : Int32)) ∧ Fld Z h a1 "stavelog/wire/History" "literalsLeft" "I" (.int p2) ∧ Fld Z h a1 "stavelog/wire/History" "copyLeft" "I" (.int (0 : Int32)) ∧ Fld Z h a1 "stavelog/wire/History" "decompression" "Lstavelog/wire/Decompression;" (.ref a3) ∧ Fld Z h a1 "stavelog/wire/History" "distance" "I" (.int (1 : Int32)) ∧ Fld Z h a1 "stavelog/wire/History" "kept" "I" (.int p4) ∧ Fld Z h a1 "stavelog/wire/History" "reachable" "J" (.long (0 : Int64)) ∧ Fld Z h a1 "stavelog/wire/History" "sum" "Ljava/util/zip/Checksum;" .null ∧ Fld Z h a1 "stavelog/wire/History" "written" "J" (.long (0 : Int64))
set_option maxRecDepth 65536 in
set_option maxHeartbeats 40000000 in
theorem rm6_20 (l : Launch) (Z : State) (a0 : Array Value) (hw : ∀ d ∈ tables_1, d.before a0 Z = true) (ws : List Jvm.Cond) (a1 : Addr) (p2 : Int32) (a3 : Addr) (p4 : Int32) (h0 : Heap) (n0 : Nat) (Z0 : n0 ≤ h0.size) (E_a1 : Exa Z h0 a1 "stavelog/wire/History") (F_a1_literals : Fld Z h0 a1 "stavelog/wire/History" "literals" "Ljava/nio/ByteBuffer;" .null) (g_a1 : n0 ≤ a1) (F_a1_literalAt : Fld Z h0 a1 "stavelog/wire/History" "literalAt" "I" (.int (0 : Int32))) (F_a1_literalsLeft : Fld Z h0 a1 "stavelog/wire/History" "literalsLeft" "I" (.int (0 : Int32))) (F_a1_copyLeft : Fld Z h0 a1 "stavelog/wire/History" "copyLeft" "I" (.int (0 : Int32))) (F_a1_decompression : Fld Z h0 a1 "stavelog/wire/History" "decompression" "Lstavelog/wire/Decompression;" (.ref a3)) (F_a1_distance : Fld Z h0 a1 "stavelog/wire/History" "distance" "I" (.int (1 : Int32))) (F_a1_kept : Fld Z h0 a1 "stavelog/wire/History" "kept" "I" (.int p4)) (F_a1_reachable : Fld Z h0 a1 "stavelog/wire/History" "reachable" "J" (.long (0 : Int64))) (F_a1_sum : Fld Z h0 a1 "stavelog/wire/History" "sum" "Ljava/util/zip/Checksum;" .null) (F_a1_written : Fld Z h0 a1 "stavelog/wire/History" "written" "J" (.long (0 : Int64))) :
    MetFree l (⟨"stavelog/wire/History", "literals", "(Ljava/nio/ByteBuffer;II)V"⟩ : MethodName) (head1 (Jvm.Cond.code (⟨"stavelog/wire/History", "literals", "(Ljava/nio/ByteBuffer;II)V"⟩ : MethodName) prog_235_method_10_code 4 none :: ws) ({ frames := 0, cells := 0, slots := 0, locals := 0 } : Room)) (fun a U => a = #[(.ref a1), .null, (.int (0 : Int32)), (.int p2)] ∧ Z.Warmed39 U.vm ∧ U.heap = h0) (fun _ _ _ _ _ => True) (fun _ U o U' => ∃ v L, o = .returned v ∧ Q6_20 Z a1 p2 a3 p4 h0 n0 v U'.heap L ∧ FrameEnd U o U' L ({ frames := 0, cells := 0, slots := 0, locals := 0 } : Room).cells ({ frames := 0, cells := 0, slots := 0, locals := 0 } : Room).slots) := by
  refine MetFree.of_bodySF (plainFor_of_name pn_stavelog_wire_History) hisR ?_
  intro p e s m args below meth c s₁ Bd hml0 hP hK
  obtain ⟨rfl, hZ, hh⟩ := hP
  have hx := Bd.exec
  have hby := Bd.bytes
  have hml : c.maxLocals = 4 := hml0
  have hown : s.vm.findClass "stavelog/wire/History" = some m.cls := findClass_of_methodNamed Bd.named
  have hnm := (name_of_methodNamed Bd.named Bd.method).1
  have X0 : Stand p l e ({ frames := 0, cells := 0, slots := 0, locals := 0 } : Room) s m #[(.ref a1), .null, (.int (0 : Int32)), (.int p2)] below meth c s₁ [] 0 0 := Stand.of_body Bd
  have e0 : s₁.heap = h0 := by rw [← hh, Bd.state]; rfl
  have N0 := Fr.nil n0
  have pre0 : ∀ t, Steps p.tables e below (s₁.setTop (mkF m 0 #[.val (.ref a1), .val .null, .val (.int (0 : Int32)), .val (.int p2)] [])) t → Steps p.tables e below (s₁.setTop (entryFrame m #[(.ref a1), .null, (.int (0 : Int32)), (.int p2)] 4)) t := fun t k => castTop (ef6_20 m a1 p2) k
  obtain ⟨T1, h1, X1, e1, W1, st1⟩ := putF X0 hx hZ hown (host := "") (Or.inl (own_w50 hw)) Via.refl e0 F_a1_literals E_a1 (Or.inl (own_w51 hw)) (own_w3 hw) (ty := (.object "java/nio/ByteBuffer")) (by decide) rfl rfl (g := (mkF m 2 #[.val (.ref a1), .val .null, .val (.int (0 : Int32)), .val (.int p2)] [.null, (.ref a1)])) rfl rfl (hb hby d6_2)
  have KC2 : Keep h0 h1 [a1] := (Keep.refl h0 [a1]).wr W1 (Or.inl (List.mem_of_getElem? (i := 0) rfl))
  have Fw1 := F_a1_literals.same W1
  have N1 := Fr.snoc X1 N0 g_a1
  have c3 := E_a1.wr W1
  have c4 := F_a1_literalAt.other W1 (Or.inr (slot_ne (C := "stavelog/wire/History") (Or.inl (own_w53 hw)) (Or.inl (own_w51 hw)) (by decide) (t := .int) (t' := (.object "java/nio/ByteBuffer")) (by decide) (by decide)))
  obtain ⟨T5, h5, X5, e5, W5, st5⟩ := putF X1 hx hZ hown (host := "") (Or.inl (own_w52 hw)) Via.refl e1 c4 c3 (Or.inl (own_w53 hw)) (own_w3 hw) (ty := .int) (by decide) rfl rfl (g := (mkF m 7 #[.val (.ref a1), .val .null, .val (.int (0 : Int32)), .val (.int p2)] [(.int (0 : Int32)), (.ref a1)])) rfl rfl (hb hby d6_7)
  have KC6 : Keep h0 h5 [a1] := KC2.wr W5 (Or.inl (List.mem_of_getElem? (i := 0) rfl))
  have Fw5 := c4.same W5
  have N5 := Fr.snoc X5 N1 g_a1
  have c7 := c3.wr W5
  have c8 := F_a1_literalsLeft.other W1 (Or.inr (slot_ne (C := "stavelog/wire/History") (Or.inl (own_w40 hw)) (Or.inl (own_w51 hw)) (by decide) (t := .int) (t' := (.object "java/nio/ByteBuffer")) (by decide) (by decide)))
  have c9 := c8.other W5 (Or.inr (slot_ne (C := "stavelog/wire/History") (Or.inl (own_w40 hw)) (Or.inl (own_w53 hw)) (by decide) (t := .int) (t' := .int) (by decide) (by decide)))
  obtain ⟨T10, h10, X10, e10, W10, st10⟩ := putF X5 hx hZ hown (host := "") (Or.inl (own_w39 hw)) Via.refl e5 c9 c7 (Or.inl (own_w40 hw)) (own_w3 hw) (ty := .int) (by decide) rfl rfl (g := (mkF m 12 #[.val (.ref a1), .val .null, .val (.int (0 : Int32)), .val (.int p2)] [(.int p2), (.ref a1)])) rfl rfl (hb hby d6_12)
  have KC11 : Keep h0 h10 [a1] := KC6.wr W10 (Or.inl (List.mem_of_getElem? (i := 0) rfl))
  have Fw10 := c9.same W10
  have N10 := Fr.snoc X10 N5 g_a1
  have c12 := F_a1_copyLeft.other W1 (Or.inr (slot_ne (C := "stavelog/wire/History") (Or.inl (own_w42 hw)) (Or.inl (own_w51 hw)) (by decide) (t := .int) (t' := (.object "java/nio/ByteBuffer")) (by decide) (by decide)))
  have c13 := c12.other W5 (Or.inr (slot_ne (C := "stavelog/wire/History") (Or.inl (own_w42 hw)) (Or.inl (own_w53 hw)) (by decide) (t := .int) (t' := .int) (by decide) (by decide)))
  have c14 := c13.other W10 (Or.inr (slot_ne (C := "stavelog/wire/History") (Or.inl (own_w42 hw)) (Or.inl (own_w40 hw)) (by decide) (t := .int) (t' := .int) (by decide) (by decide)))
  have c15 := F_a1_decompression.other W1 (Or.inr (slot_ne (C := "stavelog/wire/History") (Or.inr (own_w27 hw)) (Or.inl (own_w51 hw)) (by decide) (t := (.object "stavelog/wire/Decompression")) (t' := (.object "java/nio/ByteBuffer")) (by decide) (by decide)))
  have c16 := c15.other W5 (Or.inr (slot_ne (C := "stavelog/wire/History") (Or.inr (own_w27 hw)) (Or.inl (own_w53 hw)) (by decide) (t := (.object "stavelog/wire/Decompression")) (t' := .int) (by decide) (by decide)))
  have c17 := c16.other W10 (Or.inr (slot_ne (C := "stavelog/wire/History") (Or.inr (own_w27 hw)) (Or.inl (own_w40 hw)) (by decide) (t := (.object "stavelog/wire/Decompression")) (t' := .int) (by decide) (by decide)))
  have c18 := F_a1_distance.other W1 (Or.inr (slot_ne (C := "stavelog/wire/History") (Or.inl (own_w64 hw)) (Or.inl (own_w51 hw)) (by decide) (t := .int) (t' := (.object "java/nio/ByteBuffer")) (by decide) (by decide)))
  have c19 := c18.other W5 (Or.inr (slot_ne (C := "stavelog/wire/History") (Or.inl (own_w64 hw)) (Or.inl (own_w53 hw)) (by decide) (t := .int) (t' := .int) (by decide) (by decide)))
  have c20 := c19.other W10 (Or.inr (slot_ne (C := "stavelog/wire/History") (Or.inl (own_w64 hw)) (Or.inl (own_w40 hw)) (by decide) (t := .int) (t' := .int) (by decide) (by decide)))
  have c21 := F_a1_kept.other W1 (Or.inr (slot_ne (C := "stavelog/wire/History") (Or.inl (own_w34 hw)) (Or.inl (own_w51 hw)) (by decide) (t := .int) (t' := (.object "java/nio/ByteBuffer")) (by decide) (by decide)))
  have c22 := c21.other W5 (Or.inr (slot_ne (C := "stavelog/wire/History") (Or.inl (own_w34 hw)) (Or.inl (own_w53 hw)) (by decide) (t := .int) (t' := .int) (by decide) (by decide)))
  have c23 := c22.other W10 (Or.inr (slot_ne (C := "stavelog/wire/History") (Or.inl (own_w34 hw)) (Or.inl (own_w40 hw)) (by decide) (t := .int) (t' := .int) (by decide) (by decide)))
  have c24 := F_a1_reachable.other W1 (Or.inr (slot_ne (C := "stavelog/wire/History") (Or.inl (own_w38 hw)) (Or.inl (own_w51 hw)) (by decide) (t := .long) (t' := (.object "java/nio/ByteBuffer")) (by decide) (by decide)))
  have c25 := c24.other W5 (Or.inr (slot_ne (C := "stavelog/wire/History") (Or.inl (own_w38 hw)) (Or.inl (own_w53 hw)) (by decide) (t := .long) (t' := .int) (by decide) (by decide)))
  have c26 := c25.other W10 (Or.inr (slot_ne (C := "stavelog/wire/History") (Or.inl (own_w38 hw)) (Or.inl (own_w40 hw)) (by decide) (t := .long) (t' := .int) (by decide) (by decide)))
  have c27 := F_a1_sum.other W1 (Or.inr (slot_ne (C := "stavelog/wire/History") (Or.inl (own_w44 hw)) (Or.inl (own_w51 hw)) (by decide) (t := (.object "java/util/zip/Checksum")) (t' := (.object "java/nio/ByteBuffer")) (by decide) (by decide)))
  have c28 := c27.other W5 (Or.inr (slot_ne (C := "stavelog/wire/History") (Or.inl (own_w44 hw)) (Or.inl (own_w53 hw)) (by decide) (t := (.object "java/util/zip/Checksum")) (t' := .int) (by decide) (by decide)))
  have c29 := c28.other W10 (Or.inr (slot_ne (C := "stavelog/wire/History") (Or.inl (own_w44 hw)) (Or.inl (own_w40 hw)) (by decide) (t := (.object "java/util/zip/Checksum")) (t' := .int) (by decide) (by decide)))
  have c30 := F_a1_written.other W1 (Or.inr (slot_ne (C := "stavelog/wire/History") (Or.inl (own_w36 hw)) (Or.inl (own_w51 hw)) (by decide) (t := .long) (t' := (.object "java/nio/ByteBuffer")) (by decide) (by decide)))
  have c31 := c30.other W5 (Or.inr (slot_ne (C := "stavelog/wire/History") (Or.inl (own_w36 hw)) (Or.inl (own_w53 hw)) (by decide) (t := .long) (t' := .int) (by decide) (by decide)))
  have c32 := c31.other W10 (Or.inr (slot_ne (C := "stavelog/wire/History") (Or.inl (own_w36 hw)) (Or.inl (own_w40 hw)) (by decide) (t := .long) (t' := .int) (by decide) (by decide)))
  have c33 := c7.wr W10
  have c34 := Fw1.other W5 (Or.inr (slot_ne (C := "stavelog/wire/History") (Or.inl (own_w51 hw)) (Or.inl (own_w53 hw)) (by decide) (t := (.object "java/nio/ByteBuffer")) (t' := .int) (by decide) (by decide)))
  have c35 := c34.other W10 (Or.inr (slot_ne (C := "stavelog/wire/History") (Or.inl (own_w51 hw)) (Or.inl (own_w40 hw)) (by decide) (t := (.object "java/nio/ByteBuffer")) (t' := .int) (by decide) (by decide)))
  have c36 := Fw5.other W10 (Or.inr (slot_ne (C := "stavelog/wire/History") (Or.inl (own_w53 hw)) (Or.inl (own_w40 hw)) (by decide) (t := .int) (t' := .int) (by decide) (by decide)))
  obtain ⟨fs, hr, hrun, hended, hW, hsame⟩ := X10.leave (v := none) (fun _ => rfl)
  refine ⟨_, _, pre0 _ ?_, hrun, hended, _, _, rfl, ?_, ⟨_, rfl⟩, hW, hsame.mono (by decide) (by decide)⟩
  · show Steps p.tables e below (s₁.setTop (mkF m 0 #[.val (.ref a1), .val .null, .val (.int (0 : Int32)), .val (.int p2)] [])) _
    refine XS.aloadN X0.here hx rfl (hb hby d6_0) rfl rfl ?_
    show Steps p.tables e below (s₁.setTop (mkF m 1 #[.val (.ref a1), .val .null, .val (.int (0 : Int32)), .val (.int p2)] [(.ref a1)])) _
    refine XS.aloadN X0.here hx rfl (hb hby d6_1) rfl rfl ?_
    show Steps p.tables e below (s₁.setTop (mkF m 2 #[.val (.ref a1), .val .null, .val (.int (0 : Int32)), .val (.int p2)] [.null, (.ref a1)])) _
    refine st1 _ ?_
    show Steps p.tables e below (T1.setTop (mkF m 5 #[.val (.ref a1), .val .null, .val (.int (0 : Int32)), .val (.int p2)] [])) _
    refine XS.aloadN X1.here hx rfl (hb hby d6_5) rfl rfl ?_
    show Steps p.tables e below (T1.setTop (mkF m 6 #[.val (.ref a1), .val .null, .val (.int (0 : Int32)), .val (.int p2)] [(.ref a1)])) _
    refine XS.iloadN X1.here hx rfl (hb hby d6_6) rfl ?_
    show Steps p.tables e below (T1.setTop (mkF m 7 #[.val (.ref a1), .val .null, .val (.int (0 : Int32)), .val (.int p2)] [(.int (0 : Int32)), (.ref a1)])) _
    refine st5 _ ?_
    show Steps p.tables e below (T5.setTop (mkF m 10 #[.val (.ref a1), .val .null, .val (.int (0 : Int32)), .val (.int p2)] [])) _
    refine XS.aloadN X5.here hx rfl (hb hby d6_10) rfl rfl ?_
    show Steps p.tables e below (T5.setTop (mkF m 11 #[.val (.ref a1), .val .null, .val (.int (0 : Int32)), .val (.int p2)] [(.ref a1)])) _
    refine XS.iloadN X5.here hx rfl (hb hby d6_11) rfl ?_
    show Steps p.tables e below (T5.setTop (mkF m 12 #[.val (.ref a1), .val .null, .val (.int (0 : Int32)), .val (.int p2)] [(.int p2), (.ref a1)])) _
    refine st10 _ ?_
    show Steps p.tables e below (T10.setTop (mkF m 15 #[.val (.ref a1), .val .null, .val (.int (0 : Int32)), .val (.int p2)] [])) _
    exact X10.returnOut hx Bd.returns (hb hby d6_15) hr
  · show Q6_20 Z a1 p2 a3 p4 h0 n0 _ T10.heap _
    rw [e10]
    exact ⟨rfl, N10, KC11, c33, c35, c36, Fw10, c14, c17, c20, c23, c26, c29, c32⟩
theorem ef7_21 (m : MethodId) (a1 : Addr) (q2 : Int64) (p3 : Int32) : entryFrame m #[(.ref a1), (.long q2), (.int p3)] 6 = mkF m 0 #[.val (.ref a1), .val (.long q2), .second, .val (.int p3), .unset, .unset] [] := by first | (simp [entryFrame, mkF, argsToLocals, Value.category]; done) | rfl
def Q7_21 (Z : State) (a1 : Addr) (q2 : Int64) (p3 : Int32) (p4 : Int32) (p5 : Int32) (a6 : Addr) (h0 : Heap) (n0 : Nat) (v : Option Value) (h : Heap) (L : List Loc) : Prop := v = none ∧ Fr n0 L ∧ Keep h0 h [a1] ∧ Fld Z h a1 "stavelog/wire/History" "written" "J" (.long (0 : Int64)) ∧ Fld Z h a1 "stavelog/wire/History" "literalsLeft" "I" (.int p4) ∧ Fld Z h a1 "stavelog/wire/History" "reachable" "J" (.long (0 : Int64)) ∧ Fld Z h a1 "stavelog/wire/History" "kept" "I" (.int p5) ∧ Exa Z h a1 "stavelog/wire/History" ∧ Fld Z h a1 "stavelog/wire/History" "distance" "I" (.int (q2.toInt32)) ∧ Fld Z h a1 "stavelog/wire/History" "copyLeft" "I" (.int p3) ∧ Fld Z h a1 "stavelog/wire/History" "decompression" "Lstavelog/wire/Decompression;" (.ref a6) ∧ Fld Z h a1 "stavelog/wire/History" "literalAt" "I" (.int (0 : Int32)) ∧ Fld Z h a1 "stavelog/wire/History" "literals" "Ljava/nio/ByteBuffer;" .null ∧ Fld Z h a1 "stavelog/wire/History" "sum" "Ljava/util/zip/Checksum;" .null
set_option maxRecDepth 65536 in
set_option maxHeartbeats 40000000 in
theorem rm7_21 (l : Launch) (Z : State) (a0 : Array Value) (hw : ∀ d ∈ tables_1, d.before a0 Z = true) (ws : List Jvm.Cond) (a1 : Addr) (q2 : Int64) (p3 : Int32) (p4 : Int32) (p5 : Int32) (a6 : Addr) (h0 : Heap) (n0 : Nat) (Z0 : n0 ≤ h0.size) (F_a1_written : Fld Z h0 a1 "stavelog/wire/History" "written" "J" (.long (0 : Int64))) (F_a1_literalsLeft : Fld Z h0 a1 "stavelog/wire/History" "literalsLeft" "I" (.int p4)) (F_a1_reachable : Fld Z h0 a1 "stavelog/wire/History" "reachable" "J" (.long (0 : Int64))) (F_a1_kept : Fld Z h0 a1 "stavelog/wire/History" "kept" "I" (.int p5)) (hc4 : (0 : Int32) < (lcmpW (p4.toInt64) (p5.toInt64))) (hc5 : ¬ ((lcmpW q2 (1 : Int64)) < (0 : Int32))) (hc6 : ¬ ((0 : Int32) < (lcmpW q2 (p5.toInt64)))) (E_a1 : Exa Z h0 a1 "stavelog/wire/History") (F_a1_distance : Fld Z h0 a1 "stavelog/wire/History" "distance" "I" (.int (1 : Int32))) (g_a1 : n0 ≤ a1) (F_a1_copyLeft : Fld Z h0 a1 "stavelog/wire/History" "copyLeft" "I" (.int (0 : Int32))) (F_a1_decompression : Fld Z h0 a1 "stavelog/wire/History" "decompression" "Lstavelog/wire/Decompression;" (.ref a6)) (F_a1_literalAt : Fld Z h0 a1 "stavelog/wire/History" "literalAt" "I" (.int (0 : Int32))) (F_a1_literals : Fld Z h0 a1 "stavelog/wire/History" "literals" "Ljava/nio/ByteBuffer;" .null) (F_a1_sum : Fld Z h0 a1 "stavelog/wire/History" "sum" "Ljava/util/zip/Checksum;" .null) :
    MetFree l (⟨"stavelog/wire/History", "copy", "(JI)V"⟩ : MethodName) (head1 (Jvm.Cond.code (⟨"stavelog/wire/History", "copy", "(JI)V"⟩ : MethodName) prog_235_method_11_code 6 none :: ws) ({ frames := 1, cells := 0, slots := 0, locals := 15 } : Room)) (fun a U => a = #[(.ref a1), (.long q2), (.int p3)] ∧ Z.Warmed39 U.vm ∧ U.heap = h0) (fun _ _ _ _ _ => True) (fun _ U o U' => ∃ v L, o = .returned v ∧ Q7_21 Z a1 q2 p3 p4 p5 a6 h0 n0 v U'.heap L ∧ FrameEnd U o U' L ({ frames := 1, cells := 0, slots := 0, locals := 15 } : Room).cells ({ frames := 1, cells := 0, slots := 0, locals := 15 } : Room).slots) := by
  refine MetFree.of_bodySF (plainFor_of_name pn_stavelog_wire_History) hisR ?_
  intro p e s m args below meth c s₁ Bd hml0 hP hK
  obtain ⟨rfl, hZ, hh⟩ := hP
  have hx := Bd.exec
  have hby := Bd.bytes
  have hml : c.maxLocals = 6 := hml0
  have hown : s.vm.findClass "stavelog/wire/History" = some m.cls := findClass_of_methodNamed Bd.named
  have hnm := (name_of_methodNamed Bd.named Bd.method).1
  have X0 : Stand p l e ({ frames := 1, cells := 0, slots := 0, locals := 15 } : Room) s m #[(.ref a1), (.long q2), (.int p3)] below meth c s₁ [] 0 0 := Stand.of_body Bd
  have e0 : s₁.heap = h0 := by rw [← hh, Bd.state]; rfl
  have N0 := Fr.nil n0
  have pre0 : ∀ t, Steps p.tables e below (s₁.setTop (mkF m 0 #[.val (.ref a1), .val (.long q2), .second, .val (.int p3), .unset, .unset] [])) t → Steps p.tables e below (s₁.setTop (entryFrame m #[(.ref a1), (.long q2), (.int p3)] 6)) t := fun t k => castTop (ef7_21 m a1 q2 p3) k
  obtain ⟨T1, X1, e1, st1⟩ := getF X0 hx hZ hown (host := "") (Or.inl (own_w35 hw)) Via.refl e0 F_a1_written (g := (mkF m 1 #[.val (.ref a1), .val (.long q2), .second, .val (.int p3), .unset, .unset] [(.ref a1)])) rfl rfl (hb hby d7_1)
  obtain ⟨T2, X2, e2, st2⟩ := getF X1 hx hZ hown (host := "") (Or.inl (own_w39 hw)) Via.refl e1 F_a1_literalsLeft (g := (mkF m 5 #[.val (.ref a1), .val (.long q2), .second, .val (.int p3), .unset, .unset] [(.ref a1), (.long (0 : Int64))])) rfl rfl (hb hby d7_5)
  obtain ⟨T3, X3, e3, st3⟩ := getF X2 hx hZ hown (host := "") (Or.inl (own_w37 hw)) Via.refl e2 F_a1_reachable (g := (mkF m 11 #[.val (.ref a1), .val (.long q2), .second, .val (.int p3), .unset, .unset] [(.ref a1), (.long (p4.toInt64))])) rfl rfl (hb hby d7_11)
  obtain ⟨T4, X4, e4, st4⟩ := getF X3 hx hZ hown (host := "") (Or.inl (own_w33 hw)) Via.refl e3 F_a1_kept (g := (mkF m 16 #[.val (.ref a1), .val (.long q2), .second, .val (.int p3), .unset, .unset] [(.ref a1), (.long (p4.toInt64))])) rfl rfl (hb hby d7_16)
  obtain ⟨_, _, ⟨T5, L5, k5, n5⟩, -, X5, ⟨Lc5, hQ5, l5, y5, z5⟩, st5⟩ := Jvm.LawKit.callS X4 hx (y := (⟨"java/lang/Math", "min", "(JJ)J"⟩ : MethodName)) hown (mvT hZ (own_w59 hw)) (mvT hZ (own_w60 hw)) (mvT hZ (own_w61 hw)) (mvT hZ (own_w62 hw)) (by decide) (backOf (W := 0) (rm8_9 l Z a0 hw [] (p4.toInt64) (p5.toInt64) h0 n0 Z0 hc4) hZ (own_w62 hw) (own_w61 hw) (by decide) (by decide)) (g := (mkF m 20 #[.val (.ref a1), .val (.long q2), .second, .val (.int p3), .unset, .unset] [(.long (p5.toInt64)), (.long (p4.toInt64))])) rfl (by rw [hml]; rfl) (argsL := [(.long (p4.toInt64)), (.long (p5.toInt64))]) (rest := []) (lenOf pd__JJ_J rfl) rfl (by show 2 * 0 + _ ≤ _; exact Nat.le_of_eq rfl) (hb hby d7_20) (fun _ _ => ⟨rfl, e4, (by decide : 0 + 0 ≤ _), (by decide : 0 + 0 ≤ _)⟩)
  dsimp only [Pt.U, Pt.locs, Pt.cells, Pt.slots] at X5 l5 y5 z5 st5 hQ5
  subst l5 y5 z5
  obtain ⟨rfl, N5q, e5⟩ := hQ5
  have N5 := Fr.app N0 N5q
  obtain ⟨T6, h6, X6, e6, W6, st6⟩ := putF X5 hx hZ hown (host := "") (Or.inl (own_w63 hw)) Via.refl e5 F_a1_distance E_a1 (Or.inl (own_w64 hw)) (own_w3 hw) (ty := .int) (by decide) rfl rfl (g := (mkF m 57 #[.val (.ref a1), .val (.long q2), .second, .val (.int p3), .val (.long (p5.toInt64)), .second] [(.int (q2.toInt32)), (.ref a1)])) rfl rfl (hb hby d7_57)
  have KC7 : Keep h0 h6 [a1] := (Keep.refl h0 [a1]).wr W6 (Or.inl (List.mem_of_getElem? (i := 0) rfl))
  have Fw6 := F_a1_distance.same W6
  have N6 := Fr.snoc X6 N5 g_a1
  have c8 := E_a1.wr W6
  have c9 := F_a1_copyLeft.other W6 (Or.inr (slot_ne (C := "stavelog/wire/History") (Or.inl (own_w42 hw)) (Or.inl (own_w64 hw)) (by decide) (t := .int) (t' := .int) (by decide) (by decide)))
  obtain ⟨T10, h10, X10, e10, W10, st10⟩ := putF X6 hx hZ hown (host := "") (Or.inl (own_w41 hw)) Via.refl e6 c9 c8 (Or.inl (own_w42 hw)) (own_w3 hw) (ty := .int) (by decide) rfl rfl (g := (mkF m 62 #[.val (.ref a1), .val (.long q2), .second, .val (.int p3), .val (.long (p5.toInt64)), .second] [(.int p3), (.ref a1)])) rfl rfl (hb hby d7_62)
  have KC11 : Keep h0 h10 [a1] := KC7.wr W10 (Or.inl (List.mem_of_getElem? (i := 0) rfl))
  have Fw10 := c9.same W10
  have N10 := Fr.snoc X10 N6 g_a1
  have c12 := F_a1_decompression.other W6 (Or.inr (slot_ne (C := "stavelog/wire/History") (Or.inr (own_w27 hw)) (Or.inl (own_w64 hw)) (by decide) (t := (.object "stavelog/wire/Decompression")) (t' := .int) (by decide) (by decide)))
  have c13 := c12.other W10 (Or.inr (slot_ne (C := "stavelog/wire/History") (Or.inr (own_w27 hw)) (Or.inl (own_w42 hw)) (by decide) (t := (.object "stavelog/wire/Decompression")) (t' := .int) (by decide) (by decide)))
  have c14 := F_a1_literalAt.other W6 (Or.inr (slot_ne (C := "stavelog/wire/History") (Or.inl (own_w53 hw)) (Or.inl (own_w64 hw)) (by decide) (t := .int) (t' := .int) (by decide) (by decide)))
  have c15 := c14.other W10 (Or.inr (slot_ne (C := "stavelog/wire/History") (Or.inl (own_w53 hw)) (Or.inl (own_w42 hw)) (by decide) (t := .int) (t' := .int) (by decide) (by decide)))
  have c16 := F_a1_literals.other W6 (Or.inr (slot_ne (C := "stavelog/wire/History") (Or.inl (own_w51 hw)) (Or.inl (own_w64 hw)) (by decide) (t := (.object "java/nio/ByteBuffer")) (t' := .int) (by decide) (by decide)))
  have c17 := c16.other W10 (Or.inr (slot_ne (C := "stavelog/wire/History") (Or.inl (own_w51 hw)) (Or.inl (own_w42 hw)) (by decide) (t := (.object "java/nio/ByteBuffer")) (t' := .int) (by decide) (by decide)))
  have c18 := F_a1_sum.other W6 (Or.inr (slot_ne (C := "stavelog/wire/History") (Or.inl (own_w44 hw)) (Or.inl (own_w64 hw)) (by decide) (t := (.object "java/util/zip/Checksum")) (t' := .int) (by decide) (by decide)))
  have c19 := c18.other W10 (Or.inr (slot_ne (C := "stavelog/wire/History") (Or.inl (own_w44 hw)) (Or.inl (own_w42 hw)) (by decide) (t := (.object "java/util/zip/Checksum")) (t' := .int) (by decide) (by decide)))
  have c20 := F_a1_written.other W6 (Or.inr (slot_ne (C := "stavelog/wire/History") (Or.inl (own_w36 hw)) (Or.inl (own_w64 hw)) (by decide) (t := .long) (t' := .int) (by decide) (by decide)))
  have c21 := c20.other W10 (Or.inr (slot_ne (C := "stavelog/wire/History") (Or.inl (own_w36 hw)) (Or.inl (own_w42 hw)) (by decide) (t := .long) (t' := .int) (by decide) (by decide)))
  have c22 := F_a1_literalsLeft.other W6 (Or.inr (slot_ne (C := "stavelog/wire/History") (Or.inl (own_w40 hw)) (Or.inl (own_w64 hw)) (by decide) (t := .int) (t' := .int) (by decide) (by decide)))
  have c23 := c22.other W10 (Or.inr (slot_ne (C := "stavelog/wire/History") (Or.inl (own_w40 hw)) (Or.inl (own_w42 hw)) (by decide) (t := .int) (t' := .int) (by decide) (by decide)))
  have c24 := F_a1_reachable.other W6 (Or.inr (slot_ne (C := "stavelog/wire/History") (Or.inl (own_w38 hw)) (Or.inl (own_w64 hw)) (by decide) (t := .long) (t' := .int) (by decide) (by decide)))
  have c25 := c24.other W10 (Or.inr (slot_ne (C := "stavelog/wire/History") (Or.inl (own_w38 hw)) (Or.inl (own_w42 hw)) (by decide) (t := .long) (t' := .int) (by decide) (by decide)))
  have c26 := F_a1_kept.other W6 (Or.inr (slot_ne (C := "stavelog/wire/History") (Or.inl (own_w34 hw)) (Or.inl (own_w64 hw)) (by decide) (t := .int) (t' := .int) (by decide) (by decide)))
  have c27 := c26.other W10 (Or.inr (slot_ne (C := "stavelog/wire/History") (Or.inl (own_w34 hw)) (Or.inl (own_w42 hw)) (by decide) (t := .int) (t' := .int) (by decide) (by decide)))
  have c28 := c8.wr W10
  have c29 := Fw6.other W10 (Or.inr (slot_ne (C := "stavelog/wire/History") (Or.inl (own_w64 hw)) (Or.inl (own_w42 hw)) (by decide) (t := .int) (t' := .int) (by decide) (by decide)))
  obtain ⟨fs, hr, hrun, hended, hW, hsame⟩ := X10.leave (v := none) (fun _ => rfl)
  refine ⟨_, _, pre0 _ ?_, hrun, hended, _, _, rfl, ?_, ⟨_, rfl⟩, hW, hsame.mono (by decide) (by decide)⟩
  · show Steps p.tables e below (s₁.setTop (mkF m 0 #[.val (.ref a1), .val (.long q2), .second, .val (.int p3), .unset, .unset] [])) _
    refine XS.aloadN X0.here hx rfl (hb hby d7_0) rfl rfl ?_
    show Steps p.tables e below (s₁.setTop (mkF m 1 #[.val (.ref a1), .val (.long q2), .second, .val (.int p3), .unset, .unset] [(.ref a1)])) _
    refine st1 _ ?_
    show Steps p.tables e below (T1.setTop (mkF m 4 #[.val (.ref a1), .val (.long q2), .second, .val (.int p3), .unset, .unset] [(.long (0 : Int64))])) _
    refine XS.aloadN X1.here hx rfl (hb hby d7_4) rfl rfl ?_
    show Steps p.tables e below (T1.setTop (mkF m 5 #[.val (.ref a1), .val (.long q2), .second, .val (.int p3), .unset, .unset] [(.ref a1), (.long (0 : Int64))])) _
    refine st2 _ ?_
    show Steps p.tables e below (T2.setTop (mkF m 8 #[.val (.ref a1), .val (.long q2), .second, .val (.int p3), .unset, .unset] [(.int p4), (.long (0 : Int64))])) _
    refine XS.i2l X2.here hx rfl (hb hby d7_8) rfl ?_
    show Steps p.tables e below (T2.setTop (mkF m 9 #[.val (.ref a1), .val (.long q2), .second, .val (.int p3), .unset, .unset] [(.long (p4.toInt64)), (.long (0 : Int64))])) _
    refine XS.ladd X2.here hx rfl (hb hby d7_9) rfl ?_
    show Steps p.tables e below (T2.setTop (mkF m 10 #[.val (.ref a1), .val (.long q2), .second, .val (.int p3), .unset, .unset] [(.long ((0 : Int64) + (p4.toInt64)))])) _
    rw [Int64.zero_add]
    show Steps p.tables e below (T2.setTop (mkF m 10 #[.val (.ref a1), .val (.long q2), .second, .val (.int p3), .unset, .unset] [(.long (p4.toInt64))])) _
    refine XS.aloadN X2.here hx rfl (hb hby d7_10) rfl rfl ?_
    show Steps p.tables e below (T2.setTop (mkF m 11 #[.val (.ref a1), .val (.long q2), .second, .val (.int p3), .unset, .unset] [(.ref a1), (.long (p4.toInt64))])) _
    refine st3 _ ?_
    show Steps p.tables e below (T3.setTop (mkF m 14 #[.val (.ref a1), .val (.long q2), .second, .val (.int p3), .unset, .unset] [(.long (0 : Int64)), (.long (p4.toInt64))])) _
    refine XS.lsub X3.here hx rfl (hb hby d7_14) rfl ?_
    show Steps p.tables e below (T3.setTop (mkF m 15 #[.val (.ref a1), .val (.long q2), .second, .val (.int p3), .unset, .unset] [(.long ((p4.toInt64) - (0 : Int64)))])) _
    rw [Int64.sub_zero]
    show Steps p.tables e below (T3.setTop (mkF m 15 #[.val (.ref a1), .val (.long q2), .second, .val (.int p3), .unset, .unset] [(.long (p4.toInt64))])) _
    refine XS.aloadN X3.here hx rfl (hb hby d7_15) rfl rfl ?_
    show Steps p.tables e below (T3.setTop (mkF m 16 #[.val (.ref a1), .val (.long q2), .second, .val (.int p3), .unset, .unset] [(.ref a1), (.long (p4.toInt64))])) _
    refine st4 _ ?_
    show Steps p.tables e below (T4.setTop (mkF m 19 #[.val (.ref a1), .val (.long q2), .second, .val (.int p3), .unset, .unset] [(.int p5), (.long (p4.toInt64))])) _
    refine XS.i2l X4.here hx rfl (hb hby d7_19) rfl ?_
    show Steps p.tables e below (T4.setTop (mkF m 20 #[.val (.ref a1), .val (.long q2), .second, .val (.int p3), .unset, .unset] [(.long (p5.toInt64)), (.long (p4.toInt64))])) _
    refine st5 _ ?_
    show Steps p.tables e below (T5.setTop (mkF m 23 #[.val (.ref a1), .val (.long q2), .second, .val (.int p3), .unset, .unset] [(.long (p5.toInt64))])) _
    refine XS.lstore X5.here hx rfl (hb hby d7_23) rfl (l' := #[.val (.ref a1), .val (.long q2), .second, .val (.int p3), .val (.long (p5.toInt64)), .second]) rfl ?_
    show Steps p.tables e below (T5.setTop (mkF m 25 #[.val (.ref a1), .val (.long q2), .second, .val (.int p3), .val (.long (p5.toInt64)), .second] [])) _
    refine XS.lloadN X5.here hx rfl (hb hby d7_25) rfl ?_
    show Steps p.tables e below (T5.setTop (mkF m 26 #[.val (.ref a1), .val (.long q2), .second, .val (.int p3), .val (.long (p5.toInt64)), .second] [(.long q2)])) _
    refine XS.lconst X5.here hx rfl (hb hby d7_26) ?_
    show Steps p.tables e below (T5.setTop (mkF m 27 #[.val (.ref a1), .val (.long q2), .second, .val (.int p3), .val (.long (p5.toInt64)), .second] [(.long (1 : Int64)), (.long q2)])) _
    refine XS.lcmp X5.here hx rfl (hb hby d7_27) rfl ?_
    show Steps p.tables e below (T5.setTop (mkF m 28 #[.val (.ref a1), .val (.long q2), .second, .val (.int p3), .val (.long (p5.toInt64)), .second] [(.int (lcmpW q2 (1 : Int64)))])) _
    refine XS.ifNo X5.here hx rfl (hb hby d7_28) rfl ((if0 _ _).trans (flt hc5).1) ?_
    show Steps p.tables e below (T5.setTop (mkF m 31 #[.val (.ref a1), .val (.long q2), .second, .val (.int p3), .val (.long (p5.toInt64)), .second] [])) _
    refine XS.lloadN X5.here hx rfl (hb hby d7_31) rfl ?_
    show Steps p.tables e below (T5.setTop (mkF m 32 #[.val (.ref a1), .val (.long q2), .second, .val (.int p3), .val (.long (p5.toInt64)), .second] [(.long q2)])) _
    refine XS.lload X5.here hx rfl (hb hby d7_32) rfl ?_
    show Steps p.tables e below (T5.setTop (mkF m 34 #[.val (.ref a1), .val (.long q2), .second, .val (.int p3), .val (.long (p5.toInt64)), .second] [(.long (p5.toInt64)), (.long q2)])) _
    refine XS.lcmp X5.here hx rfl (hb hby d7_34) rfl ?_
    show Steps p.tables e below (T5.setTop (mkF m 35 #[.val (.ref a1), .val (.long q2), .second, .val (.int p3), .val (.long (p5.toInt64)), .second] [(.int (lcmpW q2 (p5.toInt64)))])) _
    refine XS.ifYes X5.here hx rfl (pc0 := 35) (pc' := 54) rfl (hb hby d7_35) rfl ((if0 _ _).trans (flt hc6).2.2.2) (by decide) (by decide) ?_
    show Steps p.tables e below (T5.setTop (mkF m 54 #[.val (.ref a1), .val (.long q2), .second, .val (.int p3), .val (.long (p5.toInt64)), .second] [])) _
    refine XS.aloadN X5.here hx rfl (hb hby d7_54) rfl rfl ?_
    show Steps p.tables e below (T5.setTop (mkF m 55 #[.val (.ref a1), .val (.long q2), .second, .val (.int p3), .val (.long (p5.toInt64)), .second] [(.ref a1)])) _
    refine XS.lloadN X5.here hx rfl (hb hby d7_55) rfl ?_
    show Steps p.tables e below (T5.setTop (mkF m 56 #[.val (.ref a1), .val (.long q2), .second, .val (.int p3), .val (.long (p5.toInt64)), .second] [(.long q2), (.ref a1)])) _
    refine XS.l2i X5.here hx rfl (hb hby d7_56) rfl ?_
    show Steps p.tables e below (T5.setTop (mkF m 57 #[.val (.ref a1), .val (.long q2), .second, .val (.int p3), .val (.long (p5.toInt64)), .second] [(.int (q2.toInt32)), (.ref a1)])) _
    refine st6 _ ?_
    show Steps p.tables e below (T6.setTop (mkF m 60 #[.val (.ref a1), .val (.long q2), .second, .val (.int p3), .val (.long (p5.toInt64)), .second] [])) _
    refine XS.aloadN X6.here hx rfl (hb hby d7_60) rfl rfl ?_
    show Steps p.tables e below (T6.setTop (mkF m 61 #[.val (.ref a1), .val (.long q2), .second, .val (.int p3), .val (.long (p5.toInt64)), .second] [(.ref a1)])) _
    refine XS.iloadN X6.here hx rfl (hb hby d7_61) rfl ?_
    show Steps p.tables e below (T6.setTop (mkF m 62 #[.val (.ref a1), .val (.long q2), .second, .val (.int p3), .val (.long (p5.toInt64)), .second] [(.int p3), (.ref a1)])) _
    refine st10 _ ?_
    show Steps p.tables e below (T10.setTop (mkF m 65 #[.val (.ref a1), .val (.long q2), .second, .val (.int p3), .val (.long (p5.toInt64)), .second] [])) _
    exact X10.returnOut hx Bd.returns (hb hby d7_65) hr
  · show Q7_21 Z a1 q2 p3 p4 p5 a6 h0 n0 _ T10.heap _
    rw [e10]
    exact ⟨rfl, N10, KC11, c21, c23, c25, c27, c28, c29, Fw10, c13, c15, c17, c19⟩
theorem ef7_22 (m : MethodId) (a1 : Addr) (q2 : Int64) (p3 : Int32) : entryFrame m #[(.ref a1), (.long q2), (.int p3)] 6 = mkF m 0 #[.val (.ref a1), .val (.long q2), .second, .val (.int p3), .unset, .unset] [] := by first | (simp [entryFrame, mkF, argsToLocals, Value.category]; done) | rfl
def Q7_22 (Z : State) (a1 : Addr) (q2 : Int64) (p3 : Int32) (p4 : Int32) (p5 : Int32) (a6 : Addr) (h0 : Heap) (n0 : Nat) (v : Option Value) (h : Heap) (L : List Loc) : Prop := v = none ∧ Fr n0 L ∧ Keep h0 h [a1] ∧ Fld Z h a1 "stavelog/wire/History" "written" "J" (.long (0 : Int64)) ∧ Fld Z h a1 "stavelog/wire/History" "literalsLeft" "I" (.int p4) ∧ Fld Z h a1 "stavelog/wire/History" "reachable" "J" (.long (0 : Int64)) ∧ Fld Z h a1 "stavelog/wire/History" "kept" "I" (.int p5) ∧ Exa Z h a1 "stavelog/wire/History" ∧ Fld Z h a1 "stavelog/wire/History" "distance" "I" (.int (q2.toInt32)) ∧ Fld Z h a1 "stavelog/wire/History" "copyLeft" "I" (.int p3) ∧ Fld Z h a1 "stavelog/wire/History" "decompression" "Lstavelog/wire/Decompression;" (.ref a6) ∧ Fld Z h a1 "stavelog/wire/History" "literalAt" "I" (.int (0 : Int32)) ∧ Fld Z h a1 "stavelog/wire/History" "literals" "Ljava/nio/ByteBuffer;" .null ∧ Fld Z h a1 "stavelog/wire/History" "sum" "Ljava/util/zip/Checksum;" .null
set_option maxRecDepth 65536 in
set_option maxHeartbeats 40000000 in
theorem rm7_22 (l : Launch) (Z : State) (a0 : Array Value) (hw : ∀ d ∈ tables_1, d.before a0 Z = true) (ws : List Jvm.Cond) (a1 : Addr) (q2 : Int64) (p3 : Int32) (p4 : Int32) (p5 : Int32) (a6 : Addr) (h0 : Heap) (n0 : Nat) (Z0 : n0 ≤ h0.size) (F_a1_written : Fld Z h0 a1 "stavelog/wire/History" "written" "J" (.long (0 : Int64))) (F_a1_literalsLeft : Fld Z h0 a1 "stavelog/wire/History" "literalsLeft" "I" (.int p4)) (F_a1_reachable : Fld Z h0 a1 "stavelog/wire/History" "reachable" "J" (.long (0 : Int64))) (F_a1_kept : Fld Z h0 a1 "stavelog/wire/History" "kept" "I" (.int p5)) (hc4 : ¬ ((0 : Int32) < (lcmpW (p4.toInt64) (p5.toInt64)))) (hc5 : ¬ ((lcmpW q2 (1 : Int64)) < (0 : Int32))) (hc6 : ¬ ((0 : Int32) < (lcmpW q2 (p4.toInt64)))) (E_a1 : Exa Z h0 a1 "stavelog/wire/History") (F_a1_distance : Fld Z h0 a1 "stavelog/wire/History" "distance" "I" (.int (1 : Int32))) (g_a1 : n0 ≤ a1) (F_a1_copyLeft : Fld Z h0 a1 "stavelog/wire/History" "copyLeft" "I" (.int (0 : Int32))) (F_a1_decompression : Fld Z h0 a1 "stavelog/wire/History" "decompression" "Lstavelog/wire/Decompression;" (.ref a6)) (F_a1_literalAt : Fld Z h0 a1 "stavelog/wire/History" "literalAt" "I" (.int (0 : Int32))) (F_a1_literals : Fld Z h0 a1 "stavelog/wire/History" "literals" "Ljava/nio/ByteBuffer;" .null) (F_a1_sum : Fld Z h0 a1 "stavelog/wire/History" "sum" "Ljava/util/zip/Checksum;" .null) :
    MetFree l (⟨"stavelog/wire/History", "copy", "(JI)V"⟩ : MethodName) (head1 (Jvm.Cond.code (⟨"stavelog/wire/History", "copy", "(JI)V"⟩ : MethodName) prog_235_method_11_code 6 none :: ws) ({ frames := 1, cells := 0, slots := 0, locals := 15 } : Room)) (fun a U => a = #[(.ref a1), (.long q2), (.int p3)] ∧ Z.Warmed39 U.vm ∧ U.heap = h0) (fun _ _ _ _ _ => True) (fun _ U o U' => ∃ v L, o = .returned v ∧ Q7_22 Z a1 q2 p3 p4 p5 a6 h0 n0 v U'.heap L ∧ FrameEnd U o U' L ({ frames := 1, cells := 0, slots := 0, locals := 15 } : Room).cells ({ frames := 1, cells := 0, slots := 0, locals := 15 } : Room).slots) := by
  refine MetFree.of_bodySF (plainFor_of_name pn_stavelog_wire_History) hisR ?_
  intro p e s m args below meth c s₁ Bd hml0 hP hK
  obtain ⟨rfl, hZ, hh⟩ := hP
  have hx := Bd.exec
  have hby := Bd.bytes
  have hml : c.maxLocals = 6 := hml0
  have hown : s.vm.findClass "stavelog/wire/History" = some m.cls := findClass_of_methodNamed Bd.named
  have hnm := (name_of_methodNamed Bd.named Bd.method).1
  have X0 : Stand p l e ({ frames := 1, cells := 0, slots := 0, locals := 15 } : Room) s m #[(.ref a1), (.long q2), (.int p3)] below meth c s₁ [] 0 0 := Stand.of_body Bd
  have e0 : s₁.heap = h0 := by rw [← hh, Bd.state]; rfl
  have N0 := Fr.nil n0
  have pre0 : ∀ t, Steps p.tables e below (s₁.setTop (mkF m 0 #[.val (.ref a1), .val (.long q2), .second, .val (.int p3), .unset, .unset] [])) t → Steps p.tables e below (s₁.setTop (entryFrame m #[(.ref a1), (.long q2), (.int p3)] 6)) t := fun t k => castTop (ef7_22 m a1 q2 p3) k
  obtain ⟨T1, X1, e1, st1⟩ := getF X0 hx hZ hown (host := "") (Or.inl (own_w35 hw)) Via.refl e0 F_a1_written (g := (mkF m 1 #[.val (.ref a1), .val (.long q2), .second, .val (.int p3), .unset, .unset] [(.ref a1)])) rfl rfl (hb hby d7_1)
  obtain ⟨T2, X2, e2, st2⟩ := getF X1 hx hZ hown (host := "") (Or.inl (own_w39 hw)) Via.refl e1 F_a1_literalsLeft (g := (mkF m 5 #[.val (.ref a1), .val (.long q2), .second, .val (.int p3), .unset, .unset] [(.ref a1), (.long (0 : Int64))])) rfl rfl (hb hby d7_5)
  obtain ⟨T3, X3, e3, st3⟩ := getF X2 hx hZ hown (host := "") (Or.inl (own_w37 hw)) Via.refl e2 F_a1_reachable (g := (mkF m 11 #[.val (.ref a1), .val (.long q2), .second, .val (.int p3), .unset, .unset] [(.ref a1), (.long (p4.toInt64))])) rfl rfl (hb hby d7_11)
  obtain ⟨T4, X4, e4, st4⟩ := getF X3 hx hZ hown (host := "") (Or.inl (own_w33 hw)) Via.refl e3 F_a1_kept (g := (mkF m 16 #[.val (.ref a1), .val (.long q2), .second, .val (.int p3), .unset, .unset] [(.ref a1), (.long (p4.toInt64))])) rfl rfl (hb hby d7_16)
  obtain ⟨_, _, ⟨T5, L5, k5, n5⟩, -, X5, ⟨Lc5, hQ5, l5, y5, z5⟩, st5⟩ := Jvm.LawKit.callS X4 hx (y := (⟨"java/lang/Math", "min", "(JJ)J"⟩ : MethodName)) hown (mvT hZ (own_w59 hw)) (mvT hZ (own_w60 hw)) (mvT hZ (own_w61 hw)) (mvT hZ (own_w62 hw)) (by decide) (backOf (W := 0) (rm8_12 l Z a0 hw [] (p4.toInt64) (p5.toInt64) h0 n0 Z0 hc4) hZ (own_w62 hw) (own_w61 hw) (by decide) (by decide)) (g := (mkF m 20 #[.val (.ref a1), .val (.long q2), .second, .val (.int p3), .unset, .unset] [(.long (p5.toInt64)), (.long (p4.toInt64))])) rfl (by rw [hml]; rfl) (argsL := [(.long (p4.toInt64)), (.long (p5.toInt64))]) (rest := []) (lenOf pd__JJ_J rfl) rfl (by show 2 * 0 + _ ≤ _; exact Nat.le_of_eq rfl) (hb hby d7_20) (fun _ _ => ⟨rfl, e4, (by decide : 0 + 0 ≤ _), (by decide : 0 + 0 ≤ _)⟩)
  dsimp only [Pt.U, Pt.locs, Pt.cells, Pt.slots] at X5 l5 y5 z5 st5 hQ5
  subst l5 y5 z5
  obtain ⟨rfl, N5q, e5⟩ := hQ5
  have N5 := Fr.app N0 N5q
  obtain ⟨T6, h6, X6, e6, W6, st6⟩ := putF X5 hx hZ hown (host := "") (Or.inl (own_w63 hw)) Via.refl e5 F_a1_distance E_a1 (Or.inl (own_w64 hw)) (own_w3 hw) (ty := .int) (by decide) rfl rfl (g := (mkF m 57 #[.val (.ref a1), .val (.long q2), .second, .val (.int p3), .val (.long (p4.toInt64)), .second] [(.int (q2.toInt32)), (.ref a1)])) rfl rfl (hb hby d7_57)
  have KC7 : Keep h0 h6 [a1] := (Keep.refl h0 [a1]).wr W6 (Or.inl (List.mem_of_getElem? (i := 0) rfl))
  have Fw6 := F_a1_distance.same W6
  have N6 := Fr.snoc X6 N5 g_a1
  have c8 := E_a1.wr W6
  have c9 := F_a1_copyLeft.other W6 (Or.inr (slot_ne (C := "stavelog/wire/History") (Or.inl (own_w42 hw)) (Or.inl (own_w64 hw)) (by decide) (t := .int) (t' := .int) (by decide) (by decide)))
  obtain ⟨T10, h10, X10, e10, W10, st10⟩ := putF X6 hx hZ hown (host := "") (Or.inl (own_w41 hw)) Via.refl e6 c9 c8 (Or.inl (own_w42 hw)) (own_w3 hw) (ty := .int) (by decide) rfl rfl (g := (mkF m 62 #[.val (.ref a1), .val (.long q2), .second, .val (.int p3), .val (.long (p4.toInt64)), .second] [(.int p3), (.ref a1)])) rfl rfl (hb hby d7_62)
  have KC11 : Keep h0 h10 [a1] := KC7.wr W10 (Or.inl (List.mem_of_getElem? (i := 0) rfl))
  have Fw10 := c9.same W10
  have N10 := Fr.snoc X10 N6 g_a1
  have c12 := F_a1_decompression.other W6 (Or.inr (slot_ne (C := "stavelog/wire/History") (Or.inr (own_w27 hw)) (Or.inl (own_w64 hw)) (by decide) (t := (.object "stavelog/wire/Decompression")) (t' := .int) (by decide) (by decide)))
  have c13 := c12.other W10 (Or.inr (slot_ne (C := "stavelog/wire/History") (Or.inr (own_w27 hw)) (Or.inl (own_w42 hw)) (by decide) (t := (.object "stavelog/wire/Decompression")) (t' := .int) (by decide) (by decide)))
  have c14 := F_a1_literalAt.other W6 (Or.inr (slot_ne (C := "stavelog/wire/History") (Or.inl (own_w53 hw)) (Or.inl (own_w64 hw)) (by decide) (t := .int) (t' := .int) (by decide) (by decide)))
  have c15 := c14.other W10 (Or.inr (slot_ne (C := "stavelog/wire/History") (Or.inl (own_w53 hw)) (Or.inl (own_w42 hw)) (by decide) (t := .int) (t' := .int) (by decide) (by decide)))
  have c16 := F_a1_literals.other W6 (Or.inr (slot_ne (C := "stavelog/wire/History") (Or.inl (own_w51 hw)) (Or.inl (own_w64 hw)) (by decide) (t := (.object "java/nio/ByteBuffer")) (t' := .int) (by decide) (by decide)))
  have c17 := c16.other W10 (Or.inr (slot_ne (C := "stavelog/wire/History") (Or.inl (own_w51 hw)) (Or.inl (own_w42 hw)) (by decide) (t := (.object "java/nio/ByteBuffer")) (t' := .int) (by decide) (by decide)))
  have c18 := F_a1_sum.other W6 (Or.inr (slot_ne (C := "stavelog/wire/History") (Or.inl (own_w44 hw)) (Or.inl (own_w64 hw)) (by decide) (t := (.object "java/util/zip/Checksum")) (t' := .int) (by decide) (by decide)))
  have c19 := c18.other W10 (Or.inr (slot_ne (C := "stavelog/wire/History") (Or.inl (own_w44 hw)) (Or.inl (own_w42 hw)) (by decide) (t := (.object "java/util/zip/Checksum")) (t' := .int) (by decide) (by decide)))
  have c20 := F_a1_written.other W6 (Or.inr (slot_ne (C := "stavelog/wire/History") (Or.inl (own_w36 hw)) (Or.inl (own_w64 hw)) (by decide) (t := .long) (t' := .int) (by decide) (by decide)))
  have c21 := c20.other W10 (Or.inr (slot_ne (C := "stavelog/wire/History") (Or.inl (own_w36 hw)) (Or.inl (own_w42 hw)) (by decide) (t := .long) (t' := .int) (by decide) (by decide)))
  have c22 := F_a1_literalsLeft.other W6 (Or.inr (slot_ne (C := "stavelog/wire/History") (Or.inl (own_w40 hw)) (Or.inl (own_w64 hw)) (by decide) (t := .int) (t' := .int) (by decide) (by decide)))
  have c23 := c22.other W10 (Or.inr (slot_ne (C := "stavelog/wire/History") (Or.inl (own_w40 hw)) (Or.inl (own_w42 hw)) (by decide) (t := .int) (t' := .int) (by decide) (by decide)))
  have c24 := F_a1_reachable.other W6 (Or.inr (slot_ne (C := "stavelog/wire/History") (Or.inl (own_w38 hw)) (Or.inl (own_w64 hw)) (by decide) (t := .long) (t' := .int) (by decide) (by decide)))
  have c25 := c24.other W10 (Or.inr (slot_ne (C := "stavelog/wire/History") (Or.inl (own_w38 hw)) (Or.inl (own_w42 hw)) (by decide) (t := .long) (t' := .int) (by decide) (by decide)))
  have c26 := F_a1_kept.other W6 (Or.inr (slot_ne (C := "stavelog/wire/History") (Or.inl (own_w34 hw)) (Or.inl (own_w64 hw)) (by decide) (t := .int) (t' := .int) (by decide) (by decide)))
  have c27 := c26.other W10 (Or.inr (slot_ne (C := "stavelog/wire/History") (Or.inl (own_w34 hw)) (Or.inl (own_w42 hw)) (by decide) (t := .int) (t' := .int) (by decide) (by decide)))
  have c28 := c8.wr W10
  have c29 := Fw6.other W10 (Or.inr (slot_ne (C := "stavelog/wire/History") (Or.inl (own_w64 hw)) (Or.inl (own_w42 hw)) (by decide) (t := .int) (t' := .int) (by decide) (by decide)))
  obtain ⟨fs, hr, hrun, hended, hW, hsame⟩ := X10.leave (v := none) (fun _ => rfl)
  refine ⟨_, _, pre0 _ ?_, hrun, hended, _, _, rfl, ?_, ⟨_, rfl⟩, hW, hsame.mono (by decide) (by decide)⟩
  · show Steps p.tables e below (s₁.setTop (mkF m 0 #[.val (.ref a1), .val (.long q2), .second, .val (.int p3), .unset, .unset] [])) _
    refine XS.aloadN X0.here hx rfl (hb hby d7_0) rfl rfl ?_
    show Steps p.tables e below (s₁.setTop (mkF m 1 #[.val (.ref a1), .val (.long q2), .second, .val (.int p3), .unset, .unset] [(.ref a1)])) _
    refine st1 _ ?_
    show Steps p.tables e below (T1.setTop (mkF m 4 #[.val (.ref a1), .val (.long q2), .second, .val (.int p3), .unset, .unset] [(.long (0 : Int64))])) _
    refine XS.aloadN X1.here hx rfl (hb hby d7_4) rfl rfl ?_
    show Steps p.tables e below (T1.setTop (mkF m 5 #[.val (.ref a1), .val (.long q2), .second, .val (.int p3), .unset, .unset] [(.ref a1), (.long (0 : Int64))])) _
    refine st2 _ ?_
    show Steps p.tables e below (T2.setTop (mkF m 8 #[.val (.ref a1), .val (.long q2), .second, .val (.int p3), .unset, .unset] [(.int p4), (.long (0 : Int64))])) _
    refine XS.i2l X2.here hx rfl (hb hby d7_8) rfl ?_
    show Steps p.tables e below (T2.setTop (mkF m 9 #[.val (.ref a1), .val (.long q2), .second, .val (.int p3), .unset, .unset] [(.long (p4.toInt64)), (.long (0 : Int64))])) _
    refine XS.ladd X2.here hx rfl (hb hby d7_9) rfl ?_
    show Steps p.tables e below (T2.setTop (mkF m 10 #[.val (.ref a1), .val (.long q2), .second, .val (.int p3), .unset, .unset] [(.long ((0 : Int64) + (p4.toInt64)))])) _
    rw [Int64.zero_add]
    show Steps p.tables e below (T2.setTop (mkF m 10 #[.val (.ref a1), .val (.long q2), .second, .val (.int p3), .unset, .unset] [(.long (p4.toInt64))])) _
    refine XS.aloadN X2.here hx rfl (hb hby d7_10) rfl rfl ?_
    show Steps p.tables e below (T2.setTop (mkF m 11 #[.val (.ref a1), .val (.long q2), .second, .val (.int p3), .unset, .unset] [(.ref a1), (.long (p4.toInt64))])) _
    refine st3 _ ?_
    show Steps p.tables e below (T3.setTop (mkF m 14 #[.val (.ref a1), .val (.long q2), .second, .val (.int p3), .unset, .unset] [(.long (0 : Int64)), (.long (p4.toInt64))])) _
    refine XS.lsub X3.here hx rfl (hb hby d7_14) rfl ?_
    show Steps p.tables e below (T3.setTop (mkF m 15 #[.val (.ref a1), .val (.long q2), .second, .val (.int p3), .unset, .unset] [(.long ((p4.toInt64) - (0 : Int64)))])) _
    rw [Int64.sub_zero]
    show Steps p.tables e below (T3.setTop (mkF m 15 #[.val (.ref a1), .val (.long q2), .second, .val (.int p3), .unset, .unset] [(.long (p4.toInt64))])) _
    refine XS.aloadN X3.here hx rfl (hb hby d7_15) rfl rfl ?_
    show Steps p.tables e below (T3.setTop (mkF m 16 #[.val (.ref a1), .val (.long q2), .second, .val (.int p3), .unset, .unset] [(.ref a1), (.long (p4.toInt64))])) _
    refine st4 _ ?_
    show Steps p.tables e below (T4.setTop (mkF m 19 #[.val (.ref a1), .val (.long q2), .second, .val (.int p3), .unset, .unset] [(.int p5), (.long (p4.toInt64))])) _
    refine XS.i2l X4.here hx rfl (hb hby d7_19) rfl ?_
    show Steps p.tables e below (T4.setTop (mkF m 20 #[.val (.ref a1), .val (.long q2), .second, .val (.int p3), .unset, .unset] [(.long (p5.toInt64)), (.long (p4.toInt64))])) _
    refine st5 _ ?_
    show Steps p.tables e below (T5.setTop (mkF m 23 #[.val (.ref a1), .val (.long q2), .second, .val (.int p3), .unset, .unset] [(.long (p4.toInt64))])) _
    refine XS.lstore X5.here hx rfl (hb hby d7_23) rfl (l' := #[.val (.ref a1), .val (.long q2), .second, .val (.int p3), .val (.long (p4.toInt64)), .second]) rfl ?_
    show Steps p.tables e below (T5.setTop (mkF m 25 #[.val (.ref a1), .val (.long q2), .second, .val (.int p3), .val (.long (p4.toInt64)), .second] [])) _
    refine XS.lloadN X5.here hx rfl (hb hby d7_25) rfl ?_
    show Steps p.tables e below (T5.setTop (mkF m 26 #[.val (.ref a1), .val (.long q2), .second, .val (.int p3), .val (.long (p4.toInt64)), .second] [(.long q2)])) _
    refine XS.lconst X5.here hx rfl (hb hby d7_26) ?_
    show Steps p.tables e below (T5.setTop (mkF m 27 #[.val (.ref a1), .val (.long q2), .second, .val (.int p3), .val (.long (p4.toInt64)), .second] [(.long (1 : Int64)), (.long q2)])) _
    refine XS.lcmp X5.here hx rfl (hb hby d7_27) rfl ?_
    show Steps p.tables e below (T5.setTop (mkF m 28 #[.val (.ref a1), .val (.long q2), .second, .val (.int p3), .val (.long (p4.toInt64)), .second] [(.int (lcmpW q2 (1 : Int64)))])) _
    refine XS.ifNo X5.here hx rfl (hb hby d7_28) rfl ((if0 _ _).trans (flt hc5).1) ?_
    show Steps p.tables e below (T5.setTop (mkF m 31 #[.val (.ref a1), .val (.long q2), .second, .val (.int p3), .val (.long (p4.toInt64)), .second] [])) _
    refine XS.lloadN X5.here hx rfl (hb hby d7_31) rfl ?_
    show Steps p.tables e below (T5.setTop (mkF m 32 #[.val (.ref a1), .val (.long q2), .second, .val (.int p3), .val (.long (p4.toInt64)), .second] [(.long q2)])) _
    refine XS.lload X5.here hx rfl (hb hby d7_32) rfl ?_
    show Steps p.tables e below (T5.setTop (mkF m 34 #[.val (.ref a1), .val (.long q2), .second, .val (.int p3), .val (.long (p4.toInt64)), .second] [(.long (p4.toInt64)), (.long q2)])) _
    refine XS.lcmp X5.here hx rfl (hb hby d7_34) rfl ?_
    show Steps p.tables e below (T5.setTop (mkF m 35 #[.val (.ref a1), .val (.long q2), .second, .val (.int p3), .val (.long (p4.toInt64)), .second] [(.int (lcmpW q2 (p4.toInt64)))])) _
    refine XS.ifYes X5.here hx rfl (pc0 := 35) (pc' := 54) rfl (hb hby d7_35) rfl ((if0 _ _).trans (flt hc6).2.2.2) (by decide) (by decide) ?_
    show Steps p.tables e below (T5.setTop (mkF m 54 #[.val (.ref a1), .val (.long q2), .second, .val (.int p3), .val (.long (p4.toInt64)), .second] [])) _
    refine XS.aloadN X5.here hx rfl (hb hby d7_54) rfl rfl ?_
    show Steps p.tables e below (T5.setTop (mkF m 55 #[.val (.ref a1), .val (.long q2), .second, .val (.int p3), .val (.long (p4.toInt64)), .second] [(.ref a1)])) _
    refine XS.lloadN X5.here hx rfl (hb hby d7_55) rfl ?_
    show Steps p.tables e below (T5.setTop (mkF m 56 #[.val (.ref a1), .val (.long q2), .second, .val (.int p3), .val (.long (p4.toInt64)), .second] [(.long q2), (.ref a1)])) _
    refine XS.l2i X5.here hx rfl (hb hby d7_56) rfl ?_
    show Steps p.tables e below (T5.setTop (mkF m 57 #[.val (.ref a1), .val (.long q2), .second, .val (.int p3), .val (.long (p4.toInt64)), .second] [(.int (q2.toInt32)), (.ref a1)])) _
    refine st6 _ ?_
    show Steps p.tables e below (T6.setTop (mkF m 60 #[.val (.ref a1), .val (.long q2), .second, .val (.int p3), .val (.long (p4.toInt64)), .second] [])) _
    refine XS.aloadN X6.here hx rfl (hb hby d7_60) rfl rfl ?_
    show Steps p.tables e below (T6.setTop (mkF m 61 #[.val (.ref a1), .val (.long q2), .second, .val (.int p3), .val (.long (p4.toInt64)), .second] [(.ref a1)])) _
    refine XS.iloadN X6.here hx rfl (hb hby d7_61) rfl ?_
    show Steps p.tables e below (T6.setTop (mkF m 62 #[.val (.ref a1), .val (.long q2), .second, .val (.int p3), .val (.long (p4.toInt64)), .second] [(.int p3), (.ref a1)])) _
    refine st10 _ ?_
    show Steps p.tables e below (T10.setTop (mkF m 65 #[.val (.ref a1), .val (.long q2), .second, .val (.int p3), .val (.long (p4.toInt64)), .second] [])) _
    exact X10.returnOut hx Bd.returns (hb hby d7_65) hr
  · show Q7_22 Z a1 q2 p3 p4 p5 a6 h0 n0 _ T10.heap _
    rw [e10]
    exact ⟨rfl, N10, KC11, c21, c23, c25, c27, c28, c29, Fw10, c13, c15, c17, c19⟩
theorem ef9_23 (m : MethodId) (a1 : Addr) : entryFrame m #[(.ref a1)] 1 = mkF m 0 #[.val (.ref a1)] [] := by first | (simp [entryFrame, mkF, argsToLocals, Value.category]; done) | rfl
def Q9_23 (Z : State) (a1 : Addr) (p2 : Int32) (p3 : Int32) (a4 : Addr) (p5 : Int32) (h0 : Heap) (n0 : Nat) (v : Option Value) (h : Heap) (L : List Loc) : Prop := v = none ∧ Fr n0 L ∧ Keep h0 h [a1] ∧ Exa Z h a1 "stavelog/wire/History" ∧ Fld Z h a1 "stavelog/wire/History" "written" "J" (.long (0 : Int64)) ∧ Fld Z h a1 "stavelog/wire/History" "literalsLeft" "I" (.int p2) ∧ Fld Z h a1 "stavelog/wire/History" "copyLeft" "I" (.int p3) ∧ Fld Z h a1 "stavelog/wire/History" "reachable" "J" (.long ((p2.toInt64) + (p3.toInt64))) ∧ Fld Z h a1 "stavelog/wire/History" "decompression" "Lstavelog/wire/Decompression;" (.ref a4) ∧ Fld Z h a1 "stavelog/wire/History" "distance" "I" (.int (1 : Int32)) ∧ Fld Z h a1 "stavelog/wire/History" "kept" "I" (.int p5) ∧ Fld Z h a1 "stavelog/wire/History" "literalAt" "I" (.int (0 : Int32)) ∧ Fld Z h a1 "stavelog/wire/History" "literals" "Ljava/nio/ByteBuffer;" .null ∧ Fld Z h a1 "stavelog/wire/History" "sum" "Ljava/util/zip/Checksum;" .null
set_option maxRecDepth 65536 in
set_option maxHeartbeats 40000000 in
theorem rm9_23 (l : Launch) (Z : State) (a0 : Array Value) (hw : ∀ d ∈ tables_1, d.before a0 Z = true) (ws : List Jvm.Cond) (a1 : Addr) (p2 : Int32) (p3 : Int32) (a4 : Addr) (p5 : Int32) (h0 : Heap) (n0 : Nat) (Z0 : n0 ≤ h0.size) (E_a1 : Exa Z h0 a1 "stavelog/wire/History") (F_a1_written : Fld Z h0 a1 "stavelog/wire/History" "written" "J" (.long (0 : Int64))) (F_a1_literalsLeft : Fld Z h0 a1 "stavelog/wire/History" "literalsLeft" "I" (.int p2)) (F_a1_copyLeft : Fld Z h0 a1 "stavelog/wire/History" "copyLeft" "I" (.int p3)) (F_a1_reachable : Fld Z h0 a1 "stavelog/wire/History" "reachable" "J" (.long (0 : Int64))) (g_a1 : n0 ≤ a1) (F_a1_decompression : Fld Z h0 a1 "stavelog/wire/History" "decompression" "Lstavelog/wire/Decompression;" (.ref a4)) (F_a1_distance : Fld Z h0 a1 "stavelog/wire/History" "distance" "I" (.int (1 : Int32))) (F_a1_kept : Fld Z h0 a1 "stavelog/wire/History" "kept" "I" (.int p5)) (F_a1_literalAt : Fld Z h0 a1 "stavelog/wire/History" "literalAt" "I" (.int (0 : Int32))) (F_a1_literals : Fld Z h0 a1 "stavelog/wire/History" "literals" "Ljava/nio/ByteBuffer;" .null) (F_a1_sum : Fld Z h0 a1 "stavelog/wire/History" "sum" "Ljava/util/zip/Checksum;" .null) :
    MetFree l (⟨"stavelog/wire/History", "forget", "()V"⟩ : MethodName) (head1 (Jvm.Cond.code (⟨"stavelog/wire/History", "forget", "()V"⟩ : MethodName) prog_235_method_3_code 1 none :: ws) ({ frames := 1, cells := 0, slots := 0, locals := 13 } : Room)) (fun a U => a = #[(.ref a1)] ∧ Z.Warmed39 U.vm ∧ U.heap = h0) (fun _ _ _ _ _ => True) (fun _ U o U' => ∃ v L, o = .returned v ∧ Q9_23 Z a1 p2 p3 a4 p5 h0 n0 v U'.heap L ∧ FrameEnd U o U' L ({ frames := 1, cells := 0, slots := 0, locals := 13 } : Room).cells ({ frames := 1, cells := 0, slots := 0, locals := 13 } : Room).slots) := by
  refine MetFree.of_bodySF (plainFor_of_name pn_stavelog_wire_History) hisR ?_
  intro p e s m args below meth c s₁ Bd hml0 hP hK
  obtain ⟨rfl, hZ, hh⟩ := hP
  have hx := Bd.exec
  have hby := Bd.bytes
  have hml : c.maxLocals = 1 := hml0
  have hown : s.vm.findClass "stavelog/wire/History" = some m.cls := findClass_of_methodNamed Bd.named
  have hnm := (name_of_methodNamed Bd.named Bd.method).1
  have X0 : Stand p l e ({ frames := 1, cells := 0, slots := 0, locals := 13 } : Room) s m #[(.ref a1)] below meth c s₁ [] 0 0 := Stand.of_body Bd
  have e0 : s₁.heap = h0 := by rw [← hh, Bd.state]; rfl
  have N0 := Fr.nil n0
  have pre0 : ∀ t, Steps p.tables e below (s₁.setTop (mkF m 0 #[.val (.ref a1)] [])) t → Steps p.tables e below (s₁.setTop (entryFrame m #[(.ref a1)] 1)) t := fun t k => castTop (ef9_23 m a1) k
  obtain ⟨cq1, kq1, q1a, q1b, q1c⟩ := isOf hZ e0 E_a1
  obtain ⟨_, _, ⟨T1, L1, k1, n1⟩, -, X1, ⟨Lc1, hQ1, l1, y1, z1⟩, st1⟩ := X0.virtualBack hx (y := (⟨"stavelog/wire/History", "written", "()J"⟩ : MethodName)) (z := (⟨"stavelog/wire/History", "written", "()J"⟩ : MethodName)) hown (mvT hZ (own_w70 hw)) (mvT hZ (own_w71 hw)) (notFace_of_selects (args := #[]) (mvT hZ (own_w73 hw))) (mvT hZ (own_w73 hw)) (mvT hZ (own_w72 hw)) (by decide) (backOf (W := 1) (rm10_11 l Z a0 hw [] a1 p2 p3 h0 n0 Z0 F_a1_written F_a1_literalsLeft F_a1_copyLeft) hZ (own_w74 hw) (own_w4 hw) (by decide) (by decide)) q1a q1c (g := (mkF m 2 #[.val (.ref a1)] [(.ref a1), (.ref a1)])) rfl (by rw [hml]; rfl) (Steps.refl _) (argsL := []) (rest := [(.ref a1)]) (lenOf pd___J rfl) rfl (by show 2 * 0 + _ ≤ _; exact Nat.le_of_eq rfl) (hb hby d9_2) (fun _ _ => ⟨rfl, e0, (by decide : 0 + 0 ≤ _), (by decide : 0 + 0 ≤ _)⟩)
  dsimp only [Pt.U, Pt.locs, Pt.cells, Pt.slots] at X1 l1 y1 z1 st1 hQ1
  subst l1 y1 z1
  obtain ⟨rfl, N1q, e1⟩ := hQ1
  have N1 := Fr.app N0 N1q
  obtain ⟨T2, h2, X2, e2, W2, st2⟩ := putF X1 hx hZ hown (host := "") (Or.inl (own_w37 hw)) Via.refl e1 F_a1_reachable E_a1 (Or.inl (own_w38 hw)) (own_w3 hw) (ty := .long) (by decide) rfl rfl (g := (mkF m 5 #[.val (.ref a1)] [(.long ((p2.toInt64) + (p3.toInt64))), (.ref a1)])) rfl rfl (hb hby d9_5)
  have KC3 : Keep h0 h2 [a1] := (Keep.refl h0 [a1]).wr W2 (Or.inl (List.mem_of_getElem? (i := 0) rfl))
  have Fw2 := F_a1_reachable.same W2
  have N2 := Fr.snoc X2 N1 g_a1
  have c4 := F_a1_decompression.other W2 (Or.inr (slot_ne (C := "stavelog/wire/History") (Or.inr (own_w27 hw)) (Or.inl (own_w38 hw)) (by decide) (t := (.object "stavelog/wire/Decompression")) (t' := .long) (by decide) (by decide)))
  have c5 := F_a1_distance.other W2 (Or.inr (slot_ne (C := "stavelog/wire/History") (Or.inl (own_w64 hw)) (Or.inl (own_w38 hw)) (by decide) (t := .int) (t' := .long) (by decide) (by decide)))
  have c6 := F_a1_kept.other W2 (Or.inr (slot_ne (C := "stavelog/wire/History") (Or.inl (own_w34 hw)) (Or.inl (own_w38 hw)) (by decide) (t := .int) (t' := .long) (by decide) (by decide)))
  have c7 := F_a1_literalAt.other W2 (Or.inr (slot_ne (C := "stavelog/wire/History") (Or.inl (own_w53 hw)) (Or.inl (own_w38 hw)) (by decide) (t := .int) (t' := .long) (by decide) (by decide)))
  have c8 := F_a1_literals.other W2 (Or.inr (slot_ne (C := "stavelog/wire/History") (Or.inl (own_w51 hw)) (Or.inl (own_w38 hw)) (by decide) (t := (.object "java/nio/ByteBuffer")) (t' := .long) (by decide) (by decide)))
  have c9 := F_a1_sum.other W2 (Or.inr (slot_ne (C := "stavelog/wire/History") (Or.inl (own_w44 hw)) (Or.inl (own_w38 hw)) (by decide) (t := (.object "java/util/zip/Checksum")) (t' := .long) (by decide) (by decide)))
  have c10 := E_a1.wr W2
  have c11 := F_a1_written.other W2 (Or.inr (slot_ne (C := "stavelog/wire/History") (Or.inl (own_w36 hw)) (Or.inl (own_w38 hw)) (by decide) (t := .long) (t' := .long) (by decide) (by decide)))
  have c12 := F_a1_literalsLeft.other W2 (Or.inr (slot_ne (C := "stavelog/wire/History") (Or.inl (own_w40 hw)) (Or.inl (own_w38 hw)) (by decide) (t := .int) (t' := .long) (by decide) (by decide)))
  have c13 := F_a1_copyLeft.other W2 (Or.inr (slot_ne (C := "stavelog/wire/History") (Or.inl (own_w42 hw)) (Or.inl (own_w38 hw)) (by decide) (t := .int) (t' := .long) (by decide) (by decide)))
  obtain ⟨fs, hr, hrun, hended, hW, hsame⟩ := X2.leave (v := none) (fun _ => rfl)
  refine ⟨_, _, pre0 _ ?_, hrun, hended, _, _, rfl, ?_, ⟨_, rfl⟩, hW, hsame.mono (by decide) (by decide)⟩
  · show Steps p.tables e below (s₁.setTop (mkF m 0 #[.val (.ref a1)] [])) _
    refine XS.aloadN X0.here hx rfl (hb hby d9_0) rfl rfl ?_
    show Steps p.tables e below (s₁.setTop (mkF m 1 #[.val (.ref a1)] [(.ref a1)])) _
    refine XS.aloadN X0.here hx rfl (hb hby d9_1) rfl rfl ?_
    show Steps p.tables e below (s₁.setTop (mkF m 2 #[.val (.ref a1)] [(.ref a1), (.ref a1)])) _
    refine st1.trans ?_
    show Steps p.tables e below (T1.setTop (mkF m 5 #[.val (.ref a1)] [(.long ((p2.toInt64) + (p3.toInt64))), (.ref a1)])) _
    refine st2 _ ?_
    show Steps p.tables e below (T2.setTop (mkF m 8 #[.val (.ref a1)] [])) _
    exact X2.returnOut hx Bd.returns (hb hby d9_8) hr
  · show Q9_23 Z a1 p2 p3 a4 p5 h0 n0 _ T2.heap _
    rw [e2]
    exact ⟨rfl, N2, KC3, c10, c11, c12, c13, Fw2, c4, c5, c6, c7, c8, c9⟩
theorem ef5_24 (m : MethodId) (a1 : Addr) (p2 : Int32) : entryFrame m #[(.ref a1), (.int p2)] 2 = mkF m 0 #[.val (.ref a1), .val (.int p2)] [] := by first | (simp [entryFrame, mkF, argsToLocals, Value.category]; done) | rfl
def Q5_24 (Z : State) (a1 : Addr) (p2 : Int32) (p3 : Int32) (q4 : Int64) (p5 : Int32) (p6 : Int32) (a7 : Addr) (h0 : Heap) (n0 : Nat) (v : Option Value) (h : Heap) (L : List Loc) : Prop := v = none ∧ Fr n0 L ∧ Keep h0 h [a1] ∧ Exa Z h a1 "stavelog/wire/History" ∧ Fld Z h a1 "stavelog/wire/History" "kept" "I" (.int p2) ∧ Fld Z h a1 "stavelog/wire/History" "written" "J" (.long (0 : Int64)) ∧ Fld Z h a1 "stavelog/wire/History" "reachable" "J" (.long (0 : Int64)) ∧ Fld Z h a1 "stavelog/wire/History" "literalsLeft" "I" (.int (0 : Int32)) ∧ Fld Z h a1 "stavelog/wire/History" "copyLeft" "I" (.int (0 : Int32)) ∧ Fld Z h a1 "stavelog/wire/History" "sum" "Ljava/util/zip/Checksum;" .null ∧ Fld Z h a1 "stavelog/wire/History" "decompression" "Lstavelog/wire/Decompression;" (.ref a7) ∧ Fld Z h a1 "stavelog/wire/History" "distance" "I" (.int (1 : Int32)) ∧ Fld Z h a1 "stavelog/wire/History" "literalAt" "I" (.int (0 : Int32)) ∧ Fld Z h a1 "stavelog/wire/History" "literals" "Ljava/nio/ByteBuffer;" .null
set_option maxRecDepth 65536 in
set_option maxHeartbeats 40000000 in
theorem rm5_24 (l : Launch) (Z : State) (a0 : Array Value) (hw : ∀ d ∈ tables_1, d.before a0 Z = true) (ws : List Jvm.Cond) (a1 : Addr) (p2 : Int32) (p3 : Int32) (q4 : Int64) (p5 : Int32) (p6 : Int32) (a7 : Addr) (h0 : Heap) (n0 : Nat) (Z0 : n0 ≤ h0.size) (E_a1 : Exa Z h0 a1 "stavelog/wire/History") (F_a1_kept : Fld Z h0 a1 "stavelog/wire/History" "kept" "I" (.int p3)) (g_a1 : n0 ≤ a1) (F_a1_written : Fld Z h0 a1 "stavelog/wire/History" "written" "J" (.long (0 : Int64))) (F_a1_reachable : Fld Z h0 a1 "stavelog/wire/History" "reachable" "J" (.long q4)) (F_a1_literalsLeft : Fld Z h0 a1 "stavelog/wire/History" "literalsLeft" "I" (.int p5)) (F_a1_copyLeft : Fld Z h0 a1 "stavelog/wire/History" "copyLeft" "I" (.int p6)) (F_a1_sum : Fld Z h0 a1 "stavelog/wire/History" "sum" "Ljava/util/zip/Checksum;" .null) (F_a1_decompression : Fld Z h0 a1 "stavelog/wire/History" "decompression" "Lstavelog/wire/Decompression;" (.ref a7)) (F_a1_distance : Fld Z h0 a1 "stavelog/wire/History" "distance" "I" (.int (1 : Int32))) (F_a1_literalAt : Fld Z h0 a1 "stavelog/wire/History" "literalAt" "I" (.int (0 : Int32))) (F_a1_literals : Fld Z h0 a1 "stavelog/wire/History" "literals" "Ljava/nio/ByteBuffer;" .null) :
    MetFree l (⟨"stavelog/wire/History", "start", "(I)V"⟩ : MethodName) (head1 (Jvm.Cond.code (⟨"stavelog/wire/History", "start", "(I)V"⟩ : MethodName) prog_235_method_2_code 2 none :: ws) ({ frames := 0, cells := 0, slots := 0, locals := 0 } : Room)) (fun a U => a = #[(.ref a1), (.int p2)] ∧ Z.Warmed39 U.vm ∧ U.heap = h0) (fun _ _ _ _ _ => True) (fun _ U o U' => ∃ v L, o = .returned v ∧ Q5_24 Z a1 p2 p3 q4 p5 p6 a7 h0 n0 v U'.heap L ∧ FrameEnd U o U' L ({ frames := 0, cells := 0, slots := 0, locals := 0 } : Room).cells ({ frames := 0, cells := 0, slots := 0, locals := 0 } : Room).slots) := by
  refine MetFree.of_bodySF (plainFor_of_name pn_stavelog_wire_History) hisR ?_
  intro p e s m args below meth c s₁ Bd hml0 hP hK
  obtain ⟨rfl, hZ, hh⟩ := hP
  have hx := Bd.exec
  have hby := Bd.bytes
  have hml : c.maxLocals = 2 := hml0
  have hown : s.vm.findClass "stavelog/wire/History" = some m.cls := findClass_of_methodNamed Bd.named
  have hnm := (name_of_methodNamed Bd.named Bd.method).1
  have X0 : Stand p l e ({ frames := 0, cells := 0, slots := 0, locals := 0 } : Room) s m #[(.ref a1), (.int p2)] below meth c s₁ [] 0 0 := Stand.of_body Bd
  have e0 : s₁.heap = h0 := by rw [← hh, Bd.state]; rfl
  have N0 := Fr.nil n0
  have pre0 : ∀ t, Steps p.tables e below (s₁.setTop (mkF m 0 #[.val (.ref a1), .val (.int p2)] [])) t → Steps p.tables e below (s₁.setTop (entryFrame m #[(.ref a1), (.int p2)] 2)) t := fun t k => castTop (ef5_24 m a1 p2) k
  obtain ⟨T1, h1, X1, e1, W1, st1⟩ := putF X0 hx hZ hown (host := "") (Or.inl (own_w33 hw)) Via.refl e0 F_a1_kept E_a1 (Or.inl (own_w34 hw)) (own_w3 hw) (ty := .int) (by decide) rfl rfl (g := (mkF m 2 #[.val (.ref a1), .val (.int p2)] [(.int p2), (.ref a1)])) rfl rfl (hb hby d5_2)
  have KC2 : Keep h0 h1 [a1] := (Keep.refl h0 [a1]).wr W1 (Or.inl (List.mem_of_getElem? (i := 0) rfl))
  have Fw1 := F_a1_kept.same W1
  have N1 := Fr.snoc X1 N0 g_a1
  have c3 := E_a1.wr W1
  have c4 := F_a1_written.other W1 (Or.inr (slot_ne (C := "stavelog/wire/History") (Or.inl (own_w36 hw)) (Or.inl (own_w34 hw)) (by decide) (t := .long) (t' := .int) (by decide) (by decide)))
  obtain ⟨T5, h5, X5, e5, W5, st5⟩ := putF X1 hx hZ hown (host := "") (Or.inl (own_w35 hw)) Via.refl e1 c4 c3 (Or.inl (own_w36 hw)) (own_w3 hw) (ty := .long) (by decide) rfl rfl (g := (mkF m 7 #[.val (.ref a1), .val (.int p2)] [(.long (0 : Int64)), (.ref a1)])) rfl rfl (hb hby d5_7)
  have KC6 : Keep h0 h5 [a1] := KC2.wr W5 (Or.inl (List.mem_of_getElem? (i := 0) rfl))
  have Fw5 := c4.same W5
  have N5 := Fr.snoc X5 N1 g_a1
  have c7 := c3.wr W5
  have c8 := F_a1_reachable.other W1 (Or.inr (slot_ne (C := "stavelog/wire/History") (Or.inl (own_w38 hw)) (Or.inl (own_w34 hw)) (by decide) (t := .long) (t' := .int) (by decide) (by decide)))
  have c9 := c8.other W5 (Or.inr (slot_ne (C := "stavelog/wire/History") (Or.inl (own_w38 hw)) (Or.inl (own_w36 hw)) (by decide) (t := .long) (t' := .long) (by decide) (by decide)))
  obtain ⟨T10, h10, X10, e10, W10, st10⟩ := putF X5 hx hZ hown (host := "") (Or.inl (own_w37 hw)) Via.refl e5 c9 c7 (Or.inl (own_w38 hw)) (own_w3 hw) (ty := .long) (by decide) rfl rfl (g := (mkF m 12 #[.val (.ref a1), .val (.int p2)] [(.long (0 : Int64)), (.ref a1)])) rfl rfl (hb hby d5_12)
  have KC11 : Keep h0 h10 [a1] := KC6.wr W10 (Or.inl (List.mem_of_getElem? (i := 0) rfl))
  have Fw10 := c9.same W10
  have N10 := Fr.snoc X10 N5 g_a1
  have c12 := c7.wr W10
  have c13 := F_a1_literalsLeft.other W1 (Or.inr (slot_ne (C := "stavelog/wire/History") (Or.inl (own_w40 hw)) (Or.inl (own_w34 hw)) (by decide) (t := .int) (t' := .int) (by decide) (by decide)))
  have c14 := c13.other W5 (Or.inr (slot_ne (C := "stavelog/wire/History") (Or.inl (own_w40 hw)) (Or.inl (own_w36 hw)) (by decide) (t := .int) (t' := .long) (by decide) (by decide)))
  have c15 := c14.other W10 (Or.inr (slot_ne (C := "stavelog/wire/History") (Or.inl (own_w40 hw)) (Or.inl (own_w38 hw)) (by decide) (t := .int) (t' := .long) (by decide) (by decide)))
  obtain ⟨T16, h16, X16, e16, W16, st16⟩ := putF X10 hx hZ hown (host := "") (Or.inl (own_w39 hw)) Via.refl e10 c15 c12 (Or.inl (own_w40 hw)) (own_w3 hw) (ty := .int) (by decide) rfl rfl (g := (mkF m 17 #[.val (.ref a1), .val (.int p2)] [(.int (0 : Int32)), (.ref a1)])) rfl rfl (hb hby d5_17)
  have KC17 : Keep h0 h16 [a1] := KC11.wr W16 (Or.inl (List.mem_of_getElem? (i := 0) rfl))
  have Fw16 := c15.same W16
  have N16 := Fr.snoc X16 N10 g_a1
  have c18 := c12.wr W16
  have c19 := F_a1_copyLeft.other W1 (Or.inr (slot_ne (C := "stavelog/wire/History") (Or.inl (own_w42 hw)) (Or.inl (own_w34 hw)) (by decide) (t := .int) (t' := .int) (by decide) (by decide)))
  have c20 := c19.other W5 (Or.inr (slot_ne (C := "stavelog/wire/History") (Or.inl (own_w42 hw)) (Or.inl (own_w36 hw)) (by decide) (t := .int) (t' := .long) (by decide) (by decide)))
  have c21 := c20.other W10 (Or.inr (slot_ne (C := "stavelog/wire/History") (Or.inl (own_w42 hw)) (Or.inl (own_w38 hw)) (by decide) (t := .int) (t' := .long) (by decide) (by decide)))
  have c22 := c21.other W16 (Or.inr (slot_ne (C := "stavelog/wire/History") (Or.inl (own_w42 hw)) (Or.inl (own_w40 hw)) (by decide) (t := .int) (t' := .int) (by decide) (by decide)))
  obtain ⟨T23, h23, X23, e23, W23, st23⟩ := putF X16 hx hZ hown (host := "") (Or.inl (own_w41 hw)) Via.refl e16 c22 c18 (Or.inl (own_w42 hw)) (own_w3 hw) (ty := .int) (by decide) rfl rfl (g := (mkF m 22 #[.val (.ref a1), .val (.int p2)] [(.int (0 : Int32)), (.ref a1)])) rfl rfl (hb hby d5_22)
  have KC24 : Keep h0 h23 [a1] := KC17.wr W23 (Or.inl (List.mem_of_getElem? (i := 0) rfl))
  have Fw23 := c22.same W23
  have N23 := Fr.snoc X23 N16 g_a1
  have c25 := c18.wr W23
  have c26 := F_a1_sum.other W1 (Or.inr (slot_ne (C := "stavelog/wire/History") (Or.inl (own_w44 hw)) (Or.inl (own_w34 hw)) (by decide) (t := (.object "java/util/zip/Checksum")) (t' := .int) (by decide) (by decide)))
  have c27 := c26.other W5 (Or.inr (slot_ne (C := "stavelog/wire/History") (Or.inl (own_w44 hw)) (Or.inl (own_w36 hw)) (by decide) (t := (.object "java/util/zip/Checksum")) (t' := .long) (by decide) (by decide)))
  have c28 := c27.other W10 (Or.inr (slot_ne (C := "stavelog/wire/History") (Or.inl (own_w44 hw)) (Or.inl (own_w38 hw)) (by decide) (t := (.object "java/util/zip/Checksum")) (t' := .long) (by decide) (by decide)))
  have c29 := c28.other W16 (Or.inr (slot_ne (C := "stavelog/wire/History") (Or.inl (own_w44 hw)) (Or.inl (own_w40 hw)) (by decide) (t := (.object "java/util/zip/Checksum")) (t' := .int) (by decide) (by decide)))
  have c30 := c29.other W23 (Or.inr (slot_ne (C := "stavelog/wire/History") (Or.inl (own_w44 hw)) (Or.inl (own_w42 hw)) (by decide) (t := (.object "java/util/zip/Checksum")) (t' := .int) (by decide) (by decide)))
  obtain ⟨T31, h31, X31, e31, W31, st31⟩ := putF X23 hx hZ hown (host := "") (Or.inl (own_w43 hw)) Via.refl e23 c30 c25 (Or.inl (own_w44 hw)) (own_w3 hw) (ty := (.object "java/util/zip/Checksum")) (by decide) rfl rfl (g := (mkF m 27 #[.val (.ref a1), .val (.int p2)] [.null, (.ref a1)])) rfl rfl (hb hby d5_27)
  have KC32 : Keep h0 h31 [a1] := KC24.wr W31 (Or.inl (List.mem_of_getElem? (i := 0) rfl))
  have Fw31 := c30.same W31
  have N31 := Fr.snoc X31 N23 g_a1
  have c33 := F_a1_decompression.other W1 (Or.inr (slot_ne (C := "stavelog/wire/History") (Or.inr (own_w27 hw)) (Or.inl (own_w34 hw)) (by decide) (t := (.object "stavelog/wire/Decompression")) (t' := .int) (by decide) (by decide)))
  have c34 := c33.other W5 (Or.inr (slot_ne (C := "stavelog/wire/History") (Or.inr (own_w27 hw)) (Or.inl (own_w36 hw)) (by decide) (t := (.object "stavelog/wire/Decompression")) (t' := .long) (by decide) (by decide)))
  have c35 := c34.other W10 (Or.inr (slot_ne (C := "stavelog/wire/History") (Or.inr (own_w27 hw)) (Or.inl (own_w38 hw)) (by decide) (t := (.object "stavelog/wire/Decompression")) (t' := .long) (by decide) (by decide)))
  have c36 := c35.other W16 (Or.inr (slot_ne (C := "stavelog/wire/History") (Or.inr (own_w27 hw)) (Or.inl (own_w40 hw)) (by decide) (t := (.object "stavelog/wire/Decompression")) (t' := .int) (by decide) (by decide)))
  have c37 := c36.other W23 (Or.inr (slot_ne (C := "stavelog/wire/History") (Or.inr (own_w27 hw)) (Or.inl (own_w42 hw)) (by decide) (t := (.object "stavelog/wire/Decompression")) (t' := .int) (by decide) (by decide)))
  have c38 := c37.other W31 (Or.inr (slot_ne (C := "stavelog/wire/History") (Or.inr (own_w27 hw)) (Or.inl (own_w44 hw)) (by decide) (t := (.object "stavelog/wire/Decompression")) (t' := (.object "java/util/zip/Checksum")) (by decide) (by decide)))
  have c39 := F_a1_distance.other W1 (Or.inr (slot_ne (C := "stavelog/wire/History") (Or.inl (own_w64 hw)) (Or.inl (own_w34 hw)) (by decide) (t := .int) (t' := .int) (by decide) (by decide)))
  have c40 := c39.other W5 (Or.inr (slot_ne (C := "stavelog/wire/History") (Or.inl (own_w64 hw)) (Or.inl (own_w36 hw)) (by decide) (t := .int) (t' := .long) (by decide) (by decide)))
  have c41 := c40.other W10 (Or.inr (slot_ne (C := "stavelog/wire/History") (Or.inl (own_w64 hw)) (Or.inl (own_w38 hw)) (by decide) (t := .int) (t' := .long) (by decide) (by decide)))
  have c42 := c41.other W16 (Or.inr (slot_ne (C := "stavelog/wire/History") (Or.inl (own_w64 hw)) (Or.inl (own_w40 hw)) (by decide) (t := .int) (t' := .int) (by decide) (by decide)))
  have c43 := c42.other W23 (Or.inr (slot_ne (C := "stavelog/wire/History") (Or.inl (own_w64 hw)) (Or.inl (own_w42 hw)) (by decide) (t := .int) (t' := .int) (by decide) (by decide)))
  have c44 := c43.other W31 (Or.inr (slot_ne (C := "stavelog/wire/History") (Or.inl (own_w64 hw)) (Or.inl (own_w44 hw)) (by decide) (t := .int) (t' := (.object "java/util/zip/Checksum")) (by decide) (by decide)))
  have c45 := F_a1_literalAt.other W1 (Or.inr (slot_ne (C := "stavelog/wire/History") (Or.inl (own_w53 hw)) (Or.inl (own_w34 hw)) (by decide) (t := .int) (t' := .int) (by decide) (by decide)))
  have c46 := c45.other W5 (Or.inr (slot_ne (C := "stavelog/wire/History") (Or.inl (own_w53 hw)) (Or.inl (own_w36 hw)) (by decide) (t := .int) (t' := .long) (by decide) (by decide)))
  have c47 := c46.other W10 (Or.inr (slot_ne (C := "stavelog/wire/History") (Or.inl (own_w53 hw)) (Or.inl (own_w38 hw)) (by decide) (t := .int) (t' := .long) (by decide) (by decide)))
  have c48 := c47.other W16 (Or.inr (slot_ne (C := "stavelog/wire/History") (Or.inl (own_w53 hw)) (Or.inl (own_w40 hw)) (by decide) (t := .int) (t' := .int) (by decide) (by decide)))
  have c49 := c48.other W23 (Or.inr (slot_ne (C := "stavelog/wire/History") (Or.inl (own_w53 hw)) (Or.inl (own_w42 hw)) (by decide) (t := .int) (t' := .int) (by decide) (by decide)))
  have c50 := c49.other W31 (Or.inr (slot_ne (C := "stavelog/wire/History") (Or.inl (own_w53 hw)) (Or.inl (own_w44 hw)) (by decide) (t := .int) (t' := (.object "java/util/zip/Checksum")) (by decide) (by decide)))
  have c51 := F_a1_literals.other W1 (Or.inr (slot_ne (C := "stavelog/wire/History") (Or.inl (own_w51 hw)) (Or.inl (own_w34 hw)) (by decide) (t := (.object "java/nio/ByteBuffer")) (t' := .int) (by decide) (by decide)))
  have c52 := c51.other W5 (Or.inr (slot_ne (C := "stavelog/wire/History") (Or.inl (own_w51 hw)) (Or.inl (own_w36 hw)) (by decide) (t := (.object "java/nio/ByteBuffer")) (t' := .long) (by decide) (by decide)))
  have c53 := c52.other W10 (Or.inr (slot_ne (C := "stavelog/wire/History") (Or.inl (own_w51 hw)) (Or.inl (own_w38 hw)) (by decide) (t := (.object "java/nio/ByteBuffer")) (t' := .long) (by decide) (by decide)))
  have c54 := c53.other W16 (Or.inr (slot_ne (C := "stavelog/wire/History") (Or.inl (own_w51 hw)) (Or.inl (own_w40 hw)) (by decide) (t := (.object "java/nio/ByteBuffer")) (t' := .int) (by decide) (by decide)))
  have c55 := c54.other W23 (Or.inr (slot_ne (C := "stavelog/wire/History") (Or.inl (own_w51 hw)) (Or.inl (own_w42 hw)) (by decide) (t := (.object "java/nio/ByteBuffer")) (t' := .int) (by decide) (by decide)))
  have c56 := c55.other W31 (Or.inr (slot_ne (C := "stavelog/wire/History") (Or.inl (own_w51 hw)) (Or.inl (own_w44 hw)) (by decide) (t := (.object "java/nio/ByteBuffer")) (t' := (.object "java/util/zip/Checksum")) (by decide) (by decide)))
  have c57 := c25.wr W31
  have c58 := Fw1.other W5 (Or.inr (slot_ne (C := "stavelog/wire/History") (Or.inl (own_w34 hw)) (Or.inl (own_w36 hw)) (by decide) (t := .int) (t' := .long) (by decide) (by decide)))
  have c59 := c58.other W10 (Or.inr (slot_ne (C := "stavelog/wire/History") (Or.inl (own_w34 hw)) (Or.inl (own_w38 hw)) (by decide) (t := .int) (t' := .long) (by decide) (by decide)))
  have c60 := c59.other W16 (Or.inr (slot_ne (C := "stavelog/wire/History") (Or.inl (own_w34 hw)) (Or.inl (own_w40 hw)) (by decide) (t := .int) (t' := .int) (by decide) (by decide)))
  have c61 := c60.other W23 (Or.inr (slot_ne (C := "stavelog/wire/History") (Or.inl (own_w34 hw)) (Or.inl (own_w42 hw)) (by decide) (t := .int) (t' := .int) (by decide) (by decide)))
  have c62 := c61.other W31 (Or.inr (slot_ne (C := "stavelog/wire/History") (Or.inl (own_w34 hw)) (Or.inl (own_w44 hw)) (by decide) (t := .int) (t' := (.object "java/util/zip/Checksum")) (by decide) (by decide)))
  have c63 := Fw5.other W10 (Or.inr (slot_ne (C := "stavelog/wire/History") (Or.inl (own_w36 hw)) (Or.inl (own_w38 hw)) (by decide) (t := .long) (t' := .long) (by decide) (by decide)))
  have c64 := c63.other W16 (Or.inr (slot_ne (C := "stavelog/wire/History") (Or.inl (own_w36 hw)) (Or.inl (own_w40 hw)) (by decide) (t := .long) (t' := .int) (by decide) (by decide)))
  have c65 := c64.other W23 (Or.inr (slot_ne (C := "stavelog/wire/History") (Or.inl (own_w36 hw)) (Or.inl (own_w42 hw)) (by decide) (t := .long) (t' := .int) (by decide) (by decide)))
  have c66 := c65.other W31 (Or.inr (slot_ne (C := "stavelog/wire/History") (Or.inl (own_w36 hw)) (Or.inl (own_w44 hw)) (by decide) (t := .long) (t' := (.object "java/util/zip/Checksum")) (by decide) (by decide)))
  have c67 := Fw10.other W16 (Or.inr (slot_ne (C := "stavelog/wire/History") (Or.inl (own_w38 hw)) (Or.inl (own_w40 hw)) (by decide) (t := .long) (t' := .int) (by decide) (by decide)))
  have c68 := c67.other W23 (Or.inr (slot_ne (C := "stavelog/wire/History") (Or.inl (own_w38 hw)) (Or.inl (own_w42 hw)) (by decide) (t := .long) (t' := .int) (by decide) (by decide)))
  have c69 := c68.other W31 (Or.inr (slot_ne (C := "stavelog/wire/History") (Or.inl (own_w38 hw)) (Or.inl (own_w44 hw)) (by decide) (t := .long) (t' := (.object "java/util/zip/Checksum")) (by decide) (by decide)))
  have c70 := Fw16.other W23 (Or.inr (slot_ne (C := "stavelog/wire/History") (Or.inl (own_w40 hw)) (Or.inl (own_w42 hw)) (by decide) (t := .int) (t' := .int) (by decide) (by decide)))
  have c71 := c70.other W31 (Or.inr (slot_ne (C := "stavelog/wire/History") (Or.inl (own_w40 hw)) (Or.inl (own_w44 hw)) (by decide) (t := .int) (t' := (.object "java/util/zip/Checksum")) (by decide) (by decide)))
  have c72 := Fw23.other W31 (Or.inr (slot_ne (C := "stavelog/wire/History") (Or.inl (own_w42 hw)) (Or.inl (own_w44 hw)) (by decide) (t := .int) (t' := (.object "java/util/zip/Checksum")) (by decide) (by decide)))
  obtain ⟨fs, hr, hrun, hended, hW, hsame⟩ := X31.leave (v := none) (fun _ => rfl)
  refine ⟨_, _, pre0 _ ?_, hrun, hended, _, _, rfl, ?_, ⟨_, rfl⟩, hW, hsame.mono (by decide) (by decide)⟩
  · show Steps p.tables e below (s₁.setTop (mkF m 0 #[.val (.ref a1), .val (.int p2)] [])) _
    refine XS.aloadN X0.here hx rfl (hb hby d5_0) rfl rfl ?_
    show Steps p.tables e below (s₁.setTop (mkF m 1 #[.val (.ref a1), .val (.int p2)] [(.ref a1)])) _
    refine XS.iloadN X0.here hx rfl (hb hby d5_1) rfl ?_
    show Steps p.tables e below (s₁.setTop (mkF m 2 #[.val (.ref a1), .val (.int p2)] [(.int p2), (.ref a1)])) _
    refine st1 _ ?_
    show Steps p.tables e below (T1.setTop (mkF m 5 #[.val (.ref a1), .val (.int p2)] [])) _
    refine XS.aloadN X1.here hx rfl (hb hby d5_5) rfl rfl ?_
    show Steps p.tables e below (T1.setTop (mkF m 6 #[.val (.ref a1), .val (.int p2)] [(.ref a1)])) _
    refine XS.lconst X1.here hx rfl (hb hby d5_6) ?_
    show Steps p.tables e below (T1.setTop (mkF m 7 #[.val (.ref a1), .val (.int p2)] [(.long (0 : Int64)), (.ref a1)])) _
    refine st5 _ ?_
    show Steps p.tables e below (T5.setTop (mkF m 10 #[.val (.ref a1), .val (.int p2)] [])) _
    refine XS.aloadN X5.here hx rfl (hb hby d5_10) rfl rfl ?_
    show Steps p.tables e below (T5.setTop (mkF m 11 #[.val (.ref a1), .val (.int p2)] [(.ref a1)])) _
    refine XS.lconst X5.here hx rfl (hb hby d5_11) ?_
    show Steps p.tables e below (T5.setTop (mkF m 12 #[.val (.ref a1), .val (.int p2)] [(.long (0 : Int64)), (.ref a1)])) _
    refine st10 _ ?_
    show Steps p.tables e below (T10.setTop (mkF m 15 #[.val (.ref a1), .val (.int p2)] [])) _
    refine XS.aloadN X10.here hx rfl (hb hby d5_15) rfl rfl ?_
    show Steps p.tables e below (T10.setTop (mkF m 16 #[.val (.ref a1), .val (.int p2)] [(.ref a1)])) _
    refine XS.iconst X10.here hx rfl (hb hby d5_16) ?_
    show Steps p.tables e below (T10.setTop (mkF m 17 #[.val (.ref a1), .val (.int p2)] [(.int (0 : Int32)), (.ref a1)])) _
    refine st16 _ ?_
    show Steps p.tables e below (T16.setTop (mkF m 20 #[.val (.ref a1), .val (.int p2)] [])) _
    refine XS.aloadN X16.here hx rfl (hb hby d5_20) rfl rfl ?_
    show Steps p.tables e below (T16.setTop (mkF m 21 #[.val (.ref a1), .val (.int p2)] [(.ref a1)])) _
    refine XS.iconst X16.here hx rfl (hb hby d5_21) ?_
    show Steps p.tables e below (T16.setTop (mkF m 22 #[.val (.ref a1), .val (.int p2)] [(.int (0 : Int32)), (.ref a1)])) _
    refine st23 _ ?_
    show Steps p.tables e below (T23.setTop (mkF m 25 #[.val (.ref a1), .val (.int p2)] [])) _
    refine XS.aloadN X23.here hx rfl (hb hby d5_25) rfl rfl ?_
    show Steps p.tables e below (T23.setTop (mkF m 26 #[.val (.ref a1), .val (.int p2)] [(.ref a1)])) _
    refine XS.aconstNull X23.here hx rfl (hb hby d5_26) ?_
    show Steps p.tables e below (T23.setTop (mkF m 27 #[.val (.ref a1), .val (.int p2)] [.null, (.ref a1)])) _
    refine st31 _ ?_
    show Steps p.tables e below (T31.setTop (mkF m 30 #[.val (.ref a1), .val (.int p2)] [])) _
    exact X31.returnOut hx Bd.returns (hb hby d5_30) hr
  · show Q5_24 Z a1 p2 p3 q4 p5 p6 a7 h0 n0 _ T31.heap _
    rw [e31]
    exact ⟨rfl, N31, KC32, c57, c62, c66, c69, c71, c72, Fw31, c38, c44, c50, c56⟩
theorem ef0 (m : MethodId) (i0 : Int32) (i1 : Int32) (i2 : Int32) (i3 : Int32) (i4 : Int32) (i5 : Int32) : entryFrame m #[(.int i0), (.int i1), (.int i2), (.int i3), (.int i4), (.int i5)] maxLocals = mkF m 0 #[.val (.int i0), .val (.int i1), .val (.int i2), .val (.int i3), .val (.int i4), .val (.int i5), .unset, .unset, .unset, .unset, .unset, .unset, .unset, .unset, .unset, .unset] [] := by first | (simp [entryFrame, mkF, argsToLocals, Value.category, maxLocals]; done) | rfl
set_option maxRecDepth 65536 in
set_option maxHeartbeats 400000000 in
theorem rm0 (l : Launch) (Z : State) (a0 : Array Value) (hw : ∀ d ∈ tables_1, d.before a0 Z = true) (ws : List Jvm.Cond) (i0 : Int32) (i1 : Int32) (i2 : Int32) (i3 : Int32) (i4 : Int32) (i5 : Int32) (h0 : Heap) (n0 : Nat) (Z0 : n0 ≤ h0.size) :
    MetFree l x (head1 (Jvm.Cond.code x code maxLocals ret :: ws) room_1) (fun a U => a = #[(.int i0), (.int i1), (.int i2), (.int i3), (.int i4), (.int i5)] ∧ Z.Warmed39 U.vm ∧ U.heap = h0) (fun _ _ _ _ _ => True) (fun _ U o U' => ∃ v L, o = .returned v ∧ (v = some (.int (1 : Int32)) ∧ Fr n0 L) ∧ FrameEnd U o U' L room_1.cells room_1.slots) := by
  obtain ⟨prev, hdef_prev⟩ : ∃ z : Int32, z = ((1 : Int32) <<< (((i0 &&& (2147483647 : Int32)) % (31 : Int32)) &&& 31)) := ⟨_, rfl⟩
  obtain ⟨most, hdef_most⟩ : ∃ z : Int32, z = ((1 : Int32) <<< (((i3 &&& (2147483647 : Int32)) % (31 : Int32)) &&& 31)) := ⟨_, rfl⟩
  obtain ⟨bef, hdef_bef⟩ : ∃ z : Int32, z = (i1 &&& (2147483647 : Int32)) := ⟨_, rfl⟩
  obtain ⟨bcp, hdef_bcp⟩ : ∃ z : Int32, z = (i2 &&& (2147483647 : Int32)) := ⟨_, rfl⟩
  obtain ⟨nn, hdef_nn⟩ : ∃ z : Int32, z = (i4 &&& (2147483647 : Int32)) := ⟨_, rfl⟩
  obtain ⟨cnt, hdef_cnt⟩ : ∃ z : Int32, z = (((i5.toUInt32 >>> ((1 : Int32) &&& 31).toUInt32).toInt32) &&& (1073741823 : Int32)) := ⟨_, rfl⟩
  refine MetFree.of_bodySF (plainFor_of_name pn_stavelog_wire_HistoryStartPinLaw) hisR ?_
  intro p e s m args below meth c s₁ Bd hml0 hP hK
  obtain ⟨rfl, hZ, hh⟩ := hP
  have hx := Bd.exec
  have hby := Bd.bytes
  have hml : c.maxLocals = 16 := hml0
  have hown : s.vm.findClass "stavelog/wire/HistoryStartPinLaw" = some m.cls := findClass_of_methodNamed Bd.named
  have hnm := (name_of_methodNamed Bd.named Bd.method).1
  have X0 : Stand p l e room_1 s m #[(.int i0), (.int i1), (.int i2), (.int i3), (.int i4), (.int i5)] below meth c s₁ [] 0 0 := Stand.of_body Bd
  have e0 : s₁.heap = h0 := by rw [← hh, Bd.state]; rfl
  have N0 := Fr.nil n0
  have pre0 : ∀ t, Steps p.tables e below (s₁.setTop (mkF m 0 #[.val (.int i0), .val (.int i1), .val (.int i2), .val (.int i3), .val (.int i4), .val (.int i5), .unset, .unset, .unset, .unset, .unset, .unset, .unset, .unset, .unset, .unset] [])) t → Steps p.tables e below (s₁.setTop (entryFrame m #[(.int i0), (.int i1), (.int i2), (.int i3), (.int i4), (.int i5)] maxLocals)) t := fun t k => castTop (ef0 m i0 i1 i2 i3 i4 i5) k
  obtain ⟨T1, h1, X1, e1, E1, A1, D1, -, st1⟩ := newO X0 hx hZ hown (own_w2 hw) (own_w3 hw) (own_w4 hw) e0 (g := (mkF m 50 #[.val (.int i0), .val (.int i1), .val (.int i2), .val (.int i3), .val (.int i4), .val (.int i5), .val (.int prev), .val (.int most), .val (.int bef), .val (.int bcp), .val (.int nn), .val (.int cnt), .unset, .unset, .unset, .unset] [])) rfl (hb hby at_50) (by decide) (by decide)
  obtain ⟨b1, q1⟩ : ∃ z, z = h0.size := ⟨_, rfl⟩
  rw [← q1] at A1 D1 st1
  have sz_b1 : h0.size ≤ b1 := Nat.le_of_eq q1.symm
  have sz0_b1 : h0.size ≤ b1 := sz_b1
  have g_b1 : n0 ≤ b1 := Nat.le_trans Z0 sz0_b1
  have KC2 : Keep h0 h1 [] := (Keep.refl h0 []).ext E1
  have F1_decompression : Fld Z h1 b1 "stavelog/wire/History" "decompression" "Lstavelog/wire/Decompression;" .null := D1 (Or.inr (own_w27 hw)) (ty := (.object "stavelog/wire/Decompression")) (by decide)
  have F1_kept : Fld Z h1 b1 "stavelog/wire/History" "kept" "I" (.int (0 : Int32)) := D1 (Or.inl (own_w34 hw)) (ty := .int) (by decide)
  have F1_written : Fld Z h1 b1 "stavelog/wire/History" "written" "J" (.long (0 : Int64)) := D1 (Or.inl (own_w36 hw)) (ty := .long) (by decide)
  have F1_reachable : Fld Z h1 b1 "stavelog/wire/History" "reachable" "J" (.long (0 : Int64)) := D1 (Or.inl (own_w38 hw)) (ty := .long) (by decide)
  have F1_literalsLeft : Fld Z h1 b1 "stavelog/wire/History" "literalsLeft" "I" (.int (0 : Int32)) := D1 (Or.inl (own_w40 hw)) (ty := .int) (by decide)
  have F1_copyLeft : Fld Z h1 b1 "stavelog/wire/History" "copyLeft" "I" (.int (0 : Int32)) := D1 (Or.inl (own_w42 hw)) (ty := .int) (by decide)
  have F1_sum : Fld Z h1 b1 "stavelog/wire/History" "sum" "Ljava/util/zip/Checksum;" .null := D1 (Or.inl (own_w44 hw)) (ty := (.object "java/util/zip/Checksum")) (by decide)
  have F1_literals : Fld Z h1 b1 "stavelog/wire/History" "literals" "Ljava/nio/ByteBuffer;" .null := D1 (Or.inl (own_w51 hw)) (ty := (.object "java/nio/ByteBuffer")) (by decide)
  have F1_literalAt : Fld Z h1 b1 "stavelog/wire/History" "literalAt" "I" (.int (0 : Int32)) := D1 (Or.inl (own_w53 hw)) (ty := .int) (by decide)
  have F1_distance : Fld Z h1 b1 "stavelog/wire/History" "distance" "I" (.int (0 : Int32)) := D1 (Or.inl (own_w64 hw)) (ty := .int) (by decide)
  obtain ⟨T3, h3, X3, e3, E3, A3, D3, -, st3⟩ := newO X1 hx hZ hown (own_w5 hw) (own_w6 hw) (own_w7 hw) e1 (g := (mkF m 54 #[.val (.int i0), .val (.int i1), .val (.int i2), .val (.int i3), .val (.int i4), .val (.int i5), .val (.int prev), .val (.int most), .val (.int bef), .val (.int bcp), .val (.int nn), .val (.int cnt), .unset, .unset, .unset, .unset] [(.ref b1), (.ref b1)])) rfl (hb hby at_54) (by decide) (by decide)
  obtain ⟨b3, q3⟩ : ∃ z, z = h1.size := ⟨_, rfl⟩
  rw [← q3] at A3 D3 st3
  have sz_b3 : h1.size ≤ b3 := Nat.le_of_eq q3.symm
  have sz0_b3 : h0.size ≤ b3 := Nat.le_trans KC2.1 sz_b3
  have g_b3 : n0 ≤ b3 := Nat.le_trans Z0 sz0_b3
  have KC4 : Keep h0 h3 [] := KC2.ext E3
  have F3_memory : Fld Z h3 b3 "stavelog/wire/Decompression" "memory" "Lstavelog/wire/Decompression$Memory;" .null := D3 (Or.inr (own_w21 hw)) (ty := (.object "stavelog/wire/Decompression$Memory")) (by decide)
  obtain ⟨_, _, ⟨T5, L5, k5, n5⟩, -, X5, ⟨Lc5, hQ5, l5, y5, z5⟩, st5⟩ := X3.specialBack hx (y := (⟨"stavelog/wire/Decompression", "<init>", "()V"⟩ : MethodName)) rfl hown (mvT hZ (own_w8 hw)) (mvT hZ (own_w9 hw)) (mvT hZ (own_w10 hw)) (by decide) (backOf (W := 3) (rm1_2 l Z a0 hw [] b3 h3 n0 (Nat.le_trans Z0 KC4.1) A3 F3_memory g_b3) hZ (own_w10 hw) (own_w7 hw) (by decide) (by decide)) (g := (mkF m 58 #[.val (.int i0), .val (.int i1), .val (.int i2), .val (.int i3), .val (.int i4), .val (.int i5), .val (.int prev), .val (.int most), .val (.int bef), .val (.int bcp), .val (.int nn), .val (.int cnt), .unset, .unset, .unset, .unset] [(.ref b3), (.ref b3), (.ref b1), (.ref b1)])) rfl (by rw [hml]; rfl) (Steps.refl _) (a := b3) (argsL := []) (rest := [(.ref b3), (.ref b1), (.ref b1)]) (lenOf pd___V rfl) rfl (by show 2 * 0 + _ ≤ _; exact Nat.le_of_eq rfl) (hb hby at_58) (fun _ _ => ⟨rfl, e3, (by decide : 2 + 0 ≤ _), (by decide : 19 + 0 ≤ _)⟩)
  dsimp only [Pt.U, Pt.locs, Pt.cells, Pt.slots] at X5 l5 y5 z5 st5 hQ5
  subst l5 y5 z5
  obtain ⟨f5_x0, rfl, N5q, K5, f5_0, f5_1⟩ := hQ5
  have N5 := Fr.app N0 N5q
  have KC6 : Keep h0 T5.heap [] := KC4.trans K5 (allS (Or.inr sz0_b3) all0)
  have c7 := A1.ext E3
  have c8 := c7.keep K5
  have c9 := F1_decompression.ext E3
  have ne10 : b1 ≠ b3 := (Nat.ne_of_lt (Nat.lt_of_lt_of_le A1.lt sz_b3))
  have c11 := c9.keep K5 (ninS ne10 nin0)
  have c12 := F1_copyLeft.ext E3
  have c13 := c12.keep K5 (ninS ne10 nin0)
  have c14 := F1_distance.ext E3
  have c15 := c14.keep K5 (ninS ne10 nin0)
  have c16 := F1_kept.ext E3
  have c17 := c16.keep K5 (ninS ne10 nin0)
  have c18 := F1_literalAt.ext E3
  have c19 := c18.keep K5 (ninS ne10 nin0)
  have c20 := F1_literals.ext E3
  have c21 := c20.keep K5 (ninS ne10 nin0)
  have c22 := F1_literalsLeft.ext E3
  have c23 := c22.keep K5 (ninS ne10 nin0)
  have c24 := F1_reachable.ext E3
  have c25 := c24.keep K5 (ninS ne10 nin0)
  have c26 := F1_sum.ext E3
  have c27 := c26.keep K5 (ninS ne10 nin0)
  have c28 := F1_written.ext E3
  have c29 := c28.keep K5 (ninS ne10 nin0)
  obtain ⟨_, _, ⟨T30, L30, k30, n30⟩, -, X30, ⟨Lc30, hQ30, l30, y30, z30⟩, st30⟩ := X5.specialBack hx (y := (⟨"stavelog/wire/History", "<init>", "(Lstavelog/wire/Decompression;)V"⟩ : MethodName)) rfl hown (mvT hZ (own_w22 hw)) (mvT hZ (own_w23 hw)) (mvT hZ (own_w24 hw)) (by decide) (backOf (W := 1) (rm4_3 l Z a0 hw [] b1 b3 T5.heap n0 (Nat.le_trans Z0 KC6.1) c8 c11 g_b1 c13 c15 c17 c19 c21 c23 c25 c27 c29) hZ (own_w24 hw) (own_w4 hw) (by decide) (by decide)) (g := (mkF m 61 #[.val (.int i0), .val (.int i1), .val (.int i2), .val (.int i3), .val (.int i4), .val (.int i5), .val (.int prev), .val (.int most), .val (.int bef), .val (.int bcp), .val (.int nn), .val (.int cnt), .unset, .unset, .unset, .unset] [(.ref b3), (.ref b1), (.ref b1)])) rfl (by rw [hml]; rfl) (Steps.refl _) (a := b1) (argsL := [(.ref b3)]) (rest := [(.ref b1)]) (lenOf pd__Lstavelog_wire_Decompression__V rfl) rfl (by show 2 * 0 + _ ≤ _; exact Nat.le_of_eq rfl) (hb hby at_61) (fun _ _ => ⟨rfl, rfl, (by decide : 2 + 0 ≤ _), (by decide : 19 + 0 ≤ _)⟩)
  dsimp only [Pt.U, Pt.locs, Pt.cells, Pt.slots] at X30 l30 y30 z30 st30 hQ30
  subst l30 y30 z30
  obtain ⟨rfl, N30q, K30, f30_0, f30_1, f30_2, f30_3, f30_4, f30_5, f30_6, f30_7, f30_8, f30_9, f30_10⟩ := hQ30
  have N30 := Fr.app N5 N30q
  have KC31 : Keep h0 T30.heap [] := KC6.trans K30 (allS (Or.inr sz0_b1) all0)
  obtain ⟨cq32, kq32, q32a, q32b, q32c⟩ := isOf hZ rfl f30_0
  obtain ⟨_, _, ⟨T32, L32, k32, n32⟩, -, X32, ⟨Lc32, hQ32, l32, y32, z32⟩, st32⟩ := X30.virtualBack hx (y := (⟨"stavelog/wire/History", "start", "(I)V"⟩ : MethodName)) (z := (⟨"stavelog/wire/History", "start", "(I)V"⟩ : MethodName)) hown (mvT hZ (own_w28 hw)) (mvT hZ (own_w29 hw)) (notFace_of_selects (args := #[]) (mvT hZ (own_w31 hw))) (mvT hZ (own_w31 hw)) (mvT hZ (own_w30 hw)) (by decide) (backOf (W := 0) (rm5_4 l Z a0 hw [] b1 prev b3 T30.heap n0 (Nat.le_trans Z0 KC31.1) f30_0 f30_4 g_b1 f30_10 f30_8 f30_7 f30_2 f30_9 f30_1 f30_3 f30_5 f30_6) hZ (own_w32 hw) (own_w4 hw) (by decide) (by decide)) q32a q32c (g := (mkF m 70 #[.val (.int i0), .val (.int i1), .val (.int i2), .val (.int i3), .val (.int i4), .val (.int i5), .val (.int prev), .val (.int most), .val (.int bef), .val (.int bcp), .val (.int nn), .val (.int cnt), .val (.ref b1), .unset, .unset, .unset] [(.int prev), (.ref b1)])) rfl (by rw [hml]; rfl) (Steps.refl _) (argsL := [(.int prev)]) (rest := []) (lenOf pd__I_V rfl) rfl (by show 2 * 0 + _ ≤ _; exact Nat.le_of_eq rfl) (hb hby at_70) (fun _ _ => ⟨rfl, rfl, (by decide : 2 + 0 ≤ _), (by decide : 19 + 0 ≤ _)⟩)
  dsimp only [Pt.U, Pt.locs, Pt.cells, Pt.slots] at X32 l32 y32 z32 st32 hQ32
  subst l32 y32 z32
  obtain ⟨rfl, N32q, K32, f32_0, f32_1, f32_2, f32_3, f32_4, f32_5, f32_6, f32_7, f32_8, f32_9, f32_10⟩ := hQ32
  have N32 := Fr.app N30 N32q
  have KC33 : Keep h0 T32.heap [] := KC31.trans K32 (allS (Or.inr sz0_b1) all0)
  obtain ⟨cq34, kq34, q34a, q34b, q34c⟩ := isOf hZ rfl f32_0
  obtain ⟨_, _, ⟨T34, L34, k34, n34⟩, -, X34, ⟨Lc34, hQ34, l34, y34, z34⟩, st34⟩ := X32.virtualBack hx (y := (⟨"stavelog/wire/History", "literals", "(Ljava/nio/ByteBuffer;II)V"⟩ : MethodName)) (z := (⟨"stavelog/wire/History", "literals", "(Ljava/nio/ByteBuffer;II)V"⟩ : MethodName)) hown (mvT hZ (own_w45 hw)) (mvT hZ (own_w46 hw)) (notFace_of_selects (args := #[]) (mvT hZ (own_w48 hw))) (mvT hZ (own_w48 hw)) (mvT hZ (own_w47 hw)) (by decide) (backOf (W := 0) (rm6_5 l Z a0 hw [] b1 bef b3 prev T32.heap n0 (Nat.le_trans Z0 KC33.1) f32_0 f32_10 g_b1 f32_9 f32_4 f32_5 f32_7 f32_8 f32_1 f32_3 f32_6 f32_2) hZ (own_w49 hw) (own_w4 hw) (by decide) (by decide)) q34a q34c (g := (mkF m 79 #[.val (.int i0), .val (.int i1), .val (.int i2), .val (.int i3), .val (.int i4), .val (.int i5), .val (.int prev), .val (.int most), .val (.int bef), .val (.int bcp), .val (.int nn), .val (.int cnt), .val (.ref b1), .unset, .unset, .unset] [(.int bef), (.int (0 : Int32)), .null, (.ref b1)])) rfl (by rw [hml]; rfl) (Steps.refl _) (argsL := [.null, (.int (0 : Int32)), (.int bef)]) (rest := []) (lenOf pd__Ljava_nio_ByteBuffer_II_V rfl) rfl (by show 2 * 0 + _ ≤ _; exact Nat.le_of_eq rfl) (hb hby at_79) (fun _ _ => ⟨rfl, rfl, (by decide : 2 + 0 ≤ _), (by decide : 19 + 0 ≤ _)⟩)
  dsimp only [Pt.U, Pt.locs, Pt.cells, Pt.slots] at X34 l34 y34 z34 st34 hQ34
  subst l34 y34 z34
  obtain ⟨rfl, N34q, K34, f34_0, f34_1, f34_2, f34_3, f34_4, f34_5, f34_6, f34_7, f34_8, f34_9, f34_10⟩ := hQ34
  have N34 := Fr.app N32 N34q
  have KC35 : Keep h0 T34.heap [] := KC33.trans K34 (allS (Or.inr sz0_b1) all0)
  have pre1 : ∀ t, Steps p.tables e below (T34.setTop (mkF m 85 #[.val (.int i0), .val (.int i1), .val (.int i2), .val (.int i3), .val (.int i4), .val (.int i5), .val (.int prev), .val (.int most), .val (.int bef), .val (.int bcp), .val (.int nn), .val (.int cnt), .val (.ref b1), .unset, .unset, .unset] [(.int (1 : Int32)), (.int bef)])) t → Steps p.tables e below (s₁.setTop (entryFrame m #[(.int i0), (.int i1), (.int i2), (.int i3), (.int i4), (.int i5)] maxLocals)) t := fun t kk => pre0 t (by
    show Steps p.tables e below (s₁.setTop (mkF m 0 #[.val (.int i0), .val (.int i1), .val (.int i2), .val (.int i3), .val (.int i4), .val (.int i5), .unset, .unset, .unset, .unset, .unset, .unset, .unset, .unset, .unset, .unset] [])) _
    refine XS.iconst X0.here hx rfl (hb hby at_0) ?_
    show Steps p.tables e below (s₁.setTop (mkF m 1 #[.val (.int i0), .val (.int i1), .val (.int i2), .val (.int i3), .val (.int i4), .val (.int i5), .unset, .unset, .unset, .unset, .unset, .unset, .unset, .unset, .unset, .unset] [(.int (1 : Int32))])) _
    refine XS.iloadN X0.here hx rfl (hb hby at_1) rfl ?_
    show Steps p.tables e below (s₁.setTop (mkF m 2 #[.val (.int i0), .val (.int i1), .val (.int i2), .val (.int i3), .val (.int i4), .val (.int i5), .unset, .unset, .unset, .unset, .unset, .unset, .unset, .unset, .unset, .unset] [(.int i0), (.int (1 : Int32))])) _
    refine X0.ldcInt hx hown (mvT hZ (own_w0 hw)) (g := (mkF m 2 #[.val (.int i0), .val (.int i1), .val (.int i2), .val (.int i3), .val (.int i4), .val (.int i5), .unset, .unset, .unset, .unset, .unset, .unset, .unset, .unset, .unset, .unset] [(.int i0), (.int (1 : Int32))])) rfl (hb hby at_2) _ ?_
    show Steps p.tables e below (s₁.setTop (mkF m 4 #[.val (.int i0), .val (.int i1), .val (.int i2), .val (.int i3), .val (.int i4), .val (.int i5), .unset, .unset, .unset, .unset, .unset, .unset, .unset, .unset, .unset, .unset] [(.int (2147483647 : Int32)), (.int i0), (.int (1 : Int32))])) _
    refine XS.iand X0.here hx rfl (hb hby at_4) rfl ?_
    show Steps p.tables e below (s₁.setTop (mkF m 5 #[.val (.int i0), .val (.int i1), .val (.int i2), .val (.int i3), .val (.int i4), .val (.int i5), .unset, .unset, .unset, .unset, .unset, .unset, .unset, .unset, .unset, .unset] [(.int (i0 &&& (2147483647 : Int32))), (.int (1 : Int32))])) _
    refine XS.bipush X0.here hx rfl (hb hby at_5) ?_
    show Steps p.tables e below (s₁.setTop (mkF m 7 #[.val (.int i0), .val (.int i1), .val (.int i2), .val (.int i3), .val (.int i4), .val (.int i5), .unset, .unset, .unset, .unset, .unset, .unset, .unset, .unset, .unset, .unset] [(.int (31 : Int32)), (.int (i0 &&& (2147483647 : Int32))), (.int (1 : Int32))])) _
    refine iremM X0 hx rfl (hb hby at_7) rfl (by decide) ?_
    show Steps p.tables e below (s₁.setTop (mkF m 8 #[.val (.int i0), .val (.int i1), .val (.int i2), .val (.int i3), .val (.int i4), .val (.int i5), .unset, .unset, .unset, .unset, .unset, .unset, .unset, .unset, .unset, .unset] [(.int ((i0 &&& (2147483647 : Int32)) % (31 : Int32))), (.int (1 : Int32))])) _
    refine XS.ishl X0.here hx rfl (hb hby at_8) rfl ?_
    show Steps p.tables e below (s₁.setTop (mkF m 9 #[.val (.int i0), .val (.int i1), .val (.int i2), .val (.int i3), .val (.int i4), .val (.int i5), .unset, .unset, .unset, .unset, .unset, .unset, .unset, .unset, .unset, .unset] [(.int ((1 : Int32) <<< (((i0 &&& (2147483647 : Int32)) % (31 : Int32)) &&& 31)))])) _
    rw [← hdef_prev]
    show Steps p.tables e below (s₁.setTop (mkF m 9 #[.val (.int i0), .val (.int i1), .val (.int i2), .val (.int i3), .val (.int i4), .val (.int i5), .unset, .unset, .unset, .unset, .unset, .unset, .unset, .unset, .unset, .unset] [(.int prev)])) _
    refine XS.istore X0.here hx rfl (hb hby at_9) rfl (l' := #[.val (.int i0), .val (.int i1), .val (.int i2), .val (.int i3), .val (.int i4), .val (.int i5), .val (.int prev), .unset, .unset, .unset, .unset, .unset, .unset, .unset, .unset, .unset]) rfl ?_
    show Steps p.tables e below (s₁.setTop (mkF m 11 #[.val (.int i0), .val (.int i1), .val (.int i2), .val (.int i3), .val (.int i4), .val (.int i5), .val (.int prev), .unset, .unset, .unset, .unset, .unset, .unset, .unset, .unset, .unset] [])) _
    refine XS.iconst X0.here hx rfl (hb hby at_11) ?_
    show Steps p.tables e below (s₁.setTop (mkF m 12 #[.val (.int i0), .val (.int i1), .val (.int i2), .val (.int i3), .val (.int i4), .val (.int i5), .val (.int prev), .unset, .unset, .unset, .unset, .unset, .unset, .unset, .unset, .unset] [(.int (1 : Int32))])) _
    refine XS.iloadN X0.here hx rfl (hb hby at_12) rfl ?_
    show Steps p.tables e below (s₁.setTop (mkF m 13 #[.val (.int i0), .val (.int i1), .val (.int i2), .val (.int i3), .val (.int i4), .val (.int i5), .val (.int prev), .unset, .unset, .unset, .unset, .unset, .unset, .unset, .unset, .unset] [(.int i3), (.int (1 : Int32))])) _
    refine X0.ldcInt hx hown (mvT hZ (own_w0 hw)) (g := (mkF m 13 #[.val (.int i0), .val (.int i1), .val (.int i2), .val (.int i3), .val (.int i4), .val (.int i5), .val (.int prev), .unset, .unset, .unset, .unset, .unset, .unset, .unset, .unset, .unset] [(.int i3), (.int (1 : Int32))])) rfl (hb hby at_13) _ ?_
    show Steps p.tables e below (s₁.setTop (mkF m 15 #[.val (.int i0), .val (.int i1), .val (.int i2), .val (.int i3), .val (.int i4), .val (.int i5), .val (.int prev), .unset, .unset, .unset, .unset, .unset, .unset, .unset, .unset, .unset] [(.int (2147483647 : Int32)), (.int i3), (.int (1 : Int32))])) _
    refine XS.iand X0.here hx rfl (hb hby at_15) rfl ?_
    show Steps p.tables e below (s₁.setTop (mkF m 16 #[.val (.int i0), .val (.int i1), .val (.int i2), .val (.int i3), .val (.int i4), .val (.int i5), .val (.int prev), .unset, .unset, .unset, .unset, .unset, .unset, .unset, .unset, .unset] [(.int (i3 &&& (2147483647 : Int32))), (.int (1 : Int32))])) _
    refine XS.bipush X0.here hx rfl (hb hby at_16) ?_
    show Steps p.tables e below (s₁.setTop (mkF m 18 #[.val (.int i0), .val (.int i1), .val (.int i2), .val (.int i3), .val (.int i4), .val (.int i5), .val (.int prev), .unset, .unset, .unset, .unset, .unset, .unset, .unset, .unset, .unset] [(.int (31 : Int32)), (.int (i3 &&& (2147483647 : Int32))), (.int (1 : Int32))])) _
    refine iremM X0 hx rfl (hb hby at_18) rfl (by decide) ?_
    show Steps p.tables e below (s₁.setTop (mkF m 19 #[.val (.int i0), .val (.int i1), .val (.int i2), .val (.int i3), .val (.int i4), .val (.int i5), .val (.int prev), .unset, .unset, .unset, .unset, .unset, .unset, .unset, .unset, .unset] [(.int ((i3 &&& (2147483647 : Int32)) % (31 : Int32))), (.int (1 : Int32))])) _
    refine XS.ishl X0.here hx rfl (hb hby at_19) rfl ?_
    show Steps p.tables e below (s₁.setTop (mkF m 20 #[.val (.int i0), .val (.int i1), .val (.int i2), .val (.int i3), .val (.int i4), .val (.int i5), .val (.int prev), .unset, .unset, .unset, .unset, .unset, .unset, .unset, .unset, .unset] [(.int ((1 : Int32) <<< (((i3 &&& (2147483647 : Int32)) % (31 : Int32)) &&& 31)))])) _
    rw [← hdef_most]
    show Steps p.tables e below (s₁.setTop (mkF m 20 #[.val (.int i0), .val (.int i1), .val (.int i2), .val (.int i3), .val (.int i4), .val (.int i5), .val (.int prev), .unset, .unset, .unset, .unset, .unset, .unset, .unset, .unset, .unset] [(.int most)])) _
    refine XS.istore X0.here hx rfl (hb hby at_20) rfl (l' := #[.val (.int i0), .val (.int i1), .val (.int i2), .val (.int i3), .val (.int i4), .val (.int i5), .val (.int prev), .val (.int most), .unset, .unset, .unset, .unset, .unset, .unset, .unset, .unset]) rfl ?_
    show Steps p.tables e below (s₁.setTop (mkF m 22 #[.val (.int i0), .val (.int i1), .val (.int i2), .val (.int i3), .val (.int i4), .val (.int i5), .val (.int prev), .val (.int most), .unset, .unset, .unset, .unset, .unset, .unset, .unset, .unset] [])) _
    refine XS.iloadN X0.here hx rfl (hb hby at_22) rfl ?_
    show Steps p.tables e below (s₁.setTop (mkF m 23 #[.val (.int i0), .val (.int i1), .val (.int i2), .val (.int i3), .val (.int i4), .val (.int i5), .val (.int prev), .val (.int most), .unset, .unset, .unset, .unset, .unset, .unset, .unset, .unset] [(.int i1)])) _
    refine X0.ldcInt hx hown (mvT hZ (own_w0 hw)) (g := (mkF m 23 #[.val (.int i0), .val (.int i1), .val (.int i2), .val (.int i3), .val (.int i4), .val (.int i5), .val (.int prev), .val (.int most), .unset, .unset, .unset, .unset, .unset, .unset, .unset, .unset] [(.int i1)])) rfl (hb hby at_23) _ ?_
    show Steps p.tables e below (s₁.setTop (mkF m 25 #[.val (.int i0), .val (.int i1), .val (.int i2), .val (.int i3), .val (.int i4), .val (.int i5), .val (.int prev), .val (.int most), .unset, .unset, .unset, .unset, .unset, .unset, .unset, .unset] [(.int (2147483647 : Int32)), (.int i1)])) _
    refine XS.iand X0.here hx rfl (hb hby at_25) rfl ?_
    show Steps p.tables e below (s₁.setTop (mkF m 26 #[.val (.int i0), .val (.int i1), .val (.int i2), .val (.int i3), .val (.int i4), .val (.int i5), .val (.int prev), .val (.int most), .unset, .unset, .unset, .unset, .unset, .unset, .unset, .unset] [(.int (i1 &&& (2147483647 : Int32)))])) _
    rw [← hdef_bef]
    show Steps p.tables e below (s₁.setTop (mkF m 26 #[.val (.int i0), .val (.int i1), .val (.int i2), .val (.int i3), .val (.int i4), .val (.int i5), .val (.int prev), .val (.int most), .unset, .unset, .unset, .unset, .unset, .unset, .unset, .unset] [(.int bef)])) _
    refine XS.istore X0.here hx rfl (hb hby at_26) rfl (l' := #[.val (.int i0), .val (.int i1), .val (.int i2), .val (.int i3), .val (.int i4), .val (.int i5), .val (.int prev), .val (.int most), .val (.int bef), .unset, .unset, .unset, .unset, .unset, .unset, .unset]) rfl ?_
    show Steps p.tables e below (s₁.setTop (mkF m 28 #[.val (.int i0), .val (.int i1), .val (.int i2), .val (.int i3), .val (.int i4), .val (.int i5), .val (.int prev), .val (.int most), .val (.int bef), .unset, .unset, .unset, .unset, .unset, .unset, .unset] [])) _
    refine XS.iloadN X0.here hx rfl (hb hby at_28) rfl ?_
    show Steps p.tables e below (s₁.setTop (mkF m 29 #[.val (.int i0), .val (.int i1), .val (.int i2), .val (.int i3), .val (.int i4), .val (.int i5), .val (.int prev), .val (.int most), .val (.int bef), .unset, .unset, .unset, .unset, .unset, .unset, .unset] [(.int i2)])) _
    refine X0.ldcInt hx hown (mvT hZ (own_w0 hw)) (g := (mkF m 29 #[.val (.int i0), .val (.int i1), .val (.int i2), .val (.int i3), .val (.int i4), .val (.int i5), .val (.int prev), .val (.int most), .val (.int bef), .unset, .unset, .unset, .unset, .unset, .unset, .unset] [(.int i2)])) rfl (hb hby at_29) _ ?_
    show Steps p.tables e below (s₁.setTop (mkF m 31 #[.val (.int i0), .val (.int i1), .val (.int i2), .val (.int i3), .val (.int i4), .val (.int i5), .val (.int prev), .val (.int most), .val (.int bef), .unset, .unset, .unset, .unset, .unset, .unset, .unset] [(.int (2147483647 : Int32)), (.int i2)])) _
    refine XS.iand X0.here hx rfl (hb hby at_31) rfl ?_
    show Steps p.tables e below (s₁.setTop (mkF m 32 #[.val (.int i0), .val (.int i1), .val (.int i2), .val (.int i3), .val (.int i4), .val (.int i5), .val (.int prev), .val (.int most), .val (.int bef), .unset, .unset, .unset, .unset, .unset, .unset, .unset] [(.int (i2 &&& (2147483647 : Int32)))])) _
    rw [← hdef_bcp]
    show Steps p.tables e below (s₁.setTop (mkF m 32 #[.val (.int i0), .val (.int i1), .val (.int i2), .val (.int i3), .val (.int i4), .val (.int i5), .val (.int prev), .val (.int most), .val (.int bef), .unset, .unset, .unset, .unset, .unset, .unset, .unset] [(.int bcp)])) _
    refine XS.istore X0.here hx rfl (hb hby at_32) rfl (l' := #[.val (.int i0), .val (.int i1), .val (.int i2), .val (.int i3), .val (.int i4), .val (.int i5), .val (.int prev), .val (.int most), .val (.int bef), .val (.int bcp), .unset, .unset, .unset, .unset, .unset, .unset]) rfl ?_
    show Steps p.tables e below (s₁.setTop (mkF m 34 #[.val (.int i0), .val (.int i1), .val (.int i2), .val (.int i3), .val (.int i4), .val (.int i5), .val (.int prev), .val (.int most), .val (.int bef), .val (.int bcp), .unset, .unset, .unset, .unset, .unset, .unset] [])) _
    refine XS.iload X0.here hx rfl (hb hby at_34) rfl ?_
    show Steps p.tables e below (s₁.setTop (mkF m 36 #[.val (.int i0), .val (.int i1), .val (.int i2), .val (.int i3), .val (.int i4), .val (.int i5), .val (.int prev), .val (.int most), .val (.int bef), .val (.int bcp), .unset, .unset, .unset, .unset, .unset, .unset] [(.int i4)])) _
    refine X0.ldcInt hx hown (mvT hZ (own_w0 hw)) (g := (mkF m 36 #[.val (.int i0), .val (.int i1), .val (.int i2), .val (.int i3), .val (.int i4), .val (.int i5), .val (.int prev), .val (.int most), .val (.int bef), .val (.int bcp), .unset, .unset, .unset, .unset, .unset, .unset] [(.int i4)])) rfl (hb hby at_36) _ ?_
    show Steps p.tables e below (s₁.setTop (mkF m 38 #[.val (.int i0), .val (.int i1), .val (.int i2), .val (.int i3), .val (.int i4), .val (.int i5), .val (.int prev), .val (.int most), .val (.int bef), .val (.int bcp), .unset, .unset, .unset, .unset, .unset, .unset] [(.int (2147483647 : Int32)), (.int i4)])) _
    refine XS.iand X0.here hx rfl (hb hby at_38) rfl ?_
    show Steps p.tables e below (s₁.setTop (mkF m 39 #[.val (.int i0), .val (.int i1), .val (.int i2), .val (.int i3), .val (.int i4), .val (.int i5), .val (.int prev), .val (.int most), .val (.int bef), .val (.int bcp), .unset, .unset, .unset, .unset, .unset, .unset] [(.int (i4 &&& (2147483647 : Int32)))])) _
    rw [← hdef_nn]
    show Steps p.tables e below (s₁.setTop (mkF m 39 #[.val (.int i0), .val (.int i1), .val (.int i2), .val (.int i3), .val (.int i4), .val (.int i5), .val (.int prev), .val (.int most), .val (.int bef), .val (.int bcp), .unset, .unset, .unset, .unset, .unset, .unset] [(.int nn)])) _
    refine XS.istore X0.here hx rfl (hb hby at_39) rfl (l' := #[.val (.int i0), .val (.int i1), .val (.int i2), .val (.int i3), .val (.int i4), .val (.int i5), .val (.int prev), .val (.int most), .val (.int bef), .val (.int bcp), .val (.int nn), .unset, .unset, .unset, .unset, .unset]) rfl ?_
    show Steps p.tables e below (s₁.setTop (mkF m 41 #[.val (.int i0), .val (.int i1), .val (.int i2), .val (.int i3), .val (.int i4), .val (.int i5), .val (.int prev), .val (.int most), .val (.int bef), .val (.int bcp), .val (.int nn), .unset, .unset, .unset, .unset, .unset] [])) _
    refine XS.iload X0.here hx rfl (hb hby at_41) rfl ?_
    show Steps p.tables e below (s₁.setTop (mkF m 43 #[.val (.int i0), .val (.int i1), .val (.int i2), .val (.int i3), .val (.int i4), .val (.int i5), .val (.int prev), .val (.int most), .val (.int bef), .val (.int bcp), .val (.int nn), .unset, .unset, .unset, .unset, .unset] [(.int i5)])) _
    refine XS.iconst X0.here hx rfl (hb hby at_43) ?_
    show Steps p.tables e below (s₁.setTop (mkF m 44 #[.val (.int i0), .val (.int i1), .val (.int i2), .val (.int i3), .val (.int i4), .val (.int i5), .val (.int prev), .val (.int most), .val (.int bef), .val (.int bcp), .val (.int nn), .unset, .unset, .unset, .unset, .unset] [(.int (1 : Int32)), (.int i5)])) _
    refine XS.iushr X0.here hx rfl (hb hby at_44) rfl ?_
    show Steps p.tables e below (s₁.setTop (mkF m 45 #[.val (.int i0), .val (.int i1), .val (.int i2), .val (.int i3), .val (.int i4), .val (.int i5), .val (.int prev), .val (.int most), .val (.int bef), .val (.int bcp), .val (.int nn), .unset, .unset, .unset, .unset, .unset] [(.int ((i5.toUInt32 >>> ((1 : Int32) &&& 31).toUInt32).toInt32))])) _
    refine X0.ldcInt hx hown (mvT hZ (own_w1 hw)) (g := (mkF m 45 #[.val (.int i0), .val (.int i1), .val (.int i2), .val (.int i3), .val (.int i4), .val (.int i5), .val (.int prev), .val (.int most), .val (.int bef), .val (.int bcp), .val (.int nn), .unset, .unset, .unset, .unset, .unset] [(.int ((i5.toUInt32 >>> ((1 : Int32) &&& 31).toUInt32).toInt32))])) rfl (hb hby at_45) _ ?_
    show Steps p.tables e below (s₁.setTop (mkF m 47 #[.val (.int i0), .val (.int i1), .val (.int i2), .val (.int i3), .val (.int i4), .val (.int i5), .val (.int prev), .val (.int most), .val (.int bef), .val (.int bcp), .val (.int nn), .unset, .unset, .unset, .unset, .unset] [(.int (1073741823 : Int32)), (.int ((i5.toUInt32 >>> ((1 : Int32) &&& 31).toUInt32).toInt32))])) _
    refine XS.iand X0.here hx rfl (hb hby at_47) rfl ?_
    show Steps p.tables e below (s₁.setTop (mkF m 48 #[.val (.int i0), .val (.int i1), .val (.int i2), .val (.int i3), .val (.int i4), .val (.int i5), .val (.int prev), .val (.int most), .val (.int bef), .val (.int bcp), .val (.int nn), .unset, .unset, .unset, .unset, .unset] [(.int (((i5.toUInt32 >>> ((1 : Int32) &&& 31).toUInt32).toInt32) &&& (1073741823 : Int32)))])) _
    rw [← hdef_cnt]
    show Steps p.tables e below (s₁.setTop (mkF m 48 #[.val (.int i0), .val (.int i1), .val (.int i2), .val (.int i3), .val (.int i4), .val (.int i5), .val (.int prev), .val (.int most), .val (.int bef), .val (.int bcp), .val (.int nn), .unset, .unset, .unset, .unset, .unset] [(.int cnt)])) _
    refine XS.istore X0.here hx rfl (hb hby at_48) rfl (l' := #[.val (.int i0), .val (.int i1), .val (.int i2), .val (.int i3), .val (.int i4), .val (.int i5), .val (.int prev), .val (.int most), .val (.int bef), .val (.int bcp), .val (.int nn), .val (.int cnt), .unset, .unset, .unset, .unset]) rfl ?_
    show Steps p.tables e below (s₁.setTop (mkF m 50 #[.val (.int i0), .val (.int i1), .val (.int i2), .val (.int i3), .val (.int i4), .val (.int i5), .val (.int prev), .val (.int most), .val (.int bef), .val (.int bcp), .val (.int nn), .val (.int cnt), .unset, .unset, .unset, .unset] [])) _
    refine st1 _ ?_
    show Steps p.tables e below (T1.setTop (mkF m 53 #[.val (.int i0), .val (.int i1), .val (.int i2), .val (.int i3), .val (.int i4), .val (.int i5), .val (.int prev), .val (.int most), .val (.int bef), .val (.int bcp), .val (.int nn), .val (.int cnt), .unset, .unset, .unset, .unset] [(.ref b1)])) _
    refine XS.dup X1.here hx rfl (hb hby at_53) rfl rfl ?_
    show Steps p.tables e below (T1.setTop (mkF m 54 #[.val (.int i0), .val (.int i1), .val (.int i2), .val (.int i3), .val (.int i4), .val (.int i5), .val (.int prev), .val (.int most), .val (.int bef), .val (.int bcp), .val (.int nn), .val (.int cnt), .unset, .unset, .unset, .unset] [(.ref b1), (.ref b1)])) _
    refine st3 _ ?_
    show Steps p.tables e below (T3.setTop (mkF m 57 #[.val (.int i0), .val (.int i1), .val (.int i2), .val (.int i3), .val (.int i4), .val (.int i5), .val (.int prev), .val (.int most), .val (.int bef), .val (.int bcp), .val (.int nn), .val (.int cnt), .unset, .unset, .unset, .unset] [(.ref b3), (.ref b1), (.ref b1)])) _
    refine XS.dup X3.here hx rfl (hb hby at_57) rfl rfl ?_
    show Steps p.tables e below (T3.setTop (mkF m 58 #[.val (.int i0), .val (.int i1), .val (.int i2), .val (.int i3), .val (.int i4), .val (.int i5), .val (.int prev), .val (.int most), .val (.int bef), .val (.int bcp), .val (.int nn), .val (.int cnt), .unset, .unset, .unset, .unset] [(.ref b3), (.ref b3), (.ref b1), (.ref b1)])) _
    refine st5.trans ?_
    show Steps p.tables e below (T5.setTop (mkF m 61 #[.val (.int i0), .val (.int i1), .val (.int i2), .val (.int i3), .val (.int i4), .val (.int i5), .val (.int prev), .val (.int most), .val (.int bef), .val (.int bcp), .val (.int nn), .val (.int cnt), .unset, .unset, .unset, .unset] [(.ref b3), (.ref b1), (.ref b1)])) _
    refine st30.trans ?_
    show Steps p.tables e below (T30.setTop (mkF m 64 #[.val (.int i0), .val (.int i1), .val (.int i2), .val (.int i3), .val (.int i4), .val (.int i5), .val (.int prev), .val (.int most), .val (.int bef), .val (.int bcp), .val (.int nn), .val (.int cnt), .unset, .unset, .unset, .unset] [(.ref b1)])) _
    refine XS.astore X30.here hx rfl (hb hby at_64) rfl rfl (l' := #[.val (.int i0), .val (.int i1), .val (.int i2), .val (.int i3), .val (.int i4), .val (.int i5), .val (.int prev), .val (.int most), .val (.int bef), .val (.int bcp), .val (.int nn), .val (.int cnt), .val (.ref b1), .unset, .unset, .unset]) rfl ?_
    show Steps p.tables e below (T30.setTop (mkF m 66 #[.val (.int i0), .val (.int i1), .val (.int i2), .val (.int i3), .val (.int i4), .val (.int i5), .val (.int prev), .val (.int most), .val (.int bef), .val (.int bcp), .val (.int nn), .val (.int cnt), .val (.ref b1), .unset, .unset, .unset] [])) _
    refine XS.aload X30.here hx rfl (hb hby at_66) rfl rfl ?_
    show Steps p.tables e below (T30.setTop (mkF m 68 #[.val (.int i0), .val (.int i1), .val (.int i2), .val (.int i3), .val (.int i4), .val (.int i5), .val (.int prev), .val (.int most), .val (.int bef), .val (.int bcp), .val (.int nn), .val (.int cnt), .val (.ref b1), .unset, .unset, .unset] [(.ref b1)])) _
    refine XS.iload X30.here hx rfl (hb hby at_68) rfl ?_
    show Steps p.tables e below (T30.setTop (mkF m 70 #[.val (.int i0), .val (.int i1), .val (.int i2), .val (.int i3), .val (.int i4), .val (.int i5), .val (.int prev), .val (.int most), .val (.int bef), .val (.int bcp), .val (.int nn), .val (.int cnt), .val (.ref b1), .unset, .unset, .unset] [(.int prev), (.ref b1)])) _
    refine st32.trans ?_
    show Steps p.tables e below (T32.setTop (mkF m 73 #[.val (.int i0), .val (.int i1), .val (.int i2), .val (.int i3), .val (.int i4), .val (.int i5), .val (.int prev), .val (.int most), .val (.int bef), .val (.int bcp), .val (.int nn), .val (.int cnt), .val (.ref b1), .unset, .unset, .unset] [])) _
    refine XS.aload X32.here hx rfl (hb hby at_73) rfl rfl ?_
    show Steps p.tables e below (T32.setTop (mkF m 75 #[.val (.int i0), .val (.int i1), .val (.int i2), .val (.int i3), .val (.int i4), .val (.int i5), .val (.int prev), .val (.int most), .val (.int bef), .val (.int bcp), .val (.int nn), .val (.int cnt), .val (.ref b1), .unset, .unset, .unset] [(.ref b1)])) _
    refine XS.aconstNull X32.here hx rfl (hb hby at_75) ?_
    show Steps p.tables e below (T32.setTop (mkF m 76 #[.val (.int i0), .val (.int i1), .val (.int i2), .val (.int i3), .val (.int i4), .val (.int i5), .val (.int prev), .val (.int most), .val (.int bef), .val (.int bcp), .val (.int nn), .val (.int cnt), .val (.ref b1), .unset, .unset, .unset] [.null, (.ref b1)])) _
    refine XS.iconst X32.here hx rfl (hb hby at_76) ?_
    show Steps p.tables e below (T32.setTop (mkF m 77 #[.val (.int i0), .val (.int i1), .val (.int i2), .val (.int i3), .val (.int i4), .val (.int i5), .val (.int prev), .val (.int most), .val (.int bef), .val (.int bcp), .val (.int nn), .val (.int cnt), .val (.ref b1), .unset, .unset, .unset] [(.int (0 : Int32)), .null, (.ref b1)])) _
    refine XS.iload X32.here hx rfl (hb hby at_77) rfl ?_
    show Steps p.tables e below (T32.setTop (mkF m 79 #[.val (.int i0), .val (.int i1), .val (.int i2), .val (.int i3), .val (.int i4), .val (.int i5), .val (.int prev), .val (.int most), .val (.int bef), .val (.int bcp), .val (.int nn), .val (.int cnt), .val (.ref b1), .unset, .unset, .unset] [(.int bef), (.int (0 : Int32)), .null, (.ref b1)])) _
    refine st34.trans ?_
    show Steps p.tables e below (T34.setTop (mkF m 82 #[.val (.int i0), .val (.int i1), .val (.int i2), .val (.int i3), .val (.int i4), .val (.int i5), .val (.int prev), .val (.int most), .val (.int bef), .val (.int bcp), .val (.int nn), .val (.int cnt), .val (.ref b1), .unset, .unset, .unset] [])) _
    refine XS.iload X34.here hx rfl (hb hby at_82) rfl ?_
    show Steps p.tables e below (T34.setTop (mkF m 84 #[.val (.int i0), .val (.int i1), .val (.int i2), .val (.int i3), .val (.int i4), .val (.int i5), .val (.int prev), .val (.int most), .val (.int bef), .val (.int bcp), .val (.int nn), .val (.int cnt), .val (.ref b1), .unset, .unset, .unset] [(.int bef)])) _
    refine XS.iconst X34.here hx rfl (hb hby at_84) ?_
    show Steps p.tables e below (T34.setTop (mkF m 85 #[.val (.int i0), .val (.int i1), .val (.int i2), .val (.int i3), .val (.int i4), .val (.int i5), .val (.int prev), .val (.int most), .val (.int bef), .val (.int bcp), .val (.int nn), .val (.int cnt), .val (.ref b1), .unset, .unset, .unset] [(.int (1 : Int32)), (.int bef)])) _
    exact kk)
  by_cases hs0 : bef < (1 : Int32)
  · have pre2 : ∀ t, Steps p.tables e below (T34.setTop (mkF m 100 #[.val (.int i0), .val (.int i1), .val (.int i2), .val (.int i3), .val (.int i4), .val (.int i5), .val (.int prev), .val (.int most), .val (.int bef), .val (.int bcp), .val (.int nn), .val (.int cnt), .val (.ref b1), .unset, .unset, .unset] [(.int (i5 &&& (1 : Int32)))])) t → Steps p.tables e below (s₁.setTop (entryFrame m #[(.int i0), (.int i1), (.int i2), (.int i3), (.int i4), (.int i5)] maxLocals)) t := fun t kk => pre1 t (by
      show Steps p.tables e below (T34.setTop (mkF m 85 #[.val (.int i0), .val (.int i1), .val (.int i2), .val (.int i3), .val (.int i4), .val (.int i5), .val (.int prev), .val (.int most), .val (.int bef), .val (.int bcp), .val (.int nn), .val (.int cnt), .val (.ref b1), .unset, .unset, .unset] [(.int (1 : Int32)), (.int bef)])) _
      refine XS.icmpYes X34.here hx rfl (pc0 := 85) (pc' := 96) rfl (hb hby at_85) rfl (tlt hs0).1 (by decide) (by decide) ?_
      show Steps p.tables e below (T34.setTop (mkF m 96 #[.val (.int i0), .val (.int i1), .val (.int i2), .val (.int i3), .val (.int i4), .val (.int i5), .val (.int prev), .val (.int most), .val (.int bef), .val (.int bcp), .val (.int nn), .val (.int cnt), .val (.ref b1), .unset, .unset, .unset] [])) _
      refine XS.iload X34.here hx rfl (hb hby at_96) rfl ?_
      show Steps p.tables e below (T34.setTop (mkF m 98 #[.val (.int i0), .val (.int i1), .val (.int i2), .val (.int i3), .val (.int i4), .val (.int i5), .val (.int prev), .val (.int most), .val (.int bef), .val (.int bcp), .val (.int nn), .val (.int cnt), .val (.ref b1), .unset, .unset, .unset] [(.int i5)])) _
      refine XS.iconst X34.here hx rfl (hb hby at_98) ?_
      show Steps p.tables e below (T34.setTop (mkF m 99 #[.val (.int i0), .val (.int i1), .val (.int i2), .val (.int i3), .val (.int i4), .val (.int i5), .val (.int prev), .val (.int most), .val (.int bef), .val (.int bcp), .val (.int nn), .val (.int cnt), .val (.ref b1), .unset, .unset, .unset] [(.int (1 : Int32)), (.int i5)])) _
      refine XS.iand X34.here hx rfl (hb hby at_99) rfl ?_
      show Steps p.tables e below (T34.setTop (mkF m 100 #[.val (.int i0), .val (.int i1), .val (.int i2), .val (.int i3), .val (.int i4), .val (.int i5), .val (.int prev), .val (.int most), .val (.int bef), .val (.int bcp), .val (.int nn), .val (.int cnt), .val (.ref b1), .unset, .unset, .unset] [(.int (i5 &&& (1 : Int32)))])) _
      exact kk)
    rcases own_bit i5 with he1 | he1
    · obtain ⟨cq36, kq36, q36a, q36b, q36c⟩ := isOf hZ rfl f34_0
      obtain ⟨_, _, ⟨T36, L36, k36, n36⟩, -, X36, ⟨Lc36, hQ36, l36, y36, z36⟩, st36⟩ := X34.virtualBack hx (y := (⟨"stavelog/wire/History", "start", "(I)V"⟩ : MethodName)) (z := (⟨"stavelog/wire/History", "start", "(I)V"⟩ : MethodName)) hown (mvT hZ (own_w28 hw)) (mvT hZ (own_w29 hw)) (notFace_of_selects (args := #[]) (mvT hZ (own_w31 hw))) (mvT hZ (own_w31 hw)) (mvT hZ (own_w30 hw)) (by decide) (backOf (W := 0) (rm5_6 l Z a0 hw [] b1 most prev bef b3 T34.heap n0 (Nat.le_trans Z0 KC35.1) f34_0 f34_7 g_b1 f34_10 f34_8 f34_3 f34_4 f34_9 f34_5 f34_6 f34_2 f34_1) hZ (own_w32 hw) (own_w4 hw) (by decide) (by decide)) q36a q36c (g := (mkF m 112 #[.val (.int i0), .val (.int i1), .val (.int i2), .val (.int i3), .val (.int i4), .val (.int i5), .val (.int prev), .val (.int most), .val (.int bef), .val (.int bcp), .val (.int nn), .val (.int cnt), .val (.ref b1), .unset, .unset, .unset] [(.int most), (.ref b1)])) rfl (by rw [hml]; rfl) (Steps.refl _) (argsL := [(.int most)]) (rest := []) (lenOf pd__I_V rfl) rfl (by show 2 * 0 + _ ≤ _; exact Nat.le_of_eq rfl) (hb hby at_112) (fun _ _ => ⟨rfl, rfl, (by decide : 2 + 0 ≤ _), (by decide : 19 + 0 ≤ _)⟩)
      dsimp only [Pt.U, Pt.locs, Pt.cells, Pt.slots] at X36 l36 y36 z36 st36 hQ36
      subst l36 y36 z36
      obtain ⟨rfl, N36q, K36, f36_0, f36_1, f36_2, f36_3, f36_4, f36_5, f36_6, f36_7, f36_8, f36_9, f36_10⟩ := hQ36
      have N36 := Fr.app N34 N36q
      have KC37 : Keep h0 T36.heap [] := KC35.trans K36 (allS (Or.inr sz0_b1) all0)
      obtain ⟨cq38, kq38, q38a, q38b, q38c⟩ := isOf hZ rfl f36_0
      obtain ⟨_, _, ⟨T38, L38, k38, n38⟩, -, X38, ⟨Lc38, hQ38, l38, y38, z38⟩, st38⟩ := X36.virtualBack hx (y := (⟨"stavelog/wire/History", "written", "()J"⟩ : MethodName)) (z := (⟨"stavelog/wire/History", "written", "()J"⟩ : MethodName)) hown (mvT hZ (own_w75 hw)) (mvT hZ (own_w71 hw)) (notFace_of_selects (args := #[]) (mvT hZ (own_w73 hw))) (mvT hZ (own_w73 hw)) (mvT hZ (own_w72 hw)) (by decide) (backOf (W := 0) (rm10_7 l Z a0 hw [] b1 T36.heap n0 (Nat.le_trans Z0 KC37.1) f36_2 f36_4 f36_5) hZ (own_w74 hw) (own_w4 hw) (by decide) (by decide)) q38a q38c (g := (mkF m 117 #[.val (.int i0), .val (.int i1), .val (.int i2), .val (.int i3), .val (.int i4), .val (.int i5), .val (.int prev), .val (.int most), .val (.int bef), .val (.int bcp), .val (.int nn), .val (.int cnt), .val (.ref b1), .unset, .unset, .unset] [(.ref b1)])) rfl (by rw [hml]; rfl) (Steps.refl _) (argsL := []) (rest := []) (lenOf pd___J rfl) rfl (by show 2 * 0 + _ ≤ _; exact Nat.le_of_eq rfl) (hb hby at_117) (fun _ _ => ⟨rfl, rfl, (by decide : 2 + 0 ≤ _), (by decide : 19 + 0 ≤ _)⟩)
      dsimp only [Pt.U, Pt.locs, Pt.cells, Pt.slots] at X38 l38 y38 z38 st38 hQ38
      subst l38 y38 z38
      obtain ⟨rfl, N38q, e38⟩ := hQ38
      have N38 := Fr.app N36 N38q
      obtain ⟨cq39, kq39, q39a, q39b, q39c⟩ := isOf hZ e38 f36_0
      obtain ⟨_, _, ⟨T39, L39, k39, n39⟩, -, X39, ⟨Lc39, hQ39, l39, y39, z39⟩, st39⟩ := X38.virtualBack hx (y := (⟨"stavelog/wire/History", "literals", "(Ljava/nio/ByteBuffer;II)V"⟩ : MethodName)) (z := (⟨"stavelog/wire/History", "literals", "(Ljava/nio/ByteBuffer;II)V"⟩ : MethodName)) hown (mvT hZ (own_w45 hw)) (mvT hZ (own_w46 hw)) (notFace_of_selects (args := #[]) (mvT hZ (own_w48 hw))) (mvT hZ (own_w48 hw)) (mvT hZ (own_w47 hw)) (by decide) (backOf (W := 0) (rm6_5 l Z a0 hw [] b1 nn b3 most T36.heap n0 (Nat.le_trans Z0 KC37.1) f36_0 f36_10 g_b1 f36_9 f36_4 f36_5 f36_7 f36_8 f36_1 f36_3 f36_6 f36_2) hZ (own_w49 hw) (own_w4 hw) (by decide) (by decide)) q39a q39c (g := (mkF m 138 #[.val (.int i0), .val (.int i1), .val (.int i2), .val (.int i3), .val (.int i4), .val (.int i5), .val (.int prev), .val (.int most), .val (.int bef), .val (.int bcp), .val (.int nn), .val (.int cnt), .val (.ref b1), .val (.int (1 : Int32)), .unset, .unset] [(.int nn), (.int (0 : Int32)), .null, (.ref b1)])) rfl (by rw [hml]; rfl) (Steps.refl _) (argsL := [.null, (.int (0 : Int32)), (.int nn)]) (rest := []) (lenOf pd__Ljava_nio_ByteBuffer_II_V rfl) rfl (by show 2 * 0 + _ ≤ _; exact Nat.le_of_eq rfl) (hb hby at_138) (fun _ _ => ⟨rfl, e38, (by decide : 2 + 0 ≤ _), (by decide : 19 + 0 ≤ _)⟩)
      dsimp only [Pt.U, Pt.locs, Pt.cells, Pt.slots] at X39 l39 y39 z39 st39 hQ39
      subst l39 y39 z39
      obtain ⟨rfl, N39q, K39, f39_0, f39_1, f39_2, f39_3, f39_4, f39_5, f39_6, f39_7, f39_8, f39_9, f39_10⟩ := hQ39
      have N39 := Fr.app N38 N39q
      have KC40 : Keep h0 T39.heap [] := KC37.trans K39 (allS (Or.inr sz0_b1) all0)
      obtain ⟨cq41, kq41, q41a, q41b, q41c⟩ := isOf hZ rfl f39_0
      obtain ⟨_, _, ⟨T41, L41, k41, n41⟩, -, X41, ⟨Lc41, hQ41, l41, y41, z41⟩, st41⟩ := X39.virtualBack hx (y := (⟨"stavelog/wire/History", "written", "()J"⟩ : MethodName)) (z := (⟨"stavelog/wire/History", "written", "()J"⟩ : MethodName)) hown (mvT hZ (own_w75 hw)) (mvT hZ (own_w71 hw)) (notFace_of_selects (args := #[]) (mvT hZ (own_w73 hw))) (mvT hZ (own_w73 hw)) (mvT hZ (own_w72 hw)) (by decide) (backOf (W := 0) (rm10_8 l Z a0 hw [] b1 nn T39.heap n0 (Nat.le_trans Z0 KC40.1) f39_10 f39_3 f39_4) hZ (own_w74 hw) (own_w4 hw) (by decide) (by decide)) q41a q41c (g := (mkF m 148 #[.val (.int i0), .val (.int i1), .val (.int i2), .val (.int i3), .val (.int i4), .val (.int i5), .val (.int prev), .val (.int most), .val (.int bef), .val (.int bcp), .val (.int nn), .val (.int cnt), .val (.ref b1), .val (.int (1 : Int32)), .unset, .unset] [(.ref b1)])) rfl (by rw [hml]; rfl) (Steps.refl _) (argsL := []) (rest := []) (lenOf pd___J rfl) rfl (by show 2 * 0 + _ ≤ _; exact Nat.le_of_eq rfl) (hb hby at_148) (fun _ _ => ⟨rfl, rfl, (by decide : 2 + 0 ≤ _), (by decide : 19 + 0 ≤ _)⟩)
      dsimp only [Pt.U, Pt.locs, Pt.cells, Pt.slots] at X41 l41 y41 z41 st41 hQ41
      subst l41 y41 z41
      obtain ⟨rfl, N41q, e41⟩ := hQ41
      have N41 := Fr.app N39 N41q
      have pre3 : ∀ t, Steps p.tables e below (T41.setTop (mkF m 168 #[.val (.int i0), .val (.int i1), .val (.int i2), .val (.int i3), .val (.int i4), .val (.int i5), .val (.int prev), .val (.int most), .val (.int bef), .val (.int bcp), .val (.int nn), .val (.int cnt), .val (.ref b1), .val (.int (1 : Int32)), .unset, .unset] [(.int (1 : Int32)), (.int nn)])) t → Steps p.tables e below (s₁.setTop (entryFrame m #[(.int i0), (.int i1), (.int i2), (.int i3), (.int i4), (.int i5)] maxLocals)) t := fun t kk => pre2 t (by
        show Steps p.tables e below (T34.setTop (mkF m 100 #[.val (.int i0), .val (.int i1), .val (.int i2), .val (.int i3), .val (.int i4), .val (.int i5), .val (.int prev), .val (.int most), .val (.int bef), .val (.int bcp), .val (.int nn), .val (.int cnt), .val (.ref b1), .unset, .unset, .unset] [(.int (i5 &&& (1 : Int32)))])) _
        rw [he1]
        show Steps p.tables e below (T34.setTop (mkF m 100 #[.val (.int i0), .val (.int i1), .val (.int i2), .val (.int i3), .val (.int i4), .val (.int i5), .val (.int prev), .val (.int most), .val (.int bef), .val (.int bcp), .val (.int nn), .val (.int cnt), .val (.ref b1), .unset, .unset, .unset] [(.int (0 : Int32))])) _
        refine XS.ifYes X34.here hx rfl (pc0 := 100) (pc' := 108) rfl (hb hby at_100) rfl ((if0 _ _).trans (teq (by decide : (0 : Int32) = (0 : Int32))).1) (by decide) (by decide) ?_
        show Steps p.tables e below (T34.setTop (mkF m 108 #[.val (.int i0), .val (.int i1), .val (.int i2), .val (.int i3), .val (.int i4), .val (.int i5), .val (.int prev), .val (.int most), .val (.int bef), .val (.int bcp), .val (.int nn), .val (.int cnt), .val (.ref b1), .unset, .unset, .unset] [])) _
        refine XS.aload X34.here hx rfl (hb hby at_108) rfl rfl ?_
        show Steps p.tables e below (T34.setTop (mkF m 110 #[.val (.int i0), .val (.int i1), .val (.int i2), .val (.int i3), .val (.int i4), .val (.int i5), .val (.int prev), .val (.int most), .val (.int bef), .val (.int bcp), .val (.int nn), .val (.int cnt), .val (.ref b1), .unset, .unset, .unset] [(.ref b1)])) _
        refine XS.iload X34.here hx rfl (hb hby at_110) rfl ?_
        show Steps p.tables e below (T34.setTop (mkF m 112 #[.val (.int i0), .val (.int i1), .val (.int i2), .val (.int i3), .val (.int i4), .val (.int i5), .val (.int prev), .val (.int most), .val (.int bef), .val (.int bcp), .val (.int nn), .val (.int cnt), .val (.ref b1), .unset, .unset, .unset] [(.int most), (.ref b1)])) _
        refine st36.trans ?_
        show Steps p.tables e below (T36.setTop (mkF m 115 #[.val (.int i0), .val (.int i1), .val (.int i2), .val (.int i3), .val (.int i4), .val (.int i5), .val (.int prev), .val (.int most), .val (.int bef), .val (.int bcp), .val (.int nn), .val (.int cnt), .val (.ref b1), .unset, .unset, .unset] [])) _
        refine XS.aload X36.here hx rfl (hb hby at_115) rfl rfl ?_
        show Steps p.tables e below (T36.setTop (mkF m 117 #[.val (.int i0), .val (.int i1), .val (.int i2), .val (.int i3), .val (.int i4), .val (.int i5), .val (.int prev), .val (.int most), .val (.int bef), .val (.int bcp), .val (.int nn), .val (.int cnt), .val (.ref b1), .unset, .unset, .unset] [(.ref b1)])) _
        refine st38.trans ?_
        show Steps p.tables e below (T38.setTop (mkF m 120 #[.val (.int i0), .val (.int i1), .val (.int i2), .val (.int i3), .val (.int i4), .val (.int i5), .val (.int prev), .val (.int most), .val (.int bef), .val (.int bcp), .val (.int nn), .val (.int cnt), .val (.ref b1), .unset, .unset, .unset] [(.long (0 : Int64))])) _
        refine XS.lconst X38.here hx rfl (hb hby at_120) ?_
        show Steps p.tables e below (T38.setTop (mkF m 121 #[.val (.int i0), .val (.int i1), .val (.int i2), .val (.int i3), .val (.int i4), .val (.int i5), .val (.int prev), .val (.int most), .val (.int bef), .val (.int bcp), .val (.int nn), .val (.int cnt), .val (.ref b1), .unset, .unset, .unset] [(.long (0 : Int64)), (.long (0 : Int64))])) _
        refine XS.lcmp X38.here hx rfl (hb hby at_121) rfl ?_
        show Steps p.tables e below (T38.setTop (mkF m 122 #[.val (.int i0), .val (.int i1), .val (.int i2), .val (.int i3), .val (.int i4), .val (.int i5), .val (.int prev), .val (.int most), .val (.int bef), .val (.int bcp), .val (.int nn), .val (.int cnt), .val (.ref b1), .unset, .unset, .unset] [(.int (lcmpW (0 : Int64) (0 : Int64)))])) _
        rw [(by decide : (lcmpW (0 : Int64) (0 : Int64)) = (0 : Int32))]
        show Steps p.tables e below (T38.setTop (mkF m 122 #[.val (.int i0), .val (.int i1), .val (.int i2), .val (.int i3), .val (.int i4), .val (.int i5), .val (.int prev), .val (.int most), .val (.int bef), .val (.int bcp), .val (.int nn), .val (.int cnt), .val (.ref b1), .unset, .unset, .unset] [(.int (0 : Int32))])) _
        refine XS.ifNo X38.here hx rfl (hb hby at_122) rfl ((if0 _ _).trans (teq (by decide : (0 : Int32) = (0 : Int32))).2) ?_
        show Steps p.tables e below (T38.setTop (mkF m 125 #[.val (.int i0), .val (.int i1), .val (.int i2), .val (.int i3), .val (.int i4), .val (.int i5), .val (.int prev), .val (.int most), .val (.int bef), .val (.int bcp), .val (.int nn), .val (.int cnt), .val (.ref b1), .unset, .unset, .unset] [])) _
        refine XS.iconst X38.here hx rfl (hb hby at_125) ?_
        show Steps p.tables e below (T38.setTop (mkF m 126 #[.val (.int i0), .val (.int i1), .val (.int i2), .val (.int i3), .val (.int i4), .val (.int i5), .val (.int prev), .val (.int most), .val (.int bef), .val (.int bcp), .val (.int nn), .val (.int cnt), .val (.ref b1), .unset, .unset, .unset] [(.int (1 : Int32))])) _
        refine XS.goto X38.here hx rfl (pc0 := 126) (pc' := 130) rfl (hb hby at_126) (by decide) (by decide) ?_
        show Steps p.tables e below (T38.setTop (mkF m 130 #[.val (.int i0), .val (.int i1), .val (.int i2), .val (.int i3), .val (.int i4), .val (.int i5), .val (.int prev), .val (.int most), .val (.int bef), .val (.int bcp), .val (.int nn), .val (.int cnt), .val (.ref b1), .unset, .unset, .unset] [(.int (1 : Int32))])) _
        refine XS.istore X38.here hx rfl (hb hby at_130) rfl (l' := #[.val (.int i0), .val (.int i1), .val (.int i2), .val (.int i3), .val (.int i4), .val (.int i5), .val (.int prev), .val (.int most), .val (.int bef), .val (.int bcp), .val (.int nn), .val (.int cnt), .val (.ref b1), .val (.int (1 : Int32)), .unset, .unset]) rfl ?_
        show Steps p.tables e below (T38.setTop (mkF m 132 #[.val (.int i0), .val (.int i1), .val (.int i2), .val (.int i3), .val (.int i4), .val (.int i5), .val (.int prev), .val (.int most), .val (.int bef), .val (.int bcp), .val (.int nn), .val (.int cnt), .val (.ref b1), .val (.int (1 : Int32)), .unset, .unset] [])) _
        refine XS.aload X38.here hx rfl (hb hby at_132) rfl rfl ?_
        show Steps p.tables e below (T38.setTop (mkF m 134 #[.val (.int i0), .val (.int i1), .val (.int i2), .val (.int i3), .val (.int i4), .val (.int i5), .val (.int prev), .val (.int most), .val (.int bef), .val (.int bcp), .val (.int nn), .val (.int cnt), .val (.ref b1), .val (.int (1 : Int32)), .unset, .unset] [(.ref b1)])) _
        refine XS.aconstNull X38.here hx rfl (hb hby at_134) ?_
        show Steps p.tables e below (T38.setTop (mkF m 135 #[.val (.int i0), .val (.int i1), .val (.int i2), .val (.int i3), .val (.int i4), .val (.int i5), .val (.int prev), .val (.int most), .val (.int bef), .val (.int bcp), .val (.int nn), .val (.int cnt), .val (.ref b1), .val (.int (1 : Int32)), .unset, .unset] [.null, (.ref b1)])) _
        refine XS.iconst X38.here hx rfl (hb hby at_135) ?_
        show Steps p.tables e below (T38.setTop (mkF m 136 #[.val (.int i0), .val (.int i1), .val (.int i2), .val (.int i3), .val (.int i4), .val (.int i5), .val (.int prev), .val (.int most), .val (.int bef), .val (.int bcp), .val (.int nn), .val (.int cnt), .val (.ref b1), .val (.int (1 : Int32)), .unset, .unset] [(.int (0 : Int32)), .null, (.ref b1)])) _
        refine XS.iload X38.here hx rfl (hb hby at_136) rfl ?_
        show Steps p.tables e below (T38.setTop (mkF m 138 #[.val (.int i0), .val (.int i1), .val (.int i2), .val (.int i3), .val (.int i4), .val (.int i5), .val (.int prev), .val (.int most), .val (.int bef), .val (.int bcp), .val (.int nn), .val (.int cnt), .val (.ref b1), .val (.int (1 : Int32)), .unset, .unset] [(.int nn), (.int (0 : Int32)), .null, (.ref b1)])) _
        refine st39.trans ?_
        show Steps p.tables e below (T39.setTop (mkF m 141 #[.val (.int i0), .val (.int i1), .val (.int i2), .val (.int i3), .val (.int i4), .val (.int i5), .val (.int prev), .val (.int most), .val (.int bef), .val (.int bcp), .val (.int nn), .val (.int cnt), .val (.ref b1), .val (.int (1 : Int32)), .unset, .unset] [])) _
        refine XS.iload X39.here hx rfl (hb hby at_141) rfl ?_
        show Steps p.tables e below (T39.setTop (mkF m 143 #[.val (.int i0), .val (.int i1), .val (.int i2), .val (.int i3), .val (.int i4), .val (.int i5), .val (.int prev), .val (.int most), .val (.int bef), .val (.int bcp), .val (.int nn), .val (.int cnt), .val (.ref b1), .val (.int (1 : Int32)), .unset, .unset] [(.int (1 : Int32))])) _
        refine XS.ifNo X39.here hx rfl (hb hby at_143) rfl ((if0 _ _).trans (feq (by decide : ¬ ((1 : Int32) = (0 : Int32)))).1) ?_
        show Steps p.tables e below (T39.setTop (mkF m 146 #[.val (.int i0), .val (.int i1), .val (.int i2), .val (.int i3), .val (.int i4), .val (.int i5), .val (.int prev), .val (.int most), .val (.int bef), .val (.int bcp), .val (.int nn), .val (.int cnt), .val (.ref b1), .val (.int (1 : Int32)), .unset, .unset] [])) _
        refine XS.aload X39.here hx rfl (hb hby at_146) rfl rfl ?_
        show Steps p.tables e below (T39.setTop (mkF m 148 #[.val (.int i0), .val (.int i1), .val (.int i2), .val (.int i3), .val (.int i4), .val (.int i5), .val (.int prev), .val (.int most), .val (.int bef), .val (.int bcp), .val (.int nn), .val (.int cnt), .val (.ref b1), .val (.int (1 : Int32)), .unset, .unset] [(.ref b1)])) _
        refine st41.trans ?_
        show Steps p.tables e below (T41.setTop (mkF m 151 #[.val (.int i0), .val (.int i1), .val (.int i2), .val (.int i3), .val (.int i4), .val (.int i5), .val (.int prev), .val (.int most), .val (.int bef), .val (.int bcp), .val (.int nn), .val (.int cnt), .val (.ref b1), .val (.int (1 : Int32)), .unset, .unset] [(.long (nn.toInt64))])) _
        refine XS.iload X41.here hx rfl (hb hby at_151) rfl ?_
        show Steps p.tables e below (T41.setTop (mkF m 153 #[.val (.int i0), .val (.int i1), .val (.int i2), .val (.int i3), .val (.int i4), .val (.int i5), .val (.int prev), .val (.int most), .val (.int bef), .val (.int bcp), .val (.int nn), .val (.int cnt), .val (.ref b1), .val (.int (1 : Int32)), .unset, .unset] [(.int nn), (.long (nn.toInt64))])) _
        refine XS.i2l X41.here hx rfl (hb hby at_153) rfl ?_
        show Steps p.tables e below (T41.setTop (mkF m 154 #[.val (.int i0), .val (.int i1), .val (.int i2), .val (.int i3), .val (.int i4), .val (.int i5), .val (.int prev), .val (.int most), .val (.int bef), .val (.int bcp), .val (.int nn), .val (.int cnt), .val (.ref b1), .val (.int (1 : Int32)), .unset, .unset] [(.long (nn.toInt64)), (.long (nn.toInt64))])) _
        refine XS.lcmp X41.here hx rfl (hb hby at_154) rfl ?_
        show Steps p.tables e below (T41.setTop (mkF m 155 #[.val (.int i0), .val (.int i1), .val (.int i2), .val (.int i3), .val (.int i4), .val (.int i5), .val (.int prev), .val (.int most), .val (.int bef), .val (.int bcp), .val (.int nn), .val (.int cnt), .val (.ref b1), .val (.int (1 : Int32)), .unset, .unset] [(.int (lcmpW (nn.toInt64) (nn.toInt64)))])) _
        rw [own_cmp_self]
        show Steps p.tables e below (T41.setTop (mkF m 155 #[.val (.int i0), .val (.int i1), .val (.int i2), .val (.int i3), .val (.int i4), .val (.int i5), .val (.int prev), .val (.int most), .val (.int bef), .val (.int bcp), .val (.int nn), .val (.int cnt), .val (.ref b1), .val (.int (1 : Int32)), .unset, .unset] [(.int (0 : Int32))])) _
        refine XS.ifNo X41.here hx rfl (hb hby at_155) rfl ((if0 _ _).trans (teq (by decide : (0 : Int32) = (0 : Int32))).2) ?_
        show Steps p.tables e below (T41.setTop (mkF m 158 #[.val (.int i0), .val (.int i1), .val (.int i2), .val (.int i3), .val (.int i4), .val (.int i5), .val (.int prev), .val (.int most), .val (.int bef), .val (.int bcp), .val (.int nn), .val (.int cnt), .val (.ref b1), .val (.int (1 : Int32)), .unset, .unset] [])) _
        refine XS.iconst X41.here hx rfl (hb hby at_158) ?_
        show Steps p.tables e below (T41.setTop (mkF m 159 #[.val (.int i0), .val (.int i1), .val (.int i2), .val (.int i3), .val (.int i4), .val (.int i5), .val (.int prev), .val (.int most), .val (.int bef), .val (.int bcp), .val (.int nn), .val (.int cnt), .val (.ref b1), .val (.int (1 : Int32)), .unset, .unset] [(.int (1 : Int32))])) _
        refine XS.goto X41.here hx rfl (pc0 := 159) (pc' := 163) rfl (hb hby at_159) (by decide) (by decide) ?_
        show Steps p.tables e below (T41.setTop (mkF m 163 #[.val (.int i0), .val (.int i1), .val (.int i2), .val (.int i3), .val (.int i4), .val (.int i5), .val (.int prev), .val (.int most), .val (.int bef), .val (.int bcp), .val (.int nn), .val (.int cnt), .val (.ref b1), .val (.int (1 : Int32)), .unset, .unset] [(.int (1 : Int32))])) _
        refine XS.istore X41.here hx rfl (hb hby at_163) rfl (l' := #[.val (.int i0), .val (.int i1), .val (.int i2), .val (.int i3), .val (.int i4), .val (.int i5), .val (.int prev), .val (.int most), .val (.int bef), .val (.int bcp), .val (.int nn), .val (.int cnt), .val (.ref b1), .val (.int (1 : Int32)), .unset, .unset]) rfl ?_
        show Steps p.tables e below (T41.setTop (mkF m 165 #[.val (.int i0), .val (.int i1), .val (.int i2), .val (.int i3), .val (.int i4), .val (.int i5), .val (.int prev), .val (.int most), .val (.int bef), .val (.int bcp), .val (.int nn), .val (.int cnt), .val (.ref b1), .val (.int (1 : Int32)), .unset, .unset] [])) _
        refine XS.iload X41.here hx rfl (hb hby at_165) rfl ?_
        show Steps p.tables e below (T41.setTop (mkF m 167 #[.val (.int i0), .val (.int i1), .val (.int i2), .val (.int i3), .val (.int i4), .val (.int i5), .val (.int prev), .val (.int most), .val (.int bef), .val (.int bcp), .val (.int nn), .val (.int cnt), .val (.ref b1), .val (.int (1 : Int32)), .unset, .unset] [(.int nn)])) _
        refine XS.iconst X41.here hx rfl (hb hby at_167) ?_
        show Steps p.tables e below (T41.setTop (mkF m 168 #[.val (.int i0), .val (.int i1), .val (.int i2), .val (.int i3), .val (.int i4), .val (.int i5), .val (.int prev), .val (.int most), .val (.int bef), .val (.int bcp), .val (.int nn), .val (.int cnt), .val (.ref b1), .val (.int (1 : Int32)), .unset, .unset] [(.int (1 : Int32)), (.int nn)])) _
        exact kk)
      by_cases hs2 : nn < (1 : Int32)
      · obtain ⟨fs, hr, hrun, hended, hW, hsame⟩ := X41.leave (v := some (.int (1 : Int32))) (fun h => by rw [Bd.returns] at h; cases h)
        refine ⟨_, _, pre3 _ ?_, hrun, hended, _, _, rfl, ⟨rfl, N41⟩, ⟨_, rfl⟩, hW, hsame.mono (by decide) (by decide)⟩
        show Steps p.tables e below (T41.setTop (mkF m 168 #[.val (.int i0), .val (.int i1), .val (.int i2), .val (.int i3), .val (.int i4), .val (.int i5), .val (.int prev), .val (.int most), .val (.int bef), .val (.int bcp), .val (.int nn), .val (.int cnt), .val (.ref b1), .val (.int (1 : Int32)), .unset, .unset] [(.int (1 : Int32)), (.int nn)])) _
        refine XS.icmpYes X41.here hx rfl (pc0 := 168) (pc' := 219) rfl (hb hby at_168) rfl (tlt hs2).1 (by decide) (by decide) ?_
        show Steps p.tables e below (T41.setTop (mkF m 219 #[.val (.int i0), .val (.int i1), .val (.int i2), .val (.int i3), .val (.int i4), .val (.int i5), .val (.int prev), .val (.int most), .val (.int bef), .val (.int bcp), .val (.int nn), .val (.int cnt), .val (.ref b1), .val (.int (1 : Int32)), .unset, .unset] [])) _
        refine XS.iload X41.here hx rfl (hb hby at_219) rfl ?_
        show Steps p.tables e below (T41.setTop (mkF m 221 #[.val (.int i0), .val (.int i1), .val (.int i2), .val (.int i3), .val (.int i4), .val (.int i5), .val (.int prev), .val (.int most), .val (.int bef), .val (.int bcp), .val (.int nn), .val (.int cnt), .val (.ref b1), .val (.int (1 : Int32)), .unset, .unset] [(.int (1 : Int32))])) _
        exact retN X41 hx (t := .boolean) Bd.returns (by simp) (hb hby at_221) hr
      · have pre4 : ∀ t, Steps p.tables e below (T41.setTop (mkF m 177 #[.val (.int i0), .val (.int i1), .val (.int i2), .val (.int i3), .val (.int i4), .val (.int i5), .val (.int prev), .val (.int most), .val (.int bef), .val (.int bcp), .val (.int nn), .val (.int cnt), .val (.ref b1), .val (.int (1 : Int32)), .unset, .unset] [(.long (most.toInt64)), (.long (nn.toInt64))])) t → Steps p.tables e below (s₁.setTop (entryFrame m #[(.int i0), (.int i1), (.int i2), (.int i3), (.int i4), (.int i5)] maxLocals)) t := fun t kk => pre3 t (by
          show Steps p.tables e below (T41.setTop (mkF m 168 #[.val (.int i0), .val (.int i1), .val (.int i2), .val (.int i3), .val (.int i4), .val (.int i5), .val (.int prev), .val (.int most), .val (.int bef), .val (.int bcp), .val (.int nn), .val (.int cnt), .val (.ref b1), .val (.int (1 : Int32)), .unset, .unset] [(.int (1 : Int32)), (.int nn)])) _
          refine XS.icmpNo X41.here hx rfl (hb hby at_168) rfl (flt hs2).1 ?_
          show Steps p.tables e below (T41.setTop (mkF m 171 #[.val (.int i0), .val (.int i1), .val (.int i2), .val (.int i3), .val (.int i4), .val (.int i5), .val (.int prev), .val (.int most), .val (.int bef), .val (.int bcp), .val (.int nn), .val (.int cnt), .val (.ref b1), .val (.int (1 : Int32)), .unset, .unset] [])) _
          refine XS.iload X41.here hx rfl (hb hby at_171) rfl ?_
          show Steps p.tables e below (T41.setTop (mkF m 173 #[.val (.int i0), .val (.int i1), .val (.int i2), .val (.int i3), .val (.int i4), .val (.int i5), .val (.int prev), .val (.int most), .val (.int bef), .val (.int bcp), .val (.int nn), .val (.int cnt), .val (.ref b1), .val (.int (1 : Int32)), .unset, .unset] [(.int nn)])) _
          refine XS.i2l X41.here hx rfl (hb hby at_173) rfl ?_
          show Steps p.tables e below (T41.setTop (mkF m 174 #[.val (.int i0), .val (.int i1), .val (.int i2), .val (.int i3), .val (.int i4), .val (.int i5), .val (.int prev), .val (.int most), .val (.int bef), .val (.int bcp), .val (.int nn), .val (.int cnt), .val (.ref b1), .val (.int (1 : Int32)), .unset, .unset] [(.long (nn.toInt64))])) _
          refine XS.iload X41.here hx rfl (hb hby at_174) rfl ?_
          show Steps p.tables e below (T41.setTop (mkF m 176 #[.val (.int i0), .val (.int i1), .val (.int i2), .val (.int i3), .val (.int i4), .val (.int i5), .val (.int prev), .val (.int most), .val (.int bef), .val (.int bcp), .val (.int nn), .val (.int cnt), .val (.ref b1), .val (.int (1 : Int32)), .unset, .unset] [(.int most), (.long (nn.toInt64))])) _
          refine XS.i2l X41.here hx rfl (hb hby at_176) rfl ?_
          show Steps p.tables e below (T41.setTop (mkF m 177 #[.val (.int i0), .val (.int i1), .val (.int i2), .val (.int i3), .val (.int i4), .val (.int i5), .val (.int prev), .val (.int most), .val (.int bef), .val (.int bcp), .val (.int nn), .val (.int cnt), .val (.ref b1), .val (.int (1 : Int32)), .unset, .unset] [(.long (most.toInt64)), (.long (nn.toInt64))])) _
          exact kk)
        by_cases hs3 : (0 : Int32) < (lcmpW (nn.toInt64) (most.toInt64))
        · obtain ⟨_, _, ⟨T42, L42, k42, n42⟩, -, X42, ⟨Lc42, hQ42, l42, y42, z42⟩, st42⟩ := Jvm.LawKit.callS X41 hx (y := (⟨"java/lang/Math", "min", "(JJ)J"⟩ : MethodName)) hown (mvT hZ (own_w76 hw)) (mvT hZ (own_w60 hw)) (mvT hZ (own_w61 hw)) (mvT hZ (own_w62 hw)) (by decide) (backOf (W := 0) (rm8_9 l Z a0 hw [] (nn.toInt64) (most.toInt64) T39.heap n0 (Nat.le_trans Z0 KC40.1) hs3) hZ (own_w62 hw) (own_w61 hw) (by decide) (by decide)) (g := (mkF m 177 #[.val (.int i0), .val (.int i1), .val (.int i2), .val (.int i3), .val (.int i4), .val (.int i5), .val (.int prev), .val (.int most), .val (.int bef), .val (.int bcp), .val (.int nn), .val (.int cnt), .val (.ref b1), .val (.int (1 : Int32)), .unset, .unset] [(.long (most.toInt64)), (.long (nn.toInt64))])) rfl (by rw [hml]; rfl) (argsL := [(.long (nn.toInt64)), (.long (most.toInt64))]) (rest := []) (lenOf pd__JJ_J rfl) rfl (by show 2 * 0 + _ ≤ _; exact Nat.le_of_eq rfl) (hb hby at_177) (fun _ _ => ⟨rfl, e41, (by decide : 2 + 0 ≤ _), (by decide : 19 + 0 ≤ _)⟩)
          dsimp only [Pt.U, Pt.locs, Pt.cells, Pt.slots] at X42 l42 y42 z42 st42 hQ42
          subst l42 y42 z42
          obtain ⟨rfl, N42q, e42⟩ := hQ42
          have N42 := Fr.app N41 N42q
          obtain ⟨cq43, kq43, q43a, q43b, q43c⟩ := isOf hZ e42 f39_0
          obtain ⟨_, _, ⟨T43, L43, k43, n43⟩, -, X43, ⟨Lc43, hQ43, l43, y43, z43⟩, st43⟩ := X42.virtualBack hx (y := (⟨"stavelog/wire/History", "copy", "(JI)V"⟩ : MethodName)) (z := (⟨"stavelog/wire/History", "copy", "(JI)V"⟩ : MethodName)) hown (mvT hZ (own_w54 hw)) (mvT hZ (own_w55 hw)) (notFace_of_selects (args := #[]) (mvT hZ (own_w57 hw))) (mvT hZ (own_w57 hw)) (mvT hZ (own_w56 hw)) (by decide) (backOf (W := 0) (rm7_10 l Z a0 hw [] b1 (most.toInt64) cnt nn most b3 T39.heap n0 (Nat.le_trans Z0 KC40.1) f39_10 f39_3 f39_8 f39_7 hs3 (own_c2 (by rw [hdef_most]; exact own_pow i3)) (own_cmp_gt _ : ¬ ((0 : Int32) < (lcmpW (most.toInt64) (most.toInt64)))) f39_0 f39_6 g_b1 f39_4 f39_5 f39_2 f39_1 f39_9) hZ (own_w58 hw) (own_w4 hw) (by decide) (by decide)) q43a q43c (g := (mkF m 188 #[.val (.int i0), .val (.int i1), .val (.int i2), .val (.int i3), .val (.int i4), .val (.int i5), .val (.int prev), .val (.int most), .val (.int bef), .val (.int bcp), .val (.int nn), .val (.int cnt), .val (.ref b1), .val (.int (1 : Int32)), .val (.long (most.toInt64)), .second] [(.int cnt), (.long (most.toInt64)), (.ref b1)])) rfl (by rw [hml]; rfl) (Steps.refl _) (argsL := [(.long (most.toInt64)), (.int cnt)]) (rest := []) (lenOf pd__JI_V rfl) rfl (by show 2 * 0 + _ ≤ _; exact Nat.le_of_eq rfl) (hb hby at_188) (fun _ _ => ⟨rfl, e42, (by decide : 2 + 0 ≤ _), (by decide : 19 + 0 ≤ _)⟩)
          dsimp only [Pt.U, Pt.locs, Pt.cells, Pt.slots] at X43 l43 y43 z43 st43 hQ43
          subst l43 y43 z43
          obtain ⟨rfl, N43q, K43, f43_0, f43_1, f43_2, f43_3, f43_4, f43_5, f43_6, f43_7, f43_8, f43_9, f43_10⟩ := hQ43
          have N43 := Fr.app N42 N43q
          have KC44 : Keep h0 T43.heap [] := KC40.trans K43 (allS (Or.inr sz0_b1) all0)
          obtain ⟨cq45, kq45, q45a, q45b, q45c⟩ := isOf hZ rfl f43_4
          obtain ⟨_, _, ⟨T45, L45, k45, n45⟩, -, X45, ⟨Lc45, hQ45, l45, y45, z45⟩, st45⟩ := X43.virtualBack hx (y := (⟨"stavelog/wire/History", "written", "()J"⟩ : MethodName)) (z := (⟨"stavelog/wire/History", "written", "()J"⟩ : MethodName)) hown (mvT hZ (own_w75 hw)) (mvT hZ (own_w71 hw)) (notFace_of_selects (args := #[]) (mvT hZ (own_w73 hw))) (mvT hZ (own_w73 hw)) (mvT hZ (own_w72 hw)) (by decide) (backOf (W := 0) (rm10_11 l Z a0 hw [] b1 nn cnt T43.heap n0 (Nat.le_trans Z0 KC44.1) f43_0 f43_1 f43_6) hZ (own_w74 hw) (own_w4 hw) (by decide) (by decide)) q45a q45c (g := (mkF m 198 #[.val (.int i0), .val (.int i1), .val (.int i2), .val (.int i3), .val (.int i4), .val (.int i5), .val (.int prev), .val (.int most), .val (.int bef), .val (.int bcp), .val (.int nn), .val (.int cnt), .val (.ref b1), .val (.int (1 : Int32)), .val (.long (most.toInt64)), .second] [(.ref b1)])) rfl (by rw [hml]; rfl) (Steps.refl _) (argsL := []) (rest := []) (lenOf pd___J rfl) rfl (by show 2 * 0 + _ ≤ _; exact Nat.le_of_eq rfl) (hb hby at_198) (fun _ _ => ⟨rfl, rfl, (by decide : 2 + 0 ≤ _), (by decide : 19 + 0 ≤ _)⟩)
          dsimp only [Pt.U, Pt.locs, Pt.cells, Pt.slots] at X45 l45 y45 z45 st45 hQ45
          subst l45 y45 z45
          obtain ⟨rfl, N45q, e45⟩ := hQ45
          have N45 := Fr.app N43 N45q
          obtain ⟨fs, hr, hrun, hended, hW, hsame⟩ := X45.leave (v := some (.int (1 : Int32))) (fun h => by rw [Bd.returns] at h; cases h)
          refine ⟨_, _, pre4 _ ?_, hrun, hended, _, _, rfl, ⟨rfl, N45⟩, ⟨_, rfl⟩, hW, hsame.mono (by decide) (by decide)⟩
          show Steps p.tables e below (T41.setTop (mkF m 177 #[.val (.int i0), .val (.int i1), .val (.int i2), .val (.int i3), .val (.int i4), .val (.int i5), .val (.int prev), .val (.int most), .val (.int bef), .val (.int bcp), .val (.int nn), .val (.int cnt), .val (.ref b1), .val (.int (1 : Int32)), .unset, .unset] [(.long (most.toInt64)), (.long (nn.toInt64))])) _
          refine st42 _ ?_
          show Steps p.tables e below (T42.setTop (mkF m 180 #[.val (.int i0), .val (.int i1), .val (.int i2), .val (.int i3), .val (.int i4), .val (.int i5), .val (.int prev), .val (.int most), .val (.int bef), .val (.int bcp), .val (.int nn), .val (.int cnt), .val (.ref b1), .val (.int (1 : Int32)), .unset, .unset] [(.long (most.toInt64))])) _
          refine XS.lstore X42.here hx rfl (hb hby at_180) rfl (l' := #[.val (.int i0), .val (.int i1), .val (.int i2), .val (.int i3), .val (.int i4), .val (.int i5), .val (.int prev), .val (.int most), .val (.int bef), .val (.int bcp), .val (.int nn), .val (.int cnt), .val (.ref b1), .val (.int (1 : Int32)), .val (.long (most.toInt64)), .second]) rfl ?_
          show Steps p.tables e below (T42.setTop (mkF m 182 #[.val (.int i0), .val (.int i1), .val (.int i2), .val (.int i3), .val (.int i4), .val (.int i5), .val (.int prev), .val (.int most), .val (.int bef), .val (.int bcp), .val (.int nn), .val (.int cnt), .val (.ref b1), .val (.int (1 : Int32)), .val (.long (most.toInt64)), .second] [])) _
          refine XS.aload X42.here hx rfl (hb hby at_182) rfl rfl ?_
          show Steps p.tables e below (T42.setTop (mkF m 184 #[.val (.int i0), .val (.int i1), .val (.int i2), .val (.int i3), .val (.int i4), .val (.int i5), .val (.int prev), .val (.int most), .val (.int bef), .val (.int bcp), .val (.int nn), .val (.int cnt), .val (.ref b1), .val (.int (1 : Int32)), .val (.long (most.toInt64)), .second] [(.ref b1)])) _
          refine XS.lload X42.here hx rfl (hb hby at_184) rfl ?_
          show Steps p.tables e below (T42.setTop (mkF m 186 #[.val (.int i0), .val (.int i1), .val (.int i2), .val (.int i3), .val (.int i4), .val (.int i5), .val (.int prev), .val (.int most), .val (.int bef), .val (.int bcp), .val (.int nn), .val (.int cnt), .val (.ref b1), .val (.int (1 : Int32)), .val (.long (most.toInt64)), .second] [(.long (most.toInt64)), (.ref b1)])) _
          refine XS.iload X42.here hx rfl (hb hby at_186) rfl ?_
          show Steps p.tables e below (T42.setTop (mkF m 188 #[.val (.int i0), .val (.int i1), .val (.int i2), .val (.int i3), .val (.int i4), .val (.int i5), .val (.int prev), .val (.int most), .val (.int bef), .val (.int bcp), .val (.int nn), .val (.int cnt), .val (.ref b1), .val (.int (1 : Int32)), .val (.long (most.toInt64)), .second] [(.int cnt), (.long (most.toInt64)), (.ref b1)])) _
          refine st43.trans ?_
          show Steps p.tables e below (T43.setTop (mkF m 191 #[.val (.int i0), .val (.int i1), .val (.int i2), .val (.int i3), .val (.int i4), .val (.int i5), .val (.int prev), .val (.int most), .val (.int bef), .val (.int bcp), .val (.int nn), .val (.int cnt), .val (.ref b1), .val (.int (1 : Int32)), .val (.long (most.toInt64)), .second] [])) _
          refine XS.iload X43.here hx rfl (hb hby at_191) rfl ?_
          show Steps p.tables e below (T43.setTop (mkF m 193 #[.val (.int i0), .val (.int i1), .val (.int i2), .val (.int i3), .val (.int i4), .val (.int i5), .val (.int prev), .val (.int most), .val (.int bef), .val (.int bcp), .val (.int nn), .val (.int cnt), .val (.ref b1), .val (.int (1 : Int32)), .val (.long (most.toInt64)), .second] [(.int (1 : Int32))])) _
          refine XS.ifNo X43.here hx rfl (hb hby at_193) rfl ((if0 _ _).trans (feq (by decide : ¬ ((1 : Int32) = (0 : Int32)))).1) ?_
          show Steps p.tables e below (T43.setTop (mkF m 196 #[.val (.int i0), .val (.int i1), .val (.int i2), .val (.int i3), .val (.int i4), .val (.int i5), .val (.int prev), .val (.int most), .val (.int bef), .val (.int bcp), .val (.int nn), .val (.int cnt), .val (.ref b1), .val (.int (1 : Int32)), .val (.long (most.toInt64)), .second] [])) _
          refine XS.aload X43.here hx rfl (hb hby at_196) rfl rfl ?_
          show Steps p.tables e below (T43.setTop (mkF m 198 #[.val (.int i0), .val (.int i1), .val (.int i2), .val (.int i3), .val (.int i4), .val (.int i5), .val (.int prev), .val (.int most), .val (.int bef), .val (.int bcp), .val (.int nn), .val (.int cnt), .val (.ref b1), .val (.int (1 : Int32)), .val (.long (most.toInt64)), .second] [(.ref b1)])) _
          refine st45.trans ?_
          show Steps p.tables e below (T45.setTop (mkF m 201 #[.val (.int i0), .val (.int i1), .val (.int i2), .val (.int i3), .val (.int i4), .val (.int i5), .val (.int prev), .val (.int most), .val (.int bef), .val (.int bcp), .val (.int nn), .val (.int cnt), .val (.ref b1), .val (.int (1 : Int32)), .val (.long (most.toInt64)), .second] [(.long ((nn.toInt64) + (cnt.toInt64)))])) _
          refine XS.iload X45.here hx rfl (hb hby at_201) rfl ?_
          show Steps p.tables e below (T45.setTop (mkF m 203 #[.val (.int i0), .val (.int i1), .val (.int i2), .val (.int i3), .val (.int i4), .val (.int i5), .val (.int prev), .val (.int most), .val (.int bef), .val (.int bcp), .val (.int nn), .val (.int cnt), .val (.ref b1), .val (.int (1 : Int32)), .val (.long (most.toInt64)), .second] [(.int nn), (.long ((nn.toInt64) + (cnt.toInt64)))])) _
          refine XS.i2l X45.here hx rfl (hb hby at_203) rfl ?_
          show Steps p.tables e below (T45.setTop (mkF m 204 #[.val (.int i0), .val (.int i1), .val (.int i2), .val (.int i3), .val (.int i4), .val (.int i5), .val (.int prev), .val (.int most), .val (.int bef), .val (.int bcp), .val (.int nn), .val (.int cnt), .val (.ref b1), .val (.int (1 : Int32)), .val (.long (most.toInt64)), .second] [(.long (nn.toInt64)), (.long ((nn.toInt64) + (cnt.toInt64)))])) _
          refine XS.iload X45.here hx rfl (hb hby at_204) rfl ?_
          show Steps p.tables e below (T45.setTop (mkF m 206 #[.val (.int i0), .val (.int i1), .val (.int i2), .val (.int i3), .val (.int i4), .val (.int i5), .val (.int prev), .val (.int most), .val (.int bef), .val (.int bcp), .val (.int nn), .val (.int cnt), .val (.ref b1), .val (.int (1 : Int32)), .val (.long (most.toInt64)), .second] [(.int cnt), (.long (nn.toInt64)), (.long ((nn.toInt64) + (cnt.toInt64)))])) _
          refine XS.i2l X45.here hx rfl (hb hby at_206) rfl ?_
          show Steps p.tables e below (T45.setTop (mkF m 207 #[.val (.int i0), .val (.int i1), .val (.int i2), .val (.int i3), .val (.int i4), .val (.int i5), .val (.int prev), .val (.int most), .val (.int bef), .val (.int bcp), .val (.int nn), .val (.int cnt), .val (.ref b1), .val (.int (1 : Int32)), .val (.long (most.toInt64)), .second] [(.long (cnt.toInt64)), (.long (nn.toInt64)), (.long ((nn.toInt64) + (cnt.toInt64)))])) _
          refine XS.ladd X45.here hx rfl (hb hby at_207) rfl ?_
          show Steps p.tables e below (T45.setTop (mkF m 208 #[.val (.int i0), .val (.int i1), .val (.int i2), .val (.int i3), .val (.int i4), .val (.int i5), .val (.int prev), .val (.int most), .val (.int bef), .val (.int bcp), .val (.int nn), .val (.int cnt), .val (.ref b1), .val (.int (1 : Int32)), .val (.long (most.toInt64)), .second] [(.long ((nn.toInt64) + (cnt.toInt64))), (.long ((nn.toInt64) + (cnt.toInt64)))])) _
          refine XS.lcmp X45.here hx rfl (hb hby at_208) rfl ?_
          show Steps p.tables e below (T45.setTop (mkF m 209 #[.val (.int i0), .val (.int i1), .val (.int i2), .val (.int i3), .val (.int i4), .val (.int i5), .val (.int prev), .val (.int most), .val (.int bef), .val (.int bcp), .val (.int nn), .val (.int cnt), .val (.ref b1), .val (.int (1 : Int32)), .val (.long (most.toInt64)), .second] [(.int (lcmpW ((nn.toInt64) + (cnt.toInt64)) ((nn.toInt64) + (cnt.toInt64))))])) _
          rw [own_cmp_self]
          show Steps p.tables e below (T45.setTop (mkF m 209 #[.val (.int i0), .val (.int i1), .val (.int i2), .val (.int i3), .val (.int i4), .val (.int i5), .val (.int prev), .val (.int most), .val (.int bef), .val (.int bcp), .val (.int nn), .val (.int cnt), .val (.ref b1), .val (.int (1 : Int32)), .val (.long (most.toInt64)), .second] [(.int (0 : Int32))])) _
          refine XS.ifNo X45.here hx rfl (hb hby at_209) rfl ((if0 _ _).trans (teq (by decide : (0 : Int32) = (0 : Int32))).2) ?_
          show Steps p.tables e below (T45.setTop (mkF m 212 #[.val (.int i0), .val (.int i1), .val (.int i2), .val (.int i3), .val (.int i4), .val (.int i5), .val (.int prev), .val (.int most), .val (.int bef), .val (.int bcp), .val (.int nn), .val (.int cnt), .val (.ref b1), .val (.int (1 : Int32)), .val (.long (most.toInt64)), .second] [])) _
          refine XS.iconst X45.here hx rfl (hb hby at_212) ?_
          show Steps p.tables e below (T45.setTop (mkF m 213 #[.val (.int i0), .val (.int i1), .val (.int i2), .val (.int i3), .val (.int i4), .val (.int i5), .val (.int prev), .val (.int most), .val (.int bef), .val (.int bcp), .val (.int nn), .val (.int cnt), .val (.ref b1), .val (.int (1 : Int32)), .val (.long (most.toInt64)), .second] [(.int (1 : Int32))])) _
          refine XS.goto X45.here hx rfl (pc0 := 213) (pc' := 217) rfl (hb hby at_213) (by decide) (by decide) ?_
          show Steps p.tables e below (T45.setTop (mkF m 217 #[.val (.int i0), .val (.int i1), .val (.int i2), .val (.int i3), .val (.int i4), .val (.int i5), .val (.int prev), .val (.int most), .val (.int bef), .val (.int bcp), .val (.int nn), .val (.int cnt), .val (.ref b1), .val (.int (1 : Int32)), .val (.long (most.toInt64)), .second] [(.int (1 : Int32))])) _
          refine XS.istore X45.here hx rfl (hb hby at_217) rfl (l' := #[.val (.int i0), .val (.int i1), .val (.int i2), .val (.int i3), .val (.int i4), .val (.int i5), .val (.int prev), .val (.int most), .val (.int bef), .val (.int bcp), .val (.int nn), .val (.int cnt), .val (.ref b1), .val (.int (1 : Int32)), .val (.long (most.toInt64)), .second]) rfl ?_
          show Steps p.tables e below (T45.setTop (mkF m 219 #[.val (.int i0), .val (.int i1), .val (.int i2), .val (.int i3), .val (.int i4), .val (.int i5), .val (.int prev), .val (.int most), .val (.int bef), .val (.int bcp), .val (.int nn), .val (.int cnt), .val (.ref b1), .val (.int (1 : Int32)), .val (.long (most.toInt64)), .second] [])) _
          refine XS.iload X45.here hx rfl (hb hby at_219) rfl ?_
          show Steps p.tables e below (T45.setTop (mkF m 221 #[.val (.int i0), .val (.int i1), .val (.int i2), .val (.int i3), .val (.int i4), .val (.int i5), .val (.int prev), .val (.int most), .val (.int bef), .val (.int bcp), .val (.int nn), .val (.int cnt), .val (.ref b1), .val (.int (1 : Int32)), .val (.long (most.toInt64)), .second] [(.int (1 : Int32))])) _
          exact retN X45 hx (t := .boolean) Bd.returns (by simp) (hb hby at_221) hr
        · obtain ⟨_, _, ⟨T42, L42, k42, n42⟩, -, X42, ⟨Lc42, hQ42, l42, y42, z42⟩, st42⟩ := Jvm.LawKit.callS X41 hx (y := (⟨"java/lang/Math", "min", "(JJ)J"⟩ : MethodName)) hown (mvT hZ (own_w76 hw)) (mvT hZ (own_w60 hw)) (mvT hZ (own_w61 hw)) (mvT hZ (own_w62 hw)) (by decide) (backOf (W := 0) (rm8_12 l Z a0 hw [] (nn.toInt64) (most.toInt64) T39.heap n0 (Nat.le_trans Z0 KC40.1) hs3) hZ (own_w62 hw) (own_w61 hw) (by decide) (by decide)) (g := (mkF m 177 #[.val (.int i0), .val (.int i1), .val (.int i2), .val (.int i3), .val (.int i4), .val (.int i5), .val (.int prev), .val (.int most), .val (.int bef), .val (.int bcp), .val (.int nn), .val (.int cnt), .val (.ref b1), .val (.int (1 : Int32)), .unset, .unset] [(.long (most.toInt64)), (.long (nn.toInt64))])) rfl (by rw [hml]; rfl) (argsL := [(.long (nn.toInt64)), (.long (most.toInt64))]) (rest := []) (lenOf pd__JJ_J rfl) rfl (by show 2 * 0 + _ ≤ _; exact Nat.le_of_eq rfl) (hb hby at_177) (fun _ _ => ⟨rfl, e41, (by decide : 2 + 0 ≤ _), (by decide : 19 + 0 ≤ _)⟩)
          dsimp only [Pt.U, Pt.locs, Pt.cells, Pt.slots] at X42 l42 y42 z42 st42 hQ42
          subst l42 y42 z42
          obtain ⟨rfl, N42q, e42⟩ := hQ42
          have N42 := Fr.app N41 N42q
          obtain ⟨cq43, kq43, q43a, q43b, q43c⟩ := isOf hZ e42 f39_0
          obtain ⟨_, _, ⟨T43, L43, k43, n43⟩, -, X43, ⟨Lc43, hQ43, l43, y43, z43⟩, st43⟩ := X42.virtualBack hx (y := (⟨"stavelog/wire/History", "copy", "(JI)V"⟩ : MethodName)) (z := (⟨"stavelog/wire/History", "copy", "(JI)V"⟩ : MethodName)) hown (mvT hZ (own_w54 hw)) (mvT hZ (own_w55 hw)) (notFace_of_selects (args := #[]) (mvT hZ (own_w57 hw))) (mvT hZ (own_w57 hw)) (mvT hZ (own_w56 hw)) (by decide) (backOf (W := 0) (rm7_13 l Z a0 hw [] b1 (nn.toInt64) cnt nn most b3 T39.heap n0 (Nat.le_trans Z0 KC40.1) f39_10 f39_3 f39_8 f39_7 hs3 (own_c2 (own_ge1 hs2)) (own_cmp_gt _ : ¬ ((0 : Int32) < (lcmpW (nn.toInt64) (nn.toInt64)))) f39_0 f39_6 g_b1 f39_4 f39_5 f39_2 f39_1 f39_9) hZ (own_w58 hw) (own_w4 hw) (by decide) (by decide)) q43a q43c (g := (mkF m 188 #[.val (.int i0), .val (.int i1), .val (.int i2), .val (.int i3), .val (.int i4), .val (.int i5), .val (.int prev), .val (.int most), .val (.int bef), .val (.int bcp), .val (.int nn), .val (.int cnt), .val (.ref b1), .val (.int (1 : Int32)), .val (.long (nn.toInt64)), .second] [(.int cnt), (.long (nn.toInt64)), (.ref b1)])) rfl (by rw [hml]; rfl) (Steps.refl _) (argsL := [(.long (nn.toInt64)), (.int cnt)]) (rest := []) (lenOf pd__JI_V rfl) rfl (by show 2 * 0 + _ ≤ _; exact Nat.le_of_eq rfl) (hb hby at_188) (fun _ _ => ⟨rfl, e42, (by decide : 2 + 0 ≤ _), (by decide : 19 + 0 ≤ _)⟩)
          dsimp only [Pt.U, Pt.locs, Pt.cells, Pt.slots] at X43 l43 y43 z43 st43 hQ43
          subst l43 y43 z43
          obtain ⟨rfl, N43q, K43, f43_0, f43_1, f43_2, f43_3, f43_4, f43_5, f43_6, f43_7, f43_8, f43_9, f43_10⟩ := hQ43
          have N43 := Fr.app N42 N43q
          have KC44 : Keep h0 T43.heap [] := KC40.trans K43 (allS (Or.inr sz0_b1) all0)
          obtain ⟨cq45, kq45, q45a, q45b, q45c⟩ := isOf hZ rfl f43_4
          obtain ⟨_, _, ⟨T45, L45, k45, n45⟩, -, X45, ⟨Lc45, hQ45, l45, y45, z45⟩, st45⟩ := X43.virtualBack hx (y := (⟨"stavelog/wire/History", "written", "()J"⟩ : MethodName)) (z := (⟨"stavelog/wire/History", "written", "()J"⟩ : MethodName)) hown (mvT hZ (own_w75 hw)) (mvT hZ (own_w71 hw)) (notFace_of_selects (args := #[]) (mvT hZ (own_w73 hw))) (mvT hZ (own_w73 hw)) (mvT hZ (own_w72 hw)) (by decide) (backOf (W := 0) (rm10_11 l Z a0 hw [] b1 nn cnt T43.heap n0 (Nat.le_trans Z0 KC44.1) f43_0 f43_1 f43_6) hZ (own_w74 hw) (own_w4 hw) (by decide) (by decide)) q45a q45c (g := (mkF m 198 #[.val (.int i0), .val (.int i1), .val (.int i2), .val (.int i3), .val (.int i4), .val (.int i5), .val (.int prev), .val (.int most), .val (.int bef), .val (.int bcp), .val (.int nn), .val (.int cnt), .val (.ref b1), .val (.int (1 : Int32)), .val (.long (nn.toInt64)), .second] [(.ref b1)])) rfl (by rw [hml]; rfl) (Steps.refl _) (argsL := []) (rest := []) (lenOf pd___J rfl) rfl (by show 2 * 0 + _ ≤ _; exact Nat.le_of_eq rfl) (hb hby at_198) (fun _ _ => ⟨rfl, rfl, (by decide : 2 + 0 ≤ _), (by decide : 19 + 0 ≤ _)⟩)
          dsimp only [Pt.U, Pt.locs, Pt.cells, Pt.slots] at X45 l45 y45 z45 st45 hQ45
          subst l45 y45 z45
          obtain ⟨rfl, N45q, e45⟩ := hQ45
          have N45 := Fr.app N43 N45q
          obtain ⟨fs, hr, hrun, hended, hW, hsame⟩ := X45.leave (v := some (.int (1 : Int32))) (fun h => by rw [Bd.returns] at h; cases h)
          refine ⟨_, _, pre4 _ ?_, hrun, hended, _, _, rfl, ⟨rfl, N45⟩, ⟨_, rfl⟩, hW, hsame.mono (by decide) (by decide)⟩
          show Steps p.tables e below (T41.setTop (mkF m 177 #[.val (.int i0), .val (.int i1), .val (.int i2), .val (.int i3), .val (.int i4), .val (.int i5), .val (.int prev), .val (.int most), .val (.int bef), .val (.int bcp), .val (.int nn), .val (.int cnt), .val (.ref b1), .val (.int (1 : Int32)), .unset, .unset] [(.long (most.toInt64)), (.long (nn.toInt64))])) _
          refine st42 _ ?_
          show Steps p.tables e below (T42.setTop (mkF m 180 #[.val (.int i0), .val (.int i1), .val (.int i2), .val (.int i3), .val (.int i4), .val (.int i5), .val (.int prev), .val (.int most), .val (.int bef), .val (.int bcp), .val (.int nn), .val (.int cnt), .val (.ref b1), .val (.int (1 : Int32)), .unset, .unset] [(.long (nn.toInt64))])) _
          refine XS.lstore X42.here hx rfl (hb hby at_180) rfl (l' := #[.val (.int i0), .val (.int i1), .val (.int i2), .val (.int i3), .val (.int i4), .val (.int i5), .val (.int prev), .val (.int most), .val (.int bef), .val (.int bcp), .val (.int nn), .val (.int cnt), .val (.ref b1), .val (.int (1 : Int32)), .val (.long (nn.toInt64)), .second]) rfl ?_
          show Steps p.tables e below (T42.setTop (mkF m 182 #[.val (.int i0), .val (.int i1), .val (.int i2), .val (.int i3), .val (.int i4), .val (.int i5), .val (.int prev), .val (.int most), .val (.int bef), .val (.int bcp), .val (.int nn), .val (.int cnt), .val (.ref b1), .val (.int (1 : Int32)), .val (.long (nn.toInt64)), .second] [])) _
          refine XS.aload X42.here hx rfl (hb hby at_182) rfl rfl ?_
          show Steps p.tables e below (T42.setTop (mkF m 184 #[.val (.int i0), .val (.int i1), .val (.int i2), .val (.int i3), .val (.int i4), .val (.int i5), .val (.int prev), .val (.int most), .val (.int bef), .val (.int bcp), .val (.int nn), .val (.int cnt), .val (.ref b1), .val (.int (1 : Int32)), .val (.long (nn.toInt64)), .second] [(.ref b1)])) _
          refine XS.lload X42.here hx rfl (hb hby at_184) rfl ?_
          show Steps p.tables e below (T42.setTop (mkF m 186 #[.val (.int i0), .val (.int i1), .val (.int i2), .val (.int i3), .val (.int i4), .val (.int i5), .val (.int prev), .val (.int most), .val (.int bef), .val (.int bcp), .val (.int nn), .val (.int cnt), .val (.ref b1), .val (.int (1 : Int32)), .val (.long (nn.toInt64)), .second] [(.long (nn.toInt64)), (.ref b1)])) _
          refine XS.iload X42.here hx rfl (hb hby at_186) rfl ?_
          show Steps p.tables e below (T42.setTop (mkF m 188 #[.val (.int i0), .val (.int i1), .val (.int i2), .val (.int i3), .val (.int i4), .val (.int i5), .val (.int prev), .val (.int most), .val (.int bef), .val (.int bcp), .val (.int nn), .val (.int cnt), .val (.ref b1), .val (.int (1 : Int32)), .val (.long (nn.toInt64)), .second] [(.int cnt), (.long (nn.toInt64)), (.ref b1)])) _
          refine st43.trans ?_
          show Steps p.tables e below (T43.setTop (mkF m 191 #[.val (.int i0), .val (.int i1), .val (.int i2), .val (.int i3), .val (.int i4), .val (.int i5), .val (.int prev), .val (.int most), .val (.int bef), .val (.int bcp), .val (.int nn), .val (.int cnt), .val (.ref b1), .val (.int (1 : Int32)), .val (.long (nn.toInt64)), .second] [])) _
          refine XS.iload X43.here hx rfl (hb hby at_191) rfl ?_
          show Steps p.tables e below (T43.setTop (mkF m 193 #[.val (.int i0), .val (.int i1), .val (.int i2), .val (.int i3), .val (.int i4), .val (.int i5), .val (.int prev), .val (.int most), .val (.int bef), .val (.int bcp), .val (.int nn), .val (.int cnt), .val (.ref b1), .val (.int (1 : Int32)), .val (.long (nn.toInt64)), .second] [(.int (1 : Int32))])) _
          refine XS.ifNo X43.here hx rfl (hb hby at_193) rfl ((if0 _ _).trans (feq (by decide : ¬ ((1 : Int32) = (0 : Int32)))).1) ?_
          show Steps p.tables e below (T43.setTop (mkF m 196 #[.val (.int i0), .val (.int i1), .val (.int i2), .val (.int i3), .val (.int i4), .val (.int i5), .val (.int prev), .val (.int most), .val (.int bef), .val (.int bcp), .val (.int nn), .val (.int cnt), .val (.ref b1), .val (.int (1 : Int32)), .val (.long (nn.toInt64)), .second] [])) _
          refine XS.aload X43.here hx rfl (hb hby at_196) rfl rfl ?_
          show Steps p.tables e below (T43.setTop (mkF m 198 #[.val (.int i0), .val (.int i1), .val (.int i2), .val (.int i3), .val (.int i4), .val (.int i5), .val (.int prev), .val (.int most), .val (.int bef), .val (.int bcp), .val (.int nn), .val (.int cnt), .val (.ref b1), .val (.int (1 : Int32)), .val (.long (nn.toInt64)), .second] [(.ref b1)])) _
          refine st45.trans ?_
          show Steps p.tables e below (T45.setTop (mkF m 201 #[.val (.int i0), .val (.int i1), .val (.int i2), .val (.int i3), .val (.int i4), .val (.int i5), .val (.int prev), .val (.int most), .val (.int bef), .val (.int bcp), .val (.int nn), .val (.int cnt), .val (.ref b1), .val (.int (1 : Int32)), .val (.long (nn.toInt64)), .second] [(.long ((nn.toInt64) + (cnt.toInt64)))])) _
          refine XS.iload X45.here hx rfl (hb hby at_201) rfl ?_
          show Steps p.tables e below (T45.setTop (mkF m 203 #[.val (.int i0), .val (.int i1), .val (.int i2), .val (.int i3), .val (.int i4), .val (.int i5), .val (.int prev), .val (.int most), .val (.int bef), .val (.int bcp), .val (.int nn), .val (.int cnt), .val (.ref b1), .val (.int (1 : Int32)), .val (.long (nn.toInt64)), .second] [(.int nn), (.long ((nn.toInt64) + (cnt.toInt64)))])) _
          refine XS.i2l X45.here hx rfl (hb hby at_203) rfl ?_
          show Steps p.tables e below (T45.setTop (mkF m 204 #[.val (.int i0), .val (.int i1), .val (.int i2), .val (.int i3), .val (.int i4), .val (.int i5), .val (.int prev), .val (.int most), .val (.int bef), .val (.int bcp), .val (.int nn), .val (.int cnt), .val (.ref b1), .val (.int (1 : Int32)), .val (.long (nn.toInt64)), .second] [(.long (nn.toInt64)), (.long ((nn.toInt64) + (cnt.toInt64)))])) _
          refine XS.iload X45.here hx rfl (hb hby at_204) rfl ?_
          show Steps p.tables e below (T45.setTop (mkF m 206 #[.val (.int i0), .val (.int i1), .val (.int i2), .val (.int i3), .val (.int i4), .val (.int i5), .val (.int prev), .val (.int most), .val (.int bef), .val (.int bcp), .val (.int nn), .val (.int cnt), .val (.ref b1), .val (.int (1 : Int32)), .val (.long (nn.toInt64)), .second] [(.int cnt), (.long (nn.toInt64)), (.long ((nn.toInt64) + (cnt.toInt64)))])) _
          refine XS.i2l X45.here hx rfl (hb hby at_206) rfl ?_
          show Steps p.tables e below (T45.setTop (mkF m 207 #[.val (.int i0), .val (.int i1), .val (.int i2), .val (.int i3), .val (.int i4), .val (.int i5), .val (.int prev), .val (.int most), .val (.int bef), .val (.int bcp), .val (.int nn), .val (.int cnt), .val (.ref b1), .val (.int (1 : Int32)), .val (.long (nn.toInt64)), .second] [(.long (cnt.toInt64)), (.long (nn.toInt64)), (.long ((nn.toInt64) + (cnt.toInt64)))])) _
          refine XS.ladd X45.here hx rfl (hb hby at_207) rfl ?_
          show Steps p.tables e below (T45.setTop (mkF m 208 #[.val (.int i0), .val (.int i1), .val (.int i2), .val (.int i3), .val (.int i4), .val (.int i5), .val (.int prev), .val (.int most), .val (.int bef), .val (.int bcp), .val (.int nn), .val (.int cnt), .val (.ref b1), .val (.int (1 : Int32)), .val (.long (nn.toInt64)), .second] [(.long ((nn.toInt64) + (cnt.toInt64))), (.long ((nn.toInt64) + (cnt.toInt64)))])) _
          refine XS.lcmp X45.here hx rfl (hb hby at_208) rfl ?_
          show Steps p.tables e below (T45.setTop (mkF m 209 #[.val (.int i0), .val (.int i1), .val (.int i2), .val (.int i3), .val (.int i4), .val (.int i5), .val (.int prev), .val (.int most), .val (.int bef), .val (.int bcp), .val (.int nn), .val (.int cnt), .val (.ref b1), .val (.int (1 : Int32)), .val (.long (nn.toInt64)), .second] [(.int (lcmpW ((nn.toInt64) + (cnt.toInt64)) ((nn.toInt64) + (cnt.toInt64))))])) _
          rw [own_cmp_self]
          show Steps p.tables e below (T45.setTop (mkF m 209 #[.val (.int i0), .val (.int i1), .val (.int i2), .val (.int i3), .val (.int i4), .val (.int i5), .val (.int prev), .val (.int most), .val (.int bef), .val (.int bcp), .val (.int nn), .val (.int cnt), .val (.ref b1), .val (.int (1 : Int32)), .val (.long (nn.toInt64)), .second] [(.int (0 : Int32))])) _
          refine XS.ifNo X45.here hx rfl (hb hby at_209) rfl ((if0 _ _).trans (teq (by decide : (0 : Int32) = (0 : Int32))).2) ?_
          show Steps p.tables e below (T45.setTop (mkF m 212 #[.val (.int i0), .val (.int i1), .val (.int i2), .val (.int i3), .val (.int i4), .val (.int i5), .val (.int prev), .val (.int most), .val (.int bef), .val (.int bcp), .val (.int nn), .val (.int cnt), .val (.ref b1), .val (.int (1 : Int32)), .val (.long (nn.toInt64)), .second] [])) _
          refine XS.iconst X45.here hx rfl (hb hby at_212) ?_
          show Steps p.tables e below (T45.setTop (mkF m 213 #[.val (.int i0), .val (.int i1), .val (.int i2), .val (.int i3), .val (.int i4), .val (.int i5), .val (.int prev), .val (.int most), .val (.int bef), .val (.int bcp), .val (.int nn), .val (.int cnt), .val (.ref b1), .val (.int (1 : Int32)), .val (.long (nn.toInt64)), .second] [(.int (1 : Int32))])) _
          refine XS.goto X45.here hx rfl (pc0 := 213) (pc' := 217) rfl (hb hby at_213) (by decide) (by decide) ?_
          show Steps p.tables e below (T45.setTop (mkF m 217 #[.val (.int i0), .val (.int i1), .val (.int i2), .val (.int i3), .val (.int i4), .val (.int i5), .val (.int prev), .val (.int most), .val (.int bef), .val (.int bcp), .val (.int nn), .val (.int cnt), .val (.ref b1), .val (.int (1 : Int32)), .val (.long (nn.toInt64)), .second] [(.int (1 : Int32))])) _
          refine XS.istore X45.here hx rfl (hb hby at_217) rfl (l' := #[.val (.int i0), .val (.int i1), .val (.int i2), .val (.int i3), .val (.int i4), .val (.int i5), .val (.int prev), .val (.int most), .val (.int bef), .val (.int bcp), .val (.int nn), .val (.int cnt), .val (.ref b1), .val (.int (1 : Int32)), .val (.long (nn.toInt64)), .second]) rfl ?_
          show Steps p.tables e below (T45.setTop (mkF m 219 #[.val (.int i0), .val (.int i1), .val (.int i2), .val (.int i3), .val (.int i4), .val (.int i5), .val (.int prev), .val (.int most), .val (.int bef), .val (.int bcp), .val (.int nn), .val (.int cnt), .val (.ref b1), .val (.int (1 : Int32)), .val (.long (nn.toInt64)), .second] [])) _
          refine XS.iload X45.here hx rfl (hb hby at_219) rfl ?_
          show Steps p.tables e below (T45.setTop (mkF m 221 #[.val (.int i0), .val (.int i1), .val (.int i2), .val (.int i3), .val (.int i4), .val (.int i5), .val (.int prev), .val (.int most), .val (.int bef), .val (.int bcp), .val (.int nn), .val (.int cnt), .val (.ref b1), .val (.int (1 : Int32)), .val (.long (nn.toInt64)), .second] [(.int (1 : Int32))])) _
          exact retN X45 hx (t := .boolean) Bd.returns (by simp) (hb hby at_221) hr
    · obtain ⟨cq36, kq36, q36a, q36b, q36c⟩ := isOf hZ rfl f34_0
      obtain ⟨_, _, ⟨T36, L36, k36, n36⟩, -, X36, ⟨Lc36, hQ36, l36, y36, z36⟩, st36⟩ := X34.virtualBack hx (y := (⟨"stavelog/wire/History", "forget", "()V"⟩ : MethodName)) (z := (⟨"stavelog/wire/History", "forget", "()V"⟩ : MethodName)) hown (mvT hZ (own_w65 hw)) (mvT hZ (own_w66 hw)) (notFace_of_selects (args := #[]) (mvT hZ (own_w68 hw))) (mvT hZ (own_w68 hw)) (mvT hZ (own_w67 hw)) (by decide) (backOf (W := 0) (rm9_14 l Z a0 hw [] b1 bef b3 prev T34.heap n0 (Nat.le_trans Z0 KC35.1) f34_0 f34_10 f34_3 f34_4 f34_8 g_b1 f34_5 f34_6 f34_7 f34_2 f34_1 f34_9) hZ (own_w69 hw) (own_w4 hw) (by decide) (by decide)) q36a q36c (g := (mkF m 105 #[.val (.int i0), .val (.int i1), .val (.int i2), .val (.int i3), .val (.int i4), .val (.int i5), .val (.int prev), .val (.int most), .val (.int bef), .val (.int bcp), .val (.int nn), .val (.int cnt), .val (.ref b1), .unset, .unset, .unset] [(.ref b1)])) rfl (by rw [hml]; rfl) (Steps.refl _) (argsL := []) (rest := []) (lenOf pd___V rfl) rfl (by show 2 * 0 + _ ≤ _; exact Nat.le_of_eq rfl) (hb hby at_105) (fun _ _ => ⟨rfl, rfl, (by decide : 2 + 0 ≤ _), (by decide : 19 + 0 ≤ _)⟩)
      dsimp only [Pt.U, Pt.locs, Pt.cells, Pt.slots] at X36 l36 y36 z36 st36 hQ36
      subst l36 y36 z36
      obtain ⟨rfl, N36q, K36, f36_0, f36_1, f36_2, f36_3, f36_4, f36_5, f36_6, f36_7, f36_8, f36_9, f36_10⟩ := hQ36
      have N36 := Fr.app N34 N36q
      have KC37 : Keep h0 T36.heap [] := KC35.trans K36 (allS (Or.inr sz0_b1) all0)
      obtain ⟨cq38, kq38, q38a, q38b, q38c⟩ := isOf hZ rfl f36_0
      obtain ⟨_, _, ⟨T38, L38, k38, n38⟩, -, X38, ⟨Lc38, hQ38, l38, y38, z38⟩, st38⟩ := X36.virtualBack hx (y := (⟨"stavelog/wire/History", "start", "(I)V"⟩ : MethodName)) (z := (⟨"stavelog/wire/History", "start", "(I)V"⟩ : MethodName)) hown (mvT hZ (own_w28 hw)) (mvT hZ (own_w29 hw)) (notFace_of_selects (args := #[]) (mvT hZ (own_w31 hw))) (mvT hZ (own_w31 hw)) (mvT hZ (own_w30 hw)) (by decide) (backOf (W := 0) (rm5_15 l Z a0 hw [] b1 most prev (bef.toInt64) bef b3 T36.heap n0 (Nat.le_trans Z0 KC37.1) f36_0 f36_7 g_b1 f36_1 f36_4 f36_2 f36_3 f36_10 f36_5 f36_6 f36_8 f36_9) hZ (own_w32 hw) (own_w4 hw) (by decide) (by decide)) q38a q38c (g := (mkF m 112 #[.val (.int i0), .val (.int i1), .val (.int i2), .val (.int i3), .val (.int i4), .val (.int i5), .val (.int prev), .val (.int most), .val (.int bef), .val (.int bcp), .val (.int nn), .val (.int cnt), .val (.ref b1), .unset, .unset, .unset] [(.int most), (.ref b1)])) rfl (by rw [hml]; rfl) (Steps.refl _) (argsL := [(.int most)]) (rest := []) (lenOf pd__I_V rfl) rfl (by show 2 * 0 + _ ≤ _; exact Nat.le_of_eq rfl) (hb hby at_112) (fun _ _ => ⟨rfl, rfl, (by decide : 2 + 0 ≤ _), (by decide : 19 + 0 ≤ _)⟩)
      dsimp only [Pt.U, Pt.locs, Pt.cells, Pt.slots] at X38 l38 y38 z38 st38 hQ38
      subst l38 y38 z38
      obtain ⟨rfl, N38q, K38, f38_0, f38_1, f38_2, f38_3, f38_4, f38_5, f38_6, f38_7, f38_8, f38_9, f38_10⟩ := hQ38
      have N38 := Fr.app N36 N38q
      have KC39 : Keep h0 T38.heap [] := KC37.trans K38 (allS (Or.inr sz0_b1) all0)
      obtain ⟨cq40, kq40, q40a, q40b, q40c⟩ := isOf hZ rfl f38_0
      obtain ⟨_, _, ⟨T40, L40, k40, n40⟩, -, X40, ⟨Lc40, hQ40, l40, y40, z40⟩, st40⟩ := X38.virtualBack hx (y := (⟨"stavelog/wire/History", "written", "()J"⟩ : MethodName)) (z := (⟨"stavelog/wire/History", "written", "()J"⟩ : MethodName)) hown (mvT hZ (own_w75 hw)) (mvT hZ (own_w71 hw)) (notFace_of_selects (args := #[]) (mvT hZ (own_w73 hw))) (mvT hZ (own_w73 hw)) (mvT hZ (own_w72 hw)) (by decide) (backOf (W := 0) (rm10_7 l Z a0 hw [] b1 T38.heap n0 (Nat.le_trans Z0 KC39.1) f38_2 f38_4 f38_5) hZ (own_w74 hw) (own_w4 hw) (by decide) (by decide)) q40a q40c (g := (mkF m 117 #[.val (.int i0), .val (.int i1), .val (.int i2), .val (.int i3), .val (.int i4), .val (.int i5), .val (.int prev), .val (.int most), .val (.int bef), .val (.int bcp), .val (.int nn), .val (.int cnt), .val (.ref b1), .unset, .unset, .unset] [(.ref b1)])) rfl (by rw [hml]; rfl) (Steps.refl _) (argsL := []) (rest := []) (lenOf pd___J rfl) rfl (by show 2 * 0 + _ ≤ _; exact Nat.le_of_eq rfl) (hb hby at_117) (fun _ _ => ⟨rfl, rfl, (by decide : 2 + 0 ≤ _), (by decide : 19 + 0 ≤ _)⟩)
      dsimp only [Pt.U, Pt.locs, Pt.cells, Pt.slots] at X40 l40 y40 z40 st40 hQ40
      subst l40 y40 z40
      obtain ⟨rfl, N40q, e40⟩ := hQ40
      have N40 := Fr.app N38 N40q
      obtain ⟨cq41, kq41, q41a, q41b, q41c⟩ := isOf hZ e40 f38_0
      obtain ⟨_, _, ⟨T41, L41, k41, n41⟩, -, X41, ⟨Lc41, hQ41, l41, y41, z41⟩, st41⟩ := X40.virtualBack hx (y := (⟨"stavelog/wire/History", "literals", "(Ljava/nio/ByteBuffer;II)V"⟩ : MethodName)) (z := (⟨"stavelog/wire/History", "literals", "(Ljava/nio/ByteBuffer;II)V"⟩ : MethodName)) hown (mvT hZ (own_w45 hw)) (mvT hZ (own_w46 hw)) (notFace_of_selects (args := #[]) (mvT hZ (own_w48 hw))) (mvT hZ (own_w48 hw)) (mvT hZ (own_w47 hw)) (by decide) (backOf (W := 0) (rm6_5 l Z a0 hw [] b1 nn b3 most T38.heap n0 (Nat.le_trans Z0 KC39.1) f38_0 f38_10 g_b1 f38_9 f38_4 f38_5 f38_7 f38_8 f38_1 f38_3 f38_6 f38_2) hZ (own_w49 hw) (own_w4 hw) (by decide) (by decide)) q41a q41c (g := (mkF m 138 #[.val (.int i0), .val (.int i1), .val (.int i2), .val (.int i3), .val (.int i4), .val (.int i5), .val (.int prev), .val (.int most), .val (.int bef), .val (.int bcp), .val (.int nn), .val (.int cnt), .val (.ref b1), .val (.int (1 : Int32)), .unset, .unset] [(.int nn), (.int (0 : Int32)), .null, (.ref b1)])) rfl (by rw [hml]; rfl) (Steps.refl _) (argsL := [.null, (.int (0 : Int32)), (.int nn)]) (rest := []) (lenOf pd__Ljava_nio_ByteBuffer_II_V rfl) rfl (by show 2 * 0 + _ ≤ _; exact Nat.le_of_eq rfl) (hb hby at_138) (fun _ _ => ⟨rfl, e40, (by decide : 2 + 0 ≤ _), (by decide : 19 + 0 ≤ _)⟩)
      dsimp only [Pt.U, Pt.locs, Pt.cells, Pt.slots] at X41 l41 y41 z41 st41 hQ41
      subst l41 y41 z41
      obtain ⟨rfl, N41q, K41, f41_0, f41_1, f41_2, f41_3, f41_4, f41_5, f41_6, f41_7, f41_8, f41_9, f41_10⟩ := hQ41
      have N41 := Fr.app N40 N41q
      have KC42 : Keep h0 T41.heap [] := KC39.trans K41 (allS (Or.inr sz0_b1) all0)
      obtain ⟨cq43, kq43, q43a, q43b, q43c⟩ := isOf hZ rfl f41_0
      obtain ⟨_, _, ⟨T43, L43, k43, n43⟩, -, X43, ⟨Lc43, hQ43, l43, y43, z43⟩, st43⟩ := X41.virtualBack hx (y := (⟨"stavelog/wire/History", "written", "()J"⟩ : MethodName)) (z := (⟨"stavelog/wire/History", "written", "()J"⟩ : MethodName)) hown (mvT hZ (own_w75 hw)) (mvT hZ (own_w71 hw)) (notFace_of_selects (args := #[]) (mvT hZ (own_w73 hw))) (mvT hZ (own_w73 hw)) (mvT hZ (own_w72 hw)) (by decide) (backOf (W := 0) (rm10_8 l Z a0 hw [] b1 nn T41.heap n0 (Nat.le_trans Z0 KC42.1) f41_10 f41_3 f41_4) hZ (own_w74 hw) (own_w4 hw) (by decide) (by decide)) q43a q43c (g := (mkF m 148 #[.val (.int i0), .val (.int i1), .val (.int i2), .val (.int i3), .val (.int i4), .val (.int i5), .val (.int prev), .val (.int most), .val (.int bef), .val (.int bcp), .val (.int nn), .val (.int cnt), .val (.ref b1), .val (.int (1 : Int32)), .unset, .unset] [(.ref b1)])) rfl (by rw [hml]; rfl) (Steps.refl _) (argsL := []) (rest := []) (lenOf pd___J rfl) rfl (by show 2 * 0 + _ ≤ _; exact Nat.le_of_eq rfl) (hb hby at_148) (fun _ _ => ⟨rfl, rfl, (by decide : 2 + 0 ≤ _), (by decide : 19 + 0 ≤ _)⟩)
      dsimp only [Pt.U, Pt.locs, Pt.cells, Pt.slots] at X43 l43 y43 z43 st43 hQ43
      subst l43 y43 z43
      obtain ⟨rfl, N43q, e43⟩ := hQ43
      have N43 := Fr.app N41 N43q
      have pre5 : ∀ t, Steps p.tables e below (T43.setTop (mkF m 168 #[.val (.int i0), .val (.int i1), .val (.int i2), .val (.int i3), .val (.int i4), .val (.int i5), .val (.int prev), .val (.int most), .val (.int bef), .val (.int bcp), .val (.int nn), .val (.int cnt), .val (.ref b1), .val (.int (1 : Int32)), .unset, .unset] [(.int (1 : Int32)), (.int nn)])) t → Steps p.tables e below (s₁.setTop (entryFrame m #[(.int i0), (.int i1), (.int i2), (.int i3), (.int i4), (.int i5)] maxLocals)) t := fun t kk => pre2 t (by
        show Steps p.tables e below (T34.setTop (mkF m 100 #[.val (.int i0), .val (.int i1), .val (.int i2), .val (.int i3), .val (.int i4), .val (.int i5), .val (.int prev), .val (.int most), .val (.int bef), .val (.int bcp), .val (.int nn), .val (.int cnt), .val (.ref b1), .unset, .unset, .unset] [(.int (i5 &&& (1 : Int32)))])) _
        rw [he1]
        show Steps p.tables e below (T34.setTop (mkF m 100 #[.val (.int i0), .val (.int i1), .val (.int i2), .val (.int i3), .val (.int i4), .val (.int i5), .val (.int prev), .val (.int most), .val (.int bef), .val (.int bcp), .val (.int nn), .val (.int cnt), .val (.ref b1), .unset, .unset, .unset] [(.int (1 : Int32))])) _
        refine XS.ifNo X34.here hx rfl (hb hby at_100) rfl ((if0 _ _).trans (feq (by decide : ¬ ((1 : Int32) = (0 : Int32)))).1) ?_
        show Steps p.tables e below (T34.setTop (mkF m 103 #[.val (.int i0), .val (.int i1), .val (.int i2), .val (.int i3), .val (.int i4), .val (.int i5), .val (.int prev), .val (.int most), .val (.int bef), .val (.int bcp), .val (.int nn), .val (.int cnt), .val (.ref b1), .unset, .unset, .unset] [])) _
        refine XS.aload X34.here hx rfl (hb hby at_103) rfl rfl ?_
        show Steps p.tables e below (T34.setTop (mkF m 105 #[.val (.int i0), .val (.int i1), .val (.int i2), .val (.int i3), .val (.int i4), .val (.int i5), .val (.int prev), .val (.int most), .val (.int bef), .val (.int bcp), .val (.int nn), .val (.int cnt), .val (.ref b1), .unset, .unset, .unset] [(.ref b1)])) _
        refine st36.trans ?_
        show Steps p.tables e below (T36.setTop (mkF m 108 #[.val (.int i0), .val (.int i1), .val (.int i2), .val (.int i3), .val (.int i4), .val (.int i5), .val (.int prev), .val (.int most), .val (.int bef), .val (.int bcp), .val (.int nn), .val (.int cnt), .val (.ref b1), .unset, .unset, .unset] [])) _
        refine XS.aload X36.here hx rfl (hb hby at_108) rfl rfl ?_
        show Steps p.tables e below (T36.setTop (mkF m 110 #[.val (.int i0), .val (.int i1), .val (.int i2), .val (.int i3), .val (.int i4), .val (.int i5), .val (.int prev), .val (.int most), .val (.int bef), .val (.int bcp), .val (.int nn), .val (.int cnt), .val (.ref b1), .unset, .unset, .unset] [(.ref b1)])) _
        refine XS.iload X36.here hx rfl (hb hby at_110) rfl ?_
        show Steps p.tables e below (T36.setTop (mkF m 112 #[.val (.int i0), .val (.int i1), .val (.int i2), .val (.int i3), .val (.int i4), .val (.int i5), .val (.int prev), .val (.int most), .val (.int bef), .val (.int bcp), .val (.int nn), .val (.int cnt), .val (.ref b1), .unset, .unset, .unset] [(.int most), (.ref b1)])) _
        refine st38.trans ?_
        show Steps p.tables e below (T38.setTop (mkF m 115 #[.val (.int i0), .val (.int i1), .val (.int i2), .val (.int i3), .val (.int i4), .val (.int i5), .val (.int prev), .val (.int most), .val (.int bef), .val (.int bcp), .val (.int nn), .val (.int cnt), .val (.ref b1), .unset, .unset, .unset] [])) _
        refine XS.aload X38.here hx rfl (hb hby at_115) rfl rfl ?_
        show Steps p.tables e below (T38.setTop (mkF m 117 #[.val (.int i0), .val (.int i1), .val (.int i2), .val (.int i3), .val (.int i4), .val (.int i5), .val (.int prev), .val (.int most), .val (.int bef), .val (.int bcp), .val (.int nn), .val (.int cnt), .val (.ref b1), .unset, .unset, .unset] [(.ref b1)])) _
        refine st40.trans ?_
        show Steps p.tables e below (T40.setTop (mkF m 120 #[.val (.int i0), .val (.int i1), .val (.int i2), .val (.int i3), .val (.int i4), .val (.int i5), .val (.int prev), .val (.int most), .val (.int bef), .val (.int bcp), .val (.int nn), .val (.int cnt), .val (.ref b1), .unset, .unset, .unset] [(.long (0 : Int64))])) _
        refine XS.lconst X40.here hx rfl (hb hby at_120) ?_
        show Steps p.tables e below (T40.setTop (mkF m 121 #[.val (.int i0), .val (.int i1), .val (.int i2), .val (.int i3), .val (.int i4), .val (.int i5), .val (.int prev), .val (.int most), .val (.int bef), .val (.int bcp), .val (.int nn), .val (.int cnt), .val (.ref b1), .unset, .unset, .unset] [(.long (0 : Int64)), (.long (0 : Int64))])) _
        refine XS.lcmp X40.here hx rfl (hb hby at_121) rfl ?_
        show Steps p.tables e below (T40.setTop (mkF m 122 #[.val (.int i0), .val (.int i1), .val (.int i2), .val (.int i3), .val (.int i4), .val (.int i5), .val (.int prev), .val (.int most), .val (.int bef), .val (.int bcp), .val (.int nn), .val (.int cnt), .val (.ref b1), .unset, .unset, .unset] [(.int (lcmpW (0 : Int64) (0 : Int64)))])) _
        rw [(by decide : (lcmpW (0 : Int64) (0 : Int64)) = (0 : Int32))]
        show Steps p.tables e below (T40.setTop (mkF m 122 #[.val (.int i0), .val (.int i1), .val (.int i2), .val (.int i3), .val (.int i4), .val (.int i5), .val (.int prev), .val (.int most), .val (.int bef), .val (.int bcp), .val (.int nn), .val (.int cnt), .val (.ref b1), .unset, .unset, .unset] [(.int (0 : Int32))])) _
        refine XS.ifNo X40.here hx rfl (hb hby at_122) rfl ((if0 _ _).trans (teq (by decide : (0 : Int32) = (0 : Int32))).2) ?_
        show Steps p.tables e below (T40.setTop (mkF m 125 #[.val (.int i0), .val (.int i1), .val (.int i2), .val (.int i3), .val (.int i4), .val (.int i5), .val (.int prev), .val (.int most), .val (.int bef), .val (.int bcp), .val (.int nn), .val (.int cnt), .val (.ref b1), .unset, .unset, .unset] [])) _
        refine XS.iconst X40.here hx rfl (hb hby at_125) ?_
        show Steps p.tables e below (T40.setTop (mkF m 126 #[.val (.int i0), .val (.int i1), .val (.int i2), .val (.int i3), .val (.int i4), .val (.int i5), .val (.int prev), .val (.int most), .val (.int bef), .val (.int bcp), .val (.int nn), .val (.int cnt), .val (.ref b1), .unset, .unset, .unset] [(.int (1 : Int32))])) _
        refine XS.goto X40.here hx rfl (pc0 := 126) (pc' := 130) rfl (hb hby at_126) (by decide) (by decide) ?_
        show Steps p.tables e below (T40.setTop (mkF m 130 #[.val (.int i0), .val (.int i1), .val (.int i2), .val (.int i3), .val (.int i4), .val (.int i5), .val (.int prev), .val (.int most), .val (.int bef), .val (.int bcp), .val (.int nn), .val (.int cnt), .val (.ref b1), .unset, .unset, .unset] [(.int (1 : Int32))])) _
        refine XS.istore X40.here hx rfl (hb hby at_130) rfl (l' := #[.val (.int i0), .val (.int i1), .val (.int i2), .val (.int i3), .val (.int i4), .val (.int i5), .val (.int prev), .val (.int most), .val (.int bef), .val (.int bcp), .val (.int nn), .val (.int cnt), .val (.ref b1), .val (.int (1 : Int32)), .unset, .unset]) rfl ?_
        show Steps p.tables e below (T40.setTop (mkF m 132 #[.val (.int i0), .val (.int i1), .val (.int i2), .val (.int i3), .val (.int i4), .val (.int i5), .val (.int prev), .val (.int most), .val (.int bef), .val (.int bcp), .val (.int nn), .val (.int cnt), .val (.ref b1), .val (.int (1 : Int32)), .unset, .unset] [])) _
        refine XS.aload X40.here hx rfl (hb hby at_132) rfl rfl ?_
        show Steps p.tables e below (T40.setTop (mkF m 134 #[.val (.int i0), .val (.int i1), .val (.int i2), .val (.int i3), .val (.int i4), .val (.int i5), .val (.int prev), .val (.int most), .val (.int bef), .val (.int bcp), .val (.int nn), .val (.int cnt), .val (.ref b1), .val (.int (1 : Int32)), .unset, .unset] [(.ref b1)])) _
        refine XS.aconstNull X40.here hx rfl (hb hby at_134) ?_
        show Steps p.tables e below (T40.setTop (mkF m 135 #[.val (.int i0), .val (.int i1), .val (.int i2), .val (.int i3), .val (.int i4), .val (.int i5), .val (.int prev), .val (.int most), .val (.int bef), .val (.int bcp), .val (.int nn), .val (.int cnt), .val (.ref b1), .val (.int (1 : Int32)), .unset, .unset] [.null, (.ref b1)])) _
        refine XS.iconst X40.here hx rfl (hb hby at_135) ?_
        show Steps p.tables e below (T40.setTop (mkF m 136 #[.val (.int i0), .val (.int i1), .val (.int i2), .val (.int i3), .val (.int i4), .val (.int i5), .val (.int prev), .val (.int most), .val (.int bef), .val (.int bcp), .val (.int nn), .val (.int cnt), .val (.ref b1), .val (.int (1 : Int32)), .unset, .unset] [(.int (0 : Int32)), .null, (.ref b1)])) _
        refine XS.iload X40.here hx rfl (hb hby at_136) rfl ?_
        show Steps p.tables e below (T40.setTop (mkF m 138 #[.val (.int i0), .val (.int i1), .val (.int i2), .val (.int i3), .val (.int i4), .val (.int i5), .val (.int prev), .val (.int most), .val (.int bef), .val (.int bcp), .val (.int nn), .val (.int cnt), .val (.ref b1), .val (.int (1 : Int32)), .unset, .unset] [(.int nn), (.int (0 : Int32)), .null, (.ref b1)])) _
        refine st41.trans ?_
        show Steps p.tables e below (T41.setTop (mkF m 141 #[.val (.int i0), .val (.int i1), .val (.int i2), .val (.int i3), .val (.int i4), .val (.int i5), .val (.int prev), .val (.int most), .val (.int bef), .val (.int bcp), .val (.int nn), .val (.int cnt), .val (.ref b1), .val (.int (1 : Int32)), .unset, .unset] [])) _
        refine XS.iload X41.here hx rfl (hb hby at_141) rfl ?_
        show Steps p.tables e below (T41.setTop (mkF m 143 #[.val (.int i0), .val (.int i1), .val (.int i2), .val (.int i3), .val (.int i4), .val (.int i5), .val (.int prev), .val (.int most), .val (.int bef), .val (.int bcp), .val (.int nn), .val (.int cnt), .val (.ref b1), .val (.int (1 : Int32)), .unset, .unset] [(.int (1 : Int32))])) _
        refine XS.ifNo X41.here hx rfl (hb hby at_143) rfl ((if0 _ _).trans (feq (by decide : ¬ ((1 : Int32) = (0 : Int32)))).1) ?_
        show Steps p.tables e below (T41.setTop (mkF m 146 #[.val (.int i0), .val (.int i1), .val (.int i2), .val (.int i3), .val (.int i4), .val (.int i5), .val (.int prev), .val (.int most), .val (.int bef), .val (.int bcp), .val (.int nn), .val (.int cnt), .val (.ref b1), .val (.int (1 : Int32)), .unset, .unset] [])) _
        refine XS.aload X41.here hx rfl (hb hby at_146) rfl rfl ?_
        show Steps p.tables e below (T41.setTop (mkF m 148 #[.val (.int i0), .val (.int i1), .val (.int i2), .val (.int i3), .val (.int i4), .val (.int i5), .val (.int prev), .val (.int most), .val (.int bef), .val (.int bcp), .val (.int nn), .val (.int cnt), .val (.ref b1), .val (.int (1 : Int32)), .unset, .unset] [(.ref b1)])) _
        refine st43.trans ?_
        show Steps p.tables e below (T43.setTop (mkF m 151 #[.val (.int i0), .val (.int i1), .val (.int i2), .val (.int i3), .val (.int i4), .val (.int i5), .val (.int prev), .val (.int most), .val (.int bef), .val (.int bcp), .val (.int nn), .val (.int cnt), .val (.ref b1), .val (.int (1 : Int32)), .unset, .unset] [(.long (nn.toInt64))])) _
        refine XS.iload X43.here hx rfl (hb hby at_151) rfl ?_
        show Steps p.tables e below (T43.setTop (mkF m 153 #[.val (.int i0), .val (.int i1), .val (.int i2), .val (.int i3), .val (.int i4), .val (.int i5), .val (.int prev), .val (.int most), .val (.int bef), .val (.int bcp), .val (.int nn), .val (.int cnt), .val (.ref b1), .val (.int (1 : Int32)), .unset, .unset] [(.int nn), (.long (nn.toInt64))])) _
        refine XS.i2l X43.here hx rfl (hb hby at_153) rfl ?_
        show Steps p.tables e below (T43.setTop (mkF m 154 #[.val (.int i0), .val (.int i1), .val (.int i2), .val (.int i3), .val (.int i4), .val (.int i5), .val (.int prev), .val (.int most), .val (.int bef), .val (.int bcp), .val (.int nn), .val (.int cnt), .val (.ref b1), .val (.int (1 : Int32)), .unset, .unset] [(.long (nn.toInt64)), (.long (nn.toInt64))])) _
        refine XS.lcmp X43.here hx rfl (hb hby at_154) rfl ?_
        show Steps p.tables e below (T43.setTop (mkF m 155 #[.val (.int i0), .val (.int i1), .val (.int i2), .val (.int i3), .val (.int i4), .val (.int i5), .val (.int prev), .val (.int most), .val (.int bef), .val (.int bcp), .val (.int nn), .val (.int cnt), .val (.ref b1), .val (.int (1 : Int32)), .unset, .unset] [(.int (lcmpW (nn.toInt64) (nn.toInt64)))])) _
        rw [own_cmp_self]
        show Steps p.tables e below (T43.setTop (mkF m 155 #[.val (.int i0), .val (.int i1), .val (.int i2), .val (.int i3), .val (.int i4), .val (.int i5), .val (.int prev), .val (.int most), .val (.int bef), .val (.int bcp), .val (.int nn), .val (.int cnt), .val (.ref b1), .val (.int (1 : Int32)), .unset, .unset] [(.int (0 : Int32))])) _
        refine XS.ifNo X43.here hx rfl (hb hby at_155) rfl ((if0 _ _).trans (teq (by decide : (0 : Int32) = (0 : Int32))).2) ?_
        show Steps p.tables e below (T43.setTop (mkF m 158 #[.val (.int i0), .val (.int i1), .val (.int i2), .val (.int i3), .val (.int i4), .val (.int i5), .val (.int prev), .val (.int most), .val (.int bef), .val (.int bcp), .val (.int nn), .val (.int cnt), .val (.ref b1), .val (.int (1 : Int32)), .unset, .unset] [])) _
        refine XS.iconst X43.here hx rfl (hb hby at_158) ?_
        show Steps p.tables e below (T43.setTop (mkF m 159 #[.val (.int i0), .val (.int i1), .val (.int i2), .val (.int i3), .val (.int i4), .val (.int i5), .val (.int prev), .val (.int most), .val (.int bef), .val (.int bcp), .val (.int nn), .val (.int cnt), .val (.ref b1), .val (.int (1 : Int32)), .unset, .unset] [(.int (1 : Int32))])) _
        refine XS.goto X43.here hx rfl (pc0 := 159) (pc' := 163) rfl (hb hby at_159) (by decide) (by decide) ?_
        show Steps p.tables e below (T43.setTop (mkF m 163 #[.val (.int i0), .val (.int i1), .val (.int i2), .val (.int i3), .val (.int i4), .val (.int i5), .val (.int prev), .val (.int most), .val (.int bef), .val (.int bcp), .val (.int nn), .val (.int cnt), .val (.ref b1), .val (.int (1 : Int32)), .unset, .unset] [(.int (1 : Int32))])) _
        refine XS.istore X43.here hx rfl (hb hby at_163) rfl (l' := #[.val (.int i0), .val (.int i1), .val (.int i2), .val (.int i3), .val (.int i4), .val (.int i5), .val (.int prev), .val (.int most), .val (.int bef), .val (.int bcp), .val (.int nn), .val (.int cnt), .val (.ref b1), .val (.int (1 : Int32)), .unset, .unset]) rfl ?_
        show Steps p.tables e below (T43.setTop (mkF m 165 #[.val (.int i0), .val (.int i1), .val (.int i2), .val (.int i3), .val (.int i4), .val (.int i5), .val (.int prev), .val (.int most), .val (.int bef), .val (.int bcp), .val (.int nn), .val (.int cnt), .val (.ref b1), .val (.int (1 : Int32)), .unset, .unset] [])) _
        refine XS.iload X43.here hx rfl (hb hby at_165) rfl ?_
        show Steps p.tables e below (T43.setTop (mkF m 167 #[.val (.int i0), .val (.int i1), .val (.int i2), .val (.int i3), .val (.int i4), .val (.int i5), .val (.int prev), .val (.int most), .val (.int bef), .val (.int bcp), .val (.int nn), .val (.int cnt), .val (.ref b1), .val (.int (1 : Int32)), .unset, .unset] [(.int nn)])) _
        refine XS.iconst X43.here hx rfl (hb hby at_167) ?_
        show Steps p.tables e below (T43.setTop (mkF m 168 #[.val (.int i0), .val (.int i1), .val (.int i2), .val (.int i3), .val (.int i4), .val (.int i5), .val (.int prev), .val (.int most), .val (.int bef), .val (.int bcp), .val (.int nn), .val (.int cnt), .val (.ref b1), .val (.int (1 : Int32)), .unset, .unset] [(.int (1 : Int32)), (.int nn)])) _
        exact kk)
      by_cases hs2 : nn < (1 : Int32)
      · obtain ⟨fs, hr, hrun, hended, hW, hsame⟩ := X43.leave (v := some (.int (1 : Int32))) (fun h => by rw [Bd.returns] at h; cases h)
        refine ⟨_, _, pre5 _ ?_, hrun, hended, _, _, rfl, ⟨rfl, N43⟩, ⟨_, rfl⟩, hW, hsame.mono (by decide) (by decide)⟩
        show Steps p.tables e below (T43.setTop (mkF m 168 #[.val (.int i0), .val (.int i1), .val (.int i2), .val (.int i3), .val (.int i4), .val (.int i5), .val (.int prev), .val (.int most), .val (.int bef), .val (.int bcp), .val (.int nn), .val (.int cnt), .val (.ref b1), .val (.int (1 : Int32)), .unset, .unset] [(.int (1 : Int32)), (.int nn)])) _
        refine XS.icmpYes X43.here hx rfl (pc0 := 168) (pc' := 219) rfl (hb hby at_168) rfl (tlt hs2).1 (by decide) (by decide) ?_
        show Steps p.tables e below (T43.setTop (mkF m 219 #[.val (.int i0), .val (.int i1), .val (.int i2), .val (.int i3), .val (.int i4), .val (.int i5), .val (.int prev), .val (.int most), .val (.int bef), .val (.int bcp), .val (.int nn), .val (.int cnt), .val (.ref b1), .val (.int (1 : Int32)), .unset, .unset] [])) _
        refine XS.iload X43.here hx rfl (hb hby at_219) rfl ?_
        show Steps p.tables e below (T43.setTop (mkF m 221 #[.val (.int i0), .val (.int i1), .val (.int i2), .val (.int i3), .val (.int i4), .val (.int i5), .val (.int prev), .val (.int most), .val (.int bef), .val (.int bcp), .val (.int nn), .val (.int cnt), .val (.ref b1), .val (.int (1 : Int32)), .unset, .unset] [(.int (1 : Int32))])) _
        exact retN X43 hx (t := .boolean) Bd.returns (by simp) (hb hby at_221) hr
      · have pre6 : ∀ t, Steps p.tables e below (T43.setTop (mkF m 177 #[.val (.int i0), .val (.int i1), .val (.int i2), .val (.int i3), .val (.int i4), .val (.int i5), .val (.int prev), .val (.int most), .val (.int bef), .val (.int bcp), .val (.int nn), .val (.int cnt), .val (.ref b1), .val (.int (1 : Int32)), .unset, .unset] [(.long (most.toInt64)), (.long (nn.toInt64))])) t → Steps p.tables e below (s₁.setTop (entryFrame m #[(.int i0), (.int i1), (.int i2), (.int i3), (.int i4), (.int i5)] maxLocals)) t := fun t kk => pre5 t (by
          show Steps p.tables e below (T43.setTop (mkF m 168 #[.val (.int i0), .val (.int i1), .val (.int i2), .val (.int i3), .val (.int i4), .val (.int i5), .val (.int prev), .val (.int most), .val (.int bef), .val (.int bcp), .val (.int nn), .val (.int cnt), .val (.ref b1), .val (.int (1 : Int32)), .unset, .unset] [(.int (1 : Int32)), (.int nn)])) _
          refine XS.icmpNo X43.here hx rfl (hb hby at_168) rfl (flt hs2).1 ?_
          show Steps p.tables e below (T43.setTop (mkF m 171 #[.val (.int i0), .val (.int i1), .val (.int i2), .val (.int i3), .val (.int i4), .val (.int i5), .val (.int prev), .val (.int most), .val (.int bef), .val (.int bcp), .val (.int nn), .val (.int cnt), .val (.ref b1), .val (.int (1 : Int32)), .unset, .unset] [])) _
          refine XS.iload X43.here hx rfl (hb hby at_171) rfl ?_
          show Steps p.tables e below (T43.setTop (mkF m 173 #[.val (.int i0), .val (.int i1), .val (.int i2), .val (.int i3), .val (.int i4), .val (.int i5), .val (.int prev), .val (.int most), .val (.int bef), .val (.int bcp), .val (.int nn), .val (.int cnt), .val (.ref b1), .val (.int (1 : Int32)), .unset, .unset] [(.int nn)])) _
          refine XS.i2l X43.here hx rfl (hb hby at_173) rfl ?_
          show Steps p.tables e below (T43.setTop (mkF m 174 #[.val (.int i0), .val (.int i1), .val (.int i2), .val (.int i3), .val (.int i4), .val (.int i5), .val (.int prev), .val (.int most), .val (.int bef), .val (.int bcp), .val (.int nn), .val (.int cnt), .val (.ref b1), .val (.int (1 : Int32)), .unset, .unset] [(.long (nn.toInt64))])) _
          refine XS.iload X43.here hx rfl (hb hby at_174) rfl ?_
          show Steps p.tables e below (T43.setTop (mkF m 176 #[.val (.int i0), .val (.int i1), .val (.int i2), .val (.int i3), .val (.int i4), .val (.int i5), .val (.int prev), .val (.int most), .val (.int bef), .val (.int bcp), .val (.int nn), .val (.int cnt), .val (.ref b1), .val (.int (1 : Int32)), .unset, .unset] [(.int most), (.long (nn.toInt64))])) _
          refine XS.i2l X43.here hx rfl (hb hby at_176) rfl ?_
          show Steps p.tables e below (T43.setTop (mkF m 177 #[.val (.int i0), .val (.int i1), .val (.int i2), .val (.int i3), .val (.int i4), .val (.int i5), .val (.int prev), .val (.int most), .val (.int bef), .val (.int bcp), .val (.int nn), .val (.int cnt), .val (.ref b1), .val (.int (1 : Int32)), .unset, .unset] [(.long (most.toInt64)), (.long (nn.toInt64))])) _
          exact kk)
        by_cases hs3 : (0 : Int32) < (lcmpW (nn.toInt64) (most.toInt64))
        · obtain ⟨_, _, ⟨T44, L44, k44, n44⟩, -, X44, ⟨Lc44, hQ44, l44, y44, z44⟩, st44⟩ := Jvm.LawKit.callS X43 hx (y := (⟨"java/lang/Math", "min", "(JJ)J"⟩ : MethodName)) hown (mvT hZ (own_w76 hw)) (mvT hZ (own_w60 hw)) (mvT hZ (own_w61 hw)) (mvT hZ (own_w62 hw)) (by decide) (backOf (W := 0) (rm8_9 l Z a0 hw [] (nn.toInt64) (most.toInt64) T41.heap n0 (Nat.le_trans Z0 KC42.1) hs3) hZ (own_w62 hw) (own_w61 hw) (by decide) (by decide)) (g := (mkF m 177 #[.val (.int i0), .val (.int i1), .val (.int i2), .val (.int i3), .val (.int i4), .val (.int i5), .val (.int prev), .val (.int most), .val (.int bef), .val (.int bcp), .val (.int nn), .val (.int cnt), .val (.ref b1), .val (.int (1 : Int32)), .unset, .unset] [(.long (most.toInt64)), (.long (nn.toInt64))])) rfl (by rw [hml]; rfl) (argsL := [(.long (nn.toInt64)), (.long (most.toInt64))]) (rest := []) (lenOf pd__JJ_J rfl) rfl (by show 2 * 0 + _ ≤ _; exact Nat.le_of_eq rfl) (hb hby at_177) (fun _ _ => ⟨rfl, e43, (by decide : 2 + 0 ≤ _), (by decide : 19 + 0 ≤ _)⟩)
          dsimp only [Pt.U, Pt.locs, Pt.cells, Pt.slots] at X44 l44 y44 z44 st44 hQ44
          subst l44 y44 z44
          obtain ⟨rfl, N44q, e44⟩ := hQ44
          have N44 := Fr.app N43 N44q
          obtain ⟨cq45, kq45, q45a, q45b, q45c⟩ := isOf hZ e44 f41_0
          obtain ⟨_, _, ⟨T45, L45, k45, n45⟩, -, X45, ⟨Lc45, hQ45, l45, y45, z45⟩, st45⟩ := X44.virtualBack hx (y := (⟨"stavelog/wire/History", "copy", "(JI)V"⟩ : MethodName)) (z := (⟨"stavelog/wire/History", "copy", "(JI)V"⟩ : MethodName)) hown (mvT hZ (own_w54 hw)) (mvT hZ (own_w55 hw)) (notFace_of_selects (args := #[]) (mvT hZ (own_w57 hw))) (mvT hZ (own_w57 hw)) (mvT hZ (own_w56 hw)) (by decide) (backOf (W := 0) (rm7_10 l Z a0 hw [] b1 (most.toInt64) cnt nn most b3 T41.heap n0 (Nat.le_trans Z0 KC42.1) f41_10 f41_3 f41_8 f41_7 hs3 (own_c2 (by rw [hdef_most]; exact own_pow i3)) (own_cmp_gt _ : ¬ ((0 : Int32) < (lcmpW (most.toInt64) (most.toInt64)))) f41_0 f41_6 g_b1 f41_4 f41_5 f41_2 f41_1 f41_9) hZ (own_w58 hw) (own_w4 hw) (by decide) (by decide)) q45a q45c (g := (mkF m 188 #[.val (.int i0), .val (.int i1), .val (.int i2), .val (.int i3), .val (.int i4), .val (.int i5), .val (.int prev), .val (.int most), .val (.int bef), .val (.int bcp), .val (.int nn), .val (.int cnt), .val (.ref b1), .val (.int (1 : Int32)), .val (.long (most.toInt64)), .second] [(.int cnt), (.long (most.toInt64)), (.ref b1)])) rfl (by rw [hml]; rfl) (Steps.refl _) (argsL := [(.long (most.toInt64)), (.int cnt)]) (rest := []) (lenOf pd__JI_V rfl) rfl (by show 2 * 0 + _ ≤ _; exact Nat.le_of_eq rfl) (hb hby at_188) (fun _ _ => ⟨rfl, e44, (by decide : 2 + 0 ≤ _), (by decide : 19 + 0 ≤ _)⟩)
          dsimp only [Pt.U, Pt.locs, Pt.cells, Pt.slots] at X45 l45 y45 z45 st45 hQ45
          subst l45 y45 z45
          obtain ⟨rfl, N45q, K45, f45_0, f45_1, f45_2, f45_3, f45_4, f45_5, f45_6, f45_7, f45_8, f45_9, f45_10⟩ := hQ45
          have N45 := Fr.app N44 N45q
          have KC46 : Keep h0 T45.heap [] := KC42.trans K45 (allS (Or.inr sz0_b1) all0)
          obtain ⟨cq47, kq47, q47a, q47b, q47c⟩ := isOf hZ rfl f45_4
          obtain ⟨_, _, ⟨T47, L47, k47, n47⟩, -, X47, ⟨Lc47, hQ47, l47, y47, z47⟩, st47⟩ := X45.virtualBack hx (y := (⟨"stavelog/wire/History", "written", "()J"⟩ : MethodName)) (z := (⟨"stavelog/wire/History", "written", "()J"⟩ : MethodName)) hown (mvT hZ (own_w75 hw)) (mvT hZ (own_w71 hw)) (notFace_of_selects (args := #[]) (mvT hZ (own_w73 hw))) (mvT hZ (own_w73 hw)) (mvT hZ (own_w72 hw)) (by decide) (backOf (W := 0) (rm10_11 l Z a0 hw [] b1 nn cnt T45.heap n0 (Nat.le_trans Z0 KC46.1) f45_0 f45_1 f45_6) hZ (own_w74 hw) (own_w4 hw) (by decide) (by decide)) q47a q47c (g := (mkF m 198 #[.val (.int i0), .val (.int i1), .val (.int i2), .val (.int i3), .val (.int i4), .val (.int i5), .val (.int prev), .val (.int most), .val (.int bef), .val (.int bcp), .val (.int nn), .val (.int cnt), .val (.ref b1), .val (.int (1 : Int32)), .val (.long (most.toInt64)), .second] [(.ref b1)])) rfl (by rw [hml]; rfl) (Steps.refl _) (argsL := []) (rest := []) (lenOf pd___J rfl) rfl (by show 2 * 0 + _ ≤ _; exact Nat.le_of_eq rfl) (hb hby at_198) (fun _ _ => ⟨rfl, rfl, (by decide : 2 + 0 ≤ _), (by decide : 19 + 0 ≤ _)⟩)
          dsimp only [Pt.U, Pt.locs, Pt.cells, Pt.slots] at X47 l47 y47 z47 st47 hQ47
          subst l47 y47 z47
          obtain ⟨rfl, N47q, e47⟩ := hQ47
          have N47 := Fr.app N45 N47q
          obtain ⟨fs, hr, hrun, hended, hW, hsame⟩ := X47.leave (v := some (.int (1 : Int32))) (fun h => by rw [Bd.returns] at h; cases h)
          refine ⟨_, _, pre6 _ ?_, hrun, hended, _, _, rfl, ⟨rfl, N47⟩, ⟨_, rfl⟩, hW, hsame.mono (by decide) (by decide)⟩
          show Steps p.tables e below (T43.setTop (mkF m 177 #[.val (.int i0), .val (.int i1), .val (.int i2), .val (.int i3), .val (.int i4), .val (.int i5), .val (.int prev), .val (.int most), .val (.int bef), .val (.int bcp), .val (.int nn), .val (.int cnt), .val (.ref b1), .val (.int (1 : Int32)), .unset, .unset] [(.long (most.toInt64)), (.long (nn.toInt64))])) _
          refine st44 _ ?_
          show Steps p.tables e below (T44.setTop (mkF m 180 #[.val (.int i0), .val (.int i1), .val (.int i2), .val (.int i3), .val (.int i4), .val (.int i5), .val (.int prev), .val (.int most), .val (.int bef), .val (.int bcp), .val (.int nn), .val (.int cnt), .val (.ref b1), .val (.int (1 : Int32)), .unset, .unset] [(.long (most.toInt64))])) _
          refine XS.lstore X44.here hx rfl (hb hby at_180) rfl (l' := #[.val (.int i0), .val (.int i1), .val (.int i2), .val (.int i3), .val (.int i4), .val (.int i5), .val (.int prev), .val (.int most), .val (.int bef), .val (.int bcp), .val (.int nn), .val (.int cnt), .val (.ref b1), .val (.int (1 : Int32)), .val (.long (most.toInt64)), .second]) rfl ?_
          show Steps p.tables e below (T44.setTop (mkF m 182 #[.val (.int i0), .val (.int i1), .val (.int i2), .val (.int i3), .val (.int i4), .val (.int i5), .val (.int prev), .val (.int most), .val (.int bef), .val (.int bcp), .val (.int nn), .val (.int cnt), .val (.ref b1), .val (.int (1 : Int32)), .val (.long (most.toInt64)), .second] [])) _
          refine XS.aload X44.here hx rfl (hb hby at_182) rfl rfl ?_
          show Steps p.tables e below (T44.setTop (mkF m 184 #[.val (.int i0), .val (.int i1), .val (.int i2), .val (.int i3), .val (.int i4), .val (.int i5), .val (.int prev), .val (.int most), .val (.int bef), .val (.int bcp), .val (.int nn), .val (.int cnt), .val (.ref b1), .val (.int (1 : Int32)), .val (.long (most.toInt64)), .second] [(.ref b1)])) _
          refine XS.lload X44.here hx rfl (hb hby at_184) rfl ?_
          show Steps p.tables e below (T44.setTop (mkF m 186 #[.val (.int i0), .val (.int i1), .val (.int i2), .val (.int i3), .val (.int i4), .val (.int i5), .val (.int prev), .val (.int most), .val (.int bef), .val (.int bcp), .val (.int nn), .val (.int cnt), .val (.ref b1), .val (.int (1 : Int32)), .val (.long (most.toInt64)), .second] [(.long (most.toInt64)), (.ref b1)])) _
          refine XS.iload X44.here hx rfl (hb hby at_186) rfl ?_
          show Steps p.tables e below (T44.setTop (mkF m 188 #[.val (.int i0), .val (.int i1), .val (.int i2), .val (.int i3), .val (.int i4), .val (.int i5), .val (.int prev), .val (.int most), .val (.int bef), .val (.int bcp), .val (.int nn), .val (.int cnt), .val (.ref b1), .val (.int (1 : Int32)), .val (.long (most.toInt64)), .second] [(.int cnt), (.long (most.toInt64)), (.ref b1)])) _
          refine st45.trans ?_
          show Steps p.tables e below (T45.setTop (mkF m 191 #[.val (.int i0), .val (.int i1), .val (.int i2), .val (.int i3), .val (.int i4), .val (.int i5), .val (.int prev), .val (.int most), .val (.int bef), .val (.int bcp), .val (.int nn), .val (.int cnt), .val (.ref b1), .val (.int (1 : Int32)), .val (.long (most.toInt64)), .second] [])) _
          refine XS.iload X45.here hx rfl (hb hby at_191) rfl ?_
          show Steps p.tables e below (T45.setTop (mkF m 193 #[.val (.int i0), .val (.int i1), .val (.int i2), .val (.int i3), .val (.int i4), .val (.int i5), .val (.int prev), .val (.int most), .val (.int bef), .val (.int bcp), .val (.int nn), .val (.int cnt), .val (.ref b1), .val (.int (1 : Int32)), .val (.long (most.toInt64)), .second] [(.int (1 : Int32))])) _
          refine XS.ifNo X45.here hx rfl (hb hby at_193) rfl ((if0 _ _).trans (feq (by decide : ¬ ((1 : Int32) = (0 : Int32)))).1) ?_
          show Steps p.tables e below (T45.setTop (mkF m 196 #[.val (.int i0), .val (.int i1), .val (.int i2), .val (.int i3), .val (.int i4), .val (.int i5), .val (.int prev), .val (.int most), .val (.int bef), .val (.int bcp), .val (.int nn), .val (.int cnt), .val (.ref b1), .val (.int (1 : Int32)), .val (.long (most.toInt64)), .second] [])) _
          refine XS.aload X45.here hx rfl (hb hby at_196) rfl rfl ?_
          show Steps p.tables e below (T45.setTop (mkF m 198 #[.val (.int i0), .val (.int i1), .val (.int i2), .val (.int i3), .val (.int i4), .val (.int i5), .val (.int prev), .val (.int most), .val (.int bef), .val (.int bcp), .val (.int nn), .val (.int cnt), .val (.ref b1), .val (.int (1 : Int32)), .val (.long (most.toInt64)), .second] [(.ref b1)])) _
          refine st47.trans ?_
          show Steps p.tables e below (T47.setTop (mkF m 201 #[.val (.int i0), .val (.int i1), .val (.int i2), .val (.int i3), .val (.int i4), .val (.int i5), .val (.int prev), .val (.int most), .val (.int bef), .val (.int bcp), .val (.int nn), .val (.int cnt), .val (.ref b1), .val (.int (1 : Int32)), .val (.long (most.toInt64)), .second] [(.long ((nn.toInt64) + (cnt.toInt64)))])) _
          refine XS.iload X47.here hx rfl (hb hby at_201) rfl ?_
          show Steps p.tables e below (T47.setTop (mkF m 203 #[.val (.int i0), .val (.int i1), .val (.int i2), .val (.int i3), .val (.int i4), .val (.int i5), .val (.int prev), .val (.int most), .val (.int bef), .val (.int bcp), .val (.int nn), .val (.int cnt), .val (.ref b1), .val (.int (1 : Int32)), .val (.long (most.toInt64)), .second] [(.int nn), (.long ((nn.toInt64) + (cnt.toInt64)))])) _
          refine XS.i2l X47.here hx rfl (hb hby at_203) rfl ?_
          show Steps p.tables e below (T47.setTop (mkF m 204 #[.val (.int i0), .val (.int i1), .val (.int i2), .val (.int i3), .val (.int i4), .val (.int i5), .val (.int prev), .val (.int most), .val (.int bef), .val (.int bcp), .val (.int nn), .val (.int cnt), .val (.ref b1), .val (.int (1 : Int32)), .val (.long (most.toInt64)), .second] [(.long (nn.toInt64)), (.long ((nn.toInt64) + (cnt.toInt64)))])) _
          refine XS.iload X47.here hx rfl (hb hby at_204) rfl ?_
          show Steps p.tables e below (T47.setTop (mkF m 206 #[.val (.int i0), .val (.int i1), .val (.int i2), .val (.int i3), .val (.int i4), .val (.int i5), .val (.int prev), .val (.int most), .val (.int bef), .val (.int bcp), .val (.int nn), .val (.int cnt), .val (.ref b1), .val (.int (1 : Int32)), .val (.long (most.toInt64)), .second] [(.int cnt), (.long (nn.toInt64)), (.long ((nn.toInt64) + (cnt.toInt64)))])) _
          refine XS.i2l X47.here hx rfl (hb hby at_206) rfl ?_
          show Steps p.tables e below (T47.setTop (mkF m 207 #[.val (.int i0), .val (.int i1), .val (.int i2), .val (.int i3), .val (.int i4), .val (.int i5), .val (.int prev), .val (.int most), .val (.int bef), .val (.int bcp), .val (.int nn), .val (.int cnt), .val (.ref b1), .val (.int (1 : Int32)), .val (.long (most.toInt64)), .second] [(.long (cnt.toInt64)), (.long (nn.toInt64)), (.long ((nn.toInt64) + (cnt.toInt64)))])) _
          refine XS.ladd X47.here hx rfl (hb hby at_207) rfl ?_
          show Steps p.tables e below (T47.setTop (mkF m 208 #[.val (.int i0), .val (.int i1), .val (.int i2), .val (.int i3), .val (.int i4), .val (.int i5), .val (.int prev), .val (.int most), .val (.int bef), .val (.int bcp), .val (.int nn), .val (.int cnt), .val (.ref b1), .val (.int (1 : Int32)), .val (.long (most.toInt64)), .second] [(.long ((nn.toInt64) + (cnt.toInt64))), (.long ((nn.toInt64) + (cnt.toInt64)))])) _
          refine XS.lcmp X47.here hx rfl (hb hby at_208) rfl ?_
          show Steps p.tables e below (T47.setTop (mkF m 209 #[.val (.int i0), .val (.int i1), .val (.int i2), .val (.int i3), .val (.int i4), .val (.int i5), .val (.int prev), .val (.int most), .val (.int bef), .val (.int bcp), .val (.int nn), .val (.int cnt), .val (.ref b1), .val (.int (1 : Int32)), .val (.long (most.toInt64)), .second] [(.int (lcmpW ((nn.toInt64) + (cnt.toInt64)) ((nn.toInt64) + (cnt.toInt64))))])) _
          rw [own_cmp_self]
          show Steps p.tables e below (T47.setTop (mkF m 209 #[.val (.int i0), .val (.int i1), .val (.int i2), .val (.int i3), .val (.int i4), .val (.int i5), .val (.int prev), .val (.int most), .val (.int bef), .val (.int bcp), .val (.int nn), .val (.int cnt), .val (.ref b1), .val (.int (1 : Int32)), .val (.long (most.toInt64)), .second] [(.int (0 : Int32))])) _
          refine XS.ifNo X47.here hx rfl (hb hby at_209) rfl ((if0 _ _).trans (teq (by decide : (0 : Int32) = (0 : Int32))).2) ?_
          show Steps p.tables e below (T47.setTop (mkF m 212 #[.val (.int i0), .val (.int i1), .val (.int i2), .val (.int i3), .val (.int i4), .val (.int i5), .val (.int prev), .val (.int most), .val (.int bef), .val (.int bcp), .val (.int nn), .val (.int cnt), .val (.ref b1), .val (.int (1 : Int32)), .val (.long (most.toInt64)), .second] [])) _
          refine XS.iconst X47.here hx rfl (hb hby at_212) ?_
          show Steps p.tables e below (T47.setTop (mkF m 213 #[.val (.int i0), .val (.int i1), .val (.int i2), .val (.int i3), .val (.int i4), .val (.int i5), .val (.int prev), .val (.int most), .val (.int bef), .val (.int bcp), .val (.int nn), .val (.int cnt), .val (.ref b1), .val (.int (1 : Int32)), .val (.long (most.toInt64)), .second] [(.int (1 : Int32))])) _
          refine XS.goto X47.here hx rfl (pc0 := 213) (pc' := 217) rfl (hb hby at_213) (by decide) (by decide) ?_
          show Steps p.tables e below (T47.setTop (mkF m 217 #[.val (.int i0), .val (.int i1), .val (.int i2), .val (.int i3), .val (.int i4), .val (.int i5), .val (.int prev), .val (.int most), .val (.int bef), .val (.int bcp), .val (.int nn), .val (.int cnt), .val (.ref b1), .val (.int (1 : Int32)), .val (.long (most.toInt64)), .second] [(.int (1 : Int32))])) _
          refine XS.istore X47.here hx rfl (hb hby at_217) rfl (l' := #[.val (.int i0), .val (.int i1), .val (.int i2), .val (.int i3), .val (.int i4), .val (.int i5), .val (.int prev), .val (.int most), .val (.int bef), .val (.int bcp), .val (.int nn), .val (.int cnt), .val (.ref b1), .val (.int (1 : Int32)), .val (.long (most.toInt64)), .second]) rfl ?_
          show Steps p.tables e below (T47.setTop (mkF m 219 #[.val (.int i0), .val (.int i1), .val (.int i2), .val (.int i3), .val (.int i4), .val (.int i5), .val (.int prev), .val (.int most), .val (.int bef), .val (.int bcp), .val (.int nn), .val (.int cnt), .val (.ref b1), .val (.int (1 : Int32)), .val (.long (most.toInt64)), .second] [])) _
          refine XS.iload X47.here hx rfl (hb hby at_219) rfl ?_
          show Steps p.tables e below (T47.setTop (mkF m 221 #[.val (.int i0), .val (.int i1), .val (.int i2), .val (.int i3), .val (.int i4), .val (.int i5), .val (.int prev), .val (.int most), .val (.int bef), .val (.int bcp), .val (.int nn), .val (.int cnt), .val (.ref b1), .val (.int (1 : Int32)), .val (.long (most.toInt64)), .second] [(.int (1 : Int32))])) _
          exact retN X47 hx (t := .boolean) Bd.returns (by simp) (hb hby at_221) hr
        · obtain ⟨_, _, ⟨T44, L44, k44, n44⟩, -, X44, ⟨Lc44, hQ44, l44, y44, z44⟩, st44⟩ := Jvm.LawKit.callS X43 hx (y := (⟨"java/lang/Math", "min", "(JJ)J"⟩ : MethodName)) hown (mvT hZ (own_w76 hw)) (mvT hZ (own_w60 hw)) (mvT hZ (own_w61 hw)) (mvT hZ (own_w62 hw)) (by decide) (backOf (W := 0) (rm8_12 l Z a0 hw [] (nn.toInt64) (most.toInt64) T41.heap n0 (Nat.le_trans Z0 KC42.1) hs3) hZ (own_w62 hw) (own_w61 hw) (by decide) (by decide)) (g := (mkF m 177 #[.val (.int i0), .val (.int i1), .val (.int i2), .val (.int i3), .val (.int i4), .val (.int i5), .val (.int prev), .val (.int most), .val (.int bef), .val (.int bcp), .val (.int nn), .val (.int cnt), .val (.ref b1), .val (.int (1 : Int32)), .unset, .unset] [(.long (most.toInt64)), (.long (nn.toInt64))])) rfl (by rw [hml]; rfl) (argsL := [(.long (nn.toInt64)), (.long (most.toInt64))]) (rest := []) (lenOf pd__JJ_J rfl) rfl (by show 2 * 0 + _ ≤ _; exact Nat.le_of_eq rfl) (hb hby at_177) (fun _ _ => ⟨rfl, e43, (by decide : 2 + 0 ≤ _), (by decide : 19 + 0 ≤ _)⟩)
          dsimp only [Pt.U, Pt.locs, Pt.cells, Pt.slots] at X44 l44 y44 z44 st44 hQ44
          subst l44 y44 z44
          obtain ⟨rfl, N44q, e44⟩ := hQ44
          have N44 := Fr.app N43 N44q
          obtain ⟨cq45, kq45, q45a, q45b, q45c⟩ := isOf hZ e44 f41_0
          obtain ⟨_, _, ⟨T45, L45, k45, n45⟩, -, X45, ⟨Lc45, hQ45, l45, y45, z45⟩, st45⟩ := X44.virtualBack hx (y := (⟨"stavelog/wire/History", "copy", "(JI)V"⟩ : MethodName)) (z := (⟨"stavelog/wire/History", "copy", "(JI)V"⟩ : MethodName)) hown (mvT hZ (own_w54 hw)) (mvT hZ (own_w55 hw)) (notFace_of_selects (args := #[]) (mvT hZ (own_w57 hw))) (mvT hZ (own_w57 hw)) (mvT hZ (own_w56 hw)) (by decide) (backOf (W := 0) (rm7_13 l Z a0 hw [] b1 (nn.toInt64) cnt nn most b3 T41.heap n0 (Nat.le_trans Z0 KC42.1) f41_10 f41_3 f41_8 f41_7 hs3 (own_c2 (own_ge1 hs2)) (own_cmp_gt _ : ¬ ((0 : Int32) < (lcmpW (nn.toInt64) (nn.toInt64)))) f41_0 f41_6 g_b1 f41_4 f41_5 f41_2 f41_1 f41_9) hZ (own_w58 hw) (own_w4 hw) (by decide) (by decide)) q45a q45c (g := (mkF m 188 #[.val (.int i0), .val (.int i1), .val (.int i2), .val (.int i3), .val (.int i4), .val (.int i5), .val (.int prev), .val (.int most), .val (.int bef), .val (.int bcp), .val (.int nn), .val (.int cnt), .val (.ref b1), .val (.int (1 : Int32)), .val (.long (nn.toInt64)), .second] [(.int cnt), (.long (nn.toInt64)), (.ref b1)])) rfl (by rw [hml]; rfl) (Steps.refl _) (argsL := [(.long (nn.toInt64)), (.int cnt)]) (rest := []) (lenOf pd__JI_V rfl) rfl (by show 2 * 0 + _ ≤ _; exact Nat.le_of_eq rfl) (hb hby at_188) (fun _ _ => ⟨rfl, e44, (by decide : 2 + 0 ≤ _), (by decide : 19 + 0 ≤ _)⟩)
          dsimp only [Pt.U, Pt.locs, Pt.cells, Pt.slots] at X45 l45 y45 z45 st45 hQ45
          subst l45 y45 z45
          obtain ⟨rfl, N45q, K45, f45_0, f45_1, f45_2, f45_3, f45_4, f45_5, f45_6, f45_7, f45_8, f45_9, f45_10⟩ := hQ45
          have N45 := Fr.app N44 N45q
          have KC46 : Keep h0 T45.heap [] := KC42.trans K45 (allS (Or.inr sz0_b1) all0)
          obtain ⟨cq47, kq47, q47a, q47b, q47c⟩ := isOf hZ rfl f45_4
          obtain ⟨_, _, ⟨T47, L47, k47, n47⟩, -, X47, ⟨Lc47, hQ47, l47, y47, z47⟩, st47⟩ := X45.virtualBack hx (y := (⟨"stavelog/wire/History", "written", "()J"⟩ : MethodName)) (z := (⟨"stavelog/wire/History", "written", "()J"⟩ : MethodName)) hown (mvT hZ (own_w75 hw)) (mvT hZ (own_w71 hw)) (notFace_of_selects (args := #[]) (mvT hZ (own_w73 hw))) (mvT hZ (own_w73 hw)) (mvT hZ (own_w72 hw)) (by decide) (backOf (W := 0) (rm10_11 l Z a0 hw [] b1 nn cnt T45.heap n0 (Nat.le_trans Z0 KC46.1) f45_0 f45_1 f45_6) hZ (own_w74 hw) (own_w4 hw) (by decide) (by decide)) q47a q47c (g := (mkF m 198 #[.val (.int i0), .val (.int i1), .val (.int i2), .val (.int i3), .val (.int i4), .val (.int i5), .val (.int prev), .val (.int most), .val (.int bef), .val (.int bcp), .val (.int nn), .val (.int cnt), .val (.ref b1), .val (.int (1 : Int32)), .val (.long (nn.toInt64)), .second] [(.ref b1)])) rfl (by rw [hml]; rfl) (Steps.refl _) (argsL := []) (rest := []) (lenOf pd___J rfl) rfl (by show 2 * 0 + _ ≤ _; exact Nat.le_of_eq rfl) (hb hby at_198) (fun _ _ => ⟨rfl, rfl, (by decide : 2 + 0 ≤ _), (by decide : 19 + 0 ≤ _)⟩)
          dsimp only [Pt.U, Pt.locs, Pt.cells, Pt.slots] at X47 l47 y47 z47 st47 hQ47
          subst l47 y47 z47
          obtain ⟨rfl, N47q, e47⟩ := hQ47
          have N47 := Fr.app N45 N47q
          obtain ⟨fs, hr, hrun, hended, hW, hsame⟩ := X47.leave (v := some (.int (1 : Int32))) (fun h => by rw [Bd.returns] at h; cases h)
          refine ⟨_, _, pre6 _ ?_, hrun, hended, _, _, rfl, ⟨rfl, N47⟩, ⟨_, rfl⟩, hW, hsame.mono (by decide) (by decide)⟩
          show Steps p.tables e below (T43.setTop (mkF m 177 #[.val (.int i0), .val (.int i1), .val (.int i2), .val (.int i3), .val (.int i4), .val (.int i5), .val (.int prev), .val (.int most), .val (.int bef), .val (.int bcp), .val (.int nn), .val (.int cnt), .val (.ref b1), .val (.int (1 : Int32)), .unset, .unset] [(.long (most.toInt64)), (.long (nn.toInt64))])) _
          refine st44 _ ?_
          show Steps p.tables e below (T44.setTop (mkF m 180 #[.val (.int i0), .val (.int i1), .val (.int i2), .val (.int i3), .val (.int i4), .val (.int i5), .val (.int prev), .val (.int most), .val (.int bef), .val (.int bcp), .val (.int nn), .val (.int cnt), .val (.ref b1), .val (.int (1 : Int32)), .unset, .unset] [(.long (nn.toInt64))])) _
          refine XS.lstore X44.here hx rfl (hb hby at_180) rfl (l' := #[.val (.int i0), .val (.int i1), .val (.int i2), .val (.int i3), .val (.int i4), .val (.int i5), .val (.int prev), .val (.int most), .val (.int bef), .val (.int bcp), .val (.int nn), .val (.int cnt), .val (.ref b1), .val (.int (1 : Int32)), .val (.long (nn.toInt64)), .second]) rfl ?_
          show Steps p.tables e below (T44.setTop (mkF m 182 #[.val (.int i0), .val (.int i1), .val (.int i2), .val (.int i3), .val (.int i4), .val (.int i5), .val (.int prev), .val (.int most), .val (.int bef), .val (.int bcp), .val (.int nn), .val (.int cnt), .val (.ref b1), .val (.int (1 : Int32)), .val (.long (nn.toInt64)), .second] [])) _
          refine XS.aload X44.here hx rfl (hb hby at_182) rfl rfl ?_
          show Steps p.tables e below (T44.setTop (mkF m 184 #[.val (.int i0), .val (.int i1), .val (.int i2), .val (.int i3), .val (.int i4), .val (.int i5), .val (.int prev), .val (.int most), .val (.int bef), .val (.int bcp), .val (.int nn), .val (.int cnt), .val (.ref b1), .val (.int (1 : Int32)), .val (.long (nn.toInt64)), .second] [(.ref b1)])) _
          refine XS.lload X44.here hx rfl (hb hby at_184) rfl ?_
          show Steps p.tables e below (T44.setTop (mkF m 186 #[.val (.int i0), .val (.int i1), .val (.int i2), .val (.int i3), .val (.int i4), .val (.int i5), .val (.int prev), .val (.int most), .val (.int bef), .val (.int bcp), .val (.int nn), .val (.int cnt), .val (.ref b1), .val (.int (1 : Int32)), .val (.long (nn.toInt64)), .second] [(.long (nn.toInt64)), (.ref b1)])) _
          refine XS.iload X44.here hx rfl (hb hby at_186) rfl ?_
          show Steps p.tables e below (T44.setTop (mkF m 188 #[.val (.int i0), .val (.int i1), .val (.int i2), .val (.int i3), .val (.int i4), .val (.int i5), .val (.int prev), .val (.int most), .val (.int bef), .val (.int bcp), .val (.int nn), .val (.int cnt), .val (.ref b1), .val (.int (1 : Int32)), .val (.long (nn.toInt64)), .second] [(.int cnt), (.long (nn.toInt64)), (.ref b1)])) _
          refine st45.trans ?_
          show Steps p.tables e below (T45.setTop (mkF m 191 #[.val (.int i0), .val (.int i1), .val (.int i2), .val (.int i3), .val (.int i4), .val (.int i5), .val (.int prev), .val (.int most), .val (.int bef), .val (.int bcp), .val (.int nn), .val (.int cnt), .val (.ref b1), .val (.int (1 : Int32)), .val (.long (nn.toInt64)), .second] [])) _
          refine XS.iload X45.here hx rfl (hb hby at_191) rfl ?_
          show Steps p.tables e below (T45.setTop (mkF m 193 #[.val (.int i0), .val (.int i1), .val (.int i2), .val (.int i3), .val (.int i4), .val (.int i5), .val (.int prev), .val (.int most), .val (.int bef), .val (.int bcp), .val (.int nn), .val (.int cnt), .val (.ref b1), .val (.int (1 : Int32)), .val (.long (nn.toInt64)), .second] [(.int (1 : Int32))])) _
          refine XS.ifNo X45.here hx rfl (hb hby at_193) rfl ((if0 _ _).trans (feq (by decide : ¬ ((1 : Int32) = (0 : Int32)))).1) ?_
          show Steps p.tables e below (T45.setTop (mkF m 196 #[.val (.int i0), .val (.int i1), .val (.int i2), .val (.int i3), .val (.int i4), .val (.int i5), .val (.int prev), .val (.int most), .val (.int bef), .val (.int bcp), .val (.int nn), .val (.int cnt), .val (.ref b1), .val (.int (1 : Int32)), .val (.long (nn.toInt64)), .second] [])) _
          refine XS.aload X45.here hx rfl (hb hby at_196) rfl rfl ?_
          show Steps p.tables e below (T45.setTop (mkF m 198 #[.val (.int i0), .val (.int i1), .val (.int i2), .val (.int i3), .val (.int i4), .val (.int i5), .val (.int prev), .val (.int most), .val (.int bef), .val (.int bcp), .val (.int nn), .val (.int cnt), .val (.ref b1), .val (.int (1 : Int32)), .val (.long (nn.toInt64)), .second] [(.ref b1)])) _
          refine st47.trans ?_
          show Steps p.tables e below (T47.setTop (mkF m 201 #[.val (.int i0), .val (.int i1), .val (.int i2), .val (.int i3), .val (.int i4), .val (.int i5), .val (.int prev), .val (.int most), .val (.int bef), .val (.int bcp), .val (.int nn), .val (.int cnt), .val (.ref b1), .val (.int (1 : Int32)), .val (.long (nn.toInt64)), .second] [(.long ((nn.toInt64) + (cnt.toInt64)))])) _
          refine XS.iload X47.here hx rfl (hb hby at_201) rfl ?_
          show Steps p.tables e below (T47.setTop (mkF m 203 #[.val (.int i0), .val (.int i1), .val (.int i2), .val (.int i3), .val (.int i4), .val (.int i5), .val (.int prev), .val (.int most), .val (.int bef), .val (.int bcp), .val (.int nn), .val (.int cnt), .val (.ref b1), .val (.int (1 : Int32)), .val (.long (nn.toInt64)), .second] [(.int nn), (.long ((nn.toInt64) + (cnt.toInt64)))])) _
          refine XS.i2l X47.here hx rfl (hb hby at_203) rfl ?_
          show Steps p.tables e below (T47.setTop (mkF m 204 #[.val (.int i0), .val (.int i1), .val (.int i2), .val (.int i3), .val (.int i4), .val (.int i5), .val (.int prev), .val (.int most), .val (.int bef), .val (.int bcp), .val (.int nn), .val (.int cnt), .val (.ref b1), .val (.int (1 : Int32)), .val (.long (nn.toInt64)), .second] [(.long (nn.toInt64)), (.long ((nn.toInt64) + (cnt.toInt64)))])) _
          refine XS.iload X47.here hx rfl (hb hby at_204) rfl ?_
          show Steps p.tables e below (T47.setTop (mkF m 206 #[.val (.int i0), .val (.int i1), .val (.int i2), .val (.int i3), .val (.int i4), .val (.int i5), .val (.int prev), .val (.int most), .val (.int bef), .val (.int bcp), .val (.int nn), .val (.int cnt), .val (.ref b1), .val (.int (1 : Int32)), .val (.long (nn.toInt64)), .second] [(.int cnt), (.long (nn.toInt64)), (.long ((nn.toInt64) + (cnt.toInt64)))])) _
          refine XS.i2l X47.here hx rfl (hb hby at_206) rfl ?_
          show Steps p.tables e below (T47.setTop (mkF m 207 #[.val (.int i0), .val (.int i1), .val (.int i2), .val (.int i3), .val (.int i4), .val (.int i5), .val (.int prev), .val (.int most), .val (.int bef), .val (.int bcp), .val (.int nn), .val (.int cnt), .val (.ref b1), .val (.int (1 : Int32)), .val (.long (nn.toInt64)), .second] [(.long (cnt.toInt64)), (.long (nn.toInt64)), (.long ((nn.toInt64) + (cnt.toInt64)))])) _
          refine XS.ladd X47.here hx rfl (hb hby at_207) rfl ?_
          show Steps p.tables e below (T47.setTop (mkF m 208 #[.val (.int i0), .val (.int i1), .val (.int i2), .val (.int i3), .val (.int i4), .val (.int i5), .val (.int prev), .val (.int most), .val (.int bef), .val (.int bcp), .val (.int nn), .val (.int cnt), .val (.ref b1), .val (.int (1 : Int32)), .val (.long (nn.toInt64)), .second] [(.long ((nn.toInt64) + (cnt.toInt64))), (.long ((nn.toInt64) + (cnt.toInt64)))])) _
          refine XS.lcmp X47.here hx rfl (hb hby at_208) rfl ?_
          show Steps p.tables e below (T47.setTop (mkF m 209 #[.val (.int i0), .val (.int i1), .val (.int i2), .val (.int i3), .val (.int i4), .val (.int i5), .val (.int prev), .val (.int most), .val (.int bef), .val (.int bcp), .val (.int nn), .val (.int cnt), .val (.ref b1), .val (.int (1 : Int32)), .val (.long (nn.toInt64)), .second] [(.int (lcmpW ((nn.toInt64) + (cnt.toInt64)) ((nn.toInt64) + (cnt.toInt64))))])) _
          rw [own_cmp_self]
          show Steps p.tables e below (T47.setTop (mkF m 209 #[.val (.int i0), .val (.int i1), .val (.int i2), .val (.int i3), .val (.int i4), .val (.int i5), .val (.int prev), .val (.int most), .val (.int bef), .val (.int bcp), .val (.int nn), .val (.int cnt), .val (.ref b1), .val (.int (1 : Int32)), .val (.long (nn.toInt64)), .second] [(.int (0 : Int32))])) _
          refine XS.ifNo X47.here hx rfl (hb hby at_209) rfl ((if0 _ _).trans (teq (by decide : (0 : Int32) = (0 : Int32))).2) ?_
          show Steps p.tables e below (T47.setTop (mkF m 212 #[.val (.int i0), .val (.int i1), .val (.int i2), .val (.int i3), .val (.int i4), .val (.int i5), .val (.int prev), .val (.int most), .val (.int bef), .val (.int bcp), .val (.int nn), .val (.int cnt), .val (.ref b1), .val (.int (1 : Int32)), .val (.long (nn.toInt64)), .second] [])) _
          refine XS.iconst X47.here hx rfl (hb hby at_212) ?_
          show Steps p.tables e below (T47.setTop (mkF m 213 #[.val (.int i0), .val (.int i1), .val (.int i2), .val (.int i3), .val (.int i4), .val (.int i5), .val (.int prev), .val (.int most), .val (.int bef), .val (.int bcp), .val (.int nn), .val (.int cnt), .val (.ref b1), .val (.int (1 : Int32)), .val (.long (nn.toInt64)), .second] [(.int (1 : Int32))])) _
          refine XS.goto X47.here hx rfl (pc0 := 213) (pc' := 217) rfl (hb hby at_213) (by decide) (by decide) ?_
          show Steps p.tables e below (T47.setTop (mkF m 217 #[.val (.int i0), .val (.int i1), .val (.int i2), .val (.int i3), .val (.int i4), .val (.int i5), .val (.int prev), .val (.int most), .val (.int bef), .val (.int bcp), .val (.int nn), .val (.int cnt), .val (.ref b1), .val (.int (1 : Int32)), .val (.long (nn.toInt64)), .second] [(.int (1 : Int32))])) _
          refine XS.istore X47.here hx rfl (hb hby at_217) rfl (l' := #[.val (.int i0), .val (.int i1), .val (.int i2), .val (.int i3), .val (.int i4), .val (.int i5), .val (.int prev), .val (.int most), .val (.int bef), .val (.int bcp), .val (.int nn), .val (.int cnt), .val (.ref b1), .val (.int (1 : Int32)), .val (.long (nn.toInt64)), .second]) rfl ?_
          show Steps p.tables e below (T47.setTop (mkF m 219 #[.val (.int i0), .val (.int i1), .val (.int i2), .val (.int i3), .val (.int i4), .val (.int i5), .val (.int prev), .val (.int most), .val (.int bef), .val (.int bcp), .val (.int nn), .val (.int cnt), .val (.ref b1), .val (.int (1 : Int32)), .val (.long (nn.toInt64)), .second] [])) _
          refine XS.iload X47.here hx rfl (hb hby at_219) rfl ?_
          show Steps p.tables e below (T47.setTop (mkF m 221 #[.val (.int i0), .val (.int i1), .val (.int i2), .val (.int i3), .val (.int i4), .val (.int i5), .val (.int prev), .val (.int most), .val (.int bef), .val (.int bcp), .val (.int nn), .val (.int cnt), .val (.ref b1), .val (.int (1 : Int32)), .val (.long (nn.toInt64)), .second] [(.int (1 : Int32))])) _
          exact retN X47 hx (t := .boolean) Bd.returns (by simp) (hb hby at_221) hr
  · obtain ⟨cq36, kq36, q36a, q36b, q36c⟩ := isOf hZ rfl f34_0
    obtain ⟨_, _, ⟨T36, L36, k36, n36⟩, -, X36, ⟨Lc36, hQ36, l36, y36, z36⟩, st36⟩ := X34.virtualBack hx (y := (⟨"stavelog/wire/History", "copy", "(JI)V"⟩ : MethodName)) (z := (⟨"stavelog/wire/History", "copy", "(JI)V"⟩ : MethodName)) hown (mvT hZ (own_w54 hw)) (mvT hZ (own_w55 hw)) (notFace_of_selects (args := #[]) (mvT hZ (own_w57 hw))) (mvT hZ (own_w57 hw)) (mvT hZ (own_w56 hw)) (by decide) (backOf (W := 0) (rmJ7_18 l Z a0 hw [] b1 bcp bef prev b3 T34.heap n0 (Nat.le_trans Z0 KC35.1) f34_10 f34_3 f34_8 f34_7 (own_c1 (by rw [hdef_prev]; exact own_pow i0)) f34_0 f34_6 g_b1 f34_4 f34_5 f34_2 f34_1 f34_9 (own_c1 (own_ge1 hs0))) hZ (own_w58 hw) (own_w4 hw) (by decide) (by decide)) q36a q36c (g := (mkF m 93 #[.val (.int i0), .val (.int i1), .val (.int i2), .val (.int i3), .val (.int i4), .val (.int i5), .val (.int prev), .val (.int most), .val (.int bef), .val (.int bcp), .val (.int nn), .val (.int cnt), .val (.ref b1), .unset, .unset, .unset] [(.int bcp), (.long (1 : Int64)), (.ref b1)])) rfl (by rw [hml]; rfl) (Steps.refl _) (argsL := [(.long (1 : Int64)), (.int bcp)]) (rest := []) (lenOf pd__JI_V rfl) rfl (by show 2 * 0 + _ ≤ _; exact Nat.le_of_eq rfl) (hb hby at_93) (fun _ _ => ⟨rfl, rfl, (by decide : 2 + 0 ≤ _), (by decide : 19 + 0 ≤ _)⟩)
    dsimp only [Pt.U, Pt.locs, Pt.cells, Pt.slots] at X36 l36 y36 z36 st36 hQ36
    subst l36 y36 z36
    obtain ⟨rfl, N36q, K36, f36_0, f36_1, f36_2, f36_3, f36_4, f36_5, f36_6, f36_7, f36_8, f36_9, f36_10⟩ := hQ36
    have N36 := Fr.app N34 N36q
    have KC37 : Keep h0 T36.heap [] := KC35.trans K36 (allS (Or.inr sz0_b1) all0)
    have pre7 : ∀ t, Steps p.tables e below (T36.setTop (mkF m 100 #[.val (.int i0), .val (.int i1), .val (.int i2), .val (.int i3), .val (.int i4), .val (.int i5), .val (.int prev), .val (.int most), .val (.int bef), .val (.int bcp), .val (.int nn), .val (.int cnt), .val (.ref b1), .unset, .unset, .unset] [(.int (i5 &&& (1 : Int32)))])) t → Steps p.tables e below (s₁.setTop (entryFrame m #[(.int i0), (.int i1), (.int i2), (.int i3), (.int i4), (.int i5)] maxLocals)) t := fun t kk => pre1 t (by
      show Steps p.tables e below (T34.setTop (mkF m 85 #[.val (.int i0), .val (.int i1), .val (.int i2), .val (.int i3), .val (.int i4), .val (.int i5), .val (.int prev), .val (.int most), .val (.int bef), .val (.int bcp), .val (.int nn), .val (.int cnt), .val (.ref b1), .unset, .unset, .unset] [(.int (1 : Int32)), (.int bef)])) _
      refine XS.icmpNo X34.here hx rfl (hb hby at_85) rfl (flt hs0).1 ?_
      show Steps p.tables e below (T34.setTop (mkF m 88 #[.val (.int i0), .val (.int i1), .val (.int i2), .val (.int i3), .val (.int i4), .val (.int i5), .val (.int prev), .val (.int most), .val (.int bef), .val (.int bcp), .val (.int nn), .val (.int cnt), .val (.ref b1), .unset, .unset, .unset] [])) _
      refine XS.aload X34.here hx rfl (hb hby at_88) rfl rfl ?_
      show Steps p.tables e below (T34.setTop (mkF m 90 #[.val (.int i0), .val (.int i1), .val (.int i2), .val (.int i3), .val (.int i4), .val (.int i5), .val (.int prev), .val (.int most), .val (.int bef), .val (.int bcp), .val (.int nn), .val (.int cnt), .val (.ref b1), .unset, .unset, .unset] [(.ref b1)])) _
      refine XS.lconst X34.here hx rfl (hb hby at_90) ?_
      show Steps p.tables e below (T34.setTop (mkF m 91 #[.val (.int i0), .val (.int i1), .val (.int i2), .val (.int i3), .val (.int i4), .val (.int i5), .val (.int prev), .val (.int most), .val (.int bef), .val (.int bcp), .val (.int nn), .val (.int cnt), .val (.ref b1), .unset, .unset, .unset] [(.long (1 : Int64)), (.ref b1)])) _
      refine XS.iload X34.here hx rfl (hb hby at_91) rfl ?_
      show Steps p.tables e below (T34.setTop (mkF m 93 #[.val (.int i0), .val (.int i1), .val (.int i2), .val (.int i3), .val (.int i4), .val (.int i5), .val (.int prev), .val (.int most), .val (.int bef), .val (.int bcp), .val (.int nn), .val (.int cnt), .val (.ref b1), .unset, .unset, .unset] [(.int bcp), (.long (1 : Int64)), (.ref b1)])) _
      refine st36.trans ?_
      show Steps p.tables e below (T36.setTop (mkF m 96 #[.val (.int i0), .val (.int i1), .val (.int i2), .val (.int i3), .val (.int i4), .val (.int i5), .val (.int prev), .val (.int most), .val (.int bef), .val (.int bcp), .val (.int nn), .val (.int cnt), .val (.ref b1), .unset, .unset, .unset] [])) _
      refine XS.iload X36.here hx rfl (hb hby at_96) rfl ?_
      show Steps p.tables e below (T36.setTop (mkF m 98 #[.val (.int i0), .val (.int i1), .val (.int i2), .val (.int i3), .val (.int i4), .val (.int i5), .val (.int prev), .val (.int most), .val (.int bef), .val (.int bcp), .val (.int nn), .val (.int cnt), .val (.ref b1), .unset, .unset, .unset] [(.int i5)])) _
      refine XS.iconst X36.here hx rfl (hb hby at_98) ?_
      show Steps p.tables e below (T36.setTop (mkF m 99 #[.val (.int i0), .val (.int i1), .val (.int i2), .val (.int i3), .val (.int i4), .val (.int i5), .val (.int prev), .val (.int most), .val (.int bef), .val (.int bcp), .val (.int nn), .val (.int cnt), .val (.ref b1), .unset, .unset, .unset] [(.int (1 : Int32)), (.int i5)])) _
      refine XS.iand X36.here hx rfl (hb hby at_99) rfl ?_
      show Steps p.tables e below (T36.setTop (mkF m 100 #[.val (.int i0), .val (.int i1), .val (.int i2), .val (.int i3), .val (.int i4), .val (.int i5), .val (.int prev), .val (.int most), .val (.int bef), .val (.int bcp), .val (.int nn), .val (.int cnt), .val (.ref b1), .unset, .unset, .unset] [(.int (i5 &&& (1 : Int32)))])) _
      exact kk)
    rcases own_bit i5 with he1 | he1
    · obtain ⟨cq38, kq38, q38a, q38b, q38c⟩ := isOf hZ rfl f36_4
      obtain ⟨_, _, ⟨T38, L38, k38, n38⟩, -, X38, ⟨Lc38, hQ38, l38, y38, z38⟩, st38⟩ := X36.virtualBack hx (y := (⟨"stavelog/wire/History", "start", "(I)V"⟩ : MethodName)) (z := (⟨"stavelog/wire/History", "start", "(I)V"⟩ : MethodName)) hown (mvT hZ (own_w28 hw)) (mvT hZ (own_w29 hw)) (notFace_of_selects (args := #[]) (mvT hZ (own_w31 hw))) (mvT hZ (own_w31 hw)) (mvT hZ (own_w30 hw)) (by decide) (backOf (W := 0) (rm5_19 l Z a0 hw [] b1 most prev bef bcp b3 T36.heap n0 (Nat.le_trans Z0 KC37.1) f36_4 f36_3 g_b1 f36_0 f36_2 f36_1 f36_6 f36_10 f36_7 f36_5 f36_8 f36_9) hZ (own_w32 hw) (own_w4 hw) (by decide) (by decide)) q38a q38c (g := (mkF m 112 #[.val (.int i0), .val (.int i1), .val (.int i2), .val (.int i3), .val (.int i4), .val (.int i5), .val (.int prev), .val (.int most), .val (.int bef), .val (.int bcp), .val (.int nn), .val (.int cnt), .val (.ref b1), .unset, .unset, .unset] [(.int most), (.ref b1)])) rfl (by rw [hml]; rfl) (Steps.refl _) (argsL := [(.int most)]) (rest := []) (lenOf pd__I_V rfl) rfl (by show 2 * 0 + _ ≤ _; exact Nat.le_of_eq rfl) (hb hby at_112) (fun _ _ => ⟨rfl, rfl, (by decide : 2 + 0 ≤ _), (by decide : 19 + 0 ≤ _)⟩)
      dsimp only [Pt.U, Pt.locs, Pt.cells, Pt.slots] at X38 l38 y38 z38 st38 hQ38
      subst l38 y38 z38
      obtain ⟨rfl, N38q, K38, f38_0, f38_1, f38_2, f38_3, f38_4, f38_5, f38_6, f38_7, f38_8, f38_9, f38_10⟩ := hQ38
      have N38 := Fr.app N36 N38q
      have KC39 : Keep h0 T38.heap [] := KC37.trans K38 (allS (Or.inr sz0_b1) all0)
      obtain ⟨cq40, kq40, q40a, q40b, q40c⟩ := isOf hZ rfl f38_0
      obtain ⟨_, _, ⟨T40, L40, k40, n40⟩, -, X40, ⟨Lc40, hQ40, l40, y40, z40⟩, st40⟩ := X38.virtualBack hx (y := (⟨"stavelog/wire/History", "written", "()J"⟩ : MethodName)) (z := (⟨"stavelog/wire/History", "written", "()J"⟩ : MethodName)) hown (mvT hZ (own_w75 hw)) (mvT hZ (own_w71 hw)) (notFace_of_selects (args := #[]) (mvT hZ (own_w73 hw))) (mvT hZ (own_w73 hw)) (mvT hZ (own_w72 hw)) (by decide) (backOf (W := 0) (rm10_7 l Z a0 hw [] b1 T38.heap n0 (Nat.le_trans Z0 KC39.1) f38_2 f38_4 f38_5) hZ (own_w74 hw) (own_w4 hw) (by decide) (by decide)) q40a q40c (g := (mkF m 117 #[.val (.int i0), .val (.int i1), .val (.int i2), .val (.int i3), .val (.int i4), .val (.int i5), .val (.int prev), .val (.int most), .val (.int bef), .val (.int bcp), .val (.int nn), .val (.int cnt), .val (.ref b1), .unset, .unset, .unset] [(.ref b1)])) rfl (by rw [hml]; rfl) (Steps.refl _) (argsL := []) (rest := []) (lenOf pd___J rfl) rfl (by show 2 * 0 + _ ≤ _; exact Nat.le_of_eq rfl) (hb hby at_117) (fun _ _ => ⟨rfl, rfl, (by decide : 2 + 0 ≤ _), (by decide : 19 + 0 ≤ _)⟩)
      dsimp only [Pt.U, Pt.locs, Pt.cells, Pt.slots] at X40 l40 y40 z40 st40 hQ40
      subst l40 y40 z40
      obtain ⟨rfl, N40q, e40⟩ := hQ40
      have N40 := Fr.app N38 N40q
      obtain ⟨cq41, kq41, q41a, q41b, q41c⟩ := isOf hZ e40 f38_0
      obtain ⟨_, _, ⟨T41, L41, k41, n41⟩, -, X41, ⟨Lc41, hQ41, l41, y41, z41⟩, st41⟩ := X40.virtualBack hx (y := (⟨"stavelog/wire/History", "literals", "(Ljava/nio/ByteBuffer;II)V"⟩ : MethodName)) (z := (⟨"stavelog/wire/History", "literals", "(Ljava/nio/ByteBuffer;II)V"⟩ : MethodName)) hown (mvT hZ (own_w45 hw)) (mvT hZ (own_w46 hw)) (notFace_of_selects (args := #[]) (mvT hZ (own_w48 hw))) (mvT hZ (own_w48 hw)) (mvT hZ (own_w47 hw)) (by decide) (backOf (W := 0) (rm6_20 l Z a0 hw [] b1 nn b3 most T38.heap n0 (Nat.le_trans Z0 KC39.1) f38_0 f38_10 g_b1 f38_9 f38_4 f38_5 f38_7 f38_8 f38_1 f38_3 f38_6 f38_2) hZ (own_w49 hw) (own_w4 hw) (by decide) (by decide)) q41a q41c (g := (mkF m 138 #[.val (.int i0), .val (.int i1), .val (.int i2), .val (.int i3), .val (.int i4), .val (.int i5), .val (.int prev), .val (.int most), .val (.int bef), .val (.int bcp), .val (.int nn), .val (.int cnt), .val (.ref b1), .val (.int (1 : Int32)), .unset, .unset] [(.int nn), (.int (0 : Int32)), .null, (.ref b1)])) rfl (by rw [hml]; rfl) (Steps.refl _) (argsL := [.null, (.int (0 : Int32)), (.int nn)]) (rest := []) (lenOf pd__Ljava_nio_ByteBuffer_II_V rfl) rfl (by show 2 * 0 + _ ≤ _; exact Nat.le_of_eq rfl) (hb hby at_138) (fun _ _ => ⟨rfl, e40, (by decide : 2 + 0 ≤ _), (by decide : 19 + 0 ≤ _)⟩)
      dsimp only [Pt.U, Pt.locs, Pt.cells, Pt.slots] at X41 l41 y41 z41 st41 hQ41
      subst l41 y41 z41
      obtain ⟨rfl, N41q, K41, f41_0, f41_1, f41_2, f41_3, f41_4, f41_5, f41_6, f41_7, f41_8, f41_9, f41_10⟩ := hQ41
      have N41 := Fr.app N40 N41q
      have KC42 : Keep h0 T41.heap [] := KC39.trans K41 (allS (Or.inr sz0_b1) all0)
      obtain ⟨cq43, kq43, q43a, q43b, q43c⟩ := isOf hZ rfl f41_0
      obtain ⟨_, _, ⟨T43, L43, k43, n43⟩, -, X43, ⟨Lc43, hQ43, l43, y43, z43⟩, st43⟩ := X41.virtualBack hx (y := (⟨"stavelog/wire/History", "written", "()J"⟩ : MethodName)) (z := (⟨"stavelog/wire/History", "written", "()J"⟩ : MethodName)) hown (mvT hZ (own_w75 hw)) (mvT hZ (own_w71 hw)) (notFace_of_selects (args := #[]) (mvT hZ (own_w73 hw))) (mvT hZ (own_w73 hw)) (mvT hZ (own_w72 hw)) (by decide) (backOf (W := 0) (rm10_8 l Z a0 hw [] b1 nn T41.heap n0 (Nat.le_trans Z0 KC42.1) f41_10 f41_3 f41_4) hZ (own_w74 hw) (own_w4 hw) (by decide) (by decide)) q43a q43c (g := (mkF m 148 #[.val (.int i0), .val (.int i1), .val (.int i2), .val (.int i3), .val (.int i4), .val (.int i5), .val (.int prev), .val (.int most), .val (.int bef), .val (.int bcp), .val (.int nn), .val (.int cnt), .val (.ref b1), .val (.int (1 : Int32)), .unset, .unset] [(.ref b1)])) rfl (by rw [hml]; rfl) (Steps.refl _) (argsL := []) (rest := []) (lenOf pd___J rfl) rfl (by show 2 * 0 + _ ≤ _; exact Nat.le_of_eq rfl) (hb hby at_148) (fun _ _ => ⟨rfl, rfl, (by decide : 2 + 0 ≤ _), (by decide : 19 + 0 ≤ _)⟩)
      dsimp only [Pt.U, Pt.locs, Pt.cells, Pt.slots] at X43 l43 y43 z43 st43 hQ43
      subst l43 y43 z43
      obtain ⟨rfl, N43q, e43⟩ := hQ43
      have N43 := Fr.app N41 N43q
      have pre8 : ∀ t, Steps p.tables e below (T43.setTop (mkF m 168 #[.val (.int i0), .val (.int i1), .val (.int i2), .val (.int i3), .val (.int i4), .val (.int i5), .val (.int prev), .val (.int most), .val (.int bef), .val (.int bcp), .val (.int nn), .val (.int cnt), .val (.ref b1), .val (.int (1 : Int32)), .unset, .unset] [(.int (1 : Int32)), (.int nn)])) t → Steps p.tables e below (s₁.setTop (entryFrame m #[(.int i0), (.int i1), (.int i2), (.int i3), (.int i4), (.int i5)] maxLocals)) t := fun t kk => pre7 t (by
        show Steps p.tables e below (T36.setTop (mkF m 100 #[.val (.int i0), .val (.int i1), .val (.int i2), .val (.int i3), .val (.int i4), .val (.int i5), .val (.int prev), .val (.int most), .val (.int bef), .val (.int bcp), .val (.int nn), .val (.int cnt), .val (.ref b1), .unset, .unset, .unset] [(.int (i5 &&& (1 : Int32)))])) _
        rw [he1]
        show Steps p.tables e below (T36.setTop (mkF m 100 #[.val (.int i0), .val (.int i1), .val (.int i2), .val (.int i3), .val (.int i4), .val (.int i5), .val (.int prev), .val (.int most), .val (.int bef), .val (.int bcp), .val (.int nn), .val (.int cnt), .val (.ref b1), .unset, .unset, .unset] [(.int (0 : Int32))])) _
        refine XS.ifYes X36.here hx rfl (pc0 := 100) (pc' := 108) rfl (hb hby at_100) rfl ((if0 _ _).trans (teq (by decide : (0 : Int32) = (0 : Int32))).1) (by decide) (by decide) ?_
        show Steps p.tables e below (T36.setTop (mkF m 108 #[.val (.int i0), .val (.int i1), .val (.int i2), .val (.int i3), .val (.int i4), .val (.int i5), .val (.int prev), .val (.int most), .val (.int bef), .val (.int bcp), .val (.int nn), .val (.int cnt), .val (.ref b1), .unset, .unset, .unset] [])) _
        refine XS.aload X36.here hx rfl (hb hby at_108) rfl rfl ?_
        show Steps p.tables e below (T36.setTop (mkF m 110 #[.val (.int i0), .val (.int i1), .val (.int i2), .val (.int i3), .val (.int i4), .val (.int i5), .val (.int prev), .val (.int most), .val (.int bef), .val (.int bcp), .val (.int nn), .val (.int cnt), .val (.ref b1), .unset, .unset, .unset] [(.ref b1)])) _
        refine XS.iload X36.here hx rfl (hb hby at_110) rfl ?_
        show Steps p.tables e below (T36.setTop (mkF m 112 #[.val (.int i0), .val (.int i1), .val (.int i2), .val (.int i3), .val (.int i4), .val (.int i5), .val (.int prev), .val (.int most), .val (.int bef), .val (.int bcp), .val (.int nn), .val (.int cnt), .val (.ref b1), .unset, .unset, .unset] [(.int most), (.ref b1)])) _
        refine st38.trans ?_
        show Steps p.tables e below (T38.setTop (mkF m 115 #[.val (.int i0), .val (.int i1), .val (.int i2), .val (.int i3), .val (.int i4), .val (.int i5), .val (.int prev), .val (.int most), .val (.int bef), .val (.int bcp), .val (.int nn), .val (.int cnt), .val (.ref b1), .unset, .unset, .unset] [])) _
        refine XS.aload X38.here hx rfl (hb hby at_115) rfl rfl ?_
        show Steps p.tables e below (T38.setTop (mkF m 117 #[.val (.int i0), .val (.int i1), .val (.int i2), .val (.int i3), .val (.int i4), .val (.int i5), .val (.int prev), .val (.int most), .val (.int bef), .val (.int bcp), .val (.int nn), .val (.int cnt), .val (.ref b1), .unset, .unset, .unset] [(.ref b1)])) _
        refine st40.trans ?_
        show Steps p.tables e below (T40.setTop (mkF m 120 #[.val (.int i0), .val (.int i1), .val (.int i2), .val (.int i3), .val (.int i4), .val (.int i5), .val (.int prev), .val (.int most), .val (.int bef), .val (.int bcp), .val (.int nn), .val (.int cnt), .val (.ref b1), .unset, .unset, .unset] [(.long (0 : Int64))])) _
        refine XS.lconst X40.here hx rfl (hb hby at_120) ?_
        show Steps p.tables e below (T40.setTop (mkF m 121 #[.val (.int i0), .val (.int i1), .val (.int i2), .val (.int i3), .val (.int i4), .val (.int i5), .val (.int prev), .val (.int most), .val (.int bef), .val (.int bcp), .val (.int nn), .val (.int cnt), .val (.ref b1), .unset, .unset, .unset] [(.long (0 : Int64)), (.long (0 : Int64))])) _
        refine XS.lcmp X40.here hx rfl (hb hby at_121) rfl ?_
        show Steps p.tables e below (T40.setTop (mkF m 122 #[.val (.int i0), .val (.int i1), .val (.int i2), .val (.int i3), .val (.int i4), .val (.int i5), .val (.int prev), .val (.int most), .val (.int bef), .val (.int bcp), .val (.int nn), .val (.int cnt), .val (.ref b1), .unset, .unset, .unset] [(.int (lcmpW (0 : Int64) (0 : Int64)))])) _
        rw [(by decide : (lcmpW (0 : Int64) (0 : Int64)) = (0 : Int32))]
        show Steps p.tables e below (T40.setTop (mkF m 122 #[.val (.int i0), .val (.int i1), .val (.int i2), .val (.int i3), .val (.int i4), .val (.int i5), .val (.int prev), .val (.int most), .val (.int bef), .val (.int bcp), .val (.int nn), .val (.int cnt), .val (.ref b1), .unset, .unset, .unset] [(.int (0 : Int32))])) _
        refine XS.ifNo X40.here hx rfl (hb hby at_122) rfl ((if0 _ _).trans (teq (by decide : (0 : Int32) = (0 : Int32))).2) ?_
        show Steps p.tables e below (T40.setTop (mkF m 125 #[.val (.int i0), .val (.int i1), .val (.int i2), .val (.int i3), .val (.int i4), .val (.int i5), .val (.int prev), .val (.int most), .val (.int bef), .val (.int bcp), .val (.int nn), .val (.int cnt), .val (.ref b1), .unset, .unset, .unset] [])) _
        refine XS.iconst X40.here hx rfl (hb hby at_125) ?_
        show Steps p.tables e below (T40.setTop (mkF m 126 #[.val (.int i0), .val (.int i1), .val (.int i2), .val (.int i3), .val (.int i4), .val (.int i5), .val (.int prev), .val (.int most), .val (.int bef), .val (.int bcp), .val (.int nn), .val (.int cnt), .val (.ref b1), .unset, .unset, .unset] [(.int (1 : Int32))])) _
        refine XS.goto X40.here hx rfl (pc0 := 126) (pc' := 130) rfl (hb hby at_126) (by decide) (by decide) ?_
        show Steps p.tables e below (T40.setTop (mkF m 130 #[.val (.int i0), .val (.int i1), .val (.int i2), .val (.int i3), .val (.int i4), .val (.int i5), .val (.int prev), .val (.int most), .val (.int bef), .val (.int bcp), .val (.int nn), .val (.int cnt), .val (.ref b1), .unset, .unset, .unset] [(.int (1 : Int32))])) _
        refine XS.istore X40.here hx rfl (hb hby at_130) rfl (l' := #[.val (.int i0), .val (.int i1), .val (.int i2), .val (.int i3), .val (.int i4), .val (.int i5), .val (.int prev), .val (.int most), .val (.int bef), .val (.int bcp), .val (.int nn), .val (.int cnt), .val (.ref b1), .val (.int (1 : Int32)), .unset, .unset]) rfl ?_
        show Steps p.tables e below (T40.setTop (mkF m 132 #[.val (.int i0), .val (.int i1), .val (.int i2), .val (.int i3), .val (.int i4), .val (.int i5), .val (.int prev), .val (.int most), .val (.int bef), .val (.int bcp), .val (.int nn), .val (.int cnt), .val (.ref b1), .val (.int (1 : Int32)), .unset, .unset] [])) _
        refine XS.aload X40.here hx rfl (hb hby at_132) rfl rfl ?_
        show Steps p.tables e below (T40.setTop (mkF m 134 #[.val (.int i0), .val (.int i1), .val (.int i2), .val (.int i3), .val (.int i4), .val (.int i5), .val (.int prev), .val (.int most), .val (.int bef), .val (.int bcp), .val (.int nn), .val (.int cnt), .val (.ref b1), .val (.int (1 : Int32)), .unset, .unset] [(.ref b1)])) _
        refine XS.aconstNull X40.here hx rfl (hb hby at_134) ?_
        show Steps p.tables e below (T40.setTop (mkF m 135 #[.val (.int i0), .val (.int i1), .val (.int i2), .val (.int i3), .val (.int i4), .val (.int i5), .val (.int prev), .val (.int most), .val (.int bef), .val (.int bcp), .val (.int nn), .val (.int cnt), .val (.ref b1), .val (.int (1 : Int32)), .unset, .unset] [.null, (.ref b1)])) _
        refine XS.iconst X40.here hx rfl (hb hby at_135) ?_
        show Steps p.tables e below (T40.setTop (mkF m 136 #[.val (.int i0), .val (.int i1), .val (.int i2), .val (.int i3), .val (.int i4), .val (.int i5), .val (.int prev), .val (.int most), .val (.int bef), .val (.int bcp), .val (.int nn), .val (.int cnt), .val (.ref b1), .val (.int (1 : Int32)), .unset, .unset] [(.int (0 : Int32)), .null, (.ref b1)])) _
        refine XS.iload X40.here hx rfl (hb hby at_136) rfl ?_
        show Steps p.tables e below (T40.setTop (mkF m 138 #[.val (.int i0), .val (.int i1), .val (.int i2), .val (.int i3), .val (.int i4), .val (.int i5), .val (.int prev), .val (.int most), .val (.int bef), .val (.int bcp), .val (.int nn), .val (.int cnt), .val (.ref b1), .val (.int (1 : Int32)), .unset, .unset] [(.int nn), (.int (0 : Int32)), .null, (.ref b1)])) _
        refine st41.trans ?_
        show Steps p.tables e below (T41.setTop (mkF m 141 #[.val (.int i0), .val (.int i1), .val (.int i2), .val (.int i3), .val (.int i4), .val (.int i5), .val (.int prev), .val (.int most), .val (.int bef), .val (.int bcp), .val (.int nn), .val (.int cnt), .val (.ref b1), .val (.int (1 : Int32)), .unset, .unset] [])) _
        refine XS.iload X41.here hx rfl (hb hby at_141) rfl ?_
        show Steps p.tables e below (T41.setTop (mkF m 143 #[.val (.int i0), .val (.int i1), .val (.int i2), .val (.int i3), .val (.int i4), .val (.int i5), .val (.int prev), .val (.int most), .val (.int bef), .val (.int bcp), .val (.int nn), .val (.int cnt), .val (.ref b1), .val (.int (1 : Int32)), .unset, .unset] [(.int (1 : Int32))])) _
        refine XS.ifNo X41.here hx rfl (hb hby at_143) rfl ((if0 _ _).trans (feq (by decide : ¬ ((1 : Int32) = (0 : Int32)))).1) ?_
        show Steps p.tables e below (T41.setTop (mkF m 146 #[.val (.int i0), .val (.int i1), .val (.int i2), .val (.int i3), .val (.int i4), .val (.int i5), .val (.int prev), .val (.int most), .val (.int bef), .val (.int bcp), .val (.int nn), .val (.int cnt), .val (.ref b1), .val (.int (1 : Int32)), .unset, .unset] [])) _
        refine XS.aload X41.here hx rfl (hb hby at_146) rfl rfl ?_
        show Steps p.tables e below (T41.setTop (mkF m 148 #[.val (.int i0), .val (.int i1), .val (.int i2), .val (.int i3), .val (.int i4), .val (.int i5), .val (.int prev), .val (.int most), .val (.int bef), .val (.int bcp), .val (.int nn), .val (.int cnt), .val (.ref b1), .val (.int (1 : Int32)), .unset, .unset] [(.ref b1)])) _
        refine st43.trans ?_
        show Steps p.tables e below (T43.setTop (mkF m 151 #[.val (.int i0), .val (.int i1), .val (.int i2), .val (.int i3), .val (.int i4), .val (.int i5), .val (.int prev), .val (.int most), .val (.int bef), .val (.int bcp), .val (.int nn), .val (.int cnt), .val (.ref b1), .val (.int (1 : Int32)), .unset, .unset] [(.long (nn.toInt64))])) _
        refine XS.iload X43.here hx rfl (hb hby at_151) rfl ?_
        show Steps p.tables e below (T43.setTop (mkF m 153 #[.val (.int i0), .val (.int i1), .val (.int i2), .val (.int i3), .val (.int i4), .val (.int i5), .val (.int prev), .val (.int most), .val (.int bef), .val (.int bcp), .val (.int nn), .val (.int cnt), .val (.ref b1), .val (.int (1 : Int32)), .unset, .unset] [(.int nn), (.long (nn.toInt64))])) _
        refine XS.i2l X43.here hx rfl (hb hby at_153) rfl ?_
        show Steps p.tables e below (T43.setTop (mkF m 154 #[.val (.int i0), .val (.int i1), .val (.int i2), .val (.int i3), .val (.int i4), .val (.int i5), .val (.int prev), .val (.int most), .val (.int bef), .val (.int bcp), .val (.int nn), .val (.int cnt), .val (.ref b1), .val (.int (1 : Int32)), .unset, .unset] [(.long (nn.toInt64)), (.long (nn.toInt64))])) _
        refine XS.lcmp X43.here hx rfl (hb hby at_154) rfl ?_
        show Steps p.tables e below (T43.setTop (mkF m 155 #[.val (.int i0), .val (.int i1), .val (.int i2), .val (.int i3), .val (.int i4), .val (.int i5), .val (.int prev), .val (.int most), .val (.int bef), .val (.int bcp), .val (.int nn), .val (.int cnt), .val (.ref b1), .val (.int (1 : Int32)), .unset, .unset] [(.int (lcmpW (nn.toInt64) (nn.toInt64)))])) _
        rw [own_cmp_self]
        show Steps p.tables e below (T43.setTop (mkF m 155 #[.val (.int i0), .val (.int i1), .val (.int i2), .val (.int i3), .val (.int i4), .val (.int i5), .val (.int prev), .val (.int most), .val (.int bef), .val (.int bcp), .val (.int nn), .val (.int cnt), .val (.ref b1), .val (.int (1 : Int32)), .unset, .unset] [(.int (0 : Int32))])) _
        refine XS.ifNo X43.here hx rfl (hb hby at_155) rfl ((if0 _ _).trans (teq (by decide : (0 : Int32) = (0 : Int32))).2) ?_
        show Steps p.tables e below (T43.setTop (mkF m 158 #[.val (.int i0), .val (.int i1), .val (.int i2), .val (.int i3), .val (.int i4), .val (.int i5), .val (.int prev), .val (.int most), .val (.int bef), .val (.int bcp), .val (.int nn), .val (.int cnt), .val (.ref b1), .val (.int (1 : Int32)), .unset, .unset] [])) _
        refine XS.iconst X43.here hx rfl (hb hby at_158) ?_
        show Steps p.tables e below (T43.setTop (mkF m 159 #[.val (.int i0), .val (.int i1), .val (.int i2), .val (.int i3), .val (.int i4), .val (.int i5), .val (.int prev), .val (.int most), .val (.int bef), .val (.int bcp), .val (.int nn), .val (.int cnt), .val (.ref b1), .val (.int (1 : Int32)), .unset, .unset] [(.int (1 : Int32))])) _
        refine XS.goto X43.here hx rfl (pc0 := 159) (pc' := 163) rfl (hb hby at_159) (by decide) (by decide) ?_
        show Steps p.tables e below (T43.setTop (mkF m 163 #[.val (.int i0), .val (.int i1), .val (.int i2), .val (.int i3), .val (.int i4), .val (.int i5), .val (.int prev), .val (.int most), .val (.int bef), .val (.int bcp), .val (.int nn), .val (.int cnt), .val (.ref b1), .val (.int (1 : Int32)), .unset, .unset] [(.int (1 : Int32))])) _
        refine XS.istore X43.here hx rfl (hb hby at_163) rfl (l' := #[.val (.int i0), .val (.int i1), .val (.int i2), .val (.int i3), .val (.int i4), .val (.int i5), .val (.int prev), .val (.int most), .val (.int bef), .val (.int bcp), .val (.int nn), .val (.int cnt), .val (.ref b1), .val (.int (1 : Int32)), .unset, .unset]) rfl ?_
        show Steps p.tables e below (T43.setTop (mkF m 165 #[.val (.int i0), .val (.int i1), .val (.int i2), .val (.int i3), .val (.int i4), .val (.int i5), .val (.int prev), .val (.int most), .val (.int bef), .val (.int bcp), .val (.int nn), .val (.int cnt), .val (.ref b1), .val (.int (1 : Int32)), .unset, .unset] [])) _
        refine XS.iload X43.here hx rfl (hb hby at_165) rfl ?_
        show Steps p.tables e below (T43.setTop (mkF m 167 #[.val (.int i0), .val (.int i1), .val (.int i2), .val (.int i3), .val (.int i4), .val (.int i5), .val (.int prev), .val (.int most), .val (.int bef), .val (.int bcp), .val (.int nn), .val (.int cnt), .val (.ref b1), .val (.int (1 : Int32)), .unset, .unset] [(.int nn)])) _
        refine XS.iconst X43.here hx rfl (hb hby at_167) ?_
        show Steps p.tables e below (T43.setTop (mkF m 168 #[.val (.int i0), .val (.int i1), .val (.int i2), .val (.int i3), .val (.int i4), .val (.int i5), .val (.int prev), .val (.int most), .val (.int bef), .val (.int bcp), .val (.int nn), .val (.int cnt), .val (.ref b1), .val (.int (1 : Int32)), .unset, .unset] [(.int (1 : Int32)), (.int nn)])) _
        exact kk)
      by_cases hs2 : nn < (1 : Int32)
      · obtain ⟨fs, hr, hrun, hended, hW, hsame⟩ := X43.leave (v := some (.int (1 : Int32))) (fun h => by rw [Bd.returns] at h; cases h)
        refine ⟨_, _, pre8 _ ?_, hrun, hended, _, _, rfl, ⟨rfl, N43⟩, ⟨_, rfl⟩, hW, hsame.mono (by decide) (by decide)⟩
        show Steps p.tables e below (T43.setTop (mkF m 168 #[.val (.int i0), .val (.int i1), .val (.int i2), .val (.int i3), .val (.int i4), .val (.int i5), .val (.int prev), .val (.int most), .val (.int bef), .val (.int bcp), .val (.int nn), .val (.int cnt), .val (.ref b1), .val (.int (1 : Int32)), .unset, .unset] [(.int (1 : Int32)), (.int nn)])) _
        refine XS.icmpYes X43.here hx rfl (pc0 := 168) (pc' := 219) rfl (hb hby at_168) rfl (tlt hs2).1 (by decide) (by decide) ?_
        show Steps p.tables e below (T43.setTop (mkF m 219 #[.val (.int i0), .val (.int i1), .val (.int i2), .val (.int i3), .val (.int i4), .val (.int i5), .val (.int prev), .val (.int most), .val (.int bef), .val (.int bcp), .val (.int nn), .val (.int cnt), .val (.ref b1), .val (.int (1 : Int32)), .unset, .unset] [])) _
        refine XS.iload X43.here hx rfl (hb hby at_219) rfl ?_
        show Steps p.tables e below (T43.setTop (mkF m 221 #[.val (.int i0), .val (.int i1), .val (.int i2), .val (.int i3), .val (.int i4), .val (.int i5), .val (.int prev), .val (.int most), .val (.int bef), .val (.int bcp), .val (.int nn), .val (.int cnt), .val (.ref b1), .val (.int (1 : Int32)), .unset, .unset] [(.int (1 : Int32))])) _
        exact retN X43 hx (t := .boolean) Bd.returns (by simp) (hb hby at_221) hr
      · have pre9 : ∀ t, Steps p.tables e below (T43.setTop (mkF m 177 #[.val (.int i0), .val (.int i1), .val (.int i2), .val (.int i3), .val (.int i4), .val (.int i5), .val (.int prev), .val (.int most), .val (.int bef), .val (.int bcp), .val (.int nn), .val (.int cnt), .val (.ref b1), .val (.int (1 : Int32)), .unset, .unset] [(.long (most.toInt64)), (.long (nn.toInt64))])) t → Steps p.tables e below (s₁.setTop (entryFrame m #[(.int i0), (.int i1), (.int i2), (.int i3), (.int i4), (.int i5)] maxLocals)) t := fun t kk => pre8 t (by
          show Steps p.tables e below (T43.setTop (mkF m 168 #[.val (.int i0), .val (.int i1), .val (.int i2), .val (.int i3), .val (.int i4), .val (.int i5), .val (.int prev), .val (.int most), .val (.int bef), .val (.int bcp), .val (.int nn), .val (.int cnt), .val (.ref b1), .val (.int (1 : Int32)), .unset, .unset] [(.int (1 : Int32)), (.int nn)])) _
          refine XS.icmpNo X43.here hx rfl (hb hby at_168) rfl (flt hs2).1 ?_
          show Steps p.tables e below (T43.setTop (mkF m 171 #[.val (.int i0), .val (.int i1), .val (.int i2), .val (.int i3), .val (.int i4), .val (.int i5), .val (.int prev), .val (.int most), .val (.int bef), .val (.int bcp), .val (.int nn), .val (.int cnt), .val (.ref b1), .val (.int (1 : Int32)), .unset, .unset] [])) _
          refine XS.iload X43.here hx rfl (hb hby at_171) rfl ?_
          show Steps p.tables e below (T43.setTop (mkF m 173 #[.val (.int i0), .val (.int i1), .val (.int i2), .val (.int i3), .val (.int i4), .val (.int i5), .val (.int prev), .val (.int most), .val (.int bef), .val (.int bcp), .val (.int nn), .val (.int cnt), .val (.ref b1), .val (.int (1 : Int32)), .unset, .unset] [(.int nn)])) _
          refine XS.i2l X43.here hx rfl (hb hby at_173) rfl ?_
          show Steps p.tables e below (T43.setTop (mkF m 174 #[.val (.int i0), .val (.int i1), .val (.int i2), .val (.int i3), .val (.int i4), .val (.int i5), .val (.int prev), .val (.int most), .val (.int bef), .val (.int bcp), .val (.int nn), .val (.int cnt), .val (.ref b1), .val (.int (1 : Int32)), .unset, .unset] [(.long (nn.toInt64))])) _
          refine XS.iload X43.here hx rfl (hb hby at_174) rfl ?_
          show Steps p.tables e below (T43.setTop (mkF m 176 #[.val (.int i0), .val (.int i1), .val (.int i2), .val (.int i3), .val (.int i4), .val (.int i5), .val (.int prev), .val (.int most), .val (.int bef), .val (.int bcp), .val (.int nn), .val (.int cnt), .val (.ref b1), .val (.int (1 : Int32)), .unset, .unset] [(.int most), (.long (nn.toInt64))])) _
          refine XS.i2l X43.here hx rfl (hb hby at_176) rfl ?_
          show Steps p.tables e below (T43.setTop (mkF m 177 #[.val (.int i0), .val (.int i1), .val (.int i2), .val (.int i3), .val (.int i4), .val (.int i5), .val (.int prev), .val (.int most), .val (.int bef), .val (.int bcp), .val (.int nn), .val (.int cnt), .val (.ref b1), .val (.int (1 : Int32)), .unset, .unset] [(.long (most.toInt64)), (.long (nn.toInt64))])) _
          exact kk)
        by_cases hs3 : (0 : Int32) < (lcmpW (nn.toInt64) (most.toInt64))
        · obtain ⟨_, _, ⟨T44, L44, k44, n44⟩, -, X44, ⟨Lc44, hQ44, l44, y44, z44⟩, st44⟩ := Jvm.LawKit.callS X43 hx (y := (⟨"java/lang/Math", "min", "(JJ)J"⟩ : MethodName)) hown (mvT hZ (own_w76 hw)) (mvT hZ (own_w60 hw)) (mvT hZ (own_w61 hw)) (mvT hZ (own_w62 hw)) (by decide) (backOf (W := 0) (rm8_9 l Z a0 hw [] (nn.toInt64) (most.toInt64) T41.heap n0 (Nat.le_trans Z0 KC42.1) hs3) hZ (own_w62 hw) (own_w61 hw) (by decide) (by decide)) (g := (mkF m 177 #[.val (.int i0), .val (.int i1), .val (.int i2), .val (.int i3), .val (.int i4), .val (.int i5), .val (.int prev), .val (.int most), .val (.int bef), .val (.int bcp), .val (.int nn), .val (.int cnt), .val (.ref b1), .val (.int (1 : Int32)), .unset, .unset] [(.long (most.toInt64)), (.long (nn.toInt64))])) rfl (by rw [hml]; rfl) (argsL := [(.long (nn.toInt64)), (.long (most.toInt64))]) (rest := []) (lenOf pd__JJ_J rfl) rfl (by show 2 * 0 + _ ≤ _; exact Nat.le_of_eq rfl) (hb hby at_177) (fun _ _ => ⟨rfl, e43, (by decide : 2 + 0 ≤ _), (by decide : 19 + 0 ≤ _)⟩)
          dsimp only [Pt.U, Pt.locs, Pt.cells, Pt.slots] at X44 l44 y44 z44 st44 hQ44
          subst l44 y44 z44
          obtain ⟨rfl, N44q, e44⟩ := hQ44
          have N44 := Fr.app N43 N44q
          obtain ⟨cq45, kq45, q45a, q45b, q45c⟩ := isOf hZ e44 f41_0
          obtain ⟨_, _, ⟨T45, L45, k45, n45⟩, -, X45, ⟨Lc45, hQ45, l45, y45, z45⟩, st45⟩ := X44.virtualBack hx (y := (⟨"stavelog/wire/History", "copy", "(JI)V"⟩ : MethodName)) (z := (⟨"stavelog/wire/History", "copy", "(JI)V"⟩ : MethodName)) hown (mvT hZ (own_w54 hw)) (mvT hZ (own_w55 hw)) (notFace_of_selects (args := #[]) (mvT hZ (own_w57 hw))) (mvT hZ (own_w57 hw)) (mvT hZ (own_w56 hw)) (by decide) (backOf (W := 0) (rm7_21 l Z a0 hw [] b1 (most.toInt64) cnt nn most b3 T41.heap n0 (Nat.le_trans Z0 KC42.1) f41_10 f41_3 f41_8 f41_7 hs3 (own_c2 (by rw [hdef_most]; exact own_pow i3)) (own_cmp_gt _ : ¬ ((0 : Int32) < (lcmpW (most.toInt64) (most.toInt64)))) f41_0 f41_6 g_b1 f41_4 f41_5 f41_2 f41_1 f41_9) hZ (own_w58 hw) (own_w4 hw) (by decide) (by decide)) q45a q45c (g := (mkF m 188 #[.val (.int i0), .val (.int i1), .val (.int i2), .val (.int i3), .val (.int i4), .val (.int i5), .val (.int prev), .val (.int most), .val (.int bef), .val (.int bcp), .val (.int nn), .val (.int cnt), .val (.ref b1), .val (.int (1 : Int32)), .val (.long (most.toInt64)), .second] [(.int cnt), (.long (most.toInt64)), (.ref b1)])) rfl (by rw [hml]; rfl) (Steps.refl _) (argsL := [(.long (most.toInt64)), (.int cnt)]) (rest := []) (lenOf pd__JI_V rfl) rfl (by show 2 * 0 + _ ≤ _; exact Nat.le_of_eq rfl) (hb hby at_188) (fun _ _ => ⟨rfl, e44, (by decide : 2 + 0 ≤ _), (by decide : 19 + 0 ≤ _)⟩)
          dsimp only [Pt.U, Pt.locs, Pt.cells, Pt.slots] at X45 l45 y45 z45 st45 hQ45
          subst l45 y45 z45
          obtain ⟨rfl, N45q, K45, f45_0, f45_1, f45_2, f45_3, f45_4, f45_5, f45_6, f45_7, f45_8, f45_9, f45_10⟩ := hQ45
          have N45 := Fr.app N44 N45q
          have KC46 : Keep h0 T45.heap [] := KC42.trans K45 (allS (Or.inr sz0_b1) all0)
          obtain ⟨cq47, kq47, q47a, q47b, q47c⟩ := isOf hZ rfl f45_4
          obtain ⟨_, _, ⟨T47, L47, k47, n47⟩, -, X47, ⟨Lc47, hQ47, l47, y47, z47⟩, st47⟩ := X45.virtualBack hx (y := (⟨"stavelog/wire/History", "written", "()J"⟩ : MethodName)) (z := (⟨"stavelog/wire/History", "written", "()J"⟩ : MethodName)) hown (mvT hZ (own_w75 hw)) (mvT hZ (own_w71 hw)) (notFace_of_selects (args := #[]) (mvT hZ (own_w73 hw))) (mvT hZ (own_w73 hw)) (mvT hZ (own_w72 hw)) (by decide) (backOf (W := 0) (rm10_11 l Z a0 hw [] b1 nn cnt T45.heap n0 (Nat.le_trans Z0 KC46.1) f45_0 f45_1 f45_6) hZ (own_w74 hw) (own_w4 hw) (by decide) (by decide)) q47a q47c (g := (mkF m 198 #[.val (.int i0), .val (.int i1), .val (.int i2), .val (.int i3), .val (.int i4), .val (.int i5), .val (.int prev), .val (.int most), .val (.int bef), .val (.int bcp), .val (.int nn), .val (.int cnt), .val (.ref b1), .val (.int (1 : Int32)), .val (.long (most.toInt64)), .second] [(.ref b1)])) rfl (by rw [hml]; rfl) (Steps.refl _) (argsL := []) (rest := []) (lenOf pd___J rfl) rfl (by show 2 * 0 + _ ≤ _; exact Nat.le_of_eq rfl) (hb hby at_198) (fun _ _ => ⟨rfl, rfl, (by decide : 2 + 0 ≤ _), (by decide : 19 + 0 ≤ _)⟩)
          dsimp only [Pt.U, Pt.locs, Pt.cells, Pt.slots] at X47 l47 y47 z47 st47 hQ47
          subst l47 y47 z47
          obtain ⟨rfl, N47q, e47⟩ := hQ47
          have N47 := Fr.app N45 N47q
          obtain ⟨fs, hr, hrun, hended, hW, hsame⟩ := X47.leave (v := some (.int (1 : Int32))) (fun h => by rw [Bd.returns] at h; cases h)
          refine ⟨_, _, pre9 _ ?_, hrun, hended, _, _, rfl, ⟨rfl, N47⟩, ⟨_, rfl⟩, hW, hsame.mono (by decide) (by decide)⟩
          show Steps p.tables e below (T43.setTop (mkF m 177 #[.val (.int i0), .val (.int i1), .val (.int i2), .val (.int i3), .val (.int i4), .val (.int i5), .val (.int prev), .val (.int most), .val (.int bef), .val (.int bcp), .val (.int nn), .val (.int cnt), .val (.ref b1), .val (.int (1 : Int32)), .unset, .unset] [(.long (most.toInt64)), (.long (nn.toInt64))])) _
          refine st44 _ ?_
          show Steps p.tables e below (T44.setTop (mkF m 180 #[.val (.int i0), .val (.int i1), .val (.int i2), .val (.int i3), .val (.int i4), .val (.int i5), .val (.int prev), .val (.int most), .val (.int bef), .val (.int bcp), .val (.int nn), .val (.int cnt), .val (.ref b1), .val (.int (1 : Int32)), .unset, .unset] [(.long (most.toInt64))])) _
          refine XS.lstore X44.here hx rfl (hb hby at_180) rfl (l' := #[.val (.int i0), .val (.int i1), .val (.int i2), .val (.int i3), .val (.int i4), .val (.int i5), .val (.int prev), .val (.int most), .val (.int bef), .val (.int bcp), .val (.int nn), .val (.int cnt), .val (.ref b1), .val (.int (1 : Int32)), .val (.long (most.toInt64)), .second]) rfl ?_
          show Steps p.tables e below (T44.setTop (mkF m 182 #[.val (.int i0), .val (.int i1), .val (.int i2), .val (.int i3), .val (.int i4), .val (.int i5), .val (.int prev), .val (.int most), .val (.int bef), .val (.int bcp), .val (.int nn), .val (.int cnt), .val (.ref b1), .val (.int (1 : Int32)), .val (.long (most.toInt64)), .second] [])) _
          refine XS.aload X44.here hx rfl (hb hby at_182) rfl rfl ?_
          show Steps p.tables e below (T44.setTop (mkF m 184 #[.val (.int i0), .val (.int i1), .val (.int i2), .val (.int i3), .val (.int i4), .val (.int i5), .val (.int prev), .val (.int most), .val (.int bef), .val (.int bcp), .val (.int nn), .val (.int cnt), .val (.ref b1), .val (.int (1 : Int32)), .val (.long (most.toInt64)), .second] [(.ref b1)])) _
          refine XS.lload X44.here hx rfl (hb hby at_184) rfl ?_
          show Steps p.tables e below (T44.setTop (mkF m 186 #[.val (.int i0), .val (.int i1), .val (.int i2), .val (.int i3), .val (.int i4), .val (.int i5), .val (.int prev), .val (.int most), .val (.int bef), .val (.int bcp), .val (.int nn), .val (.int cnt), .val (.ref b1), .val (.int (1 : Int32)), .val (.long (most.toInt64)), .second] [(.long (most.toInt64)), (.ref b1)])) _
          refine XS.iload X44.here hx rfl (hb hby at_186) rfl ?_
          show Steps p.tables e below (T44.setTop (mkF m 188 #[.val (.int i0), .val (.int i1), .val (.int i2), .val (.int i3), .val (.int i4), .val (.int i5), .val (.int prev), .val (.int most), .val (.int bef), .val (.int bcp), .val (.int nn), .val (.int cnt), .val (.ref b1), .val (.int (1 : Int32)), .val (.long (most.toInt64)), .second] [(.int cnt), (.long (most.toInt64)), (.ref b1)])) _
          refine st45.trans ?_
          show Steps p.tables e below (T45.setTop (mkF m 191 #[.val (.int i0), .val (.int i1), .val (.int i2), .val (.int i3), .val (.int i4), .val (.int i5), .val (.int prev), .val (.int most), .val (.int bef), .val (.int bcp), .val (.int nn), .val (.int cnt), .val (.ref b1), .val (.int (1 : Int32)), .val (.long (most.toInt64)), .second] [])) _
          refine XS.iload X45.here hx rfl (hb hby at_191) rfl ?_
          show Steps p.tables e below (T45.setTop (mkF m 193 #[.val (.int i0), .val (.int i1), .val (.int i2), .val (.int i3), .val (.int i4), .val (.int i5), .val (.int prev), .val (.int most), .val (.int bef), .val (.int bcp), .val (.int nn), .val (.int cnt), .val (.ref b1), .val (.int (1 : Int32)), .val (.long (most.toInt64)), .second] [(.int (1 : Int32))])) _
          refine XS.ifNo X45.here hx rfl (hb hby at_193) rfl ((if0 _ _).trans (feq (by decide : ¬ ((1 : Int32) = (0 : Int32)))).1) ?_
          show Steps p.tables e below (T45.setTop (mkF m 196 #[.val (.int i0), .val (.int i1), .val (.int i2), .val (.int i3), .val (.int i4), .val (.int i5), .val (.int prev), .val (.int most), .val (.int bef), .val (.int bcp), .val (.int nn), .val (.int cnt), .val (.ref b1), .val (.int (1 : Int32)), .val (.long (most.toInt64)), .second] [])) _
          refine XS.aload X45.here hx rfl (hb hby at_196) rfl rfl ?_
          show Steps p.tables e below (T45.setTop (mkF m 198 #[.val (.int i0), .val (.int i1), .val (.int i2), .val (.int i3), .val (.int i4), .val (.int i5), .val (.int prev), .val (.int most), .val (.int bef), .val (.int bcp), .val (.int nn), .val (.int cnt), .val (.ref b1), .val (.int (1 : Int32)), .val (.long (most.toInt64)), .second] [(.ref b1)])) _
          refine st47.trans ?_
          show Steps p.tables e below (T47.setTop (mkF m 201 #[.val (.int i0), .val (.int i1), .val (.int i2), .val (.int i3), .val (.int i4), .val (.int i5), .val (.int prev), .val (.int most), .val (.int bef), .val (.int bcp), .val (.int nn), .val (.int cnt), .val (.ref b1), .val (.int (1 : Int32)), .val (.long (most.toInt64)), .second] [(.long ((nn.toInt64) + (cnt.toInt64)))])) _
          refine XS.iload X47.here hx rfl (hb hby at_201) rfl ?_
          show Steps p.tables e below (T47.setTop (mkF m 203 #[.val (.int i0), .val (.int i1), .val (.int i2), .val (.int i3), .val (.int i4), .val (.int i5), .val (.int prev), .val (.int most), .val (.int bef), .val (.int bcp), .val (.int nn), .val (.int cnt), .val (.ref b1), .val (.int (1 : Int32)), .val (.long (most.toInt64)), .second] [(.int nn), (.long ((nn.toInt64) + (cnt.toInt64)))])) _
          refine XS.i2l X47.here hx rfl (hb hby at_203) rfl ?_
          show Steps p.tables e below (T47.setTop (mkF m 204 #[.val (.int i0), .val (.int i1), .val (.int i2), .val (.int i3), .val (.int i4), .val (.int i5), .val (.int prev), .val (.int most), .val (.int bef), .val (.int bcp), .val (.int nn), .val (.int cnt), .val (.ref b1), .val (.int (1 : Int32)), .val (.long (most.toInt64)), .second] [(.long (nn.toInt64)), (.long ((nn.toInt64) + (cnt.toInt64)))])) _
          refine XS.iload X47.here hx rfl (hb hby at_204) rfl ?_
          show Steps p.tables e below (T47.setTop (mkF m 206 #[.val (.int i0), .val (.int i1), .val (.int i2), .val (.int i3), .val (.int i4), .val (.int i5), .val (.int prev), .val (.int most), .val (.int bef), .val (.int bcp), .val (.int nn), .val (.int cnt), .val (.ref b1), .val (.int (1 : Int32)), .val (.long (most.toInt64)), .second] [(.int cnt), (.long (nn.toInt64)), (.long ((nn.toInt64) + (cnt.toInt64)))])) _
          refine XS.i2l X47.here hx rfl (hb hby at_206) rfl ?_
          show Steps p.tables e below (T47.setTop (mkF m 207 #[.val (.int i0), .val (.int i1), .val (.int i2), .val (.int i3), .val (.int i4), .val (.int i5), .val (.int prev), .val (.int most), .val (.int bef), .val (.int bcp), .val (.int nn), .val (.int cnt), .val (.ref b1), .val (.int (1 : Int32)), .val (.long (most.toInt64)), .second] [(.long (cnt.toInt64)), (.long (nn.toInt64)), (.long ((nn.toInt64) + (cnt.toInt64)))])) _
          refine XS.ladd X47.here hx rfl (hb hby at_207) rfl ?_
          show Steps p.tables e below (T47.setTop (mkF m 208 #[.val (.int i0), .val (.int i1), .val (.int i2), .val (.int i3), .val (.int i4), .val (.int i5), .val (.int prev), .val (.int most), .val (.int bef), .val (.int bcp), .val (.int nn), .val (.int cnt), .val (.ref b1), .val (.int (1 : Int32)), .val (.long (most.toInt64)), .second] [(.long ((nn.toInt64) + (cnt.toInt64))), (.long ((nn.toInt64) + (cnt.toInt64)))])) _
          refine XS.lcmp X47.here hx rfl (hb hby at_208) rfl ?_
          show Steps p.tables e below (T47.setTop (mkF m 209 #[.val (.int i0), .val (.int i1), .val (.int i2), .val (.int i3), .val (.int i4), .val (.int i5), .val (.int prev), .val (.int most), .val (.int bef), .val (.int bcp), .val (.int nn), .val (.int cnt), .val (.ref b1), .val (.int (1 : Int32)), .val (.long (most.toInt64)), .second] [(.int (lcmpW ((nn.toInt64) + (cnt.toInt64)) ((nn.toInt64) + (cnt.toInt64))))])) _
          rw [own_cmp_self]
          show Steps p.tables e below (T47.setTop (mkF m 209 #[.val (.int i0), .val (.int i1), .val (.int i2), .val (.int i3), .val (.int i4), .val (.int i5), .val (.int prev), .val (.int most), .val (.int bef), .val (.int bcp), .val (.int nn), .val (.int cnt), .val (.ref b1), .val (.int (1 : Int32)), .val (.long (most.toInt64)), .second] [(.int (0 : Int32))])) _
          refine XS.ifNo X47.here hx rfl (hb hby at_209) rfl ((if0 _ _).trans (teq (by decide : (0 : Int32) = (0 : Int32))).2) ?_
          show Steps p.tables e below (T47.setTop (mkF m 212 #[.val (.int i0), .val (.int i1), .val (.int i2), .val (.int i3), .val (.int i4), .val (.int i5), .val (.int prev), .val (.int most), .val (.int bef), .val (.int bcp), .val (.int nn), .val (.int cnt), .val (.ref b1), .val (.int (1 : Int32)), .val (.long (most.toInt64)), .second] [])) _
          refine XS.iconst X47.here hx rfl (hb hby at_212) ?_
          show Steps p.tables e below (T47.setTop (mkF m 213 #[.val (.int i0), .val (.int i1), .val (.int i2), .val (.int i3), .val (.int i4), .val (.int i5), .val (.int prev), .val (.int most), .val (.int bef), .val (.int bcp), .val (.int nn), .val (.int cnt), .val (.ref b1), .val (.int (1 : Int32)), .val (.long (most.toInt64)), .second] [(.int (1 : Int32))])) _
          refine XS.goto X47.here hx rfl (pc0 := 213) (pc' := 217) rfl (hb hby at_213) (by decide) (by decide) ?_
          show Steps p.tables e below (T47.setTop (mkF m 217 #[.val (.int i0), .val (.int i1), .val (.int i2), .val (.int i3), .val (.int i4), .val (.int i5), .val (.int prev), .val (.int most), .val (.int bef), .val (.int bcp), .val (.int nn), .val (.int cnt), .val (.ref b1), .val (.int (1 : Int32)), .val (.long (most.toInt64)), .second] [(.int (1 : Int32))])) _
          refine XS.istore X47.here hx rfl (hb hby at_217) rfl (l' := #[.val (.int i0), .val (.int i1), .val (.int i2), .val (.int i3), .val (.int i4), .val (.int i5), .val (.int prev), .val (.int most), .val (.int bef), .val (.int bcp), .val (.int nn), .val (.int cnt), .val (.ref b1), .val (.int (1 : Int32)), .val (.long (most.toInt64)), .second]) rfl ?_
          show Steps p.tables e below (T47.setTop (mkF m 219 #[.val (.int i0), .val (.int i1), .val (.int i2), .val (.int i3), .val (.int i4), .val (.int i5), .val (.int prev), .val (.int most), .val (.int bef), .val (.int bcp), .val (.int nn), .val (.int cnt), .val (.ref b1), .val (.int (1 : Int32)), .val (.long (most.toInt64)), .second] [])) _
          refine XS.iload X47.here hx rfl (hb hby at_219) rfl ?_
          show Steps p.tables e below (T47.setTop (mkF m 221 #[.val (.int i0), .val (.int i1), .val (.int i2), .val (.int i3), .val (.int i4), .val (.int i5), .val (.int prev), .val (.int most), .val (.int bef), .val (.int bcp), .val (.int nn), .val (.int cnt), .val (.ref b1), .val (.int (1 : Int32)), .val (.long (most.toInt64)), .second] [(.int (1 : Int32))])) _
          exact retN X47 hx (t := .boolean) Bd.returns (by simp) (hb hby at_221) hr
        · obtain ⟨_, _, ⟨T44, L44, k44, n44⟩, -, X44, ⟨Lc44, hQ44, l44, y44, z44⟩, st44⟩ := Jvm.LawKit.callS X43 hx (y := (⟨"java/lang/Math", "min", "(JJ)J"⟩ : MethodName)) hown (mvT hZ (own_w76 hw)) (mvT hZ (own_w60 hw)) (mvT hZ (own_w61 hw)) (mvT hZ (own_w62 hw)) (by decide) (backOf (W := 0) (rm8_12 l Z a0 hw [] (nn.toInt64) (most.toInt64) T41.heap n0 (Nat.le_trans Z0 KC42.1) hs3) hZ (own_w62 hw) (own_w61 hw) (by decide) (by decide)) (g := (mkF m 177 #[.val (.int i0), .val (.int i1), .val (.int i2), .val (.int i3), .val (.int i4), .val (.int i5), .val (.int prev), .val (.int most), .val (.int bef), .val (.int bcp), .val (.int nn), .val (.int cnt), .val (.ref b1), .val (.int (1 : Int32)), .unset, .unset] [(.long (most.toInt64)), (.long (nn.toInt64))])) rfl (by rw [hml]; rfl) (argsL := [(.long (nn.toInt64)), (.long (most.toInt64))]) (rest := []) (lenOf pd__JJ_J rfl) rfl (by show 2 * 0 + _ ≤ _; exact Nat.le_of_eq rfl) (hb hby at_177) (fun _ _ => ⟨rfl, e43, (by decide : 2 + 0 ≤ _), (by decide : 19 + 0 ≤ _)⟩)
          dsimp only [Pt.U, Pt.locs, Pt.cells, Pt.slots] at X44 l44 y44 z44 st44 hQ44
          subst l44 y44 z44
          obtain ⟨rfl, N44q, e44⟩ := hQ44
          have N44 := Fr.app N43 N44q
          obtain ⟨cq45, kq45, q45a, q45b, q45c⟩ := isOf hZ e44 f41_0
          obtain ⟨_, _, ⟨T45, L45, k45, n45⟩, -, X45, ⟨Lc45, hQ45, l45, y45, z45⟩, st45⟩ := X44.virtualBack hx (y := (⟨"stavelog/wire/History", "copy", "(JI)V"⟩ : MethodName)) (z := (⟨"stavelog/wire/History", "copy", "(JI)V"⟩ : MethodName)) hown (mvT hZ (own_w54 hw)) (mvT hZ (own_w55 hw)) (notFace_of_selects (args := #[]) (mvT hZ (own_w57 hw))) (mvT hZ (own_w57 hw)) (mvT hZ (own_w56 hw)) (by decide) (backOf (W := 0) (rm7_22 l Z a0 hw [] b1 (nn.toInt64) cnt nn most b3 T41.heap n0 (Nat.le_trans Z0 KC42.1) f41_10 f41_3 f41_8 f41_7 hs3 (own_c2 (own_ge1 hs2)) (own_cmp_gt _ : ¬ ((0 : Int32) < (lcmpW (nn.toInt64) (nn.toInt64)))) f41_0 f41_6 g_b1 f41_4 f41_5 f41_2 f41_1 f41_9) hZ (own_w58 hw) (own_w4 hw) (by decide) (by decide)) q45a q45c (g := (mkF m 188 #[.val (.int i0), .val (.int i1), .val (.int i2), .val (.int i3), .val (.int i4), .val (.int i5), .val (.int prev), .val (.int most), .val (.int bef), .val (.int bcp), .val (.int nn), .val (.int cnt), .val (.ref b1), .val (.int (1 : Int32)), .val (.long (nn.toInt64)), .second] [(.int cnt), (.long (nn.toInt64)), (.ref b1)])) rfl (by rw [hml]; rfl) (Steps.refl _) (argsL := [(.long (nn.toInt64)), (.int cnt)]) (rest := []) (lenOf pd__JI_V rfl) rfl (by show 2 * 0 + _ ≤ _; exact Nat.le_of_eq rfl) (hb hby at_188) (fun _ _ => ⟨rfl, e44, (by decide : 2 + 0 ≤ _), (by decide : 19 + 0 ≤ _)⟩)
          dsimp only [Pt.U, Pt.locs, Pt.cells, Pt.slots] at X45 l45 y45 z45 st45 hQ45
          subst l45 y45 z45
          obtain ⟨rfl, N45q, K45, f45_0, f45_1, f45_2, f45_3, f45_4, f45_5, f45_6, f45_7, f45_8, f45_9, f45_10⟩ := hQ45
          have N45 := Fr.app N44 N45q
          have KC46 : Keep h0 T45.heap [] := KC42.trans K45 (allS (Or.inr sz0_b1) all0)
          obtain ⟨cq47, kq47, q47a, q47b, q47c⟩ := isOf hZ rfl f45_4
          obtain ⟨_, _, ⟨T47, L47, k47, n47⟩, -, X47, ⟨Lc47, hQ47, l47, y47, z47⟩, st47⟩ := X45.virtualBack hx (y := (⟨"stavelog/wire/History", "written", "()J"⟩ : MethodName)) (z := (⟨"stavelog/wire/History", "written", "()J"⟩ : MethodName)) hown (mvT hZ (own_w75 hw)) (mvT hZ (own_w71 hw)) (notFace_of_selects (args := #[]) (mvT hZ (own_w73 hw))) (mvT hZ (own_w73 hw)) (mvT hZ (own_w72 hw)) (by decide) (backOf (W := 0) (rm10_11 l Z a0 hw [] b1 nn cnt T45.heap n0 (Nat.le_trans Z0 KC46.1) f45_0 f45_1 f45_6) hZ (own_w74 hw) (own_w4 hw) (by decide) (by decide)) q47a q47c (g := (mkF m 198 #[.val (.int i0), .val (.int i1), .val (.int i2), .val (.int i3), .val (.int i4), .val (.int i5), .val (.int prev), .val (.int most), .val (.int bef), .val (.int bcp), .val (.int nn), .val (.int cnt), .val (.ref b1), .val (.int (1 : Int32)), .val (.long (nn.toInt64)), .second] [(.ref b1)])) rfl (by rw [hml]; rfl) (Steps.refl _) (argsL := []) (rest := []) (lenOf pd___J rfl) rfl (by show 2 * 0 + _ ≤ _; exact Nat.le_of_eq rfl) (hb hby at_198) (fun _ _ => ⟨rfl, rfl, (by decide : 2 + 0 ≤ _), (by decide : 19 + 0 ≤ _)⟩)
          dsimp only [Pt.U, Pt.locs, Pt.cells, Pt.slots] at X47 l47 y47 z47 st47 hQ47
          subst l47 y47 z47
          obtain ⟨rfl, N47q, e47⟩ := hQ47
          have N47 := Fr.app N45 N47q
          obtain ⟨fs, hr, hrun, hended, hW, hsame⟩ := X47.leave (v := some (.int (1 : Int32))) (fun h => by rw [Bd.returns] at h; cases h)
          refine ⟨_, _, pre9 _ ?_, hrun, hended, _, _, rfl, ⟨rfl, N47⟩, ⟨_, rfl⟩, hW, hsame.mono (by decide) (by decide)⟩
          show Steps p.tables e below (T43.setTop (mkF m 177 #[.val (.int i0), .val (.int i1), .val (.int i2), .val (.int i3), .val (.int i4), .val (.int i5), .val (.int prev), .val (.int most), .val (.int bef), .val (.int bcp), .val (.int nn), .val (.int cnt), .val (.ref b1), .val (.int (1 : Int32)), .unset, .unset] [(.long (most.toInt64)), (.long (nn.toInt64))])) _
          refine st44 _ ?_
          show Steps p.tables e below (T44.setTop (mkF m 180 #[.val (.int i0), .val (.int i1), .val (.int i2), .val (.int i3), .val (.int i4), .val (.int i5), .val (.int prev), .val (.int most), .val (.int bef), .val (.int bcp), .val (.int nn), .val (.int cnt), .val (.ref b1), .val (.int (1 : Int32)), .unset, .unset] [(.long (nn.toInt64))])) _
          refine XS.lstore X44.here hx rfl (hb hby at_180) rfl (l' := #[.val (.int i0), .val (.int i1), .val (.int i2), .val (.int i3), .val (.int i4), .val (.int i5), .val (.int prev), .val (.int most), .val (.int bef), .val (.int bcp), .val (.int nn), .val (.int cnt), .val (.ref b1), .val (.int (1 : Int32)), .val (.long (nn.toInt64)), .second]) rfl ?_
          show Steps p.tables e below (T44.setTop (mkF m 182 #[.val (.int i0), .val (.int i1), .val (.int i2), .val (.int i3), .val (.int i4), .val (.int i5), .val (.int prev), .val (.int most), .val (.int bef), .val (.int bcp), .val (.int nn), .val (.int cnt), .val (.ref b1), .val (.int (1 : Int32)), .val (.long (nn.toInt64)), .second] [])) _
          refine XS.aload X44.here hx rfl (hb hby at_182) rfl rfl ?_
          show Steps p.tables e below (T44.setTop (mkF m 184 #[.val (.int i0), .val (.int i1), .val (.int i2), .val (.int i3), .val (.int i4), .val (.int i5), .val (.int prev), .val (.int most), .val (.int bef), .val (.int bcp), .val (.int nn), .val (.int cnt), .val (.ref b1), .val (.int (1 : Int32)), .val (.long (nn.toInt64)), .second] [(.ref b1)])) _
          refine XS.lload X44.here hx rfl (hb hby at_184) rfl ?_
          show Steps p.tables e below (T44.setTop (mkF m 186 #[.val (.int i0), .val (.int i1), .val (.int i2), .val (.int i3), .val (.int i4), .val (.int i5), .val (.int prev), .val (.int most), .val (.int bef), .val (.int bcp), .val (.int nn), .val (.int cnt), .val (.ref b1), .val (.int (1 : Int32)), .val (.long (nn.toInt64)), .second] [(.long (nn.toInt64)), (.ref b1)])) _
          refine XS.iload X44.here hx rfl (hb hby at_186) rfl ?_
          show Steps p.tables e below (T44.setTop (mkF m 188 #[.val (.int i0), .val (.int i1), .val (.int i2), .val (.int i3), .val (.int i4), .val (.int i5), .val (.int prev), .val (.int most), .val (.int bef), .val (.int bcp), .val (.int nn), .val (.int cnt), .val (.ref b1), .val (.int (1 : Int32)), .val (.long (nn.toInt64)), .second] [(.int cnt), (.long (nn.toInt64)), (.ref b1)])) _
          refine st45.trans ?_
          show Steps p.tables e below (T45.setTop (mkF m 191 #[.val (.int i0), .val (.int i1), .val (.int i2), .val (.int i3), .val (.int i4), .val (.int i5), .val (.int prev), .val (.int most), .val (.int bef), .val (.int bcp), .val (.int nn), .val (.int cnt), .val (.ref b1), .val (.int (1 : Int32)), .val (.long (nn.toInt64)), .second] [])) _
          refine XS.iload X45.here hx rfl (hb hby at_191) rfl ?_
          show Steps p.tables e below (T45.setTop (mkF m 193 #[.val (.int i0), .val (.int i1), .val (.int i2), .val (.int i3), .val (.int i4), .val (.int i5), .val (.int prev), .val (.int most), .val (.int bef), .val (.int bcp), .val (.int nn), .val (.int cnt), .val (.ref b1), .val (.int (1 : Int32)), .val (.long (nn.toInt64)), .second] [(.int (1 : Int32))])) _
          refine XS.ifNo X45.here hx rfl (hb hby at_193) rfl ((if0 _ _).trans (feq (by decide : ¬ ((1 : Int32) = (0 : Int32)))).1) ?_
          show Steps p.tables e below (T45.setTop (mkF m 196 #[.val (.int i0), .val (.int i1), .val (.int i2), .val (.int i3), .val (.int i4), .val (.int i5), .val (.int prev), .val (.int most), .val (.int bef), .val (.int bcp), .val (.int nn), .val (.int cnt), .val (.ref b1), .val (.int (1 : Int32)), .val (.long (nn.toInt64)), .second] [])) _
          refine XS.aload X45.here hx rfl (hb hby at_196) rfl rfl ?_
          show Steps p.tables e below (T45.setTop (mkF m 198 #[.val (.int i0), .val (.int i1), .val (.int i2), .val (.int i3), .val (.int i4), .val (.int i5), .val (.int prev), .val (.int most), .val (.int bef), .val (.int bcp), .val (.int nn), .val (.int cnt), .val (.ref b1), .val (.int (1 : Int32)), .val (.long (nn.toInt64)), .second] [(.ref b1)])) _
          refine st47.trans ?_
          show Steps p.tables e below (T47.setTop (mkF m 201 #[.val (.int i0), .val (.int i1), .val (.int i2), .val (.int i3), .val (.int i4), .val (.int i5), .val (.int prev), .val (.int most), .val (.int bef), .val (.int bcp), .val (.int nn), .val (.int cnt), .val (.ref b1), .val (.int (1 : Int32)), .val (.long (nn.toInt64)), .second] [(.long ((nn.toInt64) + (cnt.toInt64)))])) _
          refine XS.iload X47.here hx rfl (hb hby at_201) rfl ?_
          show Steps p.tables e below (T47.setTop (mkF m 203 #[.val (.int i0), .val (.int i1), .val (.int i2), .val (.int i3), .val (.int i4), .val (.int i5), .val (.int prev), .val (.int most), .val (.int bef), .val (.int bcp), .val (.int nn), .val (.int cnt), .val (.ref b1), .val (.int (1 : Int32)), .val (.long (nn.toInt64)), .second] [(.int nn), (.long ((nn.toInt64) + (cnt.toInt64)))])) _
          refine XS.i2l X47.here hx rfl (hb hby at_203) rfl ?_
          show Steps p.tables e below (T47.setTop (mkF m 204 #[.val (.int i0), .val (.int i1), .val (.int i2), .val (.int i3), .val (.int i4), .val (.int i5), .val (.int prev), .val (.int most), .val (.int bef), .val (.int bcp), .val (.int nn), .val (.int cnt), .val (.ref b1), .val (.int (1 : Int32)), .val (.long (nn.toInt64)), .second] [(.long (nn.toInt64)), (.long ((nn.toInt64) + (cnt.toInt64)))])) _
          refine XS.iload X47.here hx rfl (hb hby at_204) rfl ?_
          show Steps p.tables e below (T47.setTop (mkF m 206 #[.val (.int i0), .val (.int i1), .val (.int i2), .val (.int i3), .val (.int i4), .val (.int i5), .val (.int prev), .val (.int most), .val (.int bef), .val (.int bcp), .val (.int nn), .val (.int cnt), .val (.ref b1), .val (.int (1 : Int32)), .val (.long (nn.toInt64)), .second] [(.int cnt), (.long (nn.toInt64)), (.long ((nn.toInt64) + (cnt.toInt64)))])) _
          refine XS.i2l X47.here hx rfl (hb hby at_206) rfl ?_
          show Steps p.tables e below (T47.setTop (mkF m 207 #[.val (.int i0), .val (.int i1), .val (.int i2), .val (.int i3), .val (.int i4), .val (.int i5), .val (.int prev), .val (.int most), .val (.int bef), .val (.int bcp), .val (.int nn), .val (.int cnt), .val (.ref b1), .val (.int (1 : Int32)), .val (.long (nn.toInt64)), .second] [(.long (cnt.toInt64)), (.long (nn.toInt64)), (.long ((nn.toInt64) + (cnt.toInt64)))])) _
          refine XS.ladd X47.here hx rfl (hb hby at_207) rfl ?_
          show Steps p.tables e below (T47.setTop (mkF m 208 #[.val (.int i0), .val (.int i1), .val (.int i2), .val (.int i3), .val (.int i4), .val (.int i5), .val (.int prev), .val (.int most), .val (.int bef), .val (.int bcp), .val (.int nn), .val (.int cnt), .val (.ref b1), .val (.int (1 : Int32)), .val (.long (nn.toInt64)), .second] [(.long ((nn.toInt64) + (cnt.toInt64))), (.long ((nn.toInt64) + (cnt.toInt64)))])) _
          refine XS.lcmp X47.here hx rfl (hb hby at_208) rfl ?_
          show Steps p.tables e below (T47.setTop (mkF m 209 #[.val (.int i0), .val (.int i1), .val (.int i2), .val (.int i3), .val (.int i4), .val (.int i5), .val (.int prev), .val (.int most), .val (.int bef), .val (.int bcp), .val (.int nn), .val (.int cnt), .val (.ref b1), .val (.int (1 : Int32)), .val (.long (nn.toInt64)), .second] [(.int (lcmpW ((nn.toInt64) + (cnt.toInt64)) ((nn.toInt64) + (cnt.toInt64))))])) _
          rw [own_cmp_self]
          show Steps p.tables e below (T47.setTop (mkF m 209 #[.val (.int i0), .val (.int i1), .val (.int i2), .val (.int i3), .val (.int i4), .val (.int i5), .val (.int prev), .val (.int most), .val (.int bef), .val (.int bcp), .val (.int nn), .val (.int cnt), .val (.ref b1), .val (.int (1 : Int32)), .val (.long (nn.toInt64)), .second] [(.int (0 : Int32))])) _
          refine XS.ifNo X47.here hx rfl (hb hby at_209) rfl ((if0 _ _).trans (teq (by decide : (0 : Int32) = (0 : Int32))).2) ?_
          show Steps p.tables e below (T47.setTop (mkF m 212 #[.val (.int i0), .val (.int i1), .val (.int i2), .val (.int i3), .val (.int i4), .val (.int i5), .val (.int prev), .val (.int most), .val (.int bef), .val (.int bcp), .val (.int nn), .val (.int cnt), .val (.ref b1), .val (.int (1 : Int32)), .val (.long (nn.toInt64)), .second] [])) _
          refine XS.iconst X47.here hx rfl (hb hby at_212) ?_
          show Steps p.tables e below (T47.setTop (mkF m 213 #[.val (.int i0), .val (.int i1), .val (.int i2), .val (.int i3), .val (.int i4), .val (.int i5), .val (.int prev), .val (.int most), .val (.int bef), .val (.int bcp), .val (.int nn), .val (.int cnt), .val (.ref b1), .val (.int (1 : Int32)), .val (.long (nn.toInt64)), .second] [(.int (1 : Int32))])) _
          refine XS.goto X47.here hx rfl (pc0 := 213) (pc' := 217) rfl (hb hby at_213) (by decide) (by decide) ?_
          show Steps p.tables e below (T47.setTop (mkF m 217 #[.val (.int i0), .val (.int i1), .val (.int i2), .val (.int i3), .val (.int i4), .val (.int i5), .val (.int prev), .val (.int most), .val (.int bef), .val (.int bcp), .val (.int nn), .val (.int cnt), .val (.ref b1), .val (.int (1 : Int32)), .val (.long (nn.toInt64)), .second] [(.int (1 : Int32))])) _
          refine XS.istore X47.here hx rfl (hb hby at_217) rfl (l' := #[.val (.int i0), .val (.int i1), .val (.int i2), .val (.int i3), .val (.int i4), .val (.int i5), .val (.int prev), .val (.int most), .val (.int bef), .val (.int bcp), .val (.int nn), .val (.int cnt), .val (.ref b1), .val (.int (1 : Int32)), .val (.long (nn.toInt64)), .second]) rfl ?_
          show Steps p.tables e below (T47.setTop (mkF m 219 #[.val (.int i0), .val (.int i1), .val (.int i2), .val (.int i3), .val (.int i4), .val (.int i5), .val (.int prev), .val (.int most), .val (.int bef), .val (.int bcp), .val (.int nn), .val (.int cnt), .val (.ref b1), .val (.int (1 : Int32)), .val (.long (nn.toInt64)), .second] [])) _
          refine XS.iload X47.here hx rfl (hb hby at_219) rfl ?_
          show Steps p.tables e below (T47.setTop (mkF m 221 #[.val (.int i0), .val (.int i1), .val (.int i2), .val (.int i3), .val (.int i4), .val (.int i5), .val (.int prev), .val (.int most), .val (.int bef), .val (.int bcp), .val (.int nn), .val (.int cnt), .val (.ref b1), .val (.int (1 : Int32)), .val (.long (nn.toInt64)), .second] [(.int (1 : Int32))])) _
          exact retN X47 hx (t := .boolean) Bd.returns (by simp) (hb hby at_221) hr
    · obtain ⟨cq38, kq38, q38a, q38b, q38c⟩ := isOf hZ rfl f36_4
      obtain ⟨_, _, ⟨T38, L38, k38, n38⟩, -, X38, ⟨Lc38, hQ38, l38, y38, z38⟩, st38⟩ := X36.virtualBack hx (y := (⟨"stavelog/wire/History", "forget", "()V"⟩ : MethodName)) (z := (⟨"stavelog/wire/History", "forget", "()V"⟩ : MethodName)) hown (mvT hZ (own_w65 hw)) (mvT hZ (own_w66 hw)) (notFace_of_selects (args := #[]) (mvT hZ (own_w68 hw))) (mvT hZ (own_w68 hw)) (mvT hZ (own_w67 hw)) (by decide) (backOf (W := 0) (rm9_23 l Z a0 hw [] b1 bef bcp b3 prev T36.heap n0 (Nat.le_trans Z0 KC37.1) f36_4 f36_0 f36_1 f36_6 f36_2 g_b1 f36_7 f36_5 f36_3 f36_8 f36_9 f36_10) hZ (own_w69 hw) (own_w4 hw) (by decide) (by decide)) q38a q38c (g := (mkF m 105 #[.val (.int i0), .val (.int i1), .val (.int i2), .val (.int i3), .val (.int i4), .val (.int i5), .val (.int prev), .val (.int most), .val (.int bef), .val (.int bcp), .val (.int nn), .val (.int cnt), .val (.ref b1), .unset, .unset, .unset] [(.ref b1)])) rfl (by rw [hml]; rfl) (Steps.refl _) (argsL := []) (rest := []) (lenOf pd___V rfl) rfl (by show 2 * 0 + _ ≤ _; exact Nat.le_of_eq rfl) (hb hby at_105) (fun _ _ => ⟨rfl, rfl, (by decide : 2 + 0 ≤ _), (by decide : 19 + 0 ≤ _)⟩)
      dsimp only [Pt.U, Pt.locs, Pt.cells, Pt.slots] at X38 l38 y38 z38 st38 hQ38
      subst l38 y38 z38
      obtain ⟨rfl, N38q, K38, f38_0, f38_1, f38_2, f38_3, f38_4, f38_5, f38_6, f38_7, f38_8, f38_9, f38_10⟩ := hQ38
      have N38 := Fr.app N36 N38q
      have KC39 : Keep h0 T38.heap [] := KC37.trans K38 (allS (Or.inr sz0_b1) all0)
      obtain ⟨cq40, kq40, q40a, q40b, q40c⟩ := isOf hZ rfl f38_0
      obtain ⟨_, _, ⟨T40, L40, k40, n40⟩, -, X40, ⟨Lc40, hQ40, l40, y40, z40⟩, st40⟩ := X38.virtualBack hx (y := (⟨"stavelog/wire/History", "start", "(I)V"⟩ : MethodName)) (z := (⟨"stavelog/wire/History", "start", "(I)V"⟩ : MethodName)) hown (mvT hZ (own_w28 hw)) (mvT hZ (own_w29 hw)) (notFace_of_selects (args := #[]) (mvT hZ (own_w31 hw))) (mvT hZ (own_w31 hw)) (mvT hZ (own_w30 hw)) (by decide) (backOf (W := 0) (rm5_24 l Z a0 hw [] b1 most prev ((bef.toInt64) + (bcp.toInt64)) bef bcp b3 T38.heap n0 (Nat.le_trans Z0 KC39.1) f38_0 f38_7 g_b1 f38_1 f38_4 f38_2 f38_3 f38_10 f38_5 f38_6 f38_8 f38_9) hZ (own_w32 hw) (own_w4 hw) (by decide) (by decide)) q40a q40c (g := (mkF m 112 #[.val (.int i0), .val (.int i1), .val (.int i2), .val (.int i3), .val (.int i4), .val (.int i5), .val (.int prev), .val (.int most), .val (.int bef), .val (.int bcp), .val (.int nn), .val (.int cnt), .val (.ref b1), .unset, .unset, .unset] [(.int most), (.ref b1)])) rfl (by rw [hml]; rfl) (Steps.refl _) (argsL := [(.int most)]) (rest := []) (lenOf pd__I_V rfl) rfl (by show 2 * 0 + _ ≤ _; exact Nat.le_of_eq rfl) (hb hby at_112) (fun _ _ => ⟨rfl, rfl, (by decide : 2 + 0 ≤ _), (by decide : 19 + 0 ≤ _)⟩)
      dsimp only [Pt.U, Pt.locs, Pt.cells, Pt.slots] at X40 l40 y40 z40 st40 hQ40
      subst l40 y40 z40
      obtain ⟨rfl, N40q, K40, f40_0, f40_1, f40_2, f40_3, f40_4, f40_5, f40_6, f40_7, f40_8, f40_9, f40_10⟩ := hQ40
      have N40 := Fr.app N38 N40q
      have KC41 : Keep h0 T40.heap [] := KC39.trans K40 (allS (Or.inr sz0_b1) all0)
      obtain ⟨cq42, kq42, q42a, q42b, q42c⟩ := isOf hZ rfl f40_0
      obtain ⟨_, _, ⟨T42, L42, k42, n42⟩, -, X42, ⟨Lc42, hQ42, l42, y42, z42⟩, st42⟩ := X40.virtualBack hx (y := (⟨"stavelog/wire/History", "written", "()J"⟩ : MethodName)) (z := (⟨"stavelog/wire/History", "written", "()J"⟩ : MethodName)) hown (mvT hZ (own_w75 hw)) (mvT hZ (own_w71 hw)) (notFace_of_selects (args := #[]) (mvT hZ (own_w73 hw))) (mvT hZ (own_w73 hw)) (mvT hZ (own_w72 hw)) (by decide) (backOf (W := 0) (rm10_7 l Z a0 hw [] b1 T40.heap n0 (Nat.le_trans Z0 KC41.1) f40_2 f40_4 f40_5) hZ (own_w74 hw) (own_w4 hw) (by decide) (by decide)) q42a q42c (g := (mkF m 117 #[.val (.int i0), .val (.int i1), .val (.int i2), .val (.int i3), .val (.int i4), .val (.int i5), .val (.int prev), .val (.int most), .val (.int bef), .val (.int bcp), .val (.int nn), .val (.int cnt), .val (.ref b1), .unset, .unset, .unset] [(.ref b1)])) rfl (by rw [hml]; rfl) (Steps.refl _) (argsL := []) (rest := []) (lenOf pd___J rfl) rfl (by show 2 * 0 + _ ≤ _; exact Nat.le_of_eq rfl) (hb hby at_117) (fun _ _ => ⟨rfl, rfl, (by decide : 2 + 0 ≤ _), (by decide : 19 + 0 ≤ _)⟩)
      dsimp only [Pt.U, Pt.locs, Pt.cells, Pt.slots] at X42 l42 y42 z42 st42 hQ42
      subst l42 y42 z42
      obtain ⟨rfl, N42q, e42⟩ := hQ42
      have N42 := Fr.app N40 N42q
      obtain ⟨cq43, kq43, q43a, q43b, q43c⟩ := isOf hZ e42 f40_0
      obtain ⟨_, _, ⟨T43, L43, k43, n43⟩, -, X43, ⟨Lc43, hQ43, l43, y43, z43⟩, st43⟩ := X42.virtualBack hx (y := (⟨"stavelog/wire/History", "literals", "(Ljava/nio/ByteBuffer;II)V"⟩ : MethodName)) (z := (⟨"stavelog/wire/History", "literals", "(Ljava/nio/ByteBuffer;II)V"⟩ : MethodName)) hown (mvT hZ (own_w45 hw)) (mvT hZ (own_w46 hw)) (notFace_of_selects (args := #[]) (mvT hZ (own_w48 hw))) (mvT hZ (own_w48 hw)) (mvT hZ (own_w47 hw)) (by decide) (backOf (W := 0) (rm6_20 l Z a0 hw [] b1 nn b3 most T40.heap n0 (Nat.le_trans Z0 KC41.1) f40_0 f40_10 g_b1 f40_9 f40_4 f40_5 f40_7 f40_8 f40_1 f40_3 f40_6 f40_2) hZ (own_w49 hw) (own_w4 hw) (by decide) (by decide)) q43a q43c (g := (mkF m 138 #[.val (.int i0), .val (.int i1), .val (.int i2), .val (.int i3), .val (.int i4), .val (.int i5), .val (.int prev), .val (.int most), .val (.int bef), .val (.int bcp), .val (.int nn), .val (.int cnt), .val (.ref b1), .val (.int (1 : Int32)), .unset, .unset] [(.int nn), (.int (0 : Int32)), .null, (.ref b1)])) rfl (by rw [hml]; rfl) (Steps.refl _) (argsL := [.null, (.int (0 : Int32)), (.int nn)]) (rest := []) (lenOf pd__Ljava_nio_ByteBuffer_II_V rfl) rfl (by show 2 * 0 + _ ≤ _; exact Nat.le_of_eq rfl) (hb hby at_138) (fun _ _ => ⟨rfl, e42, (by decide : 2 + 0 ≤ _), (by decide : 19 + 0 ≤ _)⟩)
      dsimp only [Pt.U, Pt.locs, Pt.cells, Pt.slots] at X43 l43 y43 z43 st43 hQ43
      subst l43 y43 z43
      obtain ⟨rfl, N43q, K43, f43_0, f43_1, f43_2, f43_3, f43_4, f43_5, f43_6, f43_7, f43_8, f43_9, f43_10⟩ := hQ43
      have N43 := Fr.app N42 N43q
      have KC44 : Keep h0 T43.heap [] := KC41.trans K43 (allS (Or.inr sz0_b1) all0)
      obtain ⟨cq45, kq45, q45a, q45b, q45c⟩ := isOf hZ rfl f43_0
      obtain ⟨_, _, ⟨T45, L45, k45, n45⟩, -, X45, ⟨Lc45, hQ45, l45, y45, z45⟩, st45⟩ := X43.virtualBack hx (y := (⟨"stavelog/wire/History", "written", "()J"⟩ : MethodName)) (z := (⟨"stavelog/wire/History", "written", "()J"⟩ : MethodName)) hown (mvT hZ (own_w75 hw)) (mvT hZ (own_w71 hw)) (notFace_of_selects (args := #[]) (mvT hZ (own_w73 hw))) (mvT hZ (own_w73 hw)) (mvT hZ (own_w72 hw)) (by decide) (backOf (W := 0) (rm10_8 l Z a0 hw [] b1 nn T43.heap n0 (Nat.le_trans Z0 KC44.1) f43_10 f43_3 f43_4) hZ (own_w74 hw) (own_w4 hw) (by decide) (by decide)) q45a q45c (g := (mkF m 148 #[.val (.int i0), .val (.int i1), .val (.int i2), .val (.int i3), .val (.int i4), .val (.int i5), .val (.int prev), .val (.int most), .val (.int bef), .val (.int bcp), .val (.int nn), .val (.int cnt), .val (.ref b1), .val (.int (1 : Int32)), .unset, .unset] [(.ref b1)])) rfl (by rw [hml]; rfl) (Steps.refl _) (argsL := []) (rest := []) (lenOf pd___J rfl) rfl (by show 2 * 0 + _ ≤ _; exact Nat.le_of_eq rfl) (hb hby at_148) (fun _ _ => ⟨rfl, rfl, (by decide : 2 + 0 ≤ _), (by decide : 19 + 0 ≤ _)⟩)
      dsimp only [Pt.U, Pt.locs, Pt.cells, Pt.slots] at X45 l45 y45 z45 st45 hQ45
      subst l45 y45 z45
      obtain ⟨rfl, N45q, e45⟩ := hQ45
      have N45 := Fr.app N43 N45q
      have pre10 : ∀ t, Steps p.tables e below (T45.setTop (mkF m 168 #[.val (.int i0), .val (.int i1), .val (.int i2), .val (.int i3), .val (.int i4), .val (.int i5), .val (.int prev), .val (.int most), .val (.int bef), .val (.int bcp), .val (.int nn), .val (.int cnt), .val (.ref b1), .val (.int (1 : Int32)), .unset, .unset] [(.int (1 : Int32)), (.int nn)])) t → Steps p.tables e below (s₁.setTop (entryFrame m #[(.int i0), (.int i1), (.int i2), (.int i3), (.int i4), (.int i5)] maxLocals)) t := fun t kk => pre7 t (by
        show Steps p.tables e below (T36.setTop (mkF m 100 #[.val (.int i0), .val (.int i1), .val (.int i2), .val (.int i3), .val (.int i4), .val (.int i5), .val (.int prev), .val (.int most), .val (.int bef), .val (.int bcp), .val (.int nn), .val (.int cnt), .val (.ref b1), .unset, .unset, .unset] [(.int (i5 &&& (1 : Int32)))])) _
        rw [he1]
        show Steps p.tables e below (T36.setTop (mkF m 100 #[.val (.int i0), .val (.int i1), .val (.int i2), .val (.int i3), .val (.int i4), .val (.int i5), .val (.int prev), .val (.int most), .val (.int bef), .val (.int bcp), .val (.int nn), .val (.int cnt), .val (.ref b1), .unset, .unset, .unset] [(.int (1 : Int32))])) _
        refine XS.ifNo X36.here hx rfl (hb hby at_100) rfl ((if0 _ _).trans (feq (by decide : ¬ ((1 : Int32) = (0 : Int32)))).1) ?_
        show Steps p.tables e below (T36.setTop (mkF m 103 #[.val (.int i0), .val (.int i1), .val (.int i2), .val (.int i3), .val (.int i4), .val (.int i5), .val (.int prev), .val (.int most), .val (.int bef), .val (.int bcp), .val (.int nn), .val (.int cnt), .val (.ref b1), .unset, .unset, .unset] [])) _
        refine XS.aload X36.here hx rfl (hb hby at_103) rfl rfl ?_
        show Steps p.tables e below (T36.setTop (mkF m 105 #[.val (.int i0), .val (.int i1), .val (.int i2), .val (.int i3), .val (.int i4), .val (.int i5), .val (.int prev), .val (.int most), .val (.int bef), .val (.int bcp), .val (.int nn), .val (.int cnt), .val (.ref b1), .unset, .unset, .unset] [(.ref b1)])) _
        refine st38.trans ?_
        show Steps p.tables e below (T38.setTop (mkF m 108 #[.val (.int i0), .val (.int i1), .val (.int i2), .val (.int i3), .val (.int i4), .val (.int i5), .val (.int prev), .val (.int most), .val (.int bef), .val (.int bcp), .val (.int nn), .val (.int cnt), .val (.ref b1), .unset, .unset, .unset] [])) _
        refine XS.aload X38.here hx rfl (hb hby at_108) rfl rfl ?_
        show Steps p.tables e below (T38.setTop (mkF m 110 #[.val (.int i0), .val (.int i1), .val (.int i2), .val (.int i3), .val (.int i4), .val (.int i5), .val (.int prev), .val (.int most), .val (.int bef), .val (.int bcp), .val (.int nn), .val (.int cnt), .val (.ref b1), .unset, .unset, .unset] [(.ref b1)])) _
        refine XS.iload X38.here hx rfl (hb hby at_110) rfl ?_
        show Steps p.tables e below (T38.setTop (mkF m 112 #[.val (.int i0), .val (.int i1), .val (.int i2), .val (.int i3), .val (.int i4), .val (.int i5), .val (.int prev), .val (.int most), .val (.int bef), .val (.int bcp), .val (.int nn), .val (.int cnt), .val (.ref b1), .unset, .unset, .unset] [(.int most), (.ref b1)])) _
        refine st40.trans ?_
        show Steps p.tables e below (T40.setTop (mkF m 115 #[.val (.int i0), .val (.int i1), .val (.int i2), .val (.int i3), .val (.int i4), .val (.int i5), .val (.int prev), .val (.int most), .val (.int bef), .val (.int bcp), .val (.int nn), .val (.int cnt), .val (.ref b1), .unset, .unset, .unset] [])) _
        refine XS.aload X40.here hx rfl (hb hby at_115) rfl rfl ?_
        show Steps p.tables e below (T40.setTop (mkF m 117 #[.val (.int i0), .val (.int i1), .val (.int i2), .val (.int i3), .val (.int i4), .val (.int i5), .val (.int prev), .val (.int most), .val (.int bef), .val (.int bcp), .val (.int nn), .val (.int cnt), .val (.ref b1), .unset, .unset, .unset] [(.ref b1)])) _
        refine st42.trans ?_
        show Steps p.tables e below (T42.setTop (mkF m 120 #[.val (.int i0), .val (.int i1), .val (.int i2), .val (.int i3), .val (.int i4), .val (.int i5), .val (.int prev), .val (.int most), .val (.int bef), .val (.int bcp), .val (.int nn), .val (.int cnt), .val (.ref b1), .unset, .unset, .unset] [(.long (0 : Int64))])) _
        refine XS.lconst X42.here hx rfl (hb hby at_120) ?_
        show Steps p.tables e below (T42.setTop (mkF m 121 #[.val (.int i0), .val (.int i1), .val (.int i2), .val (.int i3), .val (.int i4), .val (.int i5), .val (.int prev), .val (.int most), .val (.int bef), .val (.int bcp), .val (.int nn), .val (.int cnt), .val (.ref b1), .unset, .unset, .unset] [(.long (0 : Int64)), (.long (0 : Int64))])) _
        refine XS.lcmp X42.here hx rfl (hb hby at_121) rfl ?_
        show Steps p.tables e below (T42.setTop (mkF m 122 #[.val (.int i0), .val (.int i1), .val (.int i2), .val (.int i3), .val (.int i4), .val (.int i5), .val (.int prev), .val (.int most), .val (.int bef), .val (.int bcp), .val (.int nn), .val (.int cnt), .val (.ref b1), .unset, .unset, .unset] [(.int (lcmpW (0 : Int64) (0 : Int64)))])) _
        rw [(by decide : (lcmpW (0 : Int64) (0 : Int64)) = (0 : Int32))]
        show Steps p.tables e below (T42.setTop (mkF m 122 #[.val (.int i0), .val (.int i1), .val (.int i2), .val (.int i3), .val (.int i4), .val (.int i5), .val (.int prev), .val (.int most), .val (.int bef), .val (.int bcp), .val (.int nn), .val (.int cnt), .val (.ref b1), .unset, .unset, .unset] [(.int (0 : Int32))])) _
        refine XS.ifNo X42.here hx rfl (hb hby at_122) rfl ((if0 _ _).trans (teq (by decide : (0 : Int32) = (0 : Int32))).2) ?_
        show Steps p.tables e below (T42.setTop (mkF m 125 #[.val (.int i0), .val (.int i1), .val (.int i2), .val (.int i3), .val (.int i4), .val (.int i5), .val (.int prev), .val (.int most), .val (.int bef), .val (.int bcp), .val (.int nn), .val (.int cnt), .val (.ref b1), .unset, .unset, .unset] [])) _
        refine XS.iconst X42.here hx rfl (hb hby at_125) ?_
        show Steps p.tables e below (T42.setTop (mkF m 126 #[.val (.int i0), .val (.int i1), .val (.int i2), .val (.int i3), .val (.int i4), .val (.int i5), .val (.int prev), .val (.int most), .val (.int bef), .val (.int bcp), .val (.int nn), .val (.int cnt), .val (.ref b1), .unset, .unset, .unset] [(.int (1 : Int32))])) _
        refine XS.goto X42.here hx rfl (pc0 := 126) (pc' := 130) rfl (hb hby at_126) (by decide) (by decide) ?_
        show Steps p.tables e below (T42.setTop (mkF m 130 #[.val (.int i0), .val (.int i1), .val (.int i2), .val (.int i3), .val (.int i4), .val (.int i5), .val (.int prev), .val (.int most), .val (.int bef), .val (.int bcp), .val (.int nn), .val (.int cnt), .val (.ref b1), .unset, .unset, .unset] [(.int (1 : Int32))])) _
        refine XS.istore X42.here hx rfl (hb hby at_130) rfl (l' := #[.val (.int i0), .val (.int i1), .val (.int i2), .val (.int i3), .val (.int i4), .val (.int i5), .val (.int prev), .val (.int most), .val (.int bef), .val (.int bcp), .val (.int nn), .val (.int cnt), .val (.ref b1), .val (.int (1 : Int32)), .unset, .unset]) rfl ?_
        show Steps p.tables e below (T42.setTop (mkF m 132 #[.val (.int i0), .val (.int i1), .val (.int i2), .val (.int i3), .val (.int i4), .val (.int i5), .val (.int prev), .val (.int most), .val (.int bef), .val (.int bcp), .val (.int nn), .val (.int cnt), .val (.ref b1), .val (.int (1 : Int32)), .unset, .unset] [])) _
        refine XS.aload X42.here hx rfl (hb hby at_132) rfl rfl ?_
        show Steps p.tables e below (T42.setTop (mkF m 134 #[.val (.int i0), .val (.int i1), .val (.int i2), .val (.int i3), .val (.int i4), .val (.int i5), .val (.int prev), .val (.int most), .val (.int bef), .val (.int bcp), .val (.int nn), .val (.int cnt), .val (.ref b1), .val (.int (1 : Int32)), .unset, .unset] [(.ref b1)])) _
        refine XS.aconstNull X42.here hx rfl (hb hby at_134) ?_
        show Steps p.tables e below (T42.setTop (mkF m 135 #[.val (.int i0), .val (.int i1), .val (.int i2), .val (.int i3), .val (.int i4), .val (.int i5), .val (.int prev), .val (.int most), .val (.int bef), .val (.int bcp), .val (.int nn), .val (.int cnt), .val (.ref b1), .val (.int (1 : Int32)), .unset, .unset] [.null, (.ref b1)])) _
        refine XS.iconst X42.here hx rfl (hb hby at_135) ?_
        show Steps p.tables e below (T42.setTop (mkF m 136 #[.val (.int i0), .val (.int i1), .val (.int i2), .val (.int i3), .val (.int i4), .val (.int i5), .val (.int prev), .val (.int most), .val (.int bef), .val (.int bcp), .val (.int nn), .val (.int cnt), .val (.ref b1), .val (.int (1 : Int32)), .unset, .unset] [(.int (0 : Int32)), .null, (.ref b1)])) _
        refine XS.iload X42.here hx rfl (hb hby at_136) rfl ?_
        show Steps p.tables e below (T42.setTop (mkF m 138 #[.val (.int i0), .val (.int i1), .val (.int i2), .val (.int i3), .val (.int i4), .val (.int i5), .val (.int prev), .val (.int most), .val (.int bef), .val (.int bcp), .val (.int nn), .val (.int cnt), .val (.ref b1), .val (.int (1 : Int32)), .unset, .unset] [(.int nn), (.int (0 : Int32)), .null, (.ref b1)])) _
        refine st43.trans ?_
        show Steps p.tables e below (T43.setTop (mkF m 141 #[.val (.int i0), .val (.int i1), .val (.int i2), .val (.int i3), .val (.int i4), .val (.int i5), .val (.int prev), .val (.int most), .val (.int bef), .val (.int bcp), .val (.int nn), .val (.int cnt), .val (.ref b1), .val (.int (1 : Int32)), .unset, .unset] [])) _
        refine XS.iload X43.here hx rfl (hb hby at_141) rfl ?_
        show Steps p.tables e below (T43.setTop (mkF m 143 #[.val (.int i0), .val (.int i1), .val (.int i2), .val (.int i3), .val (.int i4), .val (.int i5), .val (.int prev), .val (.int most), .val (.int bef), .val (.int bcp), .val (.int nn), .val (.int cnt), .val (.ref b1), .val (.int (1 : Int32)), .unset, .unset] [(.int (1 : Int32))])) _
        refine XS.ifNo X43.here hx rfl (hb hby at_143) rfl ((if0 _ _).trans (feq (by decide : ¬ ((1 : Int32) = (0 : Int32)))).1) ?_
        show Steps p.tables e below (T43.setTop (mkF m 146 #[.val (.int i0), .val (.int i1), .val (.int i2), .val (.int i3), .val (.int i4), .val (.int i5), .val (.int prev), .val (.int most), .val (.int bef), .val (.int bcp), .val (.int nn), .val (.int cnt), .val (.ref b1), .val (.int (1 : Int32)), .unset, .unset] [])) _
        refine XS.aload X43.here hx rfl (hb hby at_146) rfl rfl ?_
        show Steps p.tables e below (T43.setTop (mkF m 148 #[.val (.int i0), .val (.int i1), .val (.int i2), .val (.int i3), .val (.int i4), .val (.int i5), .val (.int prev), .val (.int most), .val (.int bef), .val (.int bcp), .val (.int nn), .val (.int cnt), .val (.ref b1), .val (.int (1 : Int32)), .unset, .unset] [(.ref b1)])) _
        refine st45.trans ?_
        show Steps p.tables e below (T45.setTop (mkF m 151 #[.val (.int i0), .val (.int i1), .val (.int i2), .val (.int i3), .val (.int i4), .val (.int i5), .val (.int prev), .val (.int most), .val (.int bef), .val (.int bcp), .val (.int nn), .val (.int cnt), .val (.ref b1), .val (.int (1 : Int32)), .unset, .unset] [(.long (nn.toInt64))])) _
        refine XS.iload X45.here hx rfl (hb hby at_151) rfl ?_
        show Steps p.tables e below (T45.setTop (mkF m 153 #[.val (.int i0), .val (.int i1), .val (.int i2), .val (.int i3), .val (.int i4), .val (.int i5), .val (.int prev), .val (.int most), .val (.int bef), .val (.int bcp), .val (.int nn), .val (.int cnt), .val (.ref b1), .val (.int (1 : Int32)), .unset, .unset] [(.int nn), (.long (nn.toInt64))])) _
        refine XS.i2l X45.here hx rfl (hb hby at_153) rfl ?_
        show Steps p.tables e below (T45.setTop (mkF m 154 #[.val (.int i0), .val (.int i1), .val (.int i2), .val (.int i3), .val (.int i4), .val (.int i5), .val (.int prev), .val (.int most), .val (.int bef), .val (.int bcp), .val (.int nn), .val (.int cnt), .val (.ref b1), .val (.int (1 : Int32)), .unset, .unset] [(.long (nn.toInt64)), (.long (nn.toInt64))])) _
        refine XS.lcmp X45.here hx rfl (hb hby at_154) rfl ?_
        show Steps p.tables e below (T45.setTop (mkF m 155 #[.val (.int i0), .val (.int i1), .val (.int i2), .val (.int i3), .val (.int i4), .val (.int i5), .val (.int prev), .val (.int most), .val (.int bef), .val (.int bcp), .val (.int nn), .val (.int cnt), .val (.ref b1), .val (.int (1 : Int32)), .unset, .unset] [(.int (lcmpW (nn.toInt64) (nn.toInt64)))])) _
        rw [own_cmp_self]
        show Steps p.tables e below (T45.setTop (mkF m 155 #[.val (.int i0), .val (.int i1), .val (.int i2), .val (.int i3), .val (.int i4), .val (.int i5), .val (.int prev), .val (.int most), .val (.int bef), .val (.int bcp), .val (.int nn), .val (.int cnt), .val (.ref b1), .val (.int (1 : Int32)), .unset, .unset] [(.int (0 : Int32))])) _
        refine XS.ifNo X45.here hx rfl (hb hby at_155) rfl ((if0 _ _).trans (teq (by decide : (0 : Int32) = (0 : Int32))).2) ?_
        show Steps p.tables e below (T45.setTop (mkF m 158 #[.val (.int i0), .val (.int i1), .val (.int i2), .val (.int i3), .val (.int i4), .val (.int i5), .val (.int prev), .val (.int most), .val (.int bef), .val (.int bcp), .val (.int nn), .val (.int cnt), .val (.ref b1), .val (.int (1 : Int32)), .unset, .unset] [])) _
        refine XS.iconst X45.here hx rfl (hb hby at_158) ?_
        show Steps p.tables e below (T45.setTop (mkF m 159 #[.val (.int i0), .val (.int i1), .val (.int i2), .val (.int i3), .val (.int i4), .val (.int i5), .val (.int prev), .val (.int most), .val (.int bef), .val (.int bcp), .val (.int nn), .val (.int cnt), .val (.ref b1), .val (.int (1 : Int32)), .unset, .unset] [(.int (1 : Int32))])) _
        refine XS.goto X45.here hx rfl (pc0 := 159) (pc' := 163) rfl (hb hby at_159) (by decide) (by decide) ?_
        show Steps p.tables e below (T45.setTop (mkF m 163 #[.val (.int i0), .val (.int i1), .val (.int i2), .val (.int i3), .val (.int i4), .val (.int i5), .val (.int prev), .val (.int most), .val (.int bef), .val (.int bcp), .val (.int nn), .val (.int cnt), .val (.ref b1), .val (.int (1 : Int32)), .unset, .unset] [(.int (1 : Int32))])) _
        refine XS.istore X45.here hx rfl (hb hby at_163) rfl (l' := #[.val (.int i0), .val (.int i1), .val (.int i2), .val (.int i3), .val (.int i4), .val (.int i5), .val (.int prev), .val (.int most), .val (.int bef), .val (.int bcp), .val (.int nn), .val (.int cnt), .val (.ref b1), .val (.int (1 : Int32)), .unset, .unset]) rfl ?_
        show Steps p.tables e below (T45.setTop (mkF m 165 #[.val (.int i0), .val (.int i1), .val (.int i2), .val (.int i3), .val (.int i4), .val (.int i5), .val (.int prev), .val (.int most), .val (.int bef), .val (.int bcp), .val (.int nn), .val (.int cnt), .val (.ref b1), .val (.int (1 : Int32)), .unset, .unset] [])) _
        refine XS.iload X45.here hx rfl (hb hby at_165) rfl ?_
        show Steps p.tables e below (T45.setTop (mkF m 167 #[.val (.int i0), .val (.int i1), .val (.int i2), .val (.int i3), .val (.int i4), .val (.int i5), .val (.int prev), .val (.int most), .val (.int bef), .val (.int bcp), .val (.int nn), .val (.int cnt), .val (.ref b1), .val (.int (1 : Int32)), .unset, .unset] [(.int nn)])) _
        refine XS.iconst X45.here hx rfl (hb hby at_167) ?_
        show Steps p.tables e below (T45.setTop (mkF m 168 #[.val (.int i0), .val (.int i1), .val (.int i2), .val (.int i3), .val (.int i4), .val (.int i5), .val (.int prev), .val (.int most), .val (.int bef), .val (.int bcp), .val (.int nn), .val (.int cnt), .val (.ref b1), .val (.int (1 : Int32)), .unset, .unset] [(.int (1 : Int32)), (.int nn)])) _
        exact kk)
      by_cases hs2 : nn < (1 : Int32)
      · obtain ⟨fs, hr, hrun, hended, hW, hsame⟩ := X45.leave (v := some (.int (1 : Int32))) (fun h => by rw [Bd.returns] at h; cases h)
        refine ⟨_, _, pre10 _ ?_, hrun, hended, _, _, rfl, ⟨rfl, N45⟩, ⟨_, rfl⟩, hW, hsame.mono (by decide) (by decide)⟩
        show Steps p.tables e below (T45.setTop (mkF m 168 #[.val (.int i0), .val (.int i1), .val (.int i2), .val (.int i3), .val (.int i4), .val (.int i5), .val (.int prev), .val (.int most), .val (.int bef), .val (.int bcp), .val (.int nn), .val (.int cnt), .val (.ref b1), .val (.int (1 : Int32)), .unset, .unset] [(.int (1 : Int32)), (.int nn)])) _
        refine XS.icmpYes X45.here hx rfl (pc0 := 168) (pc' := 219) rfl (hb hby at_168) rfl (tlt hs2).1 (by decide) (by decide) ?_
        show Steps p.tables e below (T45.setTop (mkF m 219 #[.val (.int i0), .val (.int i1), .val (.int i2), .val (.int i3), .val (.int i4), .val (.int i5), .val (.int prev), .val (.int most), .val (.int bef), .val (.int bcp), .val (.int nn), .val (.int cnt), .val (.ref b1), .val (.int (1 : Int32)), .unset, .unset] [])) _
        refine XS.iload X45.here hx rfl (hb hby at_219) rfl ?_
        show Steps p.tables e below (T45.setTop (mkF m 221 #[.val (.int i0), .val (.int i1), .val (.int i2), .val (.int i3), .val (.int i4), .val (.int i5), .val (.int prev), .val (.int most), .val (.int bef), .val (.int bcp), .val (.int nn), .val (.int cnt), .val (.ref b1), .val (.int (1 : Int32)), .unset, .unset] [(.int (1 : Int32))])) _
        exact retN X45 hx (t := .boolean) Bd.returns (by simp) (hb hby at_221) hr
      · have pre11 : ∀ t, Steps p.tables e below (T45.setTop (mkF m 177 #[.val (.int i0), .val (.int i1), .val (.int i2), .val (.int i3), .val (.int i4), .val (.int i5), .val (.int prev), .val (.int most), .val (.int bef), .val (.int bcp), .val (.int nn), .val (.int cnt), .val (.ref b1), .val (.int (1 : Int32)), .unset, .unset] [(.long (most.toInt64)), (.long (nn.toInt64))])) t → Steps p.tables e below (s₁.setTop (entryFrame m #[(.int i0), (.int i1), (.int i2), (.int i3), (.int i4), (.int i5)] maxLocals)) t := fun t kk => pre10 t (by
          show Steps p.tables e below (T45.setTop (mkF m 168 #[.val (.int i0), .val (.int i1), .val (.int i2), .val (.int i3), .val (.int i4), .val (.int i5), .val (.int prev), .val (.int most), .val (.int bef), .val (.int bcp), .val (.int nn), .val (.int cnt), .val (.ref b1), .val (.int (1 : Int32)), .unset, .unset] [(.int (1 : Int32)), (.int nn)])) _
          refine XS.icmpNo X45.here hx rfl (hb hby at_168) rfl (flt hs2).1 ?_
          show Steps p.tables e below (T45.setTop (mkF m 171 #[.val (.int i0), .val (.int i1), .val (.int i2), .val (.int i3), .val (.int i4), .val (.int i5), .val (.int prev), .val (.int most), .val (.int bef), .val (.int bcp), .val (.int nn), .val (.int cnt), .val (.ref b1), .val (.int (1 : Int32)), .unset, .unset] [])) _
          refine XS.iload X45.here hx rfl (hb hby at_171) rfl ?_
          show Steps p.tables e below (T45.setTop (mkF m 173 #[.val (.int i0), .val (.int i1), .val (.int i2), .val (.int i3), .val (.int i4), .val (.int i5), .val (.int prev), .val (.int most), .val (.int bef), .val (.int bcp), .val (.int nn), .val (.int cnt), .val (.ref b1), .val (.int (1 : Int32)), .unset, .unset] [(.int nn)])) _
          refine XS.i2l X45.here hx rfl (hb hby at_173) rfl ?_
          show Steps p.tables e below (T45.setTop (mkF m 174 #[.val (.int i0), .val (.int i1), .val (.int i2), .val (.int i3), .val (.int i4), .val (.int i5), .val (.int prev), .val (.int most), .val (.int bef), .val (.int bcp), .val (.int nn), .val (.int cnt), .val (.ref b1), .val (.int (1 : Int32)), .unset, .unset] [(.long (nn.toInt64))])) _
          refine XS.iload X45.here hx rfl (hb hby at_174) rfl ?_
          show Steps p.tables e below (T45.setTop (mkF m 176 #[.val (.int i0), .val (.int i1), .val (.int i2), .val (.int i3), .val (.int i4), .val (.int i5), .val (.int prev), .val (.int most), .val (.int bef), .val (.int bcp), .val (.int nn), .val (.int cnt), .val (.ref b1), .val (.int (1 : Int32)), .unset, .unset] [(.int most), (.long (nn.toInt64))])) _
          refine XS.i2l X45.here hx rfl (hb hby at_176) rfl ?_
          show Steps p.tables e below (T45.setTop (mkF m 177 #[.val (.int i0), .val (.int i1), .val (.int i2), .val (.int i3), .val (.int i4), .val (.int i5), .val (.int prev), .val (.int most), .val (.int bef), .val (.int bcp), .val (.int nn), .val (.int cnt), .val (.ref b1), .val (.int (1 : Int32)), .unset, .unset] [(.long (most.toInt64)), (.long (nn.toInt64))])) _
          exact kk)
        by_cases hs3 : (0 : Int32) < (lcmpW (nn.toInt64) (most.toInt64))
        · obtain ⟨_, _, ⟨T46, L46, k46, n46⟩, -, X46, ⟨Lc46, hQ46, l46, y46, z46⟩, st46⟩ := Jvm.LawKit.callS X45 hx (y := (⟨"java/lang/Math", "min", "(JJ)J"⟩ : MethodName)) hown (mvT hZ (own_w76 hw)) (mvT hZ (own_w60 hw)) (mvT hZ (own_w61 hw)) (mvT hZ (own_w62 hw)) (by decide) (backOf (W := 0) (rm8_9 l Z a0 hw [] (nn.toInt64) (most.toInt64) T43.heap n0 (Nat.le_trans Z0 KC44.1) hs3) hZ (own_w62 hw) (own_w61 hw) (by decide) (by decide)) (g := (mkF m 177 #[.val (.int i0), .val (.int i1), .val (.int i2), .val (.int i3), .val (.int i4), .val (.int i5), .val (.int prev), .val (.int most), .val (.int bef), .val (.int bcp), .val (.int nn), .val (.int cnt), .val (.ref b1), .val (.int (1 : Int32)), .unset, .unset] [(.long (most.toInt64)), (.long (nn.toInt64))])) rfl (by rw [hml]; rfl) (argsL := [(.long (nn.toInt64)), (.long (most.toInt64))]) (rest := []) (lenOf pd__JJ_J rfl) rfl (by show 2 * 0 + _ ≤ _; exact Nat.le_of_eq rfl) (hb hby at_177) (fun _ _ => ⟨rfl, e45, (by decide : 2 + 0 ≤ _), (by decide : 19 + 0 ≤ _)⟩)
          dsimp only [Pt.U, Pt.locs, Pt.cells, Pt.slots] at X46 l46 y46 z46 st46 hQ46
          subst l46 y46 z46
          obtain ⟨rfl, N46q, e46⟩ := hQ46
          have N46 := Fr.app N45 N46q
          obtain ⟨cq47, kq47, q47a, q47b, q47c⟩ := isOf hZ e46 f43_0
          obtain ⟨_, _, ⟨T47, L47, k47, n47⟩, -, X47, ⟨Lc47, hQ47, l47, y47, z47⟩, st47⟩ := X46.virtualBack hx (y := (⟨"stavelog/wire/History", "copy", "(JI)V"⟩ : MethodName)) (z := (⟨"stavelog/wire/History", "copy", "(JI)V"⟩ : MethodName)) hown (mvT hZ (own_w54 hw)) (mvT hZ (own_w55 hw)) (notFace_of_selects (args := #[]) (mvT hZ (own_w57 hw))) (mvT hZ (own_w57 hw)) (mvT hZ (own_w56 hw)) (by decide) (backOf (W := 0) (rm7_21 l Z a0 hw [] b1 (most.toInt64) cnt nn most b3 T43.heap n0 (Nat.le_trans Z0 KC44.1) f43_10 f43_3 f43_8 f43_7 hs3 (own_c2 (by rw [hdef_most]; exact own_pow i3)) (own_cmp_gt _ : ¬ ((0 : Int32) < (lcmpW (most.toInt64) (most.toInt64)))) f43_0 f43_6 g_b1 f43_4 f43_5 f43_2 f43_1 f43_9) hZ (own_w58 hw) (own_w4 hw) (by decide) (by decide)) q47a q47c (g := (mkF m 188 #[.val (.int i0), .val (.int i1), .val (.int i2), .val (.int i3), .val (.int i4), .val (.int i5), .val (.int prev), .val (.int most), .val (.int bef), .val (.int bcp), .val (.int nn), .val (.int cnt), .val (.ref b1), .val (.int (1 : Int32)), .val (.long (most.toInt64)), .second] [(.int cnt), (.long (most.toInt64)), (.ref b1)])) rfl (by rw [hml]; rfl) (Steps.refl _) (argsL := [(.long (most.toInt64)), (.int cnt)]) (rest := []) (lenOf pd__JI_V rfl) rfl (by show 2 * 0 + _ ≤ _; exact Nat.le_of_eq rfl) (hb hby at_188) (fun _ _ => ⟨rfl, e46, (by decide : 2 + 0 ≤ _), (by decide : 19 + 0 ≤ _)⟩)
          dsimp only [Pt.U, Pt.locs, Pt.cells, Pt.slots] at X47 l47 y47 z47 st47 hQ47
          subst l47 y47 z47
          obtain ⟨rfl, N47q, K47, f47_0, f47_1, f47_2, f47_3, f47_4, f47_5, f47_6, f47_7, f47_8, f47_9, f47_10⟩ := hQ47
          have N47 := Fr.app N46 N47q
          have KC48 : Keep h0 T47.heap [] := KC44.trans K47 (allS (Or.inr sz0_b1) all0)
          obtain ⟨cq49, kq49, q49a, q49b, q49c⟩ := isOf hZ rfl f47_4
          obtain ⟨_, _, ⟨T49, L49, k49, n49⟩, -, X49, ⟨Lc49, hQ49, l49, y49, z49⟩, st49⟩ := X47.virtualBack hx (y := (⟨"stavelog/wire/History", "written", "()J"⟩ : MethodName)) (z := (⟨"stavelog/wire/History", "written", "()J"⟩ : MethodName)) hown (mvT hZ (own_w75 hw)) (mvT hZ (own_w71 hw)) (notFace_of_selects (args := #[]) (mvT hZ (own_w73 hw))) (mvT hZ (own_w73 hw)) (mvT hZ (own_w72 hw)) (by decide) (backOf (W := 0) (rm10_11 l Z a0 hw [] b1 nn cnt T47.heap n0 (Nat.le_trans Z0 KC48.1) f47_0 f47_1 f47_6) hZ (own_w74 hw) (own_w4 hw) (by decide) (by decide)) q49a q49c (g := (mkF m 198 #[.val (.int i0), .val (.int i1), .val (.int i2), .val (.int i3), .val (.int i4), .val (.int i5), .val (.int prev), .val (.int most), .val (.int bef), .val (.int bcp), .val (.int nn), .val (.int cnt), .val (.ref b1), .val (.int (1 : Int32)), .val (.long (most.toInt64)), .second] [(.ref b1)])) rfl (by rw [hml]; rfl) (Steps.refl _) (argsL := []) (rest := []) (lenOf pd___J rfl) rfl (by show 2 * 0 + _ ≤ _; exact Nat.le_of_eq rfl) (hb hby at_198) (fun _ _ => ⟨rfl, rfl, (by decide : 2 + 0 ≤ _), (by decide : 19 + 0 ≤ _)⟩)
          dsimp only [Pt.U, Pt.locs, Pt.cells, Pt.slots] at X49 l49 y49 z49 st49 hQ49
          subst l49 y49 z49
          obtain ⟨rfl, N49q, e49⟩ := hQ49
          have N49 := Fr.app N47 N49q
          obtain ⟨fs, hr, hrun, hended, hW, hsame⟩ := X49.leave (v := some (.int (1 : Int32))) (fun h => by rw [Bd.returns] at h; cases h)
          refine ⟨_, _, pre11 _ ?_, hrun, hended, _, _, rfl, ⟨rfl, N49⟩, ⟨_, rfl⟩, hW, hsame.mono (by decide) (by decide)⟩
          show Steps p.tables e below (T45.setTop (mkF m 177 #[.val (.int i0), .val (.int i1), .val (.int i2), .val (.int i3), .val (.int i4), .val (.int i5), .val (.int prev), .val (.int most), .val (.int bef), .val (.int bcp), .val (.int nn), .val (.int cnt), .val (.ref b1), .val (.int (1 : Int32)), .unset, .unset] [(.long (most.toInt64)), (.long (nn.toInt64))])) _
          refine st46 _ ?_
          show Steps p.tables e below (T46.setTop (mkF m 180 #[.val (.int i0), .val (.int i1), .val (.int i2), .val (.int i3), .val (.int i4), .val (.int i5), .val (.int prev), .val (.int most), .val (.int bef), .val (.int bcp), .val (.int nn), .val (.int cnt), .val (.ref b1), .val (.int (1 : Int32)), .unset, .unset] [(.long (most.toInt64))])) _
          refine XS.lstore X46.here hx rfl (hb hby at_180) rfl (l' := #[.val (.int i0), .val (.int i1), .val (.int i2), .val (.int i3), .val (.int i4), .val (.int i5), .val (.int prev), .val (.int most), .val (.int bef), .val (.int bcp), .val (.int nn), .val (.int cnt), .val (.ref b1), .val (.int (1 : Int32)), .val (.long (most.toInt64)), .second]) rfl ?_
          show Steps p.tables e below (T46.setTop (mkF m 182 #[.val (.int i0), .val (.int i1), .val (.int i2), .val (.int i3), .val (.int i4), .val (.int i5), .val (.int prev), .val (.int most), .val (.int bef), .val (.int bcp), .val (.int nn), .val (.int cnt), .val (.ref b1), .val (.int (1 : Int32)), .val (.long (most.toInt64)), .second] [])) _
          refine XS.aload X46.here hx rfl (hb hby at_182) rfl rfl ?_
          show Steps p.tables e below (T46.setTop (mkF m 184 #[.val (.int i0), .val (.int i1), .val (.int i2), .val (.int i3), .val (.int i4), .val (.int i5), .val (.int prev), .val (.int most), .val (.int bef), .val (.int bcp), .val (.int nn), .val (.int cnt), .val (.ref b1), .val (.int (1 : Int32)), .val (.long (most.toInt64)), .second] [(.ref b1)])) _
          refine XS.lload X46.here hx rfl (hb hby at_184) rfl ?_
          show Steps p.tables e below (T46.setTop (mkF m 186 #[.val (.int i0), .val (.int i1), .val (.int i2), .val (.int i3), .val (.int i4), .val (.int i5), .val (.int prev), .val (.int most), .val (.int bef), .val (.int bcp), .val (.int nn), .val (.int cnt), .val (.ref b1), .val (.int (1 : Int32)), .val (.long (most.toInt64)), .second] [(.long (most.toInt64)), (.ref b1)])) _
          refine XS.iload X46.here hx rfl (hb hby at_186) rfl ?_
          show Steps p.tables e below (T46.setTop (mkF m 188 #[.val (.int i0), .val (.int i1), .val (.int i2), .val (.int i3), .val (.int i4), .val (.int i5), .val (.int prev), .val (.int most), .val (.int bef), .val (.int bcp), .val (.int nn), .val (.int cnt), .val (.ref b1), .val (.int (1 : Int32)), .val (.long (most.toInt64)), .second] [(.int cnt), (.long (most.toInt64)), (.ref b1)])) _
          refine st47.trans ?_
          show Steps p.tables e below (T47.setTop (mkF m 191 #[.val (.int i0), .val (.int i1), .val (.int i2), .val (.int i3), .val (.int i4), .val (.int i5), .val (.int prev), .val (.int most), .val (.int bef), .val (.int bcp), .val (.int nn), .val (.int cnt), .val (.ref b1), .val (.int (1 : Int32)), .val (.long (most.toInt64)), .second] [])) _
          refine XS.iload X47.here hx rfl (hb hby at_191) rfl ?_
          show Steps p.tables e below (T47.setTop (mkF m 193 #[.val (.int i0), .val (.int i1), .val (.int i2), .val (.int i3), .val (.int i4), .val (.int i5), .val (.int prev), .val (.int most), .val (.int bef), .val (.int bcp), .val (.int nn), .val (.int cnt), .val (.ref b1), .val (.int (1 : Int32)), .val (.long (most.toInt64)), .second] [(.int (1 : Int32))])) _
          refine XS.ifNo X47.here hx rfl (hb hby at_193) rfl ((if0 _ _).trans (feq (by decide : ¬ ((1 : Int32) = (0 : Int32)))).1) ?_
          show Steps p.tables e below (T47.setTop (mkF m 196 #[.val (.int i0), .val (.int i1), .val (.int i2), .val (.int i3), .val (.int i4), .val (.int i5), .val (.int prev), .val (.int most), .val (.int bef), .val (.int bcp), .val (.int nn), .val (.int cnt), .val (.ref b1), .val (.int (1 : Int32)), .val (.long (most.toInt64)), .second] [])) _
          refine XS.aload X47.here hx rfl (hb hby at_196) rfl rfl ?_
          show Steps p.tables e below (T47.setTop (mkF m 198 #[.val (.int i0), .val (.int i1), .val (.int i2), .val (.int i3), .val (.int i4), .val (.int i5), .val (.int prev), .val (.int most), .val (.int bef), .val (.int bcp), .val (.int nn), .val (.int cnt), .val (.ref b1), .val (.int (1 : Int32)), .val (.long (most.toInt64)), .second] [(.ref b1)])) _
          refine st49.trans ?_
          show Steps p.tables e below (T49.setTop (mkF m 201 #[.val (.int i0), .val (.int i1), .val (.int i2), .val (.int i3), .val (.int i4), .val (.int i5), .val (.int prev), .val (.int most), .val (.int bef), .val (.int bcp), .val (.int nn), .val (.int cnt), .val (.ref b1), .val (.int (1 : Int32)), .val (.long (most.toInt64)), .second] [(.long ((nn.toInt64) + (cnt.toInt64)))])) _
          refine XS.iload X49.here hx rfl (hb hby at_201) rfl ?_
          show Steps p.tables e below (T49.setTop (mkF m 203 #[.val (.int i0), .val (.int i1), .val (.int i2), .val (.int i3), .val (.int i4), .val (.int i5), .val (.int prev), .val (.int most), .val (.int bef), .val (.int bcp), .val (.int nn), .val (.int cnt), .val (.ref b1), .val (.int (1 : Int32)), .val (.long (most.toInt64)), .second] [(.int nn), (.long ((nn.toInt64) + (cnt.toInt64)))])) _
          refine XS.i2l X49.here hx rfl (hb hby at_203) rfl ?_
          show Steps p.tables e below (T49.setTop (mkF m 204 #[.val (.int i0), .val (.int i1), .val (.int i2), .val (.int i3), .val (.int i4), .val (.int i5), .val (.int prev), .val (.int most), .val (.int bef), .val (.int bcp), .val (.int nn), .val (.int cnt), .val (.ref b1), .val (.int (1 : Int32)), .val (.long (most.toInt64)), .second] [(.long (nn.toInt64)), (.long ((nn.toInt64) + (cnt.toInt64)))])) _
          refine XS.iload X49.here hx rfl (hb hby at_204) rfl ?_
          show Steps p.tables e below (T49.setTop (mkF m 206 #[.val (.int i0), .val (.int i1), .val (.int i2), .val (.int i3), .val (.int i4), .val (.int i5), .val (.int prev), .val (.int most), .val (.int bef), .val (.int bcp), .val (.int nn), .val (.int cnt), .val (.ref b1), .val (.int (1 : Int32)), .val (.long (most.toInt64)), .second] [(.int cnt), (.long (nn.toInt64)), (.long ((nn.toInt64) + (cnt.toInt64)))])) _
          refine XS.i2l X49.here hx rfl (hb hby at_206) rfl ?_
          show Steps p.tables e below (T49.setTop (mkF m 207 #[.val (.int i0), .val (.int i1), .val (.int i2), .val (.int i3), .val (.int i4), .val (.int i5), .val (.int prev), .val (.int most), .val (.int bef), .val (.int bcp), .val (.int nn), .val (.int cnt), .val (.ref b1), .val (.int (1 : Int32)), .val (.long (most.toInt64)), .second] [(.long (cnt.toInt64)), (.long (nn.toInt64)), (.long ((nn.toInt64) + (cnt.toInt64)))])) _
          refine XS.ladd X49.here hx rfl (hb hby at_207) rfl ?_
          show Steps p.tables e below (T49.setTop (mkF m 208 #[.val (.int i0), .val (.int i1), .val (.int i2), .val (.int i3), .val (.int i4), .val (.int i5), .val (.int prev), .val (.int most), .val (.int bef), .val (.int bcp), .val (.int nn), .val (.int cnt), .val (.ref b1), .val (.int (1 : Int32)), .val (.long (most.toInt64)), .second] [(.long ((nn.toInt64) + (cnt.toInt64))), (.long ((nn.toInt64) + (cnt.toInt64)))])) _
          refine XS.lcmp X49.here hx rfl (hb hby at_208) rfl ?_
          show Steps p.tables e below (T49.setTop (mkF m 209 #[.val (.int i0), .val (.int i1), .val (.int i2), .val (.int i3), .val (.int i4), .val (.int i5), .val (.int prev), .val (.int most), .val (.int bef), .val (.int bcp), .val (.int nn), .val (.int cnt), .val (.ref b1), .val (.int (1 : Int32)), .val (.long (most.toInt64)), .second] [(.int (lcmpW ((nn.toInt64) + (cnt.toInt64)) ((nn.toInt64) + (cnt.toInt64))))])) _
          rw [own_cmp_self]
          show Steps p.tables e below (T49.setTop (mkF m 209 #[.val (.int i0), .val (.int i1), .val (.int i2), .val (.int i3), .val (.int i4), .val (.int i5), .val (.int prev), .val (.int most), .val (.int bef), .val (.int bcp), .val (.int nn), .val (.int cnt), .val (.ref b1), .val (.int (1 : Int32)), .val (.long (most.toInt64)), .second] [(.int (0 : Int32))])) _
          refine XS.ifNo X49.here hx rfl (hb hby at_209) rfl ((if0 _ _).trans (teq (by decide : (0 : Int32) = (0 : Int32))).2) ?_
          show Steps p.tables e below (T49.setTop (mkF m 212 #[.val (.int i0), .val (.int i1), .val (.int i2), .val (.int i3), .val (.int i4), .val (.int i5), .val (.int prev), .val (.int most), .val (.int bef), .val (.int bcp), .val (.int nn), .val (.int cnt), .val (.ref b1), .val (.int (1 : Int32)), .val (.long (most.toInt64)), .second] [])) _
          refine XS.iconst X49.here hx rfl (hb hby at_212) ?_
          show Steps p.tables e below (T49.setTop (mkF m 213 #[.val (.int i0), .val (.int i1), .val (.int i2), .val (.int i3), .val (.int i4), .val (.int i5), .val (.int prev), .val (.int most), .val (.int bef), .val (.int bcp), .val (.int nn), .val (.int cnt), .val (.ref b1), .val (.int (1 : Int32)), .val (.long (most.toInt64)), .second] [(.int (1 : Int32))])) _
          refine XS.goto X49.here hx rfl (pc0 := 213) (pc' := 217) rfl (hb hby at_213) (by decide) (by decide) ?_
          show Steps p.tables e below (T49.setTop (mkF m 217 #[.val (.int i0), .val (.int i1), .val (.int i2), .val (.int i3), .val (.int i4), .val (.int i5), .val (.int prev), .val (.int most), .val (.int bef), .val (.int bcp), .val (.int nn), .val (.int cnt), .val (.ref b1), .val (.int (1 : Int32)), .val (.long (most.toInt64)), .second] [(.int (1 : Int32))])) _
          refine XS.istore X49.here hx rfl (hb hby at_217) rfl (l' := #[.val (.int i0), .val (.int i1), .val (.int i2), .val (.int i3), .val (.int i4), .val (.int i5), .val (.int prev), .val (.int most), .val (.int bef), .val (.int bcp), .val (.int nn), .val (.int cnt), .val (.ref b1), .val (.int (1 : Int32)), .val (.long (most.toInt64)), .second]) rfl ?_
          show Steps p.tables e below (T49.setTop (mkF m 219 #[.val (.int i0), .val (.int i1), .val (.int i2), .val (.int i3), .val (.int i4), .val (.int i5), .val (.int prev), .val (.int most), .val (.int bef), .val (.int bcp), .val (.int nn), .val (.int cnt), .val (.ref b1), .val (.int (1 : Int32)), .val (.long (most.toInt64)), .second] [])) _
          refine XS.iload X49.here hx rfl (hb hby at_219) rfl ?_
          show Steps p.tables e below (T49.setTop (mkF m 221 #[.val (.int i0), .val (.int i1), .val (.int i2), .val (.int i3), .val (.int i4), .val (.int i5), .val (.int prev), .val (.int most), .val (.int bef), .val (.int bcp), .val (.int nn), .val (.int cnt), .val (.ref b1), .val (.int (1 : Int32)), .val (.long (most.toInt64)), .second] [(.int (1 : Int32))])) _
          exact retN X49 hx (t := .boolean) Bd.returns (by simp) (hb hby at_221) hr
        · obtain ⟨_, _, ⟨T46, L46, k46, n46⟩, -, X46, ⟨Lc46, hQ46, l46, y46, z46⟩, st46⟩ := Jvm.LawKit.callS X45 hx (y := (⟨"java/lang/Math", "min", "(JJ)J"⟩ : MethodName)) hown (mvT hZ (own_w76 hw)) (mvT hZ (own_w60 hw)) (mvT hZ (own_w61 hw)) (mvT hZ (own_w62 hw)) (by decide) (backOf (W := 0) (rm8_12 l Z a0 hw [] (nn.toInt64) (most.toInt64) T43.heap n0 (Nat.le_trans Z0 KC44.1) hs3) hZ (own_w62 hw) (own_w61 hw) (by decide) (by decide)) (g := (mkF m 177 #[.val (.int i0), .val (.int i1), .val (.int i2), .val (.int i3), .val (.int i4), .val (.int i5), .val (.int prev), .val (.int most), .val (.int bef), .val (.int bcp), .val (.int nn), .val (.int cnt), .val (.ref b1), .val (.int (1 : Int32)), .unset, .unset] [(.long (most.toInt64)), (.long (nn.toInt64))])) rfl (by rw [hml]; rfl) (argsL := [(.long (nn.toInt64)), (.long (most.toInt64))]) (rest := []) (lenOf pd__JJ_J rfl) rfl (by show 2 * 0 + _ ≤ _; exact Nat.le_of_eq rfl) (hb hby at_177) (fun _ _ => ⟨rfl, e45, (by decide : 2 + 0 ≤ _), (by decide : 19 + 0 ≤ _)⟩)
          dsimp only [Pt.U, Pt.locs, Pt.cells, Pt.slots] at X46 l46 y46 z46 st46 hQ46
          subst l46 y46 z46
          obtain ⟨rfl, N46q, e46⟩ := hQ46
          have N46 := Fr.app N45 N46q
          obtain ⟨cq47, kq47, q47a, q47b, q47c⟩ := isOf hZ e46 f43_0
          obtain ⟨_, _, ⟨T47, L47, k47, n47⟩, -, X47, ⟨Lc47, hQ47, l47, y47, z47⟩, st47⟩ := X46.virtualBack hx (y := (⟨"stavelog/wire/History", "copy", "(JI)V"⟩ : MethodName)) (z := (⟨"stavelog/wire/History", "copy", "(JI)V"⟩ : MethodName)) hown (mvT hZ (own_w54 hw)) (mvT hZ (own_w55 hw)) (notFace_of_selects (args := #[]) (mvT hZ (own_w57 hw))) (mvT hZ (own_w57 hw)) (mvT hZ (own_w56 hw)) (by decide) (backOf (W := 0) (rm7_22 l Z a0 hw [] b1 (nn.toInt64) cnt nn most b3 T43.heap n0 (Nat.le_trans Z0 KC44.1) f43_10 f43_3 f43_8 f43_7 hs3 (own_c2 (own_ge1 hs2)) (own_cmp_gt _ : ¬ ((0 : Int32) < (lcmpW (nn.toInt64) (nn.toInt64)))) f43_0 f43_6 g_b1 f43_4 f43_5 f43_2 f43_1 f43_9) hZ (own_w58 hw) (own_w4 hw) (by decide) (by decide)) q47a q47c (g := (mkF m 188 #[.val (.int i0), .val (.int i1), .val (.int i2), .val (.int i3), .val (.int i4), .val (.int i5), .val (.int prev), .val (.int most), .val (.int bef), .val (.int bcp), .val (.int nn), .val (.int cnt), .val (.ref b1), .val (.int (1 : Int32)), .val (.long (nn.toInt64)), .second] [(.int cnt), (.long (nn.toInt64)), (.ref b1)])) rfl (by rw [hml]; rfl) (Steps.refl _) (argsL := [(.long (nn.toInt64)), (.int cnt)]) (rest := []) (lenOf pd__JI_V rfl) rfl (by show 2 * 0 + _ ≤ _; exact Nat.le_of_eq rfl) (hb hby at_188) (fun _ _ => ⟨rfl, e46, (by decide : 2 + 0 ≤ _), (by decide : 19 + 0 ≤ _)⟩)
          dsimp only [Pt.U, Pt.locs, Pt.cells, Pt.slots] at X47 l47 y47 z47 st47 hQ47
          subst l47 y47 z47
          obtain ⟨rfl, N47q, K47, f47_0, f47_1, f47_2, f47_3, f47_4, f47_5, f47_6, f47_7, f47_8, f47_9, f47_10⟩ := hQ47
          have N47 := Fr.app N46 N47q
          have KC48 : Keep h0 T47.heap [] := KC44.trans K47 (allS (Or.inr sz0_b1) all0)
          obtain ⟨cq49, kq49, q49a, q49b, q49c⟩ := isOf hZ rfl f47_4
          obtain ⟨_, _, ⟨T49, L49, k49, n49⟩, -, X49, ⟨Lc49, hQ49, l49, y49, z49⟩, st49⟩ := X47.virtualBack hx (y := (⟨"stavelog/wire/History", "written", "()J"⟩ : MethodName)) (z := (⟨"stavelog/wire/History", "written", "()J"⟩ : MethodName)) hown (mvT hZ (own_w75 hw)) (mvT hZ (own_w71 hw)) (notFace_of_selects (args := #[]) (mvT hZ (own_w73 hw))) (mvT hZ (own_w73 hw)) (mvT hZ (own_w72 hw)) (by decide) (backOf (W := 0) (rm10_11 l Z a0 hw [] b1 nn cnt T47.heap n0 (Nat.le_trans Z0 KC48.1) f47_0 f47_1 f47_6) hZ (own_w74 hw) (own_w4 hw) (by decide) (by decide)) q49a q49c (g := (mkF m 198 #[.val (.int i0), .val (.int i1), .val (.int i2), .val (.int i3), .val (.int i4), .val (.int i5), .val (.int prev), .val (.int most), .val (.int bef), .val (.int bcp), .val (.int nn), .val (.int cnt), .val (.ref b1), .val (.int (1 : Int32)), .val (.long (nn.toInt64)), .second] [(.ref b1)])) rfl (by rw [hml]; rfl) (Steps.refl _) (argsL := []) (rest := []) (lenOf pd___J rfl) rfl (by show 2 * 0 + _ ≤ _; exact Nat.le_of_eq rfl) (hb hby at_198) (fun _ _ => ⟨rfl, rfl, (by decide : 2 + 0 ≤ _), (by decide : 19 + 0 ≤ _)⟩)
          dsimp only [Pt.U, Pt.locs, Pt.cells, Pt.slots] at X49 l49 y49 z49 st49 hQ49
          subst l49 y49 z49
          obtain ⟨rfl, N49q, e49⟩ := hQ49
          have N49 := Fr.app N47 N49q
          obtain ⟨fs, hr, hrun, hended, hW, hsame⟩ := X49.leave (v := some (.int (1 : Int32))) (fun h => by rw [Bd.returns] at h; cases h)
          refine ⟨_, _, pre11 _ ?_, hrun, hended, _, _, rfl, ⟨rfl, N49⟩, ⟨_, rfl⟩, hW, hsame.mono (by decide) (by decide)⟩
          show Steps p.tables e below (T45.setTop (mkF m 177 #[.val (.int i0), .val (.int i1), .val (.int i2), .val (.int i3), .val (.int i4), .val (.int i5), .val (.int prev), .val (.int most), .val (.int bef), .val (.int bcp), .val (.int nn), .val (.int cnt), .val (.ref b1), .val (.int (1 : Int32)), .unset, .unset] [(.long (most.toInt64)), (.long (nn.toInt64))])) _
          refine st46 _ ?_
          show Steps p.tables e below (T46.setTop (mkF m 180 #[.val (.int i0), .val (.int i1), .val (.int i2), .val (.int i3), .val (.int i4), .val (.int i5), .val (.int prev), .val (.int most), .val (.int bef), .val (.int bcp), .val (.int nn), .val (.int cnt), .val (.ref b1), .val (.int (1 : Int32)), .unset, .unset] [(.long (nn.toInt64))])) _
          refine XS.lstore X46.here hx rfl (hb hby at_180) rfl (l' := #[.val (.int i0), .val (.int i1), .val (.int i2), .val (.int i3), .val (.int i4), .val (.int i5), .val (.int prev), .val (.int most), .val (.int bef), .val (.int bcp), .val (.int nn), .val (.int cnt), .val (.ref b1), .val (.int (1 : Int32)), .val (.long (nn.toInt64)), .second]) rfl ?_
          show Steps p.tables e below (T46.setTop (mkF m 182 #[.val (.int i0), .val (.int i1), .val (.int i2), .val (.int i3), .val (.int i4), .val (.int i5), .val (.int prev), .val (.int most), .val (.int bef), .val (.int bcp), .val (.int nn), .val (.int cnt), .val (.ref b1), .val (.int (1 : Int32)), .val (.long (nn.toInt64)), .second] [])) _
          refine XS.aload X46.here hx rfl (hb hby at_182) rfl rfl ?_
          show Steps p.tables e below (T46.setTop (mkF m 184 #[.val (.int i0), .val (.int i1), .val (.int i2), .val (.int i3), .val (.int i4), .val (.int i5), .val (.int prev), .val (.int most), .val (.int bef), .val (.int bcp), .val (.int nn), .val (.int cnt), .val (.ref b1), .val (.int (1 : Int32)), .val (.long (nn.toInt64)), .second] [(.ref b1)])) _
          refine XS.lload X46.here hx rfl (hb hby at_184) rfl ?_
          show Steps p.tables e below (T46.setTop (mkF m 186 #[.val (.int i0), .val (.int i1), .val (.int i2), .val (.int i3), .val (.int i4), .val (.int i5), .val (.int prev), .val (.int most), .val (.int bef), .val (.int bcp), .val (.int nn), .val (.int cnt), .val (.ref b1), .val (.int (1 : Int32)), .val (.long (nn.toInt64)), .second] [(.long (nn.toInt64)), (.ref b1)])) _
          refine XS.iload X46.here hx rfl (hb hby at_186) rfl ?_
          show Steps p.tables e below (T46.setTop (mkF m 188 #[.val (.int i0), .val (.int i1), .val (.int i2), .val (.int i3), .val (.int i4), .val (.int i5), .val (.int prev), .val (.int most), .val (.int bef), .val (.int bcp), .val (.int nn), .val (.int cnt), .val (.ref b1), .val (.int (1 : Int32)), .val (.long (nn.toInt64)), .second] [(.int cnt), (.long (nn.toInt64)), (.ref b1)])) _
          refine st47.trans ?_
          show Steps p.tables e below (T47.setTop (mkF m 191 #[.val (.int i0), .val (.int i1), .val (.int i2), .val (.int i3), .val (.int i4), .val (.int i5), .val (.int prev), .val (.int most), .val (.int bef), .val (.int bcp), .val (.int nn), .val (.int cnt), .val (.ref b1), .val (.int (1 : Int32)), .val (.long (nn.toInt64)), .second] [])) _
          refine XS.iload X47.here hx rfl (hb hby at_191) rfl ?_
          show Steps p.tables e below (T47.setTop (mkF m 193 #[.val (.int i0), .val (.int i1), .val (.int i2), .val (.int i3), .val (.int i4), .val (.int i5), .val (.int prev), .val (.int most), .val (.int bef), .val (.int bcp), .val (.int nn), .val (.int cnt), .val (.ref b1), .val (.int (1 : Int32)), .val (.long (nn.toInt64)), .second] [(.int (1 : Int32))])) _
          refine XS.ifNo X47.here hx rfl (hb hby at_193) rfl ((if0 _ _).trans (feq (by decide : ¬ ((1 : Int32) = (0 : Int32)))).1) ?_
          show Steps p.tables e below (T47.setTop (mkF m 196 #[.val (.int i0), .val (.int i1), .val (.int i2), .val (.int i3), .val (.int i4), .val (.int i5), .val (.int prev), .val (.int most), .val (.int bef), .val (.int bcp), .val (.int nn), .val (.int cnt), .val (.ref b1), .val (.int (1 : Int32)), .val (.long (nn.toInt64)), .second] [])) _
          refine XS.aload X47.here hx rfl (hb hby at_196) rfl rfl ?_
          show Steps p.tables e below (T47.setTop (mkF m 198 #[.val (.int i0), .val (.int i1), .val (.int i2), .val (.int i3), .val (.int i4), .val (.int i5), .val (.int prev), .val (.int most), .val (.int bef), .val (.int bcp), .val (.int nn), .val (.int cnt), .val (.ref b1), .val (.int (1 : Int32)), .val (.long (nn.toInt64)), .second] [(.ref b1)])) _
          refine st49.trans ?_
          show Steps p.tables e below (T49.setTop (mkF m 201 #[.val (.int i0), .val (.int i1), .val (.int i2), .val (.int i3), .val (.int i4), .val (.int i5), .val (.int prev), .val (.int most), .val (.int bef), .val (.int bcp), .val (.int nn), .val (.int cnt), .val (.ref b1), .val (.int (1 : Int32)), .val (.long (nn.toInt64)), .second] [(.long ((nn.toInt64) + (cnt.toInt64)))])) _
          refine XS.iload X49.here hx rfl (hb hby at_201) rfl ?_
          show Steps p.tables e below (T49.setTop (mkF m 203 #[.val (.int i0), .val (.int i1), .val (.int i2), .val (.int i3), .val (.int i4), .val (.int i5), .val (.int prev), .val (.int most), .val (.int bef), .val (.int bcp), .val (.int nn), .val (.int cnt), .val (.ref b1), .val (.int (1 : Int32)), .val (.long (nn.toInt64)), .second] [(.int nn), (.long ((nn.toInt64) + (cnt.toInt64)))])) _
          refine XS.i2l X49.here hx rfl (hb hby at_203) rfl ?_
          show Steps p.tables e below (T49.setTop (mkF m 204 #[.val (.int i0), .val (.int i1), .val (.int i2), .val (.int i3), .val (.int i4), .val (.int i5), .val (.int prev), .val (.int most), .val (.int bef), .val (.int bcp), .val (.int nn), .val (.int cnt), .val (.ref b1), .val (.int (1 : Int32)), .val (.long (nn.toInt64)), .second] [(.long (nn.toInt64)), (.long ((nn.toInt64) + (cnt.toInt64)))])) _
          refine XS.iload X49.here hx rfl (hb hby at_204) rfl ?_
          show Steps p.tables e below (T49.setTop (mkF m 206 #[.val (.int i0), .val (.int i1), .val (.int i2), .val (.int i3), .val (.int i4), .val (.int i5), .val (.int prev), .val (.int most), .val (.int bef), .val (.int bcp), .val (.int nn), .val (.int cnt), .val (.ref b1), .val (.int (1 : Int32)), .val (.long (nn.toInt64)), .second] [(.int cnt), (.long (nn.toInt64)), (.long ((nn.toInt64) + (cnt.toInt64)))])) _
          refine XS.i2l X49.here hx rfl (hb hby at_206) rfl ?_
          show Steps p.tables e below (T49.setTop (mkF m 207 #[.val (.int i0), .val (.int i1), .val (.int i2), .val (.int i3), .val (.int i4), .val (.int i5), .val (.int prev), .val (.int most), .val (.int bef), .val (.int bcp), .val (.int nn), .val (.int cnt), .val (.ref b1), .val (.int (1 : Int32)), .val (.long (nn.toInt64)), .second] [(.long (cnt.toInt64)), (.long (nn.toInt64)), (.long ((nn.toInt64) + (cnt.toInt64)))])) _
          refine XS.ladd X49.here hx rfl (hb hby at_207) rfl ?_
          show Steps p.tables e below (T49.setTop (mkF m 208 #[.val (.int i0), .val (.int i1), .val (.int i2), .val (.int i3), .val (.int i4), .val (.int i5), .val (.int prev), .val (.int most), .val (.int bef), .val (.int bcp), .val (.int nn), .val (.int cnt), .val (.ref b1), .val (.int (1 : Int32)), .val (.long (nn.toInt64)), .second] [(.long ((nn.toInt64) + (cnt.toInt64))), (.long ((nn.toInt64) + (cnt.toInt64)))])) _
          refine XS.lcmp X49.here hx rfl (hb hby at_208) rfl ?_
          show Steps p.tables e below (T49.setTop (mkF m 209 #[.val (.int i0), .val (.int i1), .val (.int i2), .val (.int i3), .val (.int i4), .val (.int i5), .val (.int prev), .val (.int most), .val (.int bef), .val (.int bcp), .val (.int nn), .val (.int cnt), .val (.ref b1), .val (.int (1 : Int32)), .val (.long (nn.toInt64)), .second] [(.int (lcmpW ((nn.toInt64) + (cnt.toInt64)) ((nn.toInt64) + (cnt.toInt64))))])) _
          rw [own_cmp_self]
          show Steps p.tables e below (T49.setTop (mkF m 209 #[.val (.int i0), .val (.int i1), .val (.int i2), .val (.int i3), .val (.int i4), .val (.int i5), .val (.int prev), .val (.int most), .val (.int bef), .val (.int bcp), .val (.int nn), .val (.int cnt), .val (.ref b1), .val (.int (1 : Int32)), .val (.long (nn.toInt64)), .second] [(.int (0 : Int32))])) _
          refine XS.ifNo X49.here hx rfl (hb hby at_209) rfl ((if0 _ _).trans (teq (by decide : (0 : Int32) = (0 : Int32))).2) ?_
          show Steps p.tables e below (T49.setTop (mkF m 212 #[.val (.int i0), .val (.int i1), .val (.int i2), .val (.int i3), .val (.int i4), .val (.int i5), .val (.int prev), .val (.int most), .val (.int bef), .val (.int bcp), .val (.int nn), .val (.int cnt), .val (.ref b1), .val (.int (1 : Int32)), .val (.long (nn.toInt64)), .second] [])) _
          refine XS.iconst X49.here hx rfl (hb hby at_212) ?_
          show Steps p.tables e below (T49.setTop (mkF m 213 #[.val (.int i0), .val (.int i1), .val (.int i2), .val (.int i3), .val (.int i4), .val (.int i5), .val (.int prev), .val (.int most), .val (.int bef), .val (.int bcp), .val (.int nn), .val (.int cnt), .val (.ref b1), .val (.int (1 : Int32)), .val (.long (nn.toInt64)), .second] [(.int (1 : Int32))])) _
          refine XS.goto X49.here hx rfl (pc0 := 213) (pc' := 217) rfl (hb hby at_213) (by decide) (by decide) ?_
          show Steps p.tables e below (T49.setTop (mkF m 217 #[.val (.int i0), .val (.int i1), .val (.int i2), .val (.int i3), .val (.int i4), .val (.int i5), .val (.int prev), .val (.int most), .val (.int bef), .val (.int bcp), .val (.int nn), .val (.int cnt), .val (.ref b1), .val (.int (1 : Int32)), .val (.long (nn.toInt64)), .second] [(.int (1 : Int32))])) _
          refine XS.istore X49.here hx rfl (hb hby at_217) rfl (l' := #[.val (.int i0), .val (.int i1), .val (.int i2), .val (.int i3), .val (.int i4), .val (.int i5), .val (.int prev), .val (.int most), .val (.int bef), .val (.int bcp), .val (.int nn), .val (.int cnt), .val (.ref b1), .val (.int (1 : Int32)), .val (.long (nn.toInt64)), .second]) rfl ?_
          show Steps p.tables e below (T49.setTop (mkF m 219 #[.val (.int i0), .val (.int i1), .val (.int i2), .val (.int i3), .val (.int i4), .val (.int i5), .val (.int prev), .val (.int most), .val (.int bef), .val (.int bcp), .val (.int nn), .val (.int cnt), .val (.ref b1), .val (.int (1 : Int32)), .val (.long (nn.toInt64)), .second] [])) _
          refine XS.iload X49.here hx rfl (hb hby at_219) rfl ?_
          show Steps p.tables e below (T49.setTop (mkF m 221 #[.val (.int i0), .val (.int i1), .val (.int i2), .val (.int i3), .val (.int i4), .val (.int i5), .val (.int prev), .val (.int most), .val (.int bef), .val (.int bcp), .val (.int nn), .val (.int cnt), .val (.ref b1), .val (.int (1 : Int32)), .val (.long (nn.toInt64)), .second] [(.int (1 : Int32))])) _
          exact retN X49 hx (t := .boolean) Bd.returns (by simp) (hb hby at_221) hr
set_option maxRecDepth 65536 in
set_option maxHeartbeats 40000000 in
theorem comes_1 {Post : Tables → Env → Array Value → State → Outcome → State → Prop} (hpost : ∀ tb e args s v u, (limb_1_1.after args s (.returned v) u = true ∧ limb_1_2.after args s (.returned v) u = true ∧ True) → FrameEnd s (.returned v) u (Jvm.fieldLocs frame_1_writes args s ++ Jvm.arrayLocs frame_1_arrays args s ++ Jvm.staticLocs frame_1_statics s) 16 128 → Post tb e args s (.returned v) u) :
    ArmFor flags0 classFile x code maxLocals ret World_1 tables_1 room_1 Calls_1 rest_1 Pre_1 Post := by
  intro l hfl _ _ p e ha hc hk s m args below hf hA hF happ hP
  obtain ⟨hcalls, hrest, hpre⟩ := hP
  obtain ⟨-, -, -, hnamed, -, -, -, hat⟩ := (Spec.applies_iff hf).mp happ
  obtain ⟨hg, hn⟩ := and_e (Cond.before_iff.mp (show (Jvm.Cond.and given_1 narrow_1).before args s = true from hpre))
  obtain ⟨hg_1a, hg_1b⟩ := and_e hg
  obtain ⟨hg_2a, hg_2b⟩ := and_e hg_1b
  obtain ⟨hg_3a, hg_3b⟩ := and_e hg_2b
  obtain ⟨hg_4a, hg_4b⟩ := and_e hg_3b
  obtain ⟨hg_5a, hg_5b⟩ := and_e hg_4b
  obtain ⟨hg_6a, hg_6b⟩ := and_e hg_5b
  obtain ⟨w0, w1, w2, w3, w4, w5, rfl⟩ : ∃ w0 w1 w2 w3 w4 w5 : Value, args = #[w0, w1, w2, w3, w4, w5] := by
    have hs : args.size = 6 := by simpa [Cond.value, given_1] using hg_1a
    obtain ⟨L⟩ := args
    match L, hs with
    | [w0, w1, w2, w3, w4, w5], _ => exact ⟨w0, w1, w2, w3, w4, w5, rfl⟩
  have hw := fun d (hd : d ∈ tables_1) => atoms_spec (ws := Jvm.Cond.code x code maxLocals ret :: tables_1) hat d (List.mem_cons_of_mem _ hd)
  have hfit : Fit s := fun {y c} hc i hi => by
    obtain ⟨ha, rfl⟩ := Array.getElem?_eq_some_iff.mp hc
    have q := List.all_eq_true.mp ((Array.all_eq_true_iff_forall_mem.mp hF) _ (Array.getElem_mem ha)) i (List.mem_range.mpr hi)
    simpa [Array.getElem?_eq_getElem hi] using q
  obtain ⟨i0, ei0⟩ := is_v hg_2a
  obtain rfl : w0 = (.int i0) := Option.some.inj ei0
  obtain ⟨i1, ei1⟩ := is_v hg_3a
  obtain rfl : w1 = (.int i1) := Option.some.inj ei1
  obtain ⟨i2, ei2⟩ := is_v hg_4a
  obtain rfl : w2 = (.int i2) := Option.some.inj ei2
  obtain ⟨i3, ei3⟩ := is_v hg_5a
  obtain rfl : w3 = (.int i3) := Option.some.inj ei3
  obtain ⟨i4, ei4⟩ := is_v hg_6a
  obtain rfl : w4 = (.int i4) := Option.some.inj ei4
  obtain ⟨i5, ei5⟩ := is_v hg_6b
  obtain rfl : w5 = (.int i5) := Option.some.inj ei5
  obtain ⟨n, o, h1, h2, h3, _, L, rfl, ⟨rfl, N⟩, hq⟩ := rm0 l s _ hw tables_1 i0 i1 i2 i3 i4 i5 s.heap s.heap.size (Nat.le_refl _)  p e ha hc hk s m _ below hf ((Spec.applies_iff_loose hf).mp happ).1 ⟨rfl, State.Warmed39.refl s, rfl⟩ trivial
  refine ⟨n, _, h1, h2, h3, hpost _ _ _ _ _ _ ⟨Cond.after_iff.mpr rfl, Cond.after_iff.mpr (eq_i res_at (Term.int_eval (1)) rfl), trivial⟩ ⟨hq.1, hq.2.1, (hq.2.2.sift fun y hy => Or.inr (N y hy)).mono (by decide) (by decide)⟩⟩
theorem main_1_1 : Claimed_1_1 := comes_1 fun _ _ _ _ _ _ h hF => ⟨h.1, Jvm.RoadKit.wide hF⟩
theorem main_1_2 : Claimed_1_2 := comes_1 fun _ _ _ _ _ _ h hF => ⟨h.2.1, Jvm.RoadKit.wide hF⟩
end Jvm.Pilot.@@N@@
namespace Jvm.Pilot.@@N@@
open Jvm Jvm.ClassFile Sem Op Lib Jvm.Free Jvm.Stand Jvm.Pilot.@@N@@.Jvm.D
/-! MADE BY PROGRAM (witnessworld.py) out of the Statement's table words and the real class files: 14 classes; the members and pool entries that the words name. The judged class is class 1, her method 1. -/
namespace start1
open Jvm.ClassFile
def u (s : String) : CpInfo := .utf8 (stringToUtf16 s)
/-- a pool by its gaps: so many unusable entries, then the entry; so many at the end -/
def gap : Nat → List CpInfo → List CpInfo
  | 0, r => r
  | n + 1, r => .unusable :: gap n r
def poolList (es : List (Nat × CpInfo)) (last : Nat) : List CpInfo := es.foldr (fun e r => gap e.1 (e.2 :: r)) (gap last [])
def pool (es : List (Nat × CpInfo)) (last : Nat) : Array CpInfo := ⟨poolList es last⟩
def fileOf (pool : Array CpInfo) (this : Nat) (attrs : Array Attribute := #[]) (ms : Array MethodInfo := #[]) (fl : Nat := 33) (sup : Nat := 0) (ifs : Array Nat := #[]) (fds : Array FieldInfo := #[]) : ClassFile where
  minorVersion := 0
  majorVersion := 65
  constantPool := pool
  accessFlags := fl
  thisClass := this
  superClass := sup
  interfaces := ifs
  fields := fds
  methods := ms
  attributes := attrs
def plain (name : String) (sup : Option ClassId) : Class where
  name := name
  kind := .ordinary
  loader := none
  accessFlags := 33
  super := sup
  interfaces := #[]
  cf := none
  fields := #[]
  methods := #[]
  instanceTypes := #[]
  staticTypes := #[]
  resolved := #[]
  callSites := []
  init := .initialized
  statics := none
  mirror := none

def pool0 : Array CpInfo := pool [(5, u "<init>"), (0, u "()V"), (1, .class_ 10), (1, u "java/lang/Object")] 113

def k0c0 : Code := { maxStack := 0, maxLocals := 1, code := object_method_1_code, exceptionTable := #[], attributes := #[] }
def k0m0 : Method := { name := "<init>", desc := "()V", sig := { parameters := [], returnType := none }, accessFlags := 1, code := some k0c0 }
/-- java/lang/Object -/
def k0 : Class := { plain "java/lang/Object" none with
  accessFlags := 33
  interfaces := #[]
  cf := some (fileOf pool0 8 #[] #[{ accessFlags := 1, nameIndex := 5, descriptorIndex := 6, attributes := #[] }] 33 0 #[] #[])
  fields := #[]
  methods := #[k0m0]
  instanceTypes := #[]
  staticTypes := #[]
  resolved := Array.replicate 124 none
  statics := none }

def pool1 : Array CpInfo := pool [(2, .class_ 4), (0, .nameAndType 5 6), (0, u "java/lang/Object"), (0, u "<init>"), (0, u "()V"), (0, .integer 2147483647), (0, .integer 1073741823), (0, .class_ 10), (0, u "stavelog/wire/History"), (0, .class_ 12), (0, u "stavelog/wire/Decompression"), (0, .methodref 11 3), (0, .methodref 9 15), (0, .nameAndType 5 16), (0, u "(Lstavelog/wire/Decompression;)V"), (0, .methodref 9 18), (0, .nameAndType 19 20), (0, u "start"), (0, u "(I)V"), (0, .methodref 9 22), (0, .nameAndType 23 24), (0, u "literals"), (0, u "(Ljava/nio/ByteBuffer;II)V"), (0, .methodref 9 26), (0, .nameAndType 27 28), (0, u "copy"), (0, u "(JI)V"), (0, .methodref 9 30), (0, .nameAndType 31 6), (0, u "forget"), (0, .methodref 9 33), (0, .nameAndType 34 35), (0, u "written"), (0, u "()J"), (0, .methodref 37 38), (0, .class_ 39), (0, .nameAndType 40 41), (0, u "java/lang/Math"), (0, u "min"), (0, u "(JJ)J"), (0, .class_ 43), (0, u "stavelog/wire/HistoryStartPinLaw"), (2, u "law"), (0, u "(IIIIII)Z")] 6

def k1m0 : Method := { name := "<init>", desc := "()V", sig := { parameters := [], returnType := none }, accessFlags := 1, code := none }
def k1c1 : Code := { maxStack := 6, maxLocals := 16, code := code, exceptionTable := #[], attributes := #[] }
def k1m1 : Method := { name := "law", desc := "(IIIIII)Z", sig := { parameters := [.int, .int, .int, .int, .int, .int], returnType := some .boolean }, accessFlags := 9, code := some k1c1 }
/-- stavelog/wire/HistoryStartPinLaw -/
def k1 : Class := { plain "stavelog/wire/HistoryStartPinLaw" (some 0) with
  accessFlags := 49
  interfaces := #[]
  cf := some (fileOf pool1 42 #[] #[{ accessFlags := 1, nameIndex := 5, descriptorIndex := 6, attributes := #[] }, { accessFlags := 9, nameIndex := 46, descriptorIndex := 47, attributes := #[] }] 49 2 #[] #[])
  fields := #[]
  methods := #[k1m0, k1m1]
  instanceTypes := #[]
  staticTypes := #[]
  resolved := Array.replicate 54 none
  statics := none }

def pool2 : Array CpInfo := pool [(1, .methodref 2 3), (0, .class_ 4), (0, .nameAndType 5 6), (0, u "java/lang/Object"), (0, u "<init>"), (0, u "()V"), (0, .fieldref 8 9), (0, .class_ 10), (0, .nameAndType 11 12), (0, u "stavelog/wire/History"), (0, u "decompression"), (0, u "Lstavelog/wire/Decompression;"), (0, .fieldref 8 14), (0, .nameAndType 15 16), (0, u "kept"), (0, u "I"), (0, .fieldref 8 18), (0, .nameAndType 19 20), (0, u "written"), (0, u "J"), (0, .fieldref 8 22), (0, .nameAndType 23 20), (0, u "reachable"), (0, .fieldref 8 25), (0, .nameAndType 26 16), (0, u "literalsLeft"), (0, .fieldref 8 28), (0, .nameAndType 29 16), (0, u "copyLeft"), (0, .fieldref 8 31), (0, .nameAndType 32 33), (0, u "sum"), (0, u "Ljava/util/zip/Checksum;"), (0, .methodref 8 35), (0, .nameAndType 19 36), (0, u "()J"), (13, u "handedOut"), (0, u "[B"), (2, u "unsummedAt"), (2, u "handedOutTo"), (18, .class_ 78), (1, u "stavelog/wire/History$Runs"), (2, .fieldref 8 82), (0, .nameAndType 83 84), (0, u "literals"), (0, u "Ljava/nio/ByteBuffer;"), (0, .fieldref 8 86), (0, .nameAndType 87 16), (0, u "literalAt"), (0, .methodref 89 90), (0, .class_ 91), (0, .nameAndType 92 93), (0, u "java/lang/Math"), (0, u "min"), (0, u "(JJ)J"), (3, .fieldref 8 98), (0, .nameAndType 99 16), (0, u "distance"), (9, u "ring"), (32, u "FIRST_RING_BYTES"), (1, u "(Lstavelog/wire/Decompression;)V"), (2, u "start"), (0, u "(I)V"), (0, u "forget"), (8, u "(Ljava/nio/ByteBuffer;II)V"), (0, u "copy"), (0, u "(JI)V")] 21

def k2c0 : Code := { maxStack := 2, maxLocals := 2, code := prog_235_method_1_code, exceptionTable := #[], attributes := #[] }
def k2m0 : Method := { name := "<init>", desc := "(Lstavelog/wire/Decompression;)V", sig := { parameters := [(.object "stavelog/wire/Decompression")], returnType := none }, accessFlags := 0, code := some k2c0 }
def k2c1 : Code := { maxStack := 3, maxLocals := 2, code := prog_235_method_2_code, exceptionTable := #[], attributes := #[] }
def k2m1 : Method := { name := "start", desc := "(I)V", sig := { parameters := [.int], returnType := none }, accessFlags := 0, code := some k2c1 }
def k2c2 : Code := { maxStack := 3, maxLocals := 1, code := prog_235_method_3_code, exceptionTable := #[], attributes := #[] }
def k2m2 : Method := { name := "forget", desc := "()V", sig := { parameters := [], returnType := none }, accessFlags := 0, code := some k2c2 }
def k2c3 : Code := { maxStack := 4, maxLocals := 1, code := prog_235_method_7_code, exceptionTable := #[], attributes := #[] }
def k2m3 : Method := { name := "written", desc := "()J", sig := { parameters := [], returnType := some .long }, accessFlags := 0, code := some k2c3 }
def k2c4 : Code := { maxStack := 2, maxLocals := 4, code := prog_235_method_10_code, exceptionTable := #[], attributes := #[] }
def k2m4 : Method := { name := "literals", desc := "(Ljava/nio/ByteBuffer;II)V", sig := { parameters := [(.object "java/nio/ByteBuffer"), .int, .int], returnType := none }, accessFlags := 0, code := some k2c4 }
def k2c5 : Code := { maxStack := 6, maxLocals := 6, code := prog_235_method_11_code, exceptionTable := #[], attributes := #[] }
def k2m5 : Method := { name := "copy", desc := "(JI)V", sig := { parameters := [.long, .int], returnType := none }, accessFlags := 0, code := some k2c5 }
/-- stavelog/wire/History -/
def k2 : Class := { plain "stavelog/wire/History" (some 0) with
  accessFlags := 48
  interfaces := #[]
  cf := some (fileOf pool2 8 #[.nestMembers #[76]] #[{ accessFlags := 0, nameIndex := 5, descriptorIndex := 144, attributes := #[] }, { accessFlags := 0, nameIndex := 147, descriptorIndex := 148, attributes := #[] }, { accessFlags := 0, nameIndex := 149, descriptorIndex := 6, attributes := #[] }, { accessFlags := 0, nameIndex := 19, descriptorIndex := 36, attributes := #[] }, { accessFlags := 0, nameIndex := 83, descriptorIndex := 158, attributes := #[] }, { accessFlags := 0, nameIndex := 159, descriptorIndex := 160, attributes := #[] }] 48 2 #[] #[{ accessFlags := 26, nameIndex := 142, descriptorIndex := 16, attributes := #[] }, { accessFlags := 18, nameIndex := 11, descriptorIndex := 12, attributes := #[] }, { accessFlags := 2, nameIndex := 109, descriptorIndex := 51, attributes := #[] }, { accessFlags := 2, nameIndex := 15, descriptorIndex := 16, attributes := #[] }, { accessFlags := 2, nameIndex := 19, descriptorIndex := 20, attributes := #[] }, { accessFlags := 2, nameIndex := 23, descriptorIndex := 20, attributes := #[] }, { accessFlags := 2, nameIndex := 32, descriptorIndex := 33, attributes := #[] }, { accessFlags := 2, nameIndex := 50, descriptorIndex := 51, attributes := #[] }, { accessFlags := 2, nameIndex := 54, descriptorIndex := 16, attributes := #[] }, { accessFlags := 2, nameIndex := 57, descriptorIndex := 16, attributes := #[] }, { accessFlags := 2, nameIndex := 83, descriptorIndex := 84, attributes := #[] }, { accessFlags := 2, nameIndex := 87, descriptorIndex := 16, attributes := #[] }, { accessFlags := 2, nameIndex := 26, descriptorIndex := 16, attributes := #[] }, { accessFlags := 2, nameIndex := 99, descriptorIndex := 16, attributes := #[] }, { accessFlags := 2, nameIndex := 29, descriptorIndex := 16, attributes := #[] }])
  fields := #[{ name := "FIRST_RING_BYTES", type := .int, accessFlags := 26, slot := 0, constantValue := 0 }, { name := "decompression", type := (.object "stavelog/wire/Decompression"), accessFlags := 18, slot := 0, constantValue := 0 }, { name := "ring", type := (.array .byte), accessFlags := 2, slot := 1, constantValue := 0 }, { name := "kept", type := .int, accessFlags := 2, slot := 2, constantValue := 0 }, { name := "written", type := .long, accessFlags := 2, slot := 3, constantValue := 0 }, { name := "reachable", type := .long, accessFlags := 2, slot := 4, constantValue := 0 }, { name := "sum", type := (.object "java/util/zip/Checksum"), accessFlags := 2, slot := 5, constantValue := 0 }, { name := "handedOut", type := (.array .byte), accessFlags := 2, slot := 6, constantValue := 0 }, { name := "unsummedAt", type := .int, accessFlags := 2, slot := 7, constantValue := 0 }, { name := "handedOutTo", type := .int, accessFlags := 2, slot := 8, constantValue := 0 }, { name := "literals", type := (.object "java/nio/ByteBuffer"), accessFlags := 2, slot := 9, constantValue := 0 }, { name := "literalAt", type := .int, accessFlags := 2, slot := 10, constantValue := 0 }, { name := "literalsLeft", type := .int, accessFlags := 2, slot := 11, constantValue := 0 }, { name := "distance", type := .int, accessFlags := 2, slot := 12, constantValue := 0 }, { name := "copyLeft", type := .int, accessFlags := 2, slot := 13, constantValue := 0 }]
  methods := #[k2m0, k2m1, k2m2, k2m3, k2m4, k2m5]
  instanceTypes := #[(.object "stavelog/wire/Decompression"), (.array .byte), .int, .long, .long, (.object "java/util/zip/Checksum"), (.array .byte), .int, .int, (.object "java/nio/ByteBuffer"), .int, .int, .int, .int]
  staticTypes := #[.int]
  resolved := Array.replicate 182 none
  statics := none }

def pool3 : Array CpInfo := pool [(1, .class_ 2), (0, u "java/lang/AutoCloseable"), (0, .class_ 4), (0, u "java/lang/Object")] 7

/-- java/lang/AutoCloseable -/
def k3 : Class := { plain "java/lang/AutoCloseable" (some 0) with
  accessFlags := 1537
  interfaces := #[]
  cf := some (fileOf pool3 1 #[] #[] 1537 3 #[] #[])
  fields := #[]
  methods := #[]
  instanceTypes := #[]
  staticTypes := #[]
  resolved := Array.replicate 12 none
  statics := none }

def pool4 : Array CpInfo := pool [(1, .invokeDynamic 0 2), (0, .nameAndType 3 4), (0, u "take"), (0, u "()Lstavelog/wire/Decompression$Memory;"), (0, .methodref 6 7), (0, .class_ 8), (0, .nameAndType 9 10), (0, u "stavelog/wire/Decompression"), (0, u "<init>"), (0, u "(Lstavelog/wire/Decompression$Memory;)V"), (0, .methodref 12 13), (0, .class_ 14), (0, .nameAndType 9 15), (0, u "java/lang/Object"), (0, u "()V"), (0, .fieldref 6 17), (0, .nameAndType 18 19), (0, u "memory"), (0, u "Lstavelog/wire/Decompression$Memory;"), (2, u "parts"), (0, u "Ljava/nio/ByteBuffer;"), (18, u "history"), (0, u "Lstavelog/wire/History;"), (7, u "inflater"), (0, u "Ljava/util/zip/Inflater;"), (7, u "zstd"), (0, u "Lstavelog/wire/Zstd$Tables;"), (14, .class_ 78), (1, u "stavelog/wire/Decompression$Memory"), (0, u "(J)Z"), (0, .class_ 81), (0, u "stavelog/wire/Decompression$NoRoomException"), (2, .class_ 85), (0, u "java/lang/AutoCloseable"), (0, u "PART_BYTES"), (0, u "I"), (11, u "lambda$new$0"), (4, .methodType 79), (0, .methodHandle 6 106), (0, .methodref 6 107), (0, .nameAndType 99 79), (0, .methodHandle 6 109), (0, .methodref 110 111), (0, .class_ 112), (0, .nameAndType 113 114), (0, u "java/lang/invoke/LambdaMetafactory"), (0, u "metafactory"), (0, u "(Ljava/lang/invoke/MethodHandles$Lookup;Ljava/lang/String;Ljava/lang/invoke/MethodType;Ljava/lang/invoke/MethodType;Ljava/lang/invoke/MethodHandle;Ljava/lang/invoke/MethodType;)Ljava/lang/invoke/CallSite;")] 9

def k4c0 : Code := { maxStack := 2, maxLocals := 1, code := prog_192_method_1_code, exceptionTable := #[], attributes := #[] }
def k4m0 : Method := { name := "<init>", desc := "()V", sig := { parameters := [], returnType := none }, accessFlags := 1, code := some k4c0 }
def k4c1 : Code := { maxStack := 2, maxLocals := 2, code := prog_192_method_2_code, exceptionTable := #[], attributes := #[] }
def k4m1 : Method := { name := "<init>", desc := "(Lstavelog/wire/Decompression$Memory;)V", sig := { parameters := [(.object "stavelog/wire/Decompression$Memory")], returnType := none }, accessFlags := 1, code := some k4c1 }
def k4c2 : Code := { maxStack := 1, maxLocals := 2, code := ⟨#[0x04, 0xac]⟩, exceptionTable := #[], attributes := #[] }
def k4m2 : Method := { name := "lambda$new$0", desc := "(J)Z", sig := { parameters := [.long], returnType := some .boolean }, accessFlags := 4106, code := some k4c2 }
/-- stavelog/wire/Decompression -/
def k4 : Class := { plain "stavelog/wire/Decompression" (some 0) with
  accessFlags := 49
  interfaces := #[3]
  cf := some (fileOf pool4 6 #[.nestMembers #[80, 76], .bootstrapMethods #[⟨108, #[104, 105, 104]⟩]] #[{ accessFlags := 1, nameIndex := 9, descriptorIndex := 15, attributes := #[] }, { accessFlags := 1, nameIndex := 9, descriptorIndex := 10, attributes := #[] }, { accessFlags := 4106, nameIndex := 99, descriptorIndex := 79, attributes := #[] }] 49 12 #[84] #[{ accessFlags := 26, nameIndex := 86, descriptorIndex := 87, attributes := #[] }, { accessFlags := 18, nameIndex := 18, descriptorIndex := 19, attributes := #[] }, { accessFlags := 2, nameIndex := 22, descriptorIndex := 23, attributes := #[] }, { accessFlags := 2, nameIndex := 42, descriptorIndex := 43, attributes := #[] }, { accessFlags := 2, nameIndex := 60, descriptorIndex := 61, attributes := #[] }, { accessFlags := 2, nameIndex := 51, descriptorIndex := 52, attributes := #[] }])
  fields := #[{ name := "PART_BYTES", type := .int, accessFlags := 26, slot := 0, constantValue := 0 }, { name := "memory", type := (.object "stavelog/wire/Decompression$Memory"), accessFlags := 18, slot := 0, constantValue := 0 }, { name := "parts", type := (.object "java/nio/ByteBuffer"), accessFlags := 2, slot := 1, constantValue := 0 }, { name := "history", type := (.object "stavelog/wire/History"), accessFlags := 2, slot := 2, constantValue := 0 }, { name := "zstd", type := (.object "stavelog/wire/Zstd$Tables"), accessFlags := 2, slot := 3, constantValue := 0 }, { name := "inflater", type := (.object "java/util/zip/Inflater"), accessFlags := 2, slot := 4, constantValue := 0 }]
  methods := #[k4m0, k4m1, k4m2]
  instanceTypes := #[(.object "stavelog/wire/Decompression$Memory"), (.object "java/nio/ByteBuffer"), (.object "stavelog/wire/History"), (.object "stavelog/wire/Zstd$Tables"), (.object "java/util/zip/Inflater")]
  staticTypes := #[.int]
  resolved := Array.replicate 124 none
  callSites := [(0, 1, .constant 0)]
  statics := none }

def pool5 : Array CpInfo := pool [(1, .class_ 2), (0, u "stavelog/wire/Decompression$Memory"), (0, .class_ 4), (0, u "java/lang/Object"), (0, u "take"), (0, u "(J)Z"), (5, .class_ 13), (0, u "stavelog/wire/Decompression")] 2

def k5m0 : Method := { name := "take", desc := "(J)Z", sig := { parameters := [.long], returnType := some .boolean }, accessFlags := 1025, code := none }
/-- stavelog/wire/Decompression$Memory -/
def k5 : Class := { plain "stavelog/wire/Decompression$Memory" (some 0) with
  accessFlags := 1537
  interfaces := #[]
  cf := some (fileOf pool5 1 #[.nestHost 12] #[{ accessFlags := 1025, nameIndex := 5, descriptorIndex := 6, attributes := #[] }] 1537 3 #[] #[])
  fields := #[]
  methods := #[k5m0]
  instanceTypes := #[]
  staticTypes := #[]
  resolved := Array.replicate 16 none
  statics := none }

def pool6 : Array CpInfo := pool [(1, .class_ 2), (0, u "java/lang/Math"), (1, .class_ 6), (1, u "java/lang/Object"), (0, u "<init>"), (0, u "()V"), (89, .class_ 100), (1, u "java/lang/Math$RandomNumberGeneratorHolder"), (20, u "(JJ)J"), (50, u "negativeZeroFloatBits"), (0, u "J"), (2, u "negativeZeroDoubleBits"), (24, u "min"), (43, u "$assertionsDisabled"), (0, u "Z"), (91, u "twoToTheDoubleScaleDown"), (0, u "D"), (4, u "twoToTheDoubleScaleUp"), (9, u "E"), (3, u "PI"), (2, u "TAU"), (2, u "DEGREES_TO_RADIANS"), (0, u "RADIANS_TO_DEGREES")] 94

def k6m0 : Method := { name := "<init>", desc := "()V", sig := { parameters := [], returnType := none }, accessFlags := 2, code := none }
def k6c1 : Code := { maxStack := 4, maxLocals := 4, code := jdk_29_method_70_code, exceptionTable := #[], attributes := #[] }
def k6m1 : Method := { name := "min", desc := "(JJ)J", sig := { parameters := [.long, .long], returnType := some .long }, accessFlags := 9, code := some k6c1 }
/-- java/lang/Math -/
def k6 : Class := { plain "java/lang/Math" (some 0) with
  accessFlags := 49
  interfaces := #[]
  cf := some (fileOf pool6 1 #[.nestMembers #[98]] #[{ accessFlags := 2, nameIndex := 7, descriptorIndex := 8, attributes := #[] }, { accessFlags := 9, nameIndex := 201, descriptorIndex := 121, attributes := #[] }] 49 4 #[] #[{ accessFlags := 25, nameIndex := 354, descriptorIndex := 339, attributes := #[] }, { accessFlags := 25, nameIndex := 358, descriptorIndex := 339, attributes := #[] }, { accessFlags := 25, nameIndex := 361, descriptorIndex := 339, attributes := #[] }, { accessFlags := 26, nameIndex := 364, descriptorIndex := 339, attributes := #[] }, { accessFlags := 26, nameIndex := 365, descriptorIndex := 339, attributes := #[] }, { accessFlags := 26, nameIndex := 172, descriptorIndex := 173, attributes := #[] }, { accessFlags := 26, nameIndex := 176, descriptorIndex := 173, attributes := #[] }, { accessFlags := 8, nameIndex := 344, descriptorIndex := 339, attributes := #[] }, { accessFlags := 8, nameIndex := 338, descriptorIndex := 339, attributes := #[] }, { accessFlags := 4120, nameIndex := 245, descriptorIndex := 246, attributes := #[] }])
  fields := #[{ name := "E", type := .double, accessFlags := 25, slot := 0, constantValue := 0 }, { name := "PI", type := .double, accessFlags := 25, slot := 1, constantValue := 0 }, { name := "TAU", type := .double, accessFlags := 25, slot := 2, constantValue := 0 }, { name := "DEGREES_TO_RADIANS", type := .double, accessFlags := 26, slot := 3, constantValue := 0 }, { name := "RADIANS_TO_DEGREES", type := .double, accessFlags := 26, slot := 4, constantValue := 0 }, { name := "negativeZeroFloatBits", type := .long, accessFlags := 26, slot := 5, constantValue := 0 }, { name := "negativeZeroDoubleBits", type := .long, accessFlags := 26, slot := 6, constantValue := 0 }, { name := "twoToTheDoubleScaleUp", type := .double, accessFlags := 8, slot := 7, constantValue := 0 }, { name := "twoToTheDoubleScaleDown", type := .double, accessFlags := 8, slot := 8, constantValue := 0 }, { name := "$assertionsDisabled", type := .boolean, accessFlags := 4120, slot := 9, constantValue := 0 }]
  methods := #[k6m0, k6m1]
  instanceTypes := #[]
  staticTypes := #[.double, .double, .double, .double, .double, .long, .long, .double, .double, .boolean]
  resolved := Array.replicate 460 none
  statics := none }

def pool7 : Array CpInfo := pool [(1, u "java/lang/Cloneable"), (0, .class_ 1), (0, u "java/lang/Object"), (0, .class_ 3)] 3

/-- java/lang/Cloneable -/
def k7 : Class := { plain "java/lang/Cloneable" (some 0) with
  accessFlags := 1537
  interfaces := #[]
  cf := some (fileOf pool7 2 #[] #[] 1537 4 #[] #[])
  fields := #[]
  methods := #[]
  instanceTypes := #[]
  staticTypes := #[]
  resolved := Array.replicate 8 none
  statics := none }

def pool8 : Array CpInfo := pool [(1, u "java/io/Serializable"), (0, .class_ 1), (0, u "java/lang/Object"), (0, .class_ 3)] 3

/-- java/io/Serializable -/
def k8 : Class := { plain "java/io/Serializable" (some 0) with
  accessFlags := 1537
  interfaces := #[]
  cf := some (fileOf pool8 2 #[] #[] 1537 4 #[] #[])
  fields := #[]
  methods := #[]
  instanceTypes := #[]
  staticTypes := #[]
  resolved := Array.replicate 8 none
  statics := none }

/-- the primitive byte -/
def k9 : Class := { plain "byte" none with kind := .primitive 'B', accessFlags := 0x411 }
/-- [B -/
def k10 : Class := { plain "[B" (some 0) with kind := .array 9 .byte, interfaces := #[7, 8], accessFlags := 1041 }

/-- the primitive int -/
def k11 : Class := { plain "int" none with kind := .primitive 'I', accessFlags := 0x411 }
/-- [I -/
def k12 : Class := { plain "[I" (some 0) with kind := .array 11 .int, interfaces := #[7, 8], accessFlags := 1041 }

def classes0 : Array Class := #[k0, k1, k2, k3, k4, k5, k6, k7, k8, k9, k10, k11, k12]
/-- the class that the rule has made for the site at 1 of stavelog/wire/Decompression.<init> -/
def k13 : Class := Jvm.LamKit.madeRec { classes := classes0 } "stavelog/wire/Decompression" (Jvm.Lambda.Shape.mk "stavelog/wire/Decompression$Memory" "take" (Jvm.ClassFile.MethodDescriptor.mk ([Jvm.ClassFile.FieldType.long] : List Jvm.ClassFile.FieldType) (Option.some Jvm.ClassFile.FieldType.boolean)) ([] : List Jvm.ClassFile.FieldType) (6 : Nat) "stavelog/wire/Decompression" "lambda$new$0" (Jvm.ClassFile.MethodDescriptor.mk ([Jvm.ClassFile.FieldType.long] : List Jvm.ClassFile.FieldType) (Option.some Jvm.ClassFile.FieldType.boolean)) false (Jvm.ClassFile.MethodDescriptor.mk ([Jvm.ClassFile.FieldType.long] : List Jvm.ClassFile.FieldType) (Option.some Jvm.ClassFile.FieldType.boolean))) 13

def heap : Heap := #[{ cls := 13, slots := #[], vm := .none }]
def classes : Array Class := #[k0, k1, k2, k3, k4, k5, k6, k7, k8, k9, k10, k11, k12, k13]
def interned : List (Array UInt16 × Addr) := []
def slotsUsed : Nat := 0
def theMethod : MethodId := ⟨1, 1⟩
def args0 : Array Value := #[.int 3, .int 2, .int 1, .int 5, .int 7, .int 4]
def aboutOver (below : List Frame) : State where
  vm := { classes := classes, interned := interned.toArray }
  heap := heap
  slotsUsed := slotsUsed
  threads := #[{ frames := .invoking theMethod args0 :: below }]
def below0 : List Frame := [.native { method := ⟨0, 0⟩, args := #[] }]
def about1 : State := aboutOver below0
def p0 : Program := .bare "" "" ""
def e0 : Env := launch0.env 0 0 0
theorem w_frames : about1.frames = Frame.invoking theMethod args0 :: below0 := rfl
set_option maxRecDepth 65536 in
theorem w_args : argsFit about1.vm theMethod args0 = true := by decide +kernel
set_option maxRecDepth 65536 in
theorem w_heap : heapFits about1 = true := by decide +kernel
set_option maxRecDepth 65536 in
theorem w_runnable : about1.curStatus? = some .runnable := by decide +kernel
set_option maxRecDepth 65536 in
theorem w_alone : about1.alone = true := by decide +kernel
set_option maxRecDepth 65536 in
theorem w_named : about1.methodNamed? x = some theMethod := by decide +kernel
set_option maxRecDepth 65536 in
theorem w_hears : about1.hears theMethod below0 = true := by decide +kernel
set_option maxRecDepth 65536 in
theorem w_ripe : about1.ripe theMethod args0 below0 = true := by decide +kernel
theorem w_running : about1.status = .running := rfl
set_option maxRecDepth 65536 in
theorem w_room : about1.hasRoom e0.platform room_1 = true :=
  launch0.hasRoom_least _ room_1 (by decide +kernel) (by decide +kernel) (by decide +kernel) (by decide +kernel) (by decide +kernel) (by decide +kernel)
theorem allAtoms_all (ts : List Jvm.Cond) (a : Array Jvm.Value) (st : Jvm.State) : (allAtoms ts).before a st = ts.all (fun c => c.before a st) := by
  induction ts with
  | nil => rfl
  | cons c t ih =>
    show (Jvm.Cond.and c (allAtoms t)).before a st = _
    rw [Jvm.Cond.before_and, ih, List.all_cons]
def words1 : List Jvm.Cond := Jvm.Cond.code x code maxLocals ret :: tables_1
/-- a 'code' word, met by the world's own term for the bytes: nothing is compared byte by byte -/
theorem code_word {y : MethodName} {bytes : ByteArray} {mx : Nat} {rt : Option FieldType} {a : Array Value} {s : State} {m : MethodId} {meth : Method} {c : Code} (h1 : s.methodNamed? y = some m) (h2 : s.vm.method? m = some meth) (h3 : meth.code = some c) (h4 : c.code = bytes)
    (h5 : (c.maxLocals == mx && c.exceptionTable.isEmpty && decide (c.maxStack ≤ mostOperands) && decide (meth.sig.returnType = rt) && !meth.locks && decide (parseMethodDescriptor y.desc = some meth.sig)) = true) : (Jvm.Cond.code y bytes mx rt).before a s = true := by
  simp only [Bool.and_eq_true, beq_iff_eq, Bool.not_eq_true', decide_eq_true_eq] at h5
  obtain ⟨⟨⟨⟨⟨g1, g2⟩, g3⟩, g4⟩, g5⟩, g6⟩ := h5
  simp [Cond.before, Cond.holds, Cond.value, h1, h2, h3, h4, g1, g2, g3, g4, g5, g6]
def isCode : Jvm.Cond → Bool
  | .code _ _ _ _ => true
  | _ => false
theorem all_split {L : List Jvm.Cond} {P : Jvm.Cond → Bool} (h1 : L.all (fun c => isCode c || P c) = true) (h2 : ∀ c ∈ L.filter isCode, P c = true) : L.all P = true := by
  refine List.all_eq_true.mpr fun c hc => ?_
  have h := List.all_eq_true.mp h1 c hc
  rcases Bool.eq_false_or_eq_true (isCode c) with hi | hi
  · exact h2 c (List.mem_filter.mpr ⟨hc, hi⟩)
  · simpa [hi] using h
set_option maxRecDepth 65536 in
theorem w_c0 : (Jvm.Cond.code x code maxLocals ret).before args0 about1 = true := code_word (m := ⟨1, 1⟩) (meth := k1m1) (c := k1c1) (by decide +kernel) rfl rfl rfl (by decide +kernel)
set_option maxRecDepth 65536 in
theorem w_c1 : (Jvm.Cond.code ({ cls := "stavelog/wire/Decompression", name := "<init>", desc := "()V" } : Jvm.MethodName) prog_192_method_1_code (1 : Nat) (Option.none : Option Jvm.ClassFile.FieldType)).before args0 about1 = true := code_word (m := ⟨4, 0⟩) (meth := k4m0) (c := k4c0) (by decide +kernel) rfl rfl rfl (by decide +kernel)
set_option maxRecDepth 65536 in
theorem w_c2 : (Jvm.Cond.code ({ cls := "stavelog/wire/Decompression", name := "<init>", desc := "(Lstavelog/wire/Decompression$Memory;)V" } : Jvm.MethodName) prog_192_method_2_code (2 : Nat) (Option.none : Option Jvm.ClassFile.FieldType)).before args0 about1 = true := code_word (m := ⟨4, 1⟩) (meth := k4m1) (c := k4c1) (by decide +kernel) rfl rfl rfl (by decide +kernel)
set_option maxRecDepth 65536 in
theorem w_c3 : (Jvm.Cond.code ({ cls := "java/lang/Object", name := "<init>", desc := "()V" } : Jvm.MethodName) object_method_1_code (1 : Nat) (Option.none : Option Jvm.ClassFile.FieldType)).before args0 about1 = true := code_word (m := ⟨0, 0⟩) (meth := k0m0) (c := k0c0) (by decide +kernel) rfl rfl rfl (by decide +kernel)
set_option maxRecDepth 65536 in
theorem w_c4 : (Jvm.Cond.code ({ cls := "stavelog/wire/History", name := "<init>", desc := "(Lstavelog/wire/Decompression;)V" } : Jvm.MethodName) prog_235_method_1_code (2 : Nat) (Option.none : Option Jvm.ClassFile.FieldType)).before args0 about1 = true := code_word (m := ⟨2, 0⟩) (meth := k2m0) (c := k2c0) (by decide +kernel) rfl rfl rfl (by decide +kernel)
set_option maxRecDepth 65536 in
theorem w_c5 : (Jvm.Cond.code ({ cls := "stavelog/wire/History", name := "start", desc := "(I)V" } : Jvm.MethodName) prog_235_method_2_code (2 : Nat) (Option.none : Option Jvm.ClassFile.FieldType)).before args0 about1 = true := code_word (m := ⟨2, 1⟩) (meth := k2m1) (c := k2c1) (by decide +kernel) rfl rfl rfl (by decide +kernel)
set_option maxRecDepth 65536 in
theorem w_c6 : (Jvm.Cond.code ({ cls := "stavelog/wire/History", name := "literals", desc := "(Ljava/nio/ByteBuffer;II)V" } : Jvm.MethodName) prog_235_method_10_code (4 : Nat) (Option.none : Option Jvm.ClassFile.FieldType)).before args0 about1 = true := code_word (m := ⟨2, 4⟩) (meth := k2m4) (c := k2c4) (by decide +kernel) rfl rfl rfl (by decide +kernel)
set_option maxRecDepth 65536 in
theorem w_c7 : (Jvm.Cond.code ({ cls := "stavelog/wire/History", name := "copy", desc := "(JI)V" } : Jvm.MethodName) prog_235_method_11_code (6 : Nat) (Option.none : Option Jvm.ClassFile.FieldType)).before args0 about1 = true := code_word (m := ⟨2, 5⟩) (meth := k2m5) (c := k2c5) (by decide +kernel) rfl rfl rfl (by decide +kernel)
set_option maxRecDepth 65536 in
theorem w_c8 : (Jvm.Cond.code ({ cls := "java/lang/Math", name := "min", desc := "(JJ)J" } : Jvm.MethodName) jdk_29_method_70_code (4 : Nat) (Option.some Jvm.ClassFile.FieldType.long)).before args0 about1 = true := code_word (m := ⟨6, 1⟩) (meth := k6m1) (c := k6c1) (by decide +kernel) rfl rfl rfl (by decide +kernel)
set_option maxRecDepth 65536 in
theorem w_c9 : (Jvm.Cond.code ({ cls := "stavelog/wire/History", name := "forget", desc := "()V" } : Jvm.MethodName) prog_235_method_3_code (1 : Nat) (Option.none : Option Jvm.ClassFile.FieldType)).before args0 about1 = true := code_word (m := ⟨2, 2⟩) (meth := k2m2) (c := k2c2) (by decide +kernel) rfl rfl rfl (by decide +kernel)
set_option maxRecDepth 65536 in
theorem w_c10 : (Jvm.Cond.code ({ cls := "stavelog/wire/History", name := "written", desc := "()J" } : Jvm.MethodName) prog_235_method_7_code (1 : Nat) (Option.some Jvm.ClassFile.FieldType.long)).before args0 about1 = true := code_word (m := ⟨2, 3⟩) (meth := k2m3) (c := k2c3) (by decide +kernel) rfl rfl rfl (by decide +kernel)
def codes1 : List Jvm.Cond := [Jvm.Cond.code x code maxLocals ret, Jvm.Cond.code ({ cls := "stavelog/wire/Decompression", name := "<init>", desc := "()V" } : Jvm.MethodName) prog_192_method_1_code (1 : Nat) (Option.none : Option Jvm.ClassFile.FieldType), Jvm.Cond.code ({ cls := "stavelog/wire/Decompression", name := "<init>", desc := "(Lstavelog/wire/Decompression$Memory;)V" } : Jvm.MethodName) prog_192_method_2_code (2 : Nat) (Option.none : Option Jvm.ClassFile.FieldType), Jvm.Cond.code ({ cls := "java/lang/Object", name := "<init>", desc := "()V" } : Jvm.MethodName) object_method_1_code (1 : Nat) (Option.none : Option Jvm.ClassFile.FieldType), Jvm.Cond.code ({ cls := "stavelog/wire/History", name := "<init>", desc := "(Lstavelog/wire/Decompression;)V" } : Jvm.MethodName) prog_235_method_1_code (2 : Nat) (Option.none : Option Jvm.ClassFile.FieldType), Jvm.Cond.code ({ cls := "stavelog/wire/History", name := "start", desc := "(I)V" } : Jvm.MethodName) prog_235_method_2_code (2 : Nat) (Option.none : Option Jvm.ClassFile.FieldType), Jvm.Cond.code ({ cls := "stavelog/wire/History", name := "literals", desc := "(Ljava/nio/ByteBuffer;II)V" } : Jvm.MethodName) prog_235_method_10_code (4 : Nat) (Option.none : Option Jvm.ClassFile.FieldType), Jvm.Cond.code ({ cls := "stavelog/wire/History", name := "copy", desc := "(JI)V" } : Jvm.MethodName) prog_235_method_11_code (6 : Nat) (Option.none : Option Jvm.ClassFile.FieldType), Jvm.Cond.code ({ cls := "java/lang/Math", name := "min", desc := "(JJ)J" } : Jvm.MethodName) jdk_29_method_70_code (4 : Nat) (Option.some Jvm.ClassFile.FieldType.long), Jvm.Cond.code ({ cls := "stavelog/wire/History", name := "forget", desc := "()V" } : Jvm.MethodName) prog_235_method_3_code (1 : Nat) (Option.none : Option Jvm.ClassFile.FieldType), Jvm.Cond.code ({ cls := "stavelog/wire/History", name := "written", desc := "()J" } : Jvm.MethodName) prog_235_method_7_code (1 : Nat) (Option.some Jvm.ClassFile.FieldType.long)]
set_option maxRecDepth 65536 in
theorem codes_eq : words1.filter isCode = codes1 := rfl
theorem w_codes : ∀ c ∈ words1.filter isCode, c.before args0 about1 = true := by
  rw [codes_eq]
  intro c hc
  simp only [codes1, List.mem_cons, List.not_mem_nil, or_false] at hc
  rcases hc with rfl | rfl | rfl | rfl | rfl | rfl | rfl | rfl | rfl | rfl | rfl
  · exact w_c0
  · exact w_c1
  · exact w_c2
  · exact w_c3
  · exact w_c4
  · exact w_c5
  · exact w_c6
  · exact w_c7
  · exact w_c8
  · exact w_c9
  · exact w_c10
set_option maxRecDepth 65536 in
theorem w_t1 : (words1.take 24).all (fun c => isCode c || c.before args0 about1) = true := by decide +kernel
set_option maxRecDepth 65536 in
theorem w_t2 : ((words1.drop 24).take 24).all (fun c => isCode c || c.before args0 about1) = true := by decide +kernel
set_option maxRecDepth 65536 in
theorem w_t3 : (((words1.drop 24).drop 24).take 24).all (fun c => isCode c || c.before args0 about1) = true := by decide +kernel
set_option maxRecDepth 65536 in
theorem w_t4 : (((words1.drop 24).drop 24).drop 24).all (fun c => isCode c || c.before args0 about1) = true := by decide +kernel
theorem w_tables : (allAtoms (Jvm.Cond.code x code maxLocals ret :: tables_1)).before args0 about1 = true := by
  rw [allAtoms_all]
  show words1.all (fun c => c.before args0 about1) = true
  refine all_split ?_ w_codes
  rw [← List.take_append_drop 24 words1, List.all_append, w_t1, ← List.take_append_drop 24 (words1.drop 24), List.all_append, w_t2, ← List.take_append_drop 24 ((words1.drop 24).drop 24), List.all_append, w_t3, w_t4]
  rfl
set_option maxRecDepth 65536 in
theorem w_case : (Jvm.Cond.and given_1 narrow_1).before args0 about1 = true := by decide +kernel
theorem w_applies : (headSpec (Jvm.Cond.code x code maxLocals ret :: tables_1) room_1).applies x e0.platform about1 = true :=
  (Spec.applies_iff w_frames).mpr ⟨w_running, w_runnable, w_alone, w_named, w_hears, w_ripe, w_room, w_tables⟩
theorem atStart : AtStart classFile x code maxLocals ret World_1 tables_1 room_1 Calls_1 rest_1 Pre_1 launch0 p0 e0 about1 theMethod args0 below0 :=
  ⟨lists_1, trivial, launch0.admits_env _ _ _, launch0.least_env, fairChoices_fair.cas, fairChoices_fair.clock, w_frames, w_args, w_heap, w_applies, trivial, trivial, w_case⟩
end start1
theorem witness_1 : WitnessClaimed_1 := ⟨start1.p0, start1.e0, start1.about1, start1.theMethod, start1.args0, start1.below0, start1.atStart⟩
end Jvm.Pilot.@@N@@
