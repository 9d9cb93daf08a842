import JvmDerived
import JvmDerived.Pilot.@@N@@Statement
import JvmDerived.Pilot.@@N@@Code
set_option linter.unusedVariables false
set_option linter.unusedSimpArgs false
@@BLOCK:NumsL.lean.txt@@
namespace Jvm.Pilot.@@N@@
open Jvm Jvm.ClassFile Sem Op Lib Jvm.Free Jvm.Stand Jvm.LawKit Jvm.RoadKit Bundle Jvm.Pilot.@@N@@.Jvm.D
open Jvm.Free.Fl (NoNaN64 Fin64 Nz64)
abbrev uu : Slot := .unset
abbrev ss : Slot := .second
abbrev vi (x : Int32) : Slot := .val (.int x)
abbrev vj (x : Int64) : Slot := .val (.long x)
abbrev vd (x : UInt64) : Slot := .val (.double x)
abbrev vr (x : Addr) : Slot := .val (.ref x)
/-- whatever is reached from here is reached from E -/
abbrev own_G (p : Program) (e : Env) (below : List Frame) (E T : State) (g : JFrame) : Prop := ∀ t, Steps p.tables e below (T.setTop g) t → Steps p.tables e below E t
theorem own_if_eqY {x : Int32} (h : x = 0) : ifCond.holds .eq x = true := by subst h; rfl
theorem own_if_eqN {x : Int32} (h : ¬ x = 0) : ifCond.holds .eq x = false := beq_false_of_ne h
theorem own_if_neY {x : Int32} (h : ¬ x = 0) : ifCond.holds .ne x = true := bne_iff_ne.mpr h
theorem own_if_neN {x : Int32} (h : x = 0) : ifCond.holds .ne x = false := by subst h; rfl
theorem own_if_ltY {x : Int32} (h : x < 0) : ifCond.holds .lt x = true := decide_eq_true h
theorem own_if_ltN {x : Int32} (h : ¬ x < 0) : ifCond.holds .lt x = false := decide_eq_false h
theorem own_if_geY {x : Int32} (h : ¬ x < 0) : ifCond.holds .ge x = true := decide_eq_true (Int32.not_lt.mp h)
theorem own_if_geN {x : Int32} (h : x < 0) : ifCond.holds .ge x = false := decide_eq_false (fun q => Int32.not_le.mpr h q)
theorem own_if_gtY {x : Int32} (h : 0 < x) : ifCond.holds .gt x = true := decide_eq_true h
theorem own_if_gtN {x : Int32} (h : ¬ 0 < x) : ifCond.holds .gt x = false := decide_eq_false h
theorem own_if_leY {x : Int32} (h : ¬ 0 < x) : ifCond.holds .le x = true := decide_eq_true (Int32.not_lt.mp h)
theorem own_if_leN {x : Int32} (h : 0 < x) : ifCond.holds .le x = false := decide_eq_false (fun q => Int32.not_le.mpr h q)
theorem own_ic_eqY {x y : Int32} (h : x = y) : if_icmp.holds .eq x y = true := beq_iff_eq.mpr h
theorem own_ic_eqN {x y : Int32} (h : ¬ x = y) : if_icmp.holds .eq x y = false := beq_false_of_ne h
theorem own_ic_neY {x y : Int32} (h : ¬ x = y) : if_icmp.holds .ne x y = true := bne_iff_ne.mpr h
theorem own_ic_neN {x y : Int32} (h : x = y) : if_icmp.holds .ne x y = false := by subst h; exact bne_self_eq_false x
theorem own_ic_ltY {x y : Int32} (h : x < y) : if_icmp.holds .lt x y = true := decide_eq_true h
theorem own_ic_ltN {x y : Int32} (h : ¬ x < y) : if_icmp.holds .lt x y = false := decide_eq_false h
theorem own_ic_geY {x y : Int32} (h : ¬ x < y) : if_icmp.holds .ge x y = true := decide_eq_true (Int32.not_lt.mp h)
theorem own_ic_geN {x y : Int32} (h : x < y) : if_icmp.holds .ge x y = false := decide_eq_false (fun q => Int32.not_le.mpr h q)
theorem own_ic_gtY {x y : Int32} (h : y < x) : if_icmp.holds .gt x y = true := decide_eq_true h
theorem own_ic_gtN {x y : Int32} (h : ¬ y < x) : if_icmp.holds .gt x y = false := decide_eq_false h
theorem own_ic_leY {x y : Int32} (h : ¬ y < x) : if_icmp.holds .le x y = true := decide_eq_true (Int32.not_lt.mp h)
theorem own_ic_leN {x y : Int32} (h : y < x) : if_icmp.holds .le x y = false := decide_eq_false (fun q => Int32.not_le.mpr h q)
/-- what a comparison of two whole or scaled values pushes -/
def own_c (i j : Int) : Int32 := if i < j then -1 else if i = j then 0 else 1
theorem own_cE (o : CmpOp) {x y : UInt64} {i j : Int} (h : FP.dcmp x y = some (compare i j)) : cmpValue (FP.dcmp x y) o = own_c i j := by
  rw [h, FP.Core.compare_ite, own_c]
  by_cases h1 : i < j
  · rw [if_pos h1, if_pos h1]; cases o <;> rfl
  · rw [if_neg h1, if_neg h1]
    by_cases h2 : i = j
    · rw [if_pos h2, if_pos h2]; cases o <;> rfl
    · rw [if_neg h2, if_neg h2]; cases o <;> rfl
theorem own_c_lt {i j : Int} (h : i < j) : own_c i j = -1 := by rw [own_c, if_pos h]
theorem own_c_eq {i j : Int} (h : i = j) : own_c i j = 0 := by rw [own_c, if_neg (by omega), if_pos h]
theorem own_c_gt {i j : Int} (h : j < i) : own_c i j = 1 := by rw [own_c, if_neg (by omega), if_neg (by omega)]
theorem own_c_cases (i j : Int) : (i < j ∧ own_c i j = -1) ∨ (i = j ∧ own_c i j = 0) ∨ (j < i ∧ own_c i j = 1) := by
  rcases Int.lt_trichotomy i j with h | h | h
  · exact Or.inl ⟨h, own_c_lt h⟩
  · exact Or.inr (Or.inl ⟨h, own_c_eq h⟩)
  · exact Or.inr (Or.inr ⟨h, own_c_gt h⟩)
theorem own_c_ltY {i j : Int} (h : i < j) : ifCond.holds .lt (own_c i j) = true := by rw [own_c_lt h]; rfl
theorem own_c_ltN {i j : Int} (h : ¬ i < j) : ifCond.holds .lt (own_c i j) = false := by rcases own_c_cases i j with q | q | q <;> first | exact absurd q.1 h | (rw [q.2]; rfl)
theorem own_c_geY {i j : Int} (h : ¬ i < j) : ifCond.holds .ge (own_c i j) = true := by rcases own_c_cases i j with q | q | q <;> first | exact absurd q.1 h | (rw [q.2]; rfl)
theorem own_c_geN {i j : Int} (h : i < j) : ifCond.holds .ge (own_c i j) = false := by rw [own_c_lt h]; rfl
theorem own_c_gtY {i j : Int} (h : j < i) : ifCond.holds .gt (own_c i j) = true := by rw [own_c_gt h]; rfl
theorem own_c_gtN {i j : Int} (h : ¬ j < i) : ifCond.holds .gt (own_c i j) = false := by rcases own_c_cases i j with q | q | q <;> first | exact absurd q.1 h | (rw [q.2]; rfl)
theorem own_c_leY {i j : Int} (h : ¬ j < i) : ifCond.holds .le (own_c i j) = true := by rcases own_c_cases i j with q | q | q <;> first | exact absurd q.1 h | (rw [q.2]; rfl)
theorem own_c_leN {i j : Int} (h : j < i) : ifCond.holds .le (own_c i j) = false := by rw [own_c_gt h]; rfl
theorem own_c_eqY {i j : Int} (h : i = j) : ifCond.holds .eq (own_c i j) = true := by rw [own_c_eq h]; rfl
theorem own_c_eqN {i j : Int} (h : ¬ i = j) : ifCond.holds .eq (own_c i j) = false := by rcases own_c_cases i j with q | q | q <;> first | exact absurd q.1 h | (rw [q.2]; rfl)
theorem own_c_neY {i j : Int} (h : ¬ i = j) : ifCond.holds .ne (own_c i j) = true := by rcases own_c_cases i j with q | q | q <;> first | exact absurd q.1 h | (rw [q.2]; rfl)
theorem own_c_neN {i j : Int} (h : i = j) : ifCond.holds .ne (own_c i j) = false := by rw [own_c_eq h]; rfl
theorem own_l_lt {i j : Int64} (h : i < j) : XT.cmpL i j = -1 := by
  rw [XT.cmpL, if_neg (fun q => Int64.lt_irrefl (Int64.lt_trans h q)), if_neg (fun q => Int64.lt_irrefl (q ▸ h))]
theorem own_l_eq {i j : Int64} (h : i = j) : XT.cmpL i j = 0 := by subst h; rw [XT.cmpL, if_neg Int64.lt_irrefl, if_pos rfl]
theorem own_l_gt {i j : Int64} (h : j < i) : XT.cmpL i j = 1 := by rw [XT.cmpL, if_pos h]
theorem own_l_cases (i j : Int64) : (i < j ∧ XT.cmpL i j = -1) ∨ (i = j ∧ XT.cmpL i j = 0) ∨ (j < i ∧ XT.cmpL i j = 1) := by
  by_cases h : i < j
  · exact Or.inl ⟨h, own_l_lt h⟩
  · by_cases h2 : i = j
    · exact Or.inr (Or.inl ⟨h2, own_l_eq h2⟩)
    · have h3 : j < i := by
        rw [Int64.lt_iff_toInt_lt] at h ⊢
        have h4 : i.toInt ≠ j.toInt := fun q => h2 (Int64.toInt_inj.mp q)
        omega
      exact Or.inr (Or.inr ⟨h3, own_l_gt h3⟩)
theorem own_l_ltY {i j : Int64} (h : i < j) : ifCond.holds .lt (XT.cmpL i j) = true := by rw [own_l_lt h]; rfl
theorem own_l_ltN {i j : Int64} (h : ¬ i < j) : ifCond.holds .lt (XT.cmpL i j) = false := by rcases own_l_cases i j with q | q | q <;> first | exact absurd q.1 h | (rw [q.2]; rfl)
theorem own_l_geY {i j : Int64} (h : ¬ i < j) : ifCond.holds .ge (XT.cmpL i j) = true := by rcases own_l_cases i j with q | q | q <;> first | exact absurd q.1 h | (rw [q.2]; rfl)
theorem own_l_geN {i j : Int64} (h : i < j) : ifCond.holds .ge (XT.cmpL i j) = false := by rw [own_l_lt h]; rfl
theorem own_l_gtY {i j : Int64} (h : j < i) : ifCond.holds .gt (XT.cmpL i j) = true := by rw [own_l_gt h]; rfl
theorem own_l_gtN {i j : Int64} (h : ¬ j < i) : ifCond.holds .gt (XT.cmpL i j) = false := by rcases own_l_cases i j with q | q | q <;> first | exact absurd q.1 h | (rw [q.2]; rfl)
theorem own_l_leY {i j : Int64} (h : ¬ j < i) : ifCond.holds .le (XT.cmpL i j) = true := by rcases own_l_cases i j with q | q | q <;> first | exact absurd q.1 h | (rw [q.2]; rfl)
theorem own_l_leN {i j : Int64} (h : j < i) : ifCond.holds .le (XT.cmpL i j) = false := by rw [own_l_gt h]; rfl
theorem own_l_eqY {i j : Int64} (h : i = j) : ifCond.holds .eq (XT.cmpL i j) = true := by rw [own_l_eq h]; rfl
theorem own_l_eqN {i j : Int64} (h : ¬ i = j) : ifCond.holds .eq (XT.cmpL i j) = false := by rcases own_l_cases i j with q | q | q <;> first | exact absurd q.1 h | (rw [q.2]; rfl)
theorem own_l_neY {i j : Int64} (h : ¬ i = j) : ifCond.holds .ne (XT.cmpL i j) = true := by rcases own_l_cases i j with q | q | q <;> first | exact absurd q.1 h | (rw [q.2]; rfl)
theorem own_l_neN {i j : Int64} (h : i = j) : ifCond.holds .ne (XT.cmpL i j) = false := by rw [own_l_eq h]; rfl
theorem own_ac_eq_Y {x y : Value} (h : x = y) : XT.acmp .eq x y = true := decide_eq_true h
theorem own_ac_eq_N {x y : Value} (h : ¬ x = y) : XT.acmp .eq x y = false := decide_eq_false h
theorem own_ac_ne_Y {x y : Value} (h : ¬ x = y) : XT.acmp .ne x y = true := decide_eq_true h
theorem own_ac_ne_N {x y : Value} (h : x = y) : XT.acmp .ne x y = false := decide_eq_false (fun q => q h)
theorem own_ar_eq_Y {x y : Addr} (h : x = y) : XT.acmp .eq (.ref x) (.ref y) = true := own_ac_eq_Y (congrArg Value.ref h)
theorem own_ar_eq_N {x y : Addr} (h : ¬ x = y) : XT.acmp .eq (.ref x) (.ref y) = false := own_ac_eq_N (fun q => h (Value.ref.inj q))
theorem own_ar_ne_Y {x y : Addr} (h : ¬ x = y) : XT.acmp .ne (.ref x) (.ref y) = true := own_ac_ne_Y (fun q => h (Value.ref.inj q))
theorem own_ar_ne_N {x y : Addr} (h : x = y) : XT.acmp .ne (.ref x) (.ref y) = false := own_ac_ne_N (congrArg Value.ref h)
/-- a static's object's field that the case names by a number -/
theorem own_ord {args : Array Value} {s : State} {t : Term} {C n d : String} {k : Int32} {x : Addr} (ev : t.eval args s none [] s = some (.ref x))
    (h : (Jvm.Cond.eq (Term.field t C n d) (Term.int k)).value args s none s [] = some true) : s.fieldOf? x C n d = some (.int k) := by
  obtain ⟨v, u, e1, e2, k1, k2⟩ := cmp_v (Or.inl h)
  have e3 : u = .int k := by have := (Term.int_eval (args := args) (first := s) (o := none) (idx := []) (s := s) k).symm.trans e2; exact (Option.some.inj this).symm
  subst e3
  obtain ⟨z, rfl⟩ := k2
  have q := gotT (Cond.eq_ints e1 e2) h
  rw [← fld_at ev, e1, q]

def Qrm1 (Z : State) (a : Addr) (x : UInt64) (y : UInt64) (q : Addr) (i : Int) (j : Int) (h0 : Heap) (n0 : Nat) (v : Option Value) (h : Heap) (L : List Loc) : Prop := v = some (.int (if a = q then (if j < i then (0 : Int32) else 1) else (if i < j then 0 else 1))) ∧ Fr n0 L ∧ h = h0
theorem ef_rm1 (m : MethodId) (a : Addr) (x : UInt64) (y : UInt64) (q : Addr) (i : Int) (j : Int) : entryFrame m #[(.ref a), (.double x), (.double y)] 5 = mkF m 0 #[vr a, vd x, ss, vd y, ss] [] := by first | (simp [entryFrame, mkF, argsToLocals, Value.category]; done) | rfl
abbrev mn0 : MethodName := ⟨"com/example/sumbound/sumbound/algebra/Extremum", "atLeastAsGood", "(DD)Z"⟩
theorem pn_com_example_sumbound_sumbound_algebra_Extremum : plainName "com/example/sumbound/sumbound/algebra/Extremum" = true := by first | (simp [plainName, overriddenIn]; done) | decide +kernel
theorem d_prog_2_method_5_code_0 : decode prog_2_method_5_code 0 = .ok (.aload_n 0, 1) := by decide +kernel
theorem d_prog_2_method_5_code_1 : decode prog_2_method_5_code 1 = .ok (.getstatic 3, 3) := by decide +kernel
def tw8 {Z : State} {a0 : Array Value} (hw : ∀ d ∈ tables_1, d.before a0 Z = true) := hw _ (List.mem_of_getElem? (i := 8) rfl)
theorem d_prog_2_method_5_code_4 : decode prog_2_method_5_code 4 = .ok (.if_acmp .ne 17, 3) := by decide +kernel
theorem d_prog_2_method_5_code_7 : decode prog_2_method_5_code 7 = .ok (.dload_n 1, 1) := by decide +kernel
theorem d_prog_2_method_5_code_8 : decode prog_2_method_5_code 8 = .ok (.dload_n 3, 1) := by decide +kernel
theorem d_prog_2_method_5_code_9 : decode prog_2_method_5_code 9 = .ok (.dcmp .g, 1) := by decide +kernel
theorem d_prog_2_method_5_code_10 : decode prog_2_method_5_code 10 = .ok (.ifCond .gt 7, 3) := by decide +kernel
theorem d_prog_2_method_5_code_17 : decode prog_2_method_5_code 17 = .ok (.iconst 0, 1) := by decide +kernel
theorem d_prog_2_method_5_code_18 : decode prog_2_method_5_code 18 = .ok (.goto 14, 3) := by decide +kernel
theorem d_prog_2_method_5_code_32 : decode prog_2_method_5_code 32 = .ok (.ireturn, 1) := by decide +kernel
theorem d_prog_2_method_5_code_13 : decode prog_2_method_5_code 13 = .ok (.iconst 1, 1) := by decide +kernel
theorem d_prog_2_method_5_code_14 : decode prog_2_method_5_code 14 = .ok (.goto 18, 3) := by decide +kernel
theorem d_prog_2_method_5_code_21 : decode prog_2_method_5_code 21 = .ok (.dload_n 1, 1) := by decide +kernel
theorem d_prog_2_method_5_code_22 : decode prog_2_method_5_code 22 = .ok (.dload_n 3, 1) := by decide +kernel
theorem d_prog_2_method_5_code_23 : decode prog_2_method_5_code 23 = .ok (.dcmp .l, 1) := by decide +kernel
theorem d_prog_2_method_5_code_24 : decode prog_2_method_5_code 24 = .ok (.ifCond .lt 7, 3) := by decide +kernel
theorem d_prog_2_method_5_code_31 : decode prog_2_method_5_code 31 = .ok (.iconst 0, 1) := by decide +kernel
theorem d_prog_2_method_5_code_27 : decode prog_2_method_5_code 27 = .ok (.iconst 1, 1) := by decide +kernel
theorem d_prog_2_method_5_code_28 : decode prog_2_method_5_code 28 = .ok (.goto 4, 3) := by decide +kernel
set_option maxRecDepth 65536 in
set_option maxHeartbeats 40000000 in
theorem rm1 (l : Launch) (Z : State) (a0 : Array Value) (hw : ∀ d ∈ tables_1, d.before a0 Z = true) (ws : List Jvm.Cond) (a : Addr) (x : UInt64) (y : UInt64) (q : Addr) (i : Int) (j : Int) (h0 : Heap) (n0 : Nat) (Z0 : n0 ≤ h0.size) (S1 : Sta Z h0 "com/example/sumbound/sumbound/algebra/Extremum" "MIN" "Lcom/example/sumbound/sumbound/algebra/Extremum;" (.ref q)) (Dx : FP.Core.DInt i x) (Dy : FP.Core.DInt j y) :
    MetFree l mn0 (head1 (Jvm.Cond.code mn0 prog_2_method_5_code 5 (some .boolean) :: ws) ({ frames := 0, cells := 0, slots := 0, locals := 0 } : Room)) (fun aA U => aA = #[(.ref a), (.double x), (.double y)] ∧ Z.Warmed39 U.vm ∧ U.heap = h0) (fun _ _ _ _ _ => True) (fun _ U o U' => ∃ v L, o = .returned v ∧ Qrm1 Z a x y q i j h0 n0 v U'.heap L ∧ FrameEnd U o U' L ({ frames := 0, cells := 0, slots := 0, locals := 0 } : Room).cells ({ frames := 0, cells := 0, slots := 0, locals := 0 } : Room).slots) := by
  refine MetFree.of_bodySF (plainFor_of_name pn_com_example_sumbound_sumbound_algebra_Extremum) hisR ?_
  intro p e s m args below meth c s₁ Bd hml0 hP hK
  obtain ⟨rfl, hZ, hh⟩ := hP
  have hx := Bd.exec
  have hby := Bd.bytes
  have hml : c.maxLocals = 5 := hml0
  have hown : s.vm.findClass "com/example/sumbound/sumbound/algebra/Extremum" = some m.cls := findClass_of_methodNamed Bd.named
  have hnm := (name_of_methodNamed Bd.named Bd.method).1
  have X0 : Stand p l e ({ frames := 0, cells := 0, slots := 0, locals := 0 } : Room) s m #[(.ref a), (.double x), (.double y)] below meth c s₁ [] 0 0 := Stand.of_body Bd
  have e0 : s₁.heap = h0 := by rw [← hh, Bd.state]; rfl
  have N0 := Fr.nil n0
  obtain ⟨E0, hE0⟩ : ∃ z, z = s₁.setTop (entryFrame m #[(.ref a), (.double x), (.double y)] 5) := ⟨_, rfl⟩
  have k0 : own_G p e below E0 s₁ (mkF m 0 #[vr a, vd x, ss, vd y, ss] []) := fun t k => hE0 ▸ castTop (ef_rm1 m a x y q i j) k
  have k1 : own_G p e below E0 s₁ (mkF m 1 #[vr a, vd x, ss, vd y, ss] [(.ref a)]) := by
    intro t kk
    refine k0 t ?_
    refine XS.aloadN X0.here hx rfl (hb hby d_prog_2_method_5_code_0) rfl rfl ?_
    exact kk
  obtain ⟨T2, X3, e4, st5⟩ := getS X0 hx hZ hown (host := "") (tw8 hw) Via.refl e0 S1 (g := (mkF m 1 #[vr a, vd x, ss, vd y, ss] [(.ref a)])) rfl (hb hby d_prog_2_method_5_code_1)
  have k6 : own_G p e below E0 T2 (mkF m 4 #[vr a, vd x, ss, vd y, ss] [(.ref q), (.ref a)]) := fun t kk => k1 t (st5 _ kk)
  by_cases c7 : a = q
  · skip
    have k8 : own_G p e below E0 T2 (mkF m 10 #[vr a, vd x, ss, vd y, ss] [(.int (own_c i j))]) := by
      intro t kk
      refine k6 t ?_
      refine XT.acmpNo X3.here hx rfl (hb hby d_prog_2_method_5_code_4) rfl rfl rfl (own_ar_ne_N c7) ?_
      refine XS.dloadN X3.here hx rfl (hb hby d_prog_2_method_5_code_7) rfl ?_
      refine XS.dloadN X3.here hx rfl (hb hby d_prog_2_method_5_code_8) rfl ?_
      refine XS.dcmpS X3.here hx rfl (hb hby d_prog_2_method_5_code_9) rfl (own_cE .g (FP.Core.dcmp_int Dx Dy)) ?_
      exact kk
    by_cases c9 : j < i
    · skip
      have k10 : own_G p e below E0 T2 (mkF m 32 #[vr a, vd x, ss, vd y, ss] [(.int (0 : Int32))]) := by
        intro t kk
        refine k8 t ?_
        refine XS.ifYes X3.here hx rfl (pc0 := 10) (pc' := 17) rfl (hb hby d_prog_2_method_5_code_10) rfl (own_c_gtY c9) (by decide) (by decide) ?_
        refine XS.iconst X3.here hx rfl (hb hby d_prog_2_method_5_code_17) ?_
        refine XS.goto X3.here hx rfl (pc0 := 18) (pc' := 32) rfl (hb hby d_prog_2_method_5_code_18) (by decide) (by decide) ?_
        exact kk
      obtain ⟨fs, hr, hrun, hended, hW, hsame⟩ := X3.leave (v := some (.int (0 : Int32))) (fun h => by rw [Bd.returns] at h; cases h)
      have hrun0 := k10 _ (retOut X3 hx Bd.returns (t := .boolean) rfl (Or.inl ⟨rfl, Or.inr (Or.inl rfl), _, rfl⟩) (hb hby d_prog_2_method_5_code_32) hr)
      subst hE0
      refine ⟨_, _, hrun0, hrun, hended, _, _, rfl, ?_, ⟨_, rfl⟩, hW, hsame.mono (by decide) (by decide)⟩
      show Qrm1 Z a x y q i j h0 n0 _ T2.heap _
      rw [e4]
      exact ⟨by rw [if_pos c7, if_pos c9], N0, rfl⟩
    · skip
      have k11 : own_G p e below E0 T2 (mkF m 32 #[vr a, vd x, ss, vd y, ss] [(.int (1 : Int32))]) := by
        intro t kk
        refine k8 t ?_
        refine XS.ifNo X3.here hx rfl (hb hby d_prog_2_method_5_code_10) rfl (own_c_gtN c9) ?_
        refine XS.iconst X3.here hx rfl (hb hby d_prog_2_method_5_code_13) ?_
        refine XS.goto X3.here hx rfl (pc0 := 14) (pc' := 32) rfl (hb hby d_prog_2_method_5_code_14) (by decide) (by decide) ?_
        exact kk
      obtain ⟨fs, hr, hrun, hended, hW, hsame⟩ := X3.leave (v := some (.int (1 : Int32))) (fun h => by rw [Bd.returns] at h; cases h)
      have hrun0 := k11 _ (retOut X3 hx Bd.returns (t := .boolean) rfl (Or.inl ⟨rfl, Or.inr (Or.inl rfl), _, rfl⟩) (hb hby d_prog_2_method_5_code_32) hr)
      subst hE0
      refine ⟨_, _, hrun0, hrun, hended, _, _, rfl, ?_, ⟨_, rfl⟩, hW, hsame.mono (by decide) (by decide)⟩
      show Qrm1 Z a x y q i j h0 n0 _ T2.heap _
      rw [e4]
      exact ⟨by rw [if_pos c7, if_neg c9], N0, rfl⟩
  · skip
    have k12 : own_G p e below E0 T2 (mkF m 24 #[vr a, vd x, ss, vd y, ss] [(.int (own_c i j))]) := by
      intro t kk
      refine k6 t ?_
      refine XT.acmpYes X3.here hx rfl (pc0 := 4) (pc' := 21) rfl (hb hby d_prog_2_method_5_code_4) rfl rfl rfl (own_ar_ne_Y c7) (by decide) (by decide) ?_
      refine XS.dloadN X3.here hx rfl (hb hby d_prog_2_method_5_code_21) rfl ?_
      refine XS.dloadN X3.here hx rfl (hb hby d_prog_2_method_5_code_22) rfl ?_
      refine XS.dcmpS X3.here hx rfl (hb hby d_prog_2_method_5_code_23) rfl (own_cE .l (FP.Core.dcmp_int Dx Dy)) ?_
      exact kk
    by_cases c13 : i < j
    · skip
      have k14 : own_G p e below E0 T2 (mkF m 32 #[vr a, vd x, ss, vd y, ss] [(.int (0 : Int32))]) := by
        intro t kk
        refine k12 t ?_
        refine XS.ifYes X3.here hx rfl (pc0 := 24) (pc' := 31) rfl (hb hby d_prog_2_method_5_code_24) rfl (own_c_ltY c13) (by decide) (by decide) ?_
        refine XS.iconst X3.here hx rfl (hb hby d_prog_2_method_5_code_31) ?_
        exact kk
      obtain ⟨fs, hr, hrun, hended, hW, hsame⟩ := X3.leave (v := some (.int (0 : Int32))) (fun h => by rw [Bd.returns] at h; cases h)
      have hrun0 := k14 _ (retOut X3 hx Bd.returns (t := .boolean) rfl (Or.inl ⟨rfl, Or.inr (Or.inl rfl), _, rfl⟩) (hb hby d_prog_2_method_5_code_32) hr)
      subst hE0
      refine ⟨_, _, hrun0, hrun, hended, _, _, rfl, ?_, ⟨_, rfl⟩, hW, hsame.mono (by decide) (by decide)⟩
      show Qrm1 Z a x y q i j h0 n0 _ T2.heap _
      rw [e4]
      exact ⟨by rw [if_neg c7, if_pos c13], N0, rfl⟩
    · skip
      have k15 : own_G p e below E0 T2 (mkF m 32 #[vr a, vd x, ss, vd y, ss] [(.int (1 : Int32))]) := by
        intro t kk
        refine k12 t ?_
        refine XS.ifNo X3.here hx rfl (hb hby d_prog_2_method_5_code_24) rfl (own_c_ltN c13) ?_
        refine XS.iconst X3.here hx rfl (hb hby d_prog_2_method_5_code_27) ?_
        refine XS.goto X3.here hx rfl (pc0 := 28) (pc' := 32) rfl (hb hby d_prog_2_method_5_code_28) (by decide) (by decide) ?_
        exact kk
      obtain ⟨fs, hr, hrun, hended, hW, hsame⟩ := X3.leave (v := some (.int (1 : Int32))) (fun h => by rw [Bd.returns] at h; cases h)
      have hrun0 := k15 _ (retOut X3 hx Bd.returns (t := .boolean) rfl (Or.inl ⟨rfl, Or.inr (Or.inl rfl), _, rfl⟩) (hb hby d_prog_2_method_5_code_32) hr)
      subst hE0
      refine ⟨_, _, hrun0, hrun, hended, _, _, rfl, ?_, ⟨_, rfl⟩, hW, hsame.mono (by decide) (by decide)⟩
      show Qrm1 Z a x y q i j h0 n0 _ T2.heap _
      rw [e4]
      exact ⟨by rw [if_neg c7, if_neg c13], N0, rfl⟩
def Qrm0 (Z : State) (p0 : Int32) (p1 : Int32) (p2 : Int32) (qm : Addr) (qM : Addr) (h0 : Heap) (n0 : Nat) (v : Option Value) (h : Heap) (L : List Loc) : Prop := v = some (.int (1 : Int32)) ∧ Fr n0 L
theorem ef_rm0 (m : MethodId) (p0 : Int32) (p1 : Int32) (p2 : Int32) (qm : Addr) (qM : Addr) : entryFrame m #[(.int p0), (.int p1), (.int p2)] maxLocals = mkF m 0 #[vi p0, vi p1, vi p2, uu, uu, uu, uu, uu, uu, uu, uu] [] := by first | (simp [entryFrame, mkF, argsToLocals, Value.category, maxLocals]; done) | rfl
abbrev xa1 (Z : State) (h : Heap) (a : Addr) : Prop := Exa Z h a "com/example/sumbound/sumbound/algebra/Extremum"
theorem pn_com_example_sumbound_sumbound_algebra_ExtremumAtLeastAsGoodPinLaw : plainName "com/example/sumbound/sumbound/algebra/ExtremumAtLeastAsGoodPinLaw" = true := by first | (simp [plainName, overriddenIn]; done) | decide +kernel
def tw0 {Z : State} {a0 : Array Value} (hw : ∀ d ∈ tables_1, d.before a0 Z = true) := hw _ (List.mem_of_getElem? (i := 0) rfl)
def tw3 {Z : State} {a0 : Array Value} (hw : ∀ d ∈ tables_1, d.before a0 Z = true) := hw _ (List.mem_of_getElem? (i := 3) rfl)
def tw6 {Z : State} {a0 : Array Value} (hw : ∀ d ∈ tables_1, d.before a0 Z = true) := hw _ (List.mem_of_getElem? (i := 6) rfl)
def tw7 {Z : State} {a0 : Array Value} (hw : ∀ d ∈ tables_1, d.before a0 Z = true) := hw _ (List.mem_of_getElem? (i := 7) rfl)
def tw1 {Z : State} {a0 : Array Value} (hw : ∀ d ∈ tables_1, d.before a0 Z = true) := hw _ (List.mem_of_getElem? (i := 1) rfl)
theorem pd_2 : parseMethodDescriptor "(DD)Z" = some ⟨[.double, .double], some .boolean⟩ := by decide +kernel
def tw4 {Z : State} {a0 : Array Value} (hw : ∀ d ∈ tables_1, d.before a0 Z = true) := hw _ (List.mem_of_getElem? (i := 4) rfl)
def tw5 {Z : State} {a0 : Array Value} (hw : ∀ d ∈ tables_1, d.before a0 Z = true) := hw _ (List.mem_of_getElem? (i := 5) rfl)
def tw9 {Z : State} {a0 : Array Value} (hw : ∀ d ∈ tables_1, d.before a0 Z = true) := hw _ (List.mem_of_getElem? (i := 9) rfl)
set_option maxRecDepth 65536 in
set_option maxHeartbeats 40000000 in
theorem rm0 (l : Launch) (Z : State) (a0 : Array Value) (hw : ∀ d ∈ tables_1, d.before a0 Z = true) (ws : List Jvm.Cond) (p0 : Int32) (p1 : Int32) (p2 : Int32) (qm : Addr) (qM : Addr) (h0 : Heap) (n0 : Nat) (Z0 : n0 ≤ h0.size) (S1 : Sta Z h0 "com/example/sumbound/sumbound/algebra/Extremum" "MIN" "Lcom/example/sumbound/sumbound/algebra/Extremum;" (.ref qm)) (S2 : Sta Z h0 "com/example/sumbound/sumbound/algebra/Extremum" "MAX" "Lcom/example/sumbound/sumbound/algebra/Extremum;" (.ref qM)) (E1 : xa1 Z h0 qm) (E2 : xa1 Z h0 qM) (ne1 : qM ≠ qm) :
    MetFree l x (head1 (Jvm.Cond.code x code maxLocals ret :: ws) room_1) (fun aA U => aA = #[(.int p0), (.int p1), (.int p2)] ∧ Z.Warmed39 U.vm ∧ U.heap = h0) (fun _ _ _ _ _ => True) (fun _ U o U' => ∃ v L, o = .returned v ∧ Qrm0 Z p0 p1 p2 qm qM h0 n0 v U'.heap L ∧ FrameEnd U o U' L 0 0) := by
  refine MetFree.of_bodySF (plainFor_of_name pn_com_example_sumbound_sumbound_algebra_ExtremumAtLeastAsGoodPinLaw) hisR ?_
  intro p e s m args below meth c s₁ Bd hml0 hP hK
  obtain ⟨rfl, hZ, hh⟩ := hP
  have hx := Bd.exec
  have hby := Bd.bytes
  have hml : c.maxLocals = 11 := hml0
  have hown : s.vm.findClass "com/example/sumbound/sumbound/algebra/ExtremumAtLeastAsGoodPinLaw" = some m.cls := findClass_of_methodNamed Bd.named
  have hnm := (name_of_methodNamed Bd.named Bd.method).1
  have X0 : Stand p l e room_1 s m #[(.int p0), (.int p1), (.int p2)] below meth c s₁ [] 0 0 := Stand.of_body Bd
  have e0 : s₁.heap = h0 := by rw [← hh, Bd.state]; rfl
  have N0 := Fr.nil n0
  obtain ⟨E0, hE0⟩ : ∃ z, z = s₁.setTop (entryFrame m #[(.int p0), (.int p1), (.int p2)] maxLocals) := ⟨_, rfl⟩
  have k0 : own_G p e below E0 s₁ (mkF m 0 #[vi p0, vi p1, vi p2, uu, uu, uu, uu, uu, uu, uu, uu] []) := fun t k => hE0 ▸ castTop (ef_rm0 m p0 p1 p2 qm qM) k
  have k16 : own_G p e below E0 s₁ (mkF m 3 #[vi p0, vi p1, vi p2, uu, uu, uu, uu, uu, uu, uu, uu] [(.int (p0 &&& (1 : Int32)))]) := by
    intro t kk
    refine k0 t ?_
    refine XS.iloadN X0.here hx rfl (hb hby at_0) rfl ?_
    refine XS.iconst X0.here hx rfl (hb hby at_1) ?_
    refine XS.iand X0.here hx rfl (hb hby at_2) rfl ?_
    exact kk
  by_cases c17 : (p0 &&& (1 : Int32)) = 0
  · skip
    have k18 : own_G p e below E0 s₁ (mkF m 16 #[vi p0, vi p1, vi p2, vi (1 : Int32), uu, uu, uu, uu, uu, uu, uu] []) := by
      intro t kk
      refine k16 t ?_
      refine XS.ifNo X0.here hx rfl (hb hby at_3) rfl (own_if_neN c17) ?_
      refine XS.iconst X0.here hx rfl (hb hby at_6) ?_
      refine XS.goto X0.here hx rfl (pc0 := 7) (pc' := 11) rfl (hb hby at_7) (by decide) (by decide) ?_
      refine XS.istoreN X0.here hx rfl (hb hby at_11) rfl (l' := #[vi p0, vi p1, vi p2, vi (1 : Int32), uu, uu, uu, uu, uu, uu, uu]) rfl ?_
      show Steps p.tables e below (s₁.setTop (mkF m 12 #[vi p0, vi p1, vi p2, vi (1 : Int32), uu, uu, uu, uu, uu, uu, uu] [])) t
      refine XS.iloadN X0.here hx rfl (hb hby at_12) rfl ?_
      refine XS.ifNo X0.here hx rfl (hb hby at_13) rfl (own_if_eqN (by decide)) ?_
      exact kk
    obtain ⟨T19, X20, e21, st22⟩ := getS X0 hx hZ hown (host := "") (tw0 hw) Via.refl e0 S1 (g := (mkF m 16 #[vi p0, vi p1, vi p2, vi (1 : Int32), uu, uu, uu, uu, uu, uu, uu] [])) rfl (hb hby at_16)
    have k23 : own_G p e below E0 T19 (mkF m 19 #[vi p0, vi p1, vi p2, vi (1 : Int32), uu, uu, uu, uu, uu, uu, uu] [(.ref qm)]) := fun t kk => k18 t (st22 _ kk)
    have k24 : own_G p e below E0 T19 (mkF m 41 #[vi p0, vi p1, vi p2, vi (1 : Int32), vr qm, vd (FP.i2d p1), ss, vd (FP.i2d p2), ss, uu, uu] [(.double (FP.i2d p2)), (.double (FP.i2d p1)), (.ref qm)]) := by
      intro t kk
      refine k23 t ?_
      refine XS.goto X20.here hx rfl (pc0 := 19) (pc' := 25) rfl (hb hby at_19) (by decide) (by decide) ?_
      refine XS.astore X20.here hx rfl (hb hby at_25) rfl rfl (l' := #[vi p0, vi p1, vi p2, vi (1 : Int32), vr qm, uu, uu, uu, uu, uu, uu]) rfl ?_
      refine XS.iloadN X20.here hx rfl (hb hby at_27) rfl ?_
      refine XS.i2dS X20.here hx rfl (hb hby at_28) rfl rfl ?_
      show Steps p.tables e below (T19.setTop (mkF m 29 #[vi p0, vi p1, vi p2, vi (1 : Int32), vr qm, uu, uu, uu, uu, uu, uu] [(.double (FP.i2d p1))])) t
      refine XS.dstore X20.here hx rfl (hb hby at_29) rfl (l' := #[vi p0, vi p1, vi p2, vi (1 : Int32), vr qm, vd (FP.i2d p1), ss, uu, uu, uu, uu]) rfl ?_
      refine XS.iloadN X20.here hx rfl (hb hby at_31) rfl ?_
      refine XS.i2dS X20.here hx rfl (hb hby at_32) rfl rfl ?_
      refine XS.dstore X20.here hx rfl (hb hby at_33) rfl (l' := #[vi p0, vi p1, vi p2, vi (1 : Int32), vr qm, vd (FP.i2d p1), ss, vd (FP.i2d p2), ss, uu, uu]) rfl ?_
      show Steps p.tables e below (T19.setTop (mkF m 35 #[vi p0, vi p1, vi p2, vi (1 : Int32), vr qm, vd (FP.i2d p1), ss, vd (FP.i2d p2), ss, uu, uu] [])) t
      refine XS.aload X20.here hx rfl (hb hby at_35) rfl rfl ?_
      refine XS.dload X20.here hx rfl (hb hby at_37) rfl ?_
      refine XS.dload X20.here hx rfl (hb hby at_39) rfl ?_
      exact kk
    obtain ⟨cq36, kq37, qa38, qb39, qc40⟩ := isOf hZ e21 E1
    obtain ⟨_, _, ⟨T25, L26, kc27, nc28⟩, -, X29, ⟨Lc30, hQ31, l32, y33, z34⟩, st35⟩ := X20.virtualBack hx (y := mn0) (z := mn0) hown (mvT hZ (tw3 hw)) (mvT hZ (tw4 hw)) (notFace_of_selects (args := #[]) (mvT hZ (tw6 hw))) (mvT hZ (tw6 hw)) (mvT hZ (tw5 hw)) (by decide) (backOf (W := 0) (rm1 l Z a0 hw [] qm (FP.i2d p1) (FP.i2d p2) qm p1.toInt p2.toInt h0 n0 Z0 S1 (FP.Core.i2d_int p1) (FP.Core.i2d_int p2)) hZ (tw7 hw) (tw1 hw) (by decide) (by decide)) qa38 qc40 (g := (mkF m 41 #[vi p0, vi p1, vi p2, vi (1 : Int32), vr qm, vd (FP.i2d p1), ss, vd (FP.i2d p2), ss, uu, uu] [(.double (FP.i2d p2)), (.double (FP.i2d p1)), (.ref qm)])) rfl (by rw [hml]; rfl) (Steps.refl _) (argsL := [(.double (FP.i2d p1)), (.double (FP.i2d p2))]) (rest := []) (lenOf pd_2 rfl) rfl (by show 2 * 0 + _ ≤ _; exact Nat.le_of_eq rfl) (hb hby at_41) (fun _ _ => ⟨rfl, e21, (by decide : 0 + 0 ≤ _), (by decide : 0 + 0 ≤ _)⟩)
    dsimp only [Pt.U, Pt.locs, Pt.cells, Pt.slots] at X29 l32 y33 z34 st35 hQ31
    subst l32 y33 z34
    obtain ⟨rfl, N41, e42⟩ := hQ31
    have N44 := Fr.app N0 N41
    have k45 : own_G p e below E0 T25 (mkF m 44 #[vi p0, vi p1, vi p2, vi (1 : Int32), vr qm, vd (FP.i2d p1), ss, vd (FP.i2d p2), ss, uu, uu] [(.int (if qm = qm then (if p2.toInt < p1.toInt then (0 : Int32) else 1) else (if p1.toInt < p2.toInt then 0 else 1)))]) := fun t kk => k24 t (st35.trans kk)
    have k46 : own_G p e below E0 T25 (mkF m 52 #[vi p0, vi p1, vi p2, vi (1 : Int32), vr qm, vd (FP.i2d p1), ss, vd (FP.i2d p2), ss, vi (if qm = qm then (if p2.toInt < p1.toInt then (0 : Int32) else 1) else (if p1.toInt < p2.toInt then 0 else 1)), uu] [(.int p2), (.int p1)]) := by
      intro t kk
      refine k45 t ?_
      refine XS.istore X29.here hx rfl (hb hby at_44) rfl (l' := #[vi p0, vi p1, vi p2, vi (1 : Int32), vr qm, vd (FP.i2d p1), ss, vd (FP.i2d p2), ss, vi (if qm = qm then (if p2.toInt < p1.toInt then (0 : Int32) else 1) else (if p1.toInt < p2.toInt then 0 else 1)), uu]) rfl ?_
      refine XS.iloadN X29.here hx rfl (hb hby at_46) rfl ?_
      refine XS.ifNo X29.here hx rfl (hb hby at_47) rfl (own_if_eqN (by decide)) ?_
      refine XS.iloadN X29.here hx rfl (hb hby at_50) rfl ?_
      show Steps p.tables e below (T25.setTop (mkF m 51 #[vi p0, vi p1, vi p2, vi (1 : Int32), vr qm, vd (FP.i2d p1), ss, vd (FP.i2d p2), ss, vi (if qm = qm then (if p2.toInt < p1.toInt then (0 : Int32) else 1) else (if p1.toInt < p2.toInt then 0 else 1)), uu] [(.int p1)])) t
      refine XS.iloadN X29.here hx rfl (hb hby at_51) rfl ?_
      exact kk
    by_cases c47 : p2 < p1
    · skip
      have k48 : own_G p e below E0 T25 (mkF m 89 #[vi p0, vi p1, vi p2, vi (1 : Int32), vr qm, vd (FP.i2d p1), ss, vd (FP.i2d p2), ss, vi (if qm = qm then (if p2.toInt < p1.toInt then (0 : Int32) else 1) else (if p1.toInt < p2.toInt then 0 else 1)), vi (0 : Int32)] [(.int (1 : Int32))]) := by
        intro t kk
        refine k46 t ?_
        refine XS.icmpYes X29.here hx rfl (pc0 := 52) (pc' := 59) rfl (hb hby at_52) rfl (own_ic_gtY c47) (by decide) (by decide) ?_
        refine XS.iconst X29.here hx rfl (hb hby at_59) ?_
        refine XS.istore X29.here hx rfl (hb hby at_60) rfl (l' := #[vi p0, vi p1, vi p2, vi (1 : Int32), vr qm, vd (FP.i2d p1), ss, vd (FP.i2d p2), ss, vi (if qm = qm then (if p2.toInt < p1.toInt then (0 : Int32) else 1) else (if p1.toInt < p2.toInt then 0 else 1)), vi (0 : Int32)]) rfl ?_
        refine XS.goto X29.here hx rfl (pc0 := 62) (pc' := 77) rfl (hb hby at_62) (by decide) (by decide) ?_
        show Steps p.tables e below (T25.setTop (mkF m 77 #[vi p0, vi p1, vi p2, vi (1 : Int32), vr qm, vd (FP.i2d p1), ss, vd (FP.i2d p2), ss, vi (if qm = qm then (if p2.toInt < p1.toInt then (0 : Int32) else 1) else (if p1.toInt < p2.toInt then 0 else 1)), vi (0 : Int32)] [])) t
        refine XS.iload X29.here hx rfl (hb hby at_77) rfl ?_
        refine XS.iload X29.here hx rfl (hb hby at_79) rfl ?_
        refine XS.icmpNo X29.here hx rfl (hb hby at_81) rfl (own_ic_neN (by rw [if_pos rfl, if_pos (Int32.lt_iff_toInt_lt.mp c47)])) ?_
        refine XS.iconst X29.here hx rfl (hb hby at_84) ?_
        show Steps p.tables e below (T25.setTop (mkF m 85 #[vi p0, vi p1, vi p2, vi (1 : Int32), vr qm, vd (FP.i2d p1), ss, vd (FP.i2d p2), ss, vi (if qm = qm then (if p2.toInt < p1.toInt then (0 : Int32) else 1) else (if p1.toInt < p2.toInt then 0 else 1)), vi (0 : Int32)] [(.int (1 : Int32))])) t
        refine XS.goto X29.here hx rfl (pc0 := 85) (pc' := 89) rfl (hb hby at_85) (by decide) (by decide) ?_
        exact kk
      obtain ⟨fs, hr, hrun, hended, hW, hsame⟩ := X29.leave (v := some (.int (1 : Int32))) (fun h => by rw [Bd.returns] at h; cases h)
      have hrun0 := k48 _ (retOut X29 hx Bd.returns (t := .boolean) rfl (Or.inl ⟨rfl, Or.inr (Or.inl rfl), _, rfl⟩) (hb hby at_89) hr)
      subst hE0
      refine ⟨_, _, hrun0, hrun, hended, _, _, rfl, ?_, ⟨_, rfl⟩, hW, hsame.mono (by decide) (by decide)⟩
      show Qrm0 Z p0 p1 p2 qm qM h0 n0 _ T25.heap _
      rw [e42]
      exact ⟨rfl, N44⟩
    · skip
      have k49 : own_G p e below E0 T25 (mkF m 89 #[vi p0, vi p1, vi p2, vi (1 : Int32), vr qm, vd (FP.i2d p1), ss, vd (FP.i2d p2), ss, vi (if qm = qm then (if p2.toInt < p1.toInt then (0 : Int32) else 1) else (if p1.toInt < p2.toInt then 0 else 1)), vi (1 : Int32)] [(.int (1 : Int32))]) := by
        intro t kk
        refine k46 t ?_
        refine XS.icmpNo X29.here hx rfl (hb hby at_52) rfl (own_ic_gtN c47) ?_
        refine XS.iconst X29.here hx rfl (hb hby at_55) ?_
        refine XS.goto X29.here hx rfl (pc0 := 56) (pc' := 60) rfl (hb hby at_56) (by decide) (by decide) ?_
        refine XS.istore X29.here hx rfl (hb hby at_60) rfl (l' := #[vi p0, vi p1, vi p2, vi (1 : Int32), vr qm, vd (FP.i2d p1), ss, vd (FP.i2d p2), ss, vi (if qm = qm then (if p2.toInt < p1.toInt then (0 : Int32) else 1) else (if p1.toInt < p2.toInt then 0 else 1)), vi (1 : Int32)]) rfl ?_
        show Steps p.tables e below (T25.setTop (mkF m 62 #[vi p0, vi p1, vi p2, vi (1 : Int32), vr qm, vd (FP.i2d p1), ss, vd (FP.i2d p2), ss, vi (if qm = qm then (if p2.toInt < p1.toInt then (0 : Int32) else 1) else (if p1.toInt < p2.toInt then 0 else 1)), vi (1 : Int32)] [])) t
        refine XS.goto X29.here hx rfl (pc0 := 62) (pc' := 77) rfl (hb hby at_62) (by decide) (by decide) ?_
        refine XS.iload X29.here hx rfl (hb hby at_77) rfl ?_
        refine XS.iload X29.here hx rfl (hb hby at_79) rfl ?_
        refine XS.icmpNo X29.here hx rfl (hb hby at_81) rfl (own_ic_neN (by rw [if_pos rfl, if_neg (fun z => c47 (Int32.lt_iff_toInt_lt.mpr z))])) ?_
        show Steps p.tables e below (T25.setTop (mkF m 84 #[vi p0, vi p1, vi p2, vi (1 : Int32), vr qm, vd (FP.i2d p1), ss, vd (FP.i2d p2), ss, vi (if qm = qm then (if p2.toInt < p1.toInt then (0 : Int32) else 1) else (if p1.toInt < p2.toInt then 0 else 1)), vi (1 : Int32)] [])) t
        refine XS.iconst X29.here hx rfl (hb hby at_84) ?_
        refine XS.goto X29.here hx rfl (pc0 := 85) (pc' := 89) rfl (hb hby at_85) (by decide) (by decide) ?_
        exact kk
      obtain ⟨fs, hr, hrun, hended, hW, hsame⟩ := X29.leave (v := some (.int (1 : Int32))) (fun h => by rw [Bd.returns] at h; cases h)
      have hrun0 := k49 _ (retOut X29 hx Bd.returns (t := .boolean) rfl (Or.inl ⟨rfl, Or.inr (Or.inl rfl), _, rfl⟩) (hb hby at_89) hr)
      subst hE0
      refine ⟨_, _, hrun0, hrun, hended, _, _, rfl, ?_, ⟨_, rfl⟩, hW, hsame.mono (by decide) (by decide)⟩
      show Qrm0 Z p0 p1 p2 qm qM h0 n0 _ T25.heap _
      rw [e42]
      exact ⟨rfl, N44⟩
  · skip
    have k50 : own_G p e below E0 s₁ (mkF m 22 #[vi p0, vi p1, vi p2, vi (0 : Int32), uu, uu, uu, uu, uu, uu, uu] []) := by
      intro t kk
      refine k16 t ?_
      refine XS.ifYes X0.here hx rfl (pc0 := 3) (pc' := 10) rfl (hb hby at_3) rfl (own_if_neY c17) (by decide) (by decide) ?_
      refine XS.iconst X0.here hx rfl (hb hby at_10) ?_
      refine XS.istoreN X0.here hx rfl (hb hby at_11) rfl (l' := #[vi p0, vi p1, vi p2, vi (0 : Int32), uu, uu, uu, uu, uu, uu, uu]) rfl ?_
      refine XS.iloadN X0.here hx rfl (hb hby at_12) rfl ?_
      show Steps p.tables e below (s₁.setTop (mkF m 13 #[vi p0, vi p1, vi p2, vi (0 : Int32), uu, uu, uu, uu, uu, uu, uu] [(.int (0 : Int32))])) t
      refine XS.ifYes X0.here hx rfl (pc0 := 13) (pc' := 22) rfl (hb hby at_13) rfl (own_if_eqY (by decide)) (by decide) (by decide) ?_
      exact kk
    obtain ⟨T51, X52, e53, st54⟩ := getS X0 hx hZ hown (host := "") (tw9 hw) Via.refl e0 S2 (g := (mkF m 22 #[vi p0, vi p1, vi p2, vi (0 : Int32), uu, uu, uu, uu, uu, uu, uu] [])) rfl (hb hby at_22)
    have k55 : own_G p e below E0 T51 (mkF m 25 #[vi p0, vi p1, vi p2, vi (0 : Int32), uu, uu, uu, uu, uu, uu, uu] [(.ref qM)]) := fun t kk => k50 t (st54 _ kk)
    have k56 : own_G p e below E0 T51 (mkF m 41 #[vi p0, vi p1, vi p2, vi (0 : Int32), vr qM, vd (FP.i2d p1), ss, vd (FP.i2d p2), ss, uu, uu] [(.double (FP.i2d p2)), (.double (FP.i2d p1)), (.ref qM)]) := by
      intro t kk
      refine k55 t ?_
      refine XS.astore X52.here hx rfl (hb hby at_25) rfl rfl (l' := #[vi p0, vi p1, vi p2, vi (0 : Int32), vr qM, uu, uu, uu, uu, uu, uu]) rfl ?_
      refine XS.iloadN X52.here hx rfl (hb hby at_27) rfl ?_
      refine XS.i2dS X52.here hx rfl (hb hby at_28) rfl rfl ?_
      refine XS.dstore X52.here hx rfl (hb hby at_29) rfl (l' := #[vi p0, vi p1, vi p2, vi (0 : Int32), vr qM, vd (FP.i2d p1), ss, uu, uu, uu, uu]) rfl ?_
      show Steps p.tables e below (T51.setTop (mkF m 31 #[vi p0, vi p1, vi p2, vi (0 : Int32), vr qM, vd (FP.i2d p1), ss, uu, uu, uu, uu] [])) t
      refine XS.iloadN X52.here hx rfl (hb hby at_31) rfl ?_
      refine XS.i2dS X52.here hx rfl (hb hby at_32) rfl rfl ?_
      refine XS.dstore X52.here hx rfl (hb hby at_33) rfl (l' := #[vi p0, vi p1, vi p2, vi (0 : Int32), vr qM, vd (FP.i2d p1), ss, vd (FP.i2d p2), ss, uu, uu]) rfl ?_
      refine XS.aload X52.here hx rfl (hb hby at_35) rfl rfl ?_
      show Steps p.tables e below (T51.setTop (mkF m 37 #[vi p0, vi p1, vi p2, vi (0 : Int32), vr qM, vd (FP.i2d p1), ss, vd (FP.i2d p2), ss, uu, uu] [(.ref qM)])) t
      refine XS.dload X52.here hx rfl (hb hby at_37) rfl ?_
      refine XS.dload X52.here hx rfl (hb hby at_39) rfl ?_
      exact kk
    obtain ⟨cq68, kq69, qa70, qb71, qc72⟩ := isOf hZ e53 E2
    obtain ⟨_, _, ⟨T57, L58, kc59, nc60⟩, -, X61, ⟨Lc62, hQ63, l64, y65, z66⟩, st67⟩ := X52.virtualBack hx (y := mn0) (z := mn0) hown (mvT hZ (tw3 hw)) (mvT hZ (tw4 hw)) (notFace_of_selects (args := #[]) (mvT hZ (tw6 hw))) (mvT hZ (tw6 hw)) (mvT hZ (tw5 hw)) (by decide) (backOf (W := 0) (rm1 l Z a0 hw [] qM (FP.i2d p1) (FP.i2d p2) qm p1.toInt p2.toInt h0 n0 Z0 S1 (FP.Core.i2d_int p1) (FP.Core.i2d_int p2)) hZ (tw7 hw) (tw1 hw) (by decide) (by decide)) qa70 qc72 (g := (mkF m 41 #[vi p0, vi p1, vi p2, vi (0 : Int32), vr qM, vd (FP.i2d p1), ss, vd (FP.i2d p2), ss, uu, uu] [(.double (FP.i2d p2)), (.double (FP.i2d p1)), (.ref qM)])) rfl (by rw [hml]; rfl) (Steps.refl _) (argsL := [(.double (FP.i2d p1)), (.double (FP.i2d p2))]) (rest := []) (lenOf pd_2 rfl) rfl (by show 2 * 0 + _ ≤ _; exact Nat.le_of_eq rfl) (hb hby at_41) (fun _ _ => ⟨rfl, e53, (by decide : 0 + 0 ≤ _), (by decide : 0 + 0 ≤ _)⟩)
    dsimp only [Pt.U, Pt.locs, Pt.cells, Pt.slots] at X61 l64 y65 z66 st67 hQ63
    subst l64 y65 z66
    obtain ⟨rfl, N73, e74⟩ := hQ63
    have N76 := Fr.app N0 N73
    have k77 : own_G p e below E0 T57 (mkF m 44 #[vi p0, vi p1, vi p2, vi (0 : Int32), vr qM, vd (FP.i2d p1), ss, vd (FP.i2d p2), ss, uu, uu] [(.int (if qM = qm then (if p2.toInt < p1.toInt then (0 : Int32) else 1) else (if p1.toInt < p2.toInt then 0 else 1)))]) := fun t kk => k56 t (st67.trans kk)
    have k78 : own_G p e below E0 T57 (mkF m 67 #[vi p0, vi p1, vi p2, vi (0 : Int32), vr qM, vd (FP.i2d p1), ss, vd (FP.i2d p2), ss, vi (if qM = qm then (if p2.toInt < p1.toInt then (0 : Int32) else 1) else (if p1.toInt < p2.toInt then 0 else 1)), uu] [(.int p2), (.int p1)]) := by
      intro t kk
      refine k77 t ?_
      refine XS.istore X61.here hx rfl (hb hby at_44) rfl (l' := #[vi p0, vi p1, vi p2, vi (0 : Int32), vr qM, vd (FP.i2d p1), ss, vd (FP.i2d p2), ss, vi (if qM = qm then (if p2.toInt < p1.toInt then (0 : Int32) else 1) else (if p1.toInt < p2.toInt then 0 else 1)), uu]) rfl ?_
      refine XS.iloadN X61.here hx rfl (hb hby at_46) rfl ?_
      refine XS.ifYes X61.here hx rfl (pc0 := 47) (pc' := 65) rfl (hb hby at_47) rfl (own_if_eqY (by decide)) (by decide) (by decide) ?_
      refine XS.iloadN X61.here hx rfl (hb hby at_65) rfl ?_
      show Steps p.tables e below (T57.setTop (mkF m 66 #[vi p0, vi p1, vi p2, vi (0 : Int32), vr qM, vd (FP.i2d p1), ss, vd (FP.i2d p2), ss, vi (if qM = qm then (if p2.toInt < p1.toInt then (0 : Int32) else 1) else (if p1.toInt < p2.toInt then 0 else 1)), uu] [(.int p1)])) t
      refine XS.iloadN X61.here hx rfl (hb hby at_66) rfl ?_
      exact kk
    by_cases c79 : p1 < p2
    · skip
      have k80 : own_G p e below E0 T57 (mkF m 89 #[vi p0, vi p1, vi p2, vi (0 : Int32), vr qM, vd (FP.i2d p1), ss, vd (FP.i2d p2), ss, vi (if qM = qm then (if p2.toInt < p1.toInt then (0 : Int32) else 1) else (if p1.toInt < p2.toInt then 0 else 1)), vi (0 : Int32)] [(.int (1 : Int32))]) := by
        intro t kk
        refine k78 t ?_
        refine XS.icmpYes X61.here hx rfl (pc0 := 67) (pc' := 74) rfl (hb hby at_67) rfl (own_ic_ltY c79) (by decide) (by decide) ?_
        refine XS.iconst X61.here hx rfl (hb hby at_74) ?_
        refine XS.istore X61.here hx rfl (hb hby at_75) rfl (l' := #[vi p0, vi p1, vi p2, vi (0 : Int32), vr qM, vd (FP.i2d p1), ss, vd (FP.i2d p2), ss, vi (if qM = qm then (if p2.toInt < p1.toInt then (0 : Int32) else 1) else (if p1.toInt < p2.toInt then 0 else 1)), vi (0 : Int32)]) rfl ?_
        refine XS.iload X61.here hx rfl (hb hby at_77) rfl ?_
        show Steps p.tables e below (T57.setTop (mkF m 79 #[vi p0, vi p1, vi p2, vi (0 : Int32), vr qM, vd (FP.i2d p1), ss, vd (FP.i2d p2), ss, vi (if qM = qm then (if p2.toInt < p1.toInt then (0 : Int32) else 1) else (if p1.toInt < p2.toInt then 0 else 1)), vi (0 : Int32)] [(.int (if qM = qm then (if p2.toInt < p1.toInt then (0 : Int32) else 1) else (if p1.toInt < p2.toInt then 0 else 1)))])) t
        refine XS.iload X61.here hx rfl (hb hby at_79) rfl ?_
        refine XS.icmpNo X61.here hx rfl (hb hby at_81) rfl (own_ic_neN (by rw [if_neg ne1, if_pos (Int32.lt_iff_toInt_lt.mp c79)])) ?_
        refine XS.iconst X61.here hx rfl (hb hby at_84) ?_
        refine XS.goto X61.here hx rfl (pc0 := 85) (pc' := 89) rfl (hb hby at_85) (by decide) (by decide) ?_
        exact kk
      obtain ⟨fs, hr, hrun, hended, hW, hsame⟩ := X61.leave (v := some (.int (1 : Int32))) (fun h => by rw [Bd.returns] at h; cases h)
      have hrun0 := k80 _ (retOut X61 hx Bd.returns (t := .boolean) rfl (Or.inl ⟨rfl, Or.inr (Or.inl rfl), _, rfl⟩) (hb hby at_89) hr)
      subst hE0
      refine ⟨_, _, hrun0, hrun, hended, _, _, rfl, ?_, ⟨_, rfl⟩, hW, hsame.mono (by decide) (by decide)⟩
      show Qrm0 Z p0 p1 p2 qm qM h0 n0 _ T57.heap _
      rw [e74]
      exact ⟨rfl, N76⟩
    · skip
      have k81 : own_G p e below E0 T57 (mkF m 89 #[vi p0, vi p1, vi p2, vi (0 : Int32), vr qM, vd (FP.i2d p1), ss, vd (FP.i2d p2), ss, vi (if qM = qm then (if p2.toInt < p1.toInt then (0 : Int32) else 1) else (if p1.toInt < p2.toInt then 0 else 1)), vi (1 : Int32)] [(.int (1 : Int32))]) := by
        intro t kk
        refine k78 t ?_
        refine XS.icmpNo X61.here hx rfl (hb hby at_67) rfl (own_ic_ltN c79) ?_
        refine XS.iconst X61.here hx rfl (hb hby at_70) ?_
        refine XS.goto X61.here hx rfl (pc0 := 71) (pc' := 75) rfl (hb hby at_71) (by decide) (by decide) ?_
        refine XS.istore X61.here hx rfl (hb hby at_75) rfl (l' := #[vi p0, vi p1, vi p2, vi (0 : Int32), vr qM, vd (FP.i2d p1), ss, vd (FP.i2d p2), ss, vi (if qM = qm then (if p2.toInt < p1.toInt then (0 : Int32) else 1) else (if p1.toInt < p2.toInt then 0 else 1)), vi (1 : Int32)]) rfl ?_
        show Steps p.tables e below (T57.setTop (mkF m 77 #[vi p0, vi p1, vi p2, vi (0 : Int32), vr qM, vd (FP.i2d p1), ss, vd (FP.i2d p2), ss, vi (if qM = qm then (if p2.toInt < p1.toInt then (0 : Int32) else 1) else (if p1.toInt < p2.toInt then 0 else 1)), vi (1 : Int32)] [])) t
        refine XS.iload X61.here hx rfl (hb hby at_77) rfl ?_
        refine XS.iload X61.here hx rfl (hb hby at_79) rfl ?_
        refine XS.icmpNo X61.here hx rfl (hb hby at_81) rfl (own_ic_neN (by rw [if_neg ne1, if_neg (fun z => c79 (Int32.lt_iff_toInt_lt.mpr z))])) ?_
        refine XS.iconst X61.here hx rfl (hb hby at_84) ?_
        show Steps p.tables e below (T57.setTop (mkF m 85 #[vi p0, vi p1, vi p2, vi (0 : Int32), vr qM, vd (FP.i2d p1), ss, vd (FP.i2d p2), ss, vi (if qM = qm then (if p2.toInt < p1.toInt then (0 : Int32) else 1) else (if p1.toInt < p2.toInt then 0 else 1)), vi (1 : Int32)] [(.int (1 : Int32))])) t
        refine XS.goto X61.here hx rfl (pc0 := 85) (pc' := 89) rfl (hb hby at_85) (by decide) (by decide) ?_
        exact kk
      obtain ⟨fs, hr, hrun, hended, hW, hsame⟩ := X61.leave (v := some (.int (1 : Int32))) (fun h => by rw [Bd.returns] at h; cases h)
      have hrun0 := k81 _ (retOut X61 hx Bd.returns (t := .boolean) rfl (Or.inl ⟨rfl, Or.inr (Or.inl rfl), _, rfl⟩) (hb hby at_89) hr)
      subst hE0
      refine ⟨_, _, hrun0, hrun, hended, _, _, rfl, ?_, ⟨_, rfl⟩, hW, hsame.mono (by decide) (by decide)⟩
      show Qrm0 Z p0 p1 p2 qm qM h0 n0 _ T57.heap _
      rw [e74]
      exact ⟨rfl, N76⟩
def tw2 {Z : State} {a0 : Array Value} (hw : ∀ d ∈ tables_1, d.before a0 Z = true) := hw _ (List.mem_of_getElem? (i := 2) rfl)
def tw10 {Z : State} {a0 : Array Value} (hw : ∀ d ∈ tables_1, d.before a0 Z = true) := hw _ (List.mem_of_getElem? (i := 10) rfl)
set_option maxRecDepth 65536 in
set_option maxHeartbeats 40000000 in
theorem comes_1 {Post : Tables → Env → Array Value → State → Outcome → State → Prop} (hpost : ∀ tb e args s v u, (limb_1_1.after args s (.returned v) u = true ∧ limb_1_2.after args s (.returned v) u = true ∧ True) → FrameEnd s (.returned v) u (Jvm.fieldLocs frame_1_writes args s ++ Jvm.arrayLocs frame_1_arrays args s ++ Jvm.staticLocs frame_1_statics s) 0 0 → Post tb e args s (.returned v) u) :
    ArmFor flags0 classFile x code maxLocals ret World_1 tables_1 room_1 Calls_1 rest_1 Pre_1 Post := by
  intro l hfl _ _ p e ha hc hk s m args below hf hA hF happ hP
  obtain ⟨hcalls, hrest, hpre⟩ := hP
  obtain ⟨-, -, -, hnamed, -, -, -, hat⟩ := (Spec.applies_iff hf).mp happ
  obtain ⟨hg, hn⟩ := and_e (Cond.before_iff.mp (show (Jvm.Cond.and given_1 narrow_1).before args s = true from hpre))
  obtain ⟨hct, hr0⟩ := and_e hg
  obtain ⟨ha0, hr1⟩ := and_e hr0
  obtain ⟨ha1, hr2⟩ := and_e hr1
  obtain ⟨w0, w1, w2, rfl⟩ : ∃ w0 w1 w2 : Value, args = #[w0, w1, w2] := by
    have hs : args.size = 3 := by simpa [Cond.value, given_1] using hct
    obtain ⟨L⟩ := args
    match L, hs with
    | [w0, w1, w2], _ => exact ⟨w0, w1, w2, rfl⟩
  have hw := fun d (hd : d ∈ tables_1) => atoms_spec (ws := Jvm.Cond.code x code maxLocals ret :: tables_1) hat d (List.mem_cons_of_mem _ hd)
  have hfit : Fit s := fun {y c} hc i hi => by
    obtain ⟨ha, rfl⟩ := Array.getElem?_eq_some_iff.mp hc
    have q := List.all_eq_true.mp ((Array.all_eq_true_iff_forall_mem.mp hF) _ (Array.getElem_mem ha)) i (List.mem_range.mpr hi)
    simpa [Array.getElem?_eq_getElem hi] using q
  obtain ⟨i0, ev0⟩ := is_v ha0
  obtain rfl : w0 = (.int i0) := Option.some.inj ev0
  obtain ⟨i1, ev1⟩ := is_v ha1
  obtain rfl : w1 = (.int i1) := Option.some.inj ev1
  obtain ⟨i2, ev2⟩ := is_v hr2
  obtain rfl : w2 = (.int i2) := Option.some.inj ev2
  obtain ⟨n1, n2⟩ := and_e hn
  obtain ⟨n3, n4⟩ := and_e n2
  obtain ⟨n5, n6⟩ := and_e n4
  obtain ⟨qm, em⟩ := exa_v n1
  obtain ⟨qM, eM⟩ := exa_v n3
  have hne : qM ≠ qm := fun q => by
    have r := (own_ord eM n5).symm.trans (q ▸ own_ord em n6)
    exact absurd (Value.int.inj (Option.some.inj r)) (by decide)
  obtain ⟨n, o, h1, h2, h3, _, L, rfl, ⟨rfl, N⟩, hq⟩ := rm0 l s _ hw tables_1 i0 i1 i2 qm qM s.heap s.heap.size (Nat.le_refl _) (Sta.start em (Or.inr ⟨(tw1 hw), (tw2 hw)⟩)) (Sta.start eM (Or.inr ⟨(tw1 hw), (tw10 hw)⟩)) (Exa.start em n1) (Exa.start eM n3) hne p e ha hc hk s m _ below hf ((Spec.applies_iff_loose hf).mp happ).1 ⟨rfl, State.Warmed39.refl s, rfl⟩ trivial
  refine ⟨n, _, h1, h2, h3, hpost _ _ _ _ _ _ ⟨Cond.after_iff.mpr rfl, Cond.after_iff.mpr (eq_i res_at (Term.int_eval (1)) rfl), trivial⟩ ⟨hq.1, hq.2.1, (hq.2.2.sift fun y hy => Or.inr (N y hy)).mono (by decide) (by decide)⟩⟩
theorem main_1_1 : Claimed_1_1 := comes_1 fun _ _ _ _ _ _ h hF => ⟨h.1, hF⟩
theorem main_1_2 : Claimed_1_2 := comes_1 fun _ _ _ _ _ _ h hF => ⟨h.2.1, hF⟩
end Jvm.Pilot.@@N@@
namespace Jvm.Pilot.@@N@@
open Jvm Jvm.ClassFile Sem Op Lib Jvm.Free Jvm.Stand Jvm.Pilot.@@N@@.Jvm.D
/-! MADE BY PROGRAM (witnessworld.py) out of the Statement's table words and the real class files: 12 classes; the members and pool entries that the words name. The judged class is class 1, her method 1. -/
namespace start1
open Jvm.ClassFile
def u (s : String) : CpInfo := .utf8 (stringToUtf16 s)
/-- a pool by its gaps: so many unusable entries, then the entry; so many at the end -/
def gap : Nat → List CpInfo → List CpInfo
  | 0, r => r
  | n + 1, r => .unusable :: gap n r
def poolList (es : List (Nat × CpInfo)) (last : Nat) : List CpInfo := es.foldr (fun e r => gap e.1 (e.2 :: r)) (gap last [])
def pool (es : List (Nat × CpInfo)) (last : Nat) : Array CpInfo := ⟨poolList es last⟩
def fileOf (pool : Array CpInfo) (this : Nat) (attrs : Array Attribute := #[]) (ms : Array MethodInfo := #[]) (fl : Nat := 33) (sup : Nat := 0) (ifs : Array Nat := #[]) (fds : Array FieldInfo := #[]) : ClassFile where
  minorVersion := 0
  majorVersion := 65
  constantPool := pool
  accessFlags := fl
  thisClass := this
  superClass := sup
  interfaces := ifs
  fields := fds
  methods := ms
  attributes := attrs
def plain (name : String) (sup : Option ClassId) : Class where
  name := name
  kind := .ordinary
  loader := none
  accessFlags := 33
  super := sup
  interfaces := #[]
  cf := none
  fields := #[]
  methods := #[]
  instanceTypes := #[]
  staticTypes := #[]
  resolved := #[]
  callSites := []
  init := .initialized
  statics := none
  mirror := none

def pool0 : Array CpInfo := pool [(5, u "<init>"), (0, u "()V"), (1, .class_ 10), (1, u "java/lang/Object")] 113

def k0m0 : Method := { name := "<init>", desc := "()V", sig := { parameters := [], returnType := none }, accessFlags := 1, code := none }
/-- java/lang/Object -/
def k0 : Class := { plain "java/lang/Object" none with
  accessFlags := 33
  interfaces := #[]
  cf := some (fileOf pool0 8 #[] #[{ accessFlags := 1, nameIndex := 5, descriptorIndex := 6, attributes := #[] }] 33 0 #[] #[])
  fields := #[]
  methods := #[k0m0]
  instanceTypes := #[]
  staticTypes := #[]
  resolved := Array.replicate 124 none
  statics := none }

def pool1 : Array CpInfo := pool [(2, .class_ 4), (1, u "java/lang/Object"), (0, u "<init>"), (0, u "()V"), (0, .fieldref 8 9), (0, .class_ 10), (0, .nameAndType 11 12), (0, u "com/example/sumbound/sumbound/algebra/Extremum"), (0, u "MIN"), (0, u "Lcom/example/sumbound/sumbound/algebra/Extremum;"), (0, .fieldref 8 14), (0, .nameAndType 15 12), (0, u "MAX"), (0, .methodref 8 17), (0, .nameAndType 18 19), (0, u "atLeastAsGood"), (0, u "(DD)Z"), (0, .class_ 21), (0, u "com/example/sumbound/sumbound/algebra/ExtremumAtLeastAsGoodPinLaw"), (2, u "law"), (0, u "(III)Z")] 3

def k1m0 : Method := { name := "<init>", desc := "()V", sig := { parameters := [], returnType := none }, accessFlags := 1, code := none }
def k1c1 : Code := { maxStack := 5, maxLocals := 11, code := code, exceptionTable := #[], attributes := #[] }
def k1m1 : Method := { name := "law", desc := "(III)Z", sig := { parameters := [.int, .int, .int], returnType := some .boolean }, accessFlags := 9, code := some k1c1 }
/-- com/example/sumbound/sumbound/algebra/ExtremumAtLeastAsGoodPinLaw -/
def k1 : Class := { plain "com/example/sumbound/sumbound/algebra/ExtremumAtLeastAsGoodPinLaw" (some 0) with
  accessFlags := 49
  interfaces := #[]
  cf := some (fileOf pool1 20 #[] #[{ accessFlags := 1, nameIndex := 5, descriptorIndex := 6, attributes := #[] }, { accessFlags := 9, nameIndex := 24, descriptorIndex := 25, attributes := #[] }] 49 2 #[] #[])
  fields := #[]
  methods := #[k1m0, k1m1]
  instanceTypes := #[]
  staticTypes := #[]
  resolved := Array.replicate 29 none
  statics := none }

def pool2 : Array CpInfo := pool [(1, .class_ 2), (0, u "java/lang/constant/Constable"), (0, .class_ 4), (0, u "java/lang/Object")] 6

/-- java/lang/constant/Constable -/
def k2 : Class := { plain "java/lang/constant/Constable" (some 0) with
  accessFlags := 1537
  interfaces := #[]
  cf := some (fileOf pool2 1 #[] #[] 1537 3 #[] #[])
  fields := #[]
  methods := #[]
  instanceTypes := #[]
  staticTypes := #[]
  resolved := Array.replicate 11 none
  statics := none }

def pool3 : Array CpInfo := pool [(1, .class_ 2), (0, u "java/lang/Comparable"), (0, .class_ 4), (0, u "java/lang/Object")] 7

/-- java/lang/Comparable -/
def k3 : Class := { plain "java/lang/Comparable" (some 0) with
  accessFlags := 1537
  interfaces := #[]
  cf := some (fileOf pool3 1 #[] #[] 1537 3 #[] #[])
  fields := #[]
  methods := #[]
  instanceTypes := #[]
  staticTypes := #[]
  resolved := Array.replicate 12 none
  statics := none }

def pool4 : Array CpInfo := pool [(1, .class_ 2), (0, u "java/io/Serializable"), (0, .class_ 4), (0, u "java/lang/Object")] 2

/-- java/io/Serializable -/
def k4 : Class := { plain "java/io/Serializable" (some 0) with
  accessFlags := 1537
  interfaces := #[]
  cf := some (fileOf pool4 1 #[] #[] 1537 3 #[] #[])
  fields := #[]
  methods := #[]
  instanceTypes := #[]
  staticTypes := #[]
  resolved := Array.replicate 7 none
  statics := none }

def pool5 : Array CpInfo := pool [(2, .class_ 4), (1, u "java/lang/Enum"), (0, u "name"), (0, u "Ljava/lang/String;"), (2, u "ordinal"), (0, u "I"), (1, .class_ 14), (1, u "java/lang/Object"), (4, u "hash"), (86, .class_ 108), (1, u "java/lang/Enum$EnumDesc"), (2, .class_ 112), (0, u "java/lang/constant/Constable"), (0, .class_ 114), (0, u "java/lang/Comparable"), (0, .class_ 116), (0, u "java/io/Serializable")] 87

/-- java/lang/Enum -/
def k5 : Class := { plain "java/lang/Enum" (some 0) with
  accessFlags := 1057
  interfaces := #[2, 3, 4]
  cf := some (fileOf pool5 2 #[.nestMembers #[106]] #[] 1057 12 #[111, 113, 115] #[{ accessFlags := 18, nameIndex := 5, descriptorIndex := 6, attributes := #[] }, { accessFlags := 18, nameIndex := 9, descriptorIndex := 10, attributes := #[] }, { accessFlags := 2, nameIndex := 19, descriptorIndex := 10, attributes := #[] }])
  fields := #[{ name := "name", type := (.object "java/lang/String"), accessFlags := 18, slot := 0, constantValue := 0 }, { name := "ordinal", type := .int, accessFlags := 18, slot := 1, constantValue := 0 }, { name := "hash", type := .int, accessFlags := 2, slot := 2, constantValue := 0 }]
  methods := #[]
  instanceTypes := #[(.object "java/lang/String"), .int, .int]
  staticTypes := #[]
  resolved := Array.replicate 204 none
  statics := none }

def pool6 : Array CpInfo := pool [(1, .class_ 2), (0, u "com/example/sumbound/sumbound/algebra/Extremum"), (0, .fieldref 1 4), (0, .nameAndType 5 6), (0, u "MIN"), (0, u "Lcom/example/sumbound/sumbound/algebra/Extremum;"), (2, u "MAX"), (2, u "$VALUES"), (0, u "[Lcom/example/sumbound/sumbound/algebra/Extremum;"), (6, .class_ 22), (1, u "java/lang/Enum"), (23, u "atLeastAsGood"), (0, u "(DD)Z")] 6

def k6c0 : Code := { maxStack := 4, maxLocals := 5, code := prog_2_method_5_code, exceptionTable := #[], attributes := #[] }
def k6m0 : Method := { name := "atLeastAsGood", desc := "(DD)Z", sig := { parameters := [.double, .double], returnType := some .boolean }, accessFlags := 0, code := some k6c0 }
/-- com/example/sumbound/sumbound/algebra/Extremum -/
def k6 : Class := { plain "com/example/sumbound/sumbound/algebra/Extremum" (some 5) with
  accessFlags := 16433
  interfaces := #[]
  cf := some (fileOf pool6 1 #[] #[{ accessFlags := 0, nameIndex := 46, descriptorIndex := 47, attributes := #[] }] 16433 20 #[] #[{ accessFlags := 16409, nameIndex := 5, descriptorIndex := 6, attributes := #[] }, { accessFlags := 16409, nameIndex := 9, descriptorIndex := 6, attributes := #[] }, { accessFlags := 4122, nameIndex := 12, descriptorIndex := 13, attributes := #[] }])
  fields := #[{ name := "MIN", type := (.object "com/example/sumbound/sumbound/algebra/Extremum"), accessFlags := 16409, slot := 0, constantValue := 0 }, { name := "MAX", type := (.object "com/example/sumbound/sumbound/algebra/Extremum"), accessFlags := 16409, slot := 1, constantValue := 0 }, { name := "$VALUES", type := (.array (.object "com/example/sumbound/sumbound/algebra/Extremum")), accessFlags := 4122, slot := 2, constantValue := 0 }]
  methods := #[k6m0]
  instanceTypes := #[(.object "java/lang/String"), .int, .int]
  staticTypes := #[(.object "com/example/sumbound/sumbound/algebra/Extremum"), (.object "com/example/sumbound/sumbound/algebra/Extremum"), (.array (.object "com/example/sumbound/sumbound/algebra/Extremum"))]
  resolved := Array.replicate 54 none
  statics := some 0 }

def pool7 : Array CpInfo := pool [(1, u "java/lang/Cloneable"), (0, .class_ 1), (0, u "java/lang/Object"), (0, .class_ 3)] 3

/-- java/lang/Cloneable -/
def k7 : Class := { plain "java/lang/Cloneable" (some 0) with
  accessFlags := 1537
  interfaces := #[]
  cf := some (fileOf pool7 2 #[] #[] 1537 4 #[] #[])
  fields := #[]
  methods := #[]
  instanceTypes := #[]
  staticTypes := #[]
  resolved := Array.replicate 8 none
  statics := none }

/-- the primitive byte -/
def k8 : Class := { plain "byte" none with kind := .primitive 'B', accessFlags := 0x411 }
/-- [B -/
def k9 : Class := { plain "[B" (some 0) with kind := .array 8 .byte, interfaces := #[7, 4], accessFlags := 1041 }

/-- the primitive int -/
def k10 : Class := { plain "int" none with kind := .primitive 'I', accessFlags := 0x411 }
/-- [I -/
def k11 : Class := { plain "[I" (some 0) with kind := .array 10 .int, interfaces := #[7, 4], accessFlags := 1041 }

def heap : Heap := #[{ cls := 6, slots := #[.ref 1, .ref 2, .null], vm := .statics 6 },
  { cls := 6, slots := #[.null, .int 0, .int 0], vm := .none },
  { cls := 6, slots := #[.null, .int 1, .int 0], vm := .none }]
def classes : Array Class := #[k0, k1, k2, k3, k4, k5, k6, k7, k8, k9, k10, k11]
def interned : List (Array UInt16 × Addr) := []
def slotsUsed : Nat := 9
def theMethod : MethodId := ⟨1, 1⟩
def args0 : Array Value := #[.int 5, .int 3, .int 4]
def aboutOver (below : List Frame) : State where
  vm := { classes := classes, interned := interned.toArray }
  heap := heap
  slotsUsed := slotsUsed
  threads := #[{ frames := .invoking theMethod args0 :: below }]
def below0 : List Frame := [.native { method := ⟨0, 0⟩, args := #[] }]
def about1 : State := aboutOver below0
def p0 : Program := .bare "" "" ""
def e0 : Env := launch0.env 0 0 0
theorem w_frames : about1.frames = Frame.invoking theMethod args0 :: below0 := rfl
set_option maxRecDepth 65536 in
theorem w_args : argsFit about1.vm theMethod args0 = true := by decide +kernel
set_option maxRecDepth 65536 in
theorem w_heap : heapFits about1 = true := by decide +kernel
set_option maxRecDepth 65536 in
theorem w_runnable : about1.curStatus? = some .runnable := by decide +kernel
set_option maxRecDepth 65536 in
theorem w_alone : about1.alone = true := by decide +kernel
set_option maxRecDepth 65536 in
theorem w_named : about1.methodNamed? x = some theMethod := by decide +kernel
set_option maxRecDepth 65536 in
theorem w_hears : about1.hears theMethod below0 = true := by decide +kernel
set_option maxRecDepth 65536 in
theorem w_ripe : about1.ripe theMethod args0 below0 = true := by decide +kernel
theorem w_running : about1.status = .running := rfl
set_option maxRecDepth 65536 in
theorem w_room : about1.hasRoom e0.platform room_1 = true :=
  launch0.hasRoom_least _ room_1 (by decide +kernel) (by decide +kernel) (by decide +kernel) (by decide +kernel) (by decide +kernel) (by decide +kernel)
theorem allAtoms_all (ts : List Jvm.Cond) (a : Array Jvm.Value) (st : Jvm.State) : (allAtoms ts).before a st = ts.all (fun c => c.before a st) := by
  induction ts with
  | nil => rfl
  | cons c t ih =>
    show (Jvm.Cond.and c (allAtoms t)).before a st = _
    rw [Jvm.Cond.before_and, ih, List.all_cons]
def words1 : List Jvm.Cond := Jvm.Cond.code x code maxLocals ret :: tables_1
/-- a 'code' word, met by the world's own term for the bytes: nothing is compared byte by byte -/
theorem code_word {y : MethodName} {bytes : ByteArray} {mx : Nat} {rt : Option FieldType} {a : Array Value} {s : State} {m : MethodId} {meth : Method} {c : Code} (h1 : s.methodNamed? y = some m) (h2 : s.vm.method? m = some meth) (h3 : meth.code = some c) (h4 : c.code = bytes)
    (h5 : (c.maxLocals == mx && c.exceptionTable.isEmpty && decide (c.maxStack ≤ mostOperands) && decide (meth.sig.returnType = rt) && !meth.locks && decide (parseMethodDescriptor y.desc = some meth.sig)) = true) : (Jvm.Cond.code y bytes mx rt).before a s = true := by
  simp only [Bool.and_eq_true, beq_iff_eq, Bool.not_eq_true', decide_eq_true_eq] at h5
  obtain ⟨⟨⟨⟨⟨g1, g2⟩, g3⟩, g4⟩, g5⟩, g6⟩ := h5
  simp [Cond.before, Cond.holds, Cond.value, h1, h2, h3, h4, g1, g2, g3, g4, g5, g6]
def isCode : Jvm.Cond → Bool
  | .code _ _ _ _ => true
  | _ => false
theorem all_split {L : List Jvm.Cond} {P : Jvm.Cond → Bool} (h1 : L.all (fun c => isCode c || P c) = true) (h2 : ∀ c ∈ L.filter isCode, P c = true) : L.all P = true := by
  refine List.all_eq_true.mpr fun c hc => ?_
  have h := List.all_eq_true.mp h1 c hc
  rcases Bool.eq_false_or_eq_true (isCode c) with hi | hi
  · exact h2 c (List.mem_filter.mpr ⟨hc, hi⟩)
  · simpa [hi] using h
set_option maxRecDepth 65536 in
theorem w_c0 : (Jvm.Cond.code x code maxLocals ret).before args0 about1 = true := code_word (m := ⟨1, 1⟩) (meth := k1m1) (c := k1c1) (by decide +kernel) rfl rfl rfl (by decide +kernel)
set_option maxRecDepth 65536 in
theorem w_c1 : (Jvm.Cond.code ({ cls := "com/example/sumbound/sumbound/algebra/Extremum", name := "atLeastAsGood", desc := "(DD)Z" } : Jvm.MethodName) prog_2_method_5_code (5 : Nat) (Option.some Jvm.ClassFile.FieldType.boolean)).before args0 about1 = true := code_word (m := ⟨6, 0⟩) (meth := k6m0) (c := k6c0) (by decide +kernel) rfl rfl rfl (by decide +kernel)
def codes1 : List Jvm.Cond := [Jvm.Cond.code x code maxLocals ret, Jvm.Cond.code ({ cls := "com/example/sumbound/sumbound/algebra/Extremum", name := "atLeastAsGood", desc := "(DD)Z" } : Jvm.MethodName) prog_2_method_5_code (5 : Nat) (Option.some Jvm.ClassFile.FieldType.boolean)]
set_option maxRecDepth 65536 in
theorem codes_eq : words1.filter isCode = codes1 := rfl
theorem w_codes : ∀ c ∈ words1.filter isCode, c.before args0 about1 = true := by
  rw [codes_eq]
  intro c hc
  simp only [codes1, List.mem_cons, List.not_mem_nil, or_false] at hc
  rcases hc with rfl | rfl
  · exact w_c0
  · exact w_c1
set_option maxRecDepth 65536 in
theorem w_t1 : words1.all (fun c => isCode c || c.before args0 about1) = true := by decide +kernel
theorem w_tables : (allAtoms (Jvm.Cond.code x code maxLocals ret :: tables_1)).before args0 about1 = true := by
  rw [allAtoms_all]
  show words1.all (fun c => c.before args0 about1) = true
  refine all_split ?_ w_codes
  rw [w_t1]
set_option maxRecDepth 65536 in
theorem w_case : (Jvm.Cond.and given_1 narrow_1).before args0 about1 = true := by decide +kernel
theorem w_applies : (headSpec (Jvm.Cond.code x code maxLocals ret :: tables_1) room_1).applies x e0.platform about1 = true :=
  (Spec.applies_iff w_frames).mpr ⟨w_running, w_runnable, w_alone, w_named, w_hears, w_ripe, w_room, w_tables⟩
theorem atStart : AtStart classFile x code maxLocals ret World_1 tables_1 room_1 Calls_1 rest_1 Pre_1 launch0 p0 e0 about1 theMethod args0 below0 :=
  ⟨lists_1, trivial, launch0.admits_env _ _ _, launch0.least_env, fairChoices_fair.cas, fairChoices_fair.clock, w_frames, w_args, w_heap, w_applies, trivial, trivial, w_case⟩
end start1
theorem witness_1 : WitnessClaimed_1 := ⟨start1.p0, start1.e0, start1.about1, start1.theMethod, start1.args0, start1.below0, start1.atStart⟩
end Jvm.Pilot.@@N@@
