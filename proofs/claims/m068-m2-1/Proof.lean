import JvmDerived
import JvmDerived.Pilot.@@N@@Statement
import JvmDerived.Pilot.@@N@@Code
set_option linter.unusedVariables false
set_option linter.unusedSimpArgs false
@@BLOCK:NumsL.lean.txt@@
namespace Jvm.Pilot.@@N@@
open Jvm Jvm.ClassFile Sem Op Lib Jvm.Free Jvm.Stand Jvm.LawKit Jvm.RoadKit Bundle Jvm.Pilot.@@N@@.Jvm.D
open Jvm.Free.Fl (NoNaN64 Fin64 Nz64)
abbrev uu : Slot := .unset
abbrev ss : Slot := .second
abbrev vi (x : Int32) : Slot := .val (.int x)
abbrev vj (x : Int64) : Slot := .val (.long x)
abbrev vd (x : UInt64) : Slot := .val (.double x)
abbrev vr (x : Addr) : Slot := .val (.ref x)
/-- whatever is reached from here is reached from E -/
abbrev own_G (p : Program) (e : Env) (below : List Frame) (E T : State) (g : JFrame) : Prop := ∀ t, Steps p.tables e below (T.setTop g) t → Steps p.tables e below E t
theorem own_if_eqY {x : Int32} (h : x = 0) : ifCond.holds .eq x = true := by subst h; rfl
theorem own_if_eqN {x : Int32} (h : ¬ x = 0) : ifCond.holds .eq x = false := beq_false_of_ne h
theorem own_if_neY {x : Int32} (h : ¬ x = 0) : ifCond.holds .ne x = true := bne_iff_ne.mpr h
theorem own_if_neN {x : Int32} (h : x = 0) : ifCond.holds .ne x = false := by subst h; rfl
theorem own_if_ltY {x : Int32} (h : x < 0) : ifCond.holds .lt x = true := decide_eq_true h
theorem own_if_ltN {x : Int32} (h : ¬ x < 0) : ifCond.holds .lt x = false := decide_eq_false h
theorem own_if_geY {x : Int32} (h : ¬ x < 0) : ifCond.holds .ge x = true := decide_eq_true (Int32.not_lt.mp h)
theorem own_if_geN {x : Int32} (h : x < 0) : ifCond.holds .ge x = false := decide_eq_false (fun q => Int32.not_le.mpr h q)
theorem own_if_gtY {x : Int32} (h : 0 < x) : ifCond.holds .gt x = true := decide_eq_true h
theorem own_if_gtN {x : Int32} (h : ¬ 0 < x) : ifCond.holds .gt x = false := decide_eq_false h
theorem own_if_leY {x : Int32} (h : ¬ 0 < x) : ifCond.holds .le x = true := decide_eq_true (Int32.not_lt.mp h)
theorem own_if_leN {x : Int32} (h : 0 < x) : ifCond.holds .le x = false := decide_eq_false (fun q => Int32.not_le.mpr h q)
theorem own_ic_eqY {x y : Int32} (h : x = y) : if_icmp.holds .eq x y = true := beq_iff_eq.mpr h
theorem own_ic_eqN {x y : Int32} (h : ¬ x = y) : if_icmp.holds .eq x y = false := beq_false_of_ne h
theorem own_ic_neY {x y : Int32} (h : ¬ x = y) : if_icmp.holds .ne x y = true := bne_iff_ne.mpr h
theorem own_ic_neN {x y : Int32} (h : x = y) : if_icmp.holds .ne x y = false := by subst h; exact bne_self_eq_false x
theorem own_ic_ltY {x y : Int32} (h : x < y) : if_icmp.holds .lt x y = true := decide_eq_true h
theorem own_ic_ltN {x y : Int32} (h : ¬ x < y) : if_icmp.holds .lt x y = false := decide_eq_false h
theorem own_ic_geY {x y : Int32} (h : ¬ x < y) : if_icmp.holds .ge x y = true := decide_eq_true (Int32.not_lt.mp h)
theorem own_ic_geN {x y : Int32} (h : x < y) : if_icmp.holds .ge x y = false := decide_eq_false (fun q => Int32.not_le.mpr h q)
theorem own_ic_gtY {x y : Int32} (h : y < x) : if_icmp.holds .gt x y = true := decide_eq_true h
theorem own_ic_gtN {x y : Int32} (h : ¬ y < x) : if_icmp.holds .gt x y = false := decide_eq_false h
theorem own_ic_leY {x y : Int32} (h : ¬ y < x) : if_icmp.holds .le x y = true := decide_eq_true (Int32.not_lt.mp h)
theorem own_ic_leN {x y : Int32} (h : y < x) : if_icmp.holds .le x y = false := decide_eq_false (fun q => Int32.not_le.mpr h q)
/-- what a comparison of two whole or scaled values pushes -/
def own_c (i j : Int) : Int32 := if i < j then -1 else if i = j then 0 else 1
theorem own_cE (o : CmpOp) {x y : UInt64} {i j : Int} (h : FP.dcmp x y = some (compare i j)) : cmpValue (FP.dcmp x y) o = own_c i j := by
  rw [h, FP.Core.compare_ite, own_c]
  by_cases h1 : i < j
  · rw [if_pos h1, if_pos h1]; cases o <;> rfl
  · rw [if_neg h1, if_neg h1]
    by_cases h2 : i = j
    · rw [if_pos h2, if_pos h2]; cases o <;> rfl
    · rw [if_neg h2, if_neg h2]; cases o <;> rfl
theorem own_c_lt {i j : Int} (h : i < j) : own_c i j = -1 := by rw [own_c, if_pos h]
theorem own_c_eq {i j : Int} (h : i = j) : own_c i j = 0 := by rw [own_c, if_neg (by omega), if_pos h]
theorem own_c_gt {i j : Int} (h : j < i) : own_c i j = 1 := by rw [own_c, if_neg (by omega), if_neg (by omega)]
theorem own_c_cases (i j : Int) : (i < j ∧ own_c i j = -1) ∨ (i = j ∧ own_c i j = 0) ∨ (j < i ∧ own_c i j = 1) := by
  rcases Int.lt_trichotomy i j with h | h | h
  · exact Or.inl ⟨h, own_c_lt h⟩
  · exact Or.inr (Or.inl ⟨h, own_c_eq h⟩)
  · exact Or.inr (Or.inr ⟨h, own_c_gt h⟩)
theorem own_c_ltY {i j : Int} (h : i < j) : ifCond.holds .lt (own_c i j) = true := by rw [own_c_lt h]; rfl
theorem own_c_ltN {i j : Int} (h : ¬ i < j) : ifCond.holds .lt (own_c i j) = false := by rcases own_c_cases i j with q | q | q <;> first | exact absurd q.1 h | (rw [q.2]; rfl)
theorem own_c_geY {i j : Int} (h : ¬ i < j) : ifCond.holds .ge (own_c i j) = true := by rcases own_c_cases i j with q | q | q <;> first | exact absurd q.1 h | (rw [q.2]; rfl)
theorem own_c_geN {i j : Int} (h : i < j) : ifCond.holds .ge (own_c i j) = false := by rw [own_c_lt h]; rfl
theorem own_c_gtY {i j : Int} (h : j < i) : ifCond.holds .gt (own_c i j) = true := by rw [own_c_gt h]; rfl
theorem own_c_gtN {i j : Int} (h : ¬ j < i) : ifCond.holds .gt (own_c i j) = false := by rcases own_c_cases i j with q | q | q <;> first | exact absurd q.1 h | (rw [q.2]; rfl)
theorem own_c_leY {i j : Int} (h : ¬ j < i) : ifCond.holds .le (own_c i j) = true := by rcases own_c_cases i j with q | q | q <;> first | exact absurd q.1 h | (rw [q.2]; rfl)
theorem own_c_leN {i j : Int} (h : j < i) : ifCond.holds .le (own_c i j) = false := by rw [own_c_gt h]; rfl
theorem own_c_eqY {i j : Int} (h : i = j) : ifCond.holds .eq (own_c i j) = true := by rw [own_c_eq h]; rfl
theorem own_c_eqN {i j : Int} (h : ¬ i = j) : ifCond.holds .eq (own_c i j) = false := by rcases own_c_cases i j with q | q | q <;> first | exact absurd q.1 h | (rw [q.2]; rfl)
theorem own_c_neY {i j : Int} (h : ¬ i = j) : ifCond.holds .ne (own_c i j) = true := by rcases own_c_cases i j with q | q | q <;> first | exact absurd q.1 h | (rw [q.2]; rfl)
theorem own_c_neN {i j : Int} (h : i = j) : ifCond.holds .ne (own_c i j) = false := by rw [own_c_eq h]; rfl
theorem own_l_lt {i j : Int64} (h : i < j) : XT.cmpL i j = -1 := by
  rw [XT.cmpL, if_neg (fun q => Int64.lt_irrefl (Int64.lt_trans h q)), if_neg (fun q => Int64.lt_irrefl (q ▸ h))]
theorem own_l_eq {i j : Int64} (h : i = j) : XT.cmpL i j = 0 := by subst h; rw [XT.cmpL, if_neg Int64.lt_irrefl, if_pos rfl]
theorem own_l_gt {i j : Int64} (h : j < i) : XT.cmpL i j = 1 := by rw [XT.cmpL, if_pos h]
theorem own_l_cases (i j : Int64) : (i < j ∧ XT.cmpL i j = -1) ∨ (i = j ∧ XT.cmpL i j = 0) ∨ (j < i ∧ XT.cmpL i j = 1) := by
  by_cases h : i < j
  · exact Or.inl ⟨h, own_l_lt h⟩
  · by_cases h2 : i = j
    · exact Or.inr (Or.inl ⟨h2, own_l_eq h2⟩)
    · have h3 : j < i := by
        rw [Int64.lt_iff_toInt_lt] at h ⊢
        have h4 : i.toInt ≠ j.toInt := fun q => h2 (Int64.toInt_inj.mp q)
        omega
      exact Or.inr (Or.inr ⟨h3, own_l_gt h3⟩)
theorem own_l_ltY {i j : Int64} (h : i < j) : ifCond.holds .lt (XT.cmpL i j) = true := by rw [own_l_lt h]; rfl
theorem own_l_ltN {i j : Int64} (h : ¬ i < j) : ifCond.holds .lt (XT.cmpL i j) = false := by rcases own_l_cases i j with q | q | q <;> first | exact absurd q.1 h | (rw [q.2]; rfl)
theorem own_l_geY {i j : Int64} (h : ¬ i < j) : ifCond.holds .ge (XT.cmpL i j) = true := by rcases own_l_cases i j with q | q | q <;> first | exact absurd q.1 h | (rw [q.2]; rfl)
theorem own_l_geN {i j : Int64} (h : i < j) : ifCond.holds .ge (XT.cmpL i j) = false := by rw [own_l_lt h]; rfl
theorem own_l_gtY {i j : Int64} (h : j < i) : ifCond.holds .gt (XT.cmpL i j) = true := by rw [own_l_gt h]; rfl
theorem own_l_gtN {i j : Int64} (h : ¬ j < i) : ifCond.holds .gt (XT.cmpL i j) = false := by rcases own_l_cases i j with q | q | q <;> first | exact absurd q.1 h | (rw [q.2]; rfl)
theorem own_l_leY {i j : Int64} (h : ¬ j < i) : ifCond.holds .le (XT.cmpL i j) = true := by rcases own_l_cases i j with q | q | q <;> first | exact absurd q.1 h | (rw [q.2]; rfl)
theorem own_l_leN {i j : Int64} (h : j < i) : ifCond.holds .le (XT.cmpL i j) = false := by rw [own_l_gt h]; rfl
theorem own_l_eqY {i j : Int64} (h : i = j) : ifCond.holds .eq (XT.cmpL i j) = true := by rw [own_l_eq h]; rfl
theorem own_l_eqN {i j : Int64} (h : ¬ i = j) : ifCond.holds .eq (XT.cmpL i j) = false := by rcases own_l_cases i j with q | q | q <;> first | exact absurd q.1 h | (rw [q.2]; rfl)
theorem own_l_neY {i j : Int64} (h : ¬ i = j) : ifCond.holds .ne (XT.cmpL i j) = true := by rcases own_l_cases i j with q | q | q <;> first | exact absurd q.1 h | (rw [q.2]; rfl)
theorem own_l_neN {i j : Int64} (h : i = j) : ifCond.holds .ne (XT.cmpL i j) = false := by rw [own_l_eq h]; rfl
theorem own_ac_eq_Y {x y : Value} (h : x = y) : XT.acmp .eq x y = true := decide_eq_true h
theorem own_ac_eq_N {x y : Value} (h : ¬ x = y) : XT.acmp .eq x y = false := decide_eq_false h
theorem own_ac_ne_Y {x y : Value} (h : ¬ x = y) : XT.acmp .ne x y = true := decide_eq_true h
theorem own_ac_ne_N {x y : Value} (h : x = y) : XT.acmp .ne x y = false := decide_eq_false (fun q => q h)
theorem own_ar_eq_Y {x y : Addr} (h : x = y) : XT.acmp .eq (.ref x) (.ref y) = true := own_ac_eq_Y (congrArg Value.ref h)
theorem own_ar_eq_N {x y : Addr} (h : ¬ x = y) : XT.acmp .eq (.ref x) (.ref y) = false := own_ac_eq_N (fun q => h (Value.ref.inj q))
theorem own_ar_ne_Y {x y : Addr} (h : ¬ x = y) : XT.acmp .ne (.ref x) (.ref y) = true := own_ac_ne_Y (fun q => h (Value.ref.inj q))
theorem own_ar_ne_N {x y : Addr} (h : x = y) : XT.acmp .ne (.ref x) (.ref y) = false := own_ac_ne_N (congrArg Value.ref h)
/-- a static's object's field that the case names by a number -/
theorem own_ord {args : Array Value} {s : State} {t : Term} {C n d : String} {k : Int32} {x : Addr} (ev : t.eval args s none [] s = some (.ref x))
    (h : (Jvm.Cond.eq (Term.field t C n d) (Term.int k)).value args s none s [] = some true) : s.fieldOf? x C n d = some (.int k) := by
  obtain ⟨v, u, e1, e2, k1, k2⟩ := cmp_v (Or.inl h)
  have e3 : u = .int k := by have := (Term.int_eval (args := args) (first := s) (o := none) (idx := []) (s := s) k).symm.trans e2; exact (Option.some.inj this).symm
  subst e3
  obtain ⟨z, rfl⟩ := k2
  have q := gotT (Cond.eq_ints e1 e2) h
  rw [← fld_at ev, e1, q]
/-! doubles: exact values in units of the least double -/
def own_z (x : UInt64) : Int := FP.Core.zval FP.Core.b64 (FP.Core.val64 x)
theorem own_nn {i : Int} {x : UInt64} (h : FP.Core.DInt i x) : NoNaN64 x := Fl.val64_no.mpr (FP.Core.DInt_ne_nan h)
theorem own_cmpz {x y : UInt64} (hx : NoNaN64 x) (hy : NoNaN64 y) : FP.dcmp x y = some (compare (own_z x) (own_z y)) := FP.Core.dcmp_zval (Fl.val64_no.mp hx) (Fl.val64_no.mp hy)
theorem own_d0 : FP.Core.DInt 0 FP.dconst0 := by
  have h := FP.Core.l2d_int (a := 0) (by decide)
  rw [FP.Core.l2d_zero] at h; exact h
theorem own_d1 : FP.Core.DInt 1 FP.dconst1 := FP.Core.dint_one
theorem own_zi {i : Int} {x : UInt64} (h : FP.Core.DInt i x) : own_z x = i * (FP.Core.one64 : Int) := FP.Core.DInt_zval h
theorem own_fini {i : Int} {x : UInt64} (h : FP.Core.DInt i x) : Fin64 x := by
  have h' : FP.Core.Whole i (FP.Core.val64 x) := h
  cases hv : FP.Core.val64 x with
  | nan => rw [hv] at h'; exact h'.elim
  | inf s => rw [hv] at h'; exact h'.elim
  | fin s c q => exact Fl.fin64_core.mpr ⟨s, c, q, hv⟩
theorem own_one : (0 : Int) < (FP.Core.one64 : Int) := by have := FP.Core.one64_pos; omega
theorem own_nz {x : UInt64} (h : own_z x ≠ 0) : Nz64 x := Fl.nz64_core.mpr fun ⟨s, q, e⟩ => h (by
  show FP.Core.zval FP.Core.b64 (FP.Core.val64 x) = 0
  rw [e]; show FP.Core.signed s (0 * _) = 0; rw [Nat.zero_mul]; cases s <;> rfl)
theorem own_nzi {i : Int} {x : UInt64} (h : FP.Core.DInt i x) (hi : i ≠ 0) : Nz64 x := own_nz (by
  rw [own_zi h]; intro q; rcases Int.mul_eq_zero.mp q with r | r
  · exact hi r
  · have := own_one; omega)
theorem own_zn (x : UInt64) : (own_z x).natAbs = FP.Core.zmag FP.Core.b64 (FP.Core.val64 x) := FP.Core.natAbs_signed _ _
/-- the quotient, by the two values alone -/
theorem own_quot {x y : UInt64} (hx : Fin64 x) (hy : Fin64 y) (hz : own_z y ≠ 0) :
    FP.Core.val64 (FP.ddiv x y) = FP.Core.roundRatio FP.Core.b64 (FP.Core.sgn (FP.Core.val64 x) != FP.Core.sgn (FP.Core.val64 y)) (own_z x).natAbs (own_z y).natAbs 0 := by
  obtain ⟨s, c, q, ex⟩ := Fl.fin64_core.mp hx
  obtain ⟨t, d, r, ey⟩ := Fl.fin64_core.mp hy
  have fx : FP.Core.fits FP.Core.b64 (.fin s c q) := ex ▸ FP.Core.val64_fits x
  have fy : FP.Core.fits FP.Core.b64 (.fin t d r) := ey ▸ FP.Core.val64_fits y
  have hd : d ≠ 0 := fun h => hz (by
    show FP.Core.zval FP.Core.b64 (FP.Core.val64 y) = 0
    rw [ey, h]; show FP.Core.signed t (0 * _) = 0; rw [Nat.zero_mul]; cases t <;> rfl)
  rw [own_zn, own_zn, show FP.ddiv x y = FP.Core.ddiv x y from rfl, FP.Core.val64_ddiv, ex, ey]
  show (if d = 0 then _ else FP.Core.roundRatio FP.Core.b64 (s != t) c d (q - r)) = FP.Core.roundRatio FP.Core.b64 (s != t) (c * 2 ^ (q - FP.Core.b64.qmin).toNat) (d * 2 ^ (r - FP.Core.b64.qmin).toNat) 0
  rw [if_neg hd]
  refine FP.Core.roundRatio_congr (Nat.pos_of_ne_zero hd) (Nat.mul_pos (Nat.pos_of_ne_zero hd) (Nat.two_pow_pos _)) ?_
  have h1 := fx.2.1
  have h2 := fy.2.1
  have e1 : (r - FP.Core.b64.qmin).toNat + (q - r - 0).toNat = (q - FP.Core.b64.qmin).toNat + (0 - (q - r)).toNat := by omega
  calc c * (d * 2 ^ (r - FP.Core.b64.qmin).toNat) * 2 ^ (q - r - 0).toNat = c * d * (2 ^ (r - FP.Core.b64.qmin).toNat * 2 ^ (q - r - 0).toNat) := by
        rw [Nat.mul_assoc, Nat.mul_assoc, Nat.mul_assoc]
    _ = c * d * (2 ^ (q - FP.Core.b64.qmin).toNat * 2 ^ (0 - (q - r)).toNat) := by rw [← Nat.pow_add, ← Nat.pow_add, e1]
    _ = c * 2 ^ (q - FP.Core.b64.qmin).toNat * d * 2 ^ (0 - (q - r)).toNat := by
        rw [Nat.mul_right_comm c _ d, Nat.mul_assoc (c * d)]
theorem own_noNaN_of {x : UInt64} {s : Bool} {A B : Nat} {e : Int} (h : FP.Core.val64 x = FP.Core.roundRatio FP.Core.b64 s A B e) : NoNaN64 x :=
  Fl.val64_no.mpr (h ▸ FP.Core.roundRatio_ne_nan _ _ _ _ _)
theorem own_div_nn {x y : UInt64} (hx : Fin64 x) (hy : Fin64 y) (hz : own_z y ≠ 0) : NoNaN64 (FP.ddiv x y) := Fl.ddiv_out hx.noNaN hy (own_nz hz)
/-- what is rounded below (above) a double stays there -/
theorem own_rr_le {s : Bool} {A B : Nat} {V : UInt64} (hB : 0 < B) (hV : NoNaN64 V) (h : A * FP.Core.one64 ≤ (own_z V).natAbs * B) :
    FP.Core.zmag FP.Core.b64 (FP.Core.roundRatio FP.Core.b64 s A B 0) ≤ (own_z V).natAbs := by
  rw [own_zn] at h ⊢
  refine FP.Core.zmag_roundRatio_le FP.Core.good_b64 hB (FP.Core.val64_fits V) (Fl.val64_no.mp hV) (e0 := FP.Core.b64.qmin) (Int.le_refl _) (by decide +kernel) ?_
  rw [Int.sub_self]
  show A * 2 ^ (0 - FP.Core.b64.qmin).toNat ≤ _ * 1 * B
  rw [Nat.mul_one, Int.zero_sub, FP.Core.pow_qmin64]; exact h
theorem own_rr_ge {s : Bool} {A B : Nat} {V : UInt64} (hB : 0 < B) (h : (own_z V).natAbs * B ≤ A * FP.Core.one64) :
    (own_z V).natAbs ≤ FP.Core.zmag FP.Core.b64 (FP.Core.roundRatio FP.Core.b64 s A B 0) := by
  rw [own_zn] at h ⊢
  refine FP.Core.zmag_roundRatio_ge FP.Core.good_b64 hB (FP.Core.val64_fits V) (e0 := FP.Core.b64.qmin) (Int.le_refl _) (by decide +kernel) ?_
  rw [Int.sub_self]
  show _ * 1 * B ≤ A * 2 ^ (0 - FP.Core.b64.qmin).toNat
  rw [Nat.mul_one, Int.zero_sub, FP.Core.pow_qmin64]; exact h
theorem own_z_signed {x : UInt64} {s : Bool} {A B : Nat} (h : FP.Core.val64 x = FP.Core.roundRatio FP.Core.b64 s A B 0) :
    own_z x = FP.Core.signed s (FP.Core.zmag FP.Core.b64 (FP.Core.roundRatio FP.Core.b64 s A B 0)) := by
  show FP.Core.signed _ _ = _
  rw [h, FP.Core.sgn_roundRatio]
/-- a quotient of two that are not below nought -/
theorem own_div_ge0 {x y : UInt64} (hx : Fin64 x) (hy : Fin64 y) (hz : own_z y ≠ 0) (h0 : 0 ≤ own_z x) (h1 : 0 ≤ own_z y) : 0 ≤ own_z (FP.ddiv x y) := by
  have hq := own_quot hx hy hz
  rw [own_z_signed hq]
  cases hs : (FP.Core.sgn (FP.Core.val64 x) != FP.Core.sgn (FP.Core.val64 y)) with
  | false => exact Int.natCast_nonneg _
  | true =>
    have hy2 : FP.Core.sgn (FP.Core.val64 y) = false := by
      cases hs2 : FP.Core.sgn (FP.Core.val64 y) with
      | false => rfl
      | true =>
        exfalso; have : own_z y = -(FP.Core.zmag FP.Core.b64 (FP.Core.val64 y) : Int) := by show FP.Core.signed _ _ = _; rw [hs2]; rfl
        omega
    have hx2 : FP.Core.sgn (FP.Core.val64 x) = true := by rw [hy2] at hs; simpa using hs
    have hx3 : own_z x = -(FP.Core.zmag FP.Core.b64 (FP.Core.val64 x) : Int) := by show FP.Core.signed _ _ = _; rw [hx2]; rfl
    have hx4 : (own_z x).natAbs = 0 := by omega
    rw [hx4, FP.Core.roundRatio, if_pos rfl]
    show 0 ≤ FP.Core.signed true (0 * _); rw [Nat.zero_mul]; decide
theorem own_div_le {x y V : UInt64} (hx : Fin64 x) (hy : Fin64 y) (hz : own_z y ≠ 0) (hV : NoNaN64 V) (h0 : 0 ≤ own_z x) (h1 : 0 ≤ own_z y) (h2 : 0 ≤ own_z V)
    (h : own_z x * (FP.Core.one64 : Int) ≤ own_z V * own_z y) : own_z (FP.ddiv x y) ≤ own_z V := by
  have hq := own_quot hx hy hz
  have hge := own_div_ge0 hx hy hz h0 h1
  have hB : 0 < (own_z y).natAbs := by omega
  have h3 : (own_z x).natAbs * FP.Core.one64 ≤ (own_z V).natAbs * (own_z y).natAbs := by
    have e1 : ((own_z x).natAbs : Int) = own_z x := by omega
    have e2 : ((own_z y).natAbs : Int) = own_z y := by omega
    have e3 : ((own_z V).natAbs : Int) = own_z V := by omega
    have : (((own_z x).natAbs * FP.Core.one64 : Nat) : Int) ≤ (((own_z V).natAbs * (own_z y).natAbs : Nat) : Int) := by
      rw [Int.natCast_mul, Int.natCast_mul, e1, e2, e3]; exact h
    exact Int.ofNat_le.mp this
  have := own_rr_le (s := FP.Core.sgn (FP.Core.val64 x) != FP.Core.sgn (FP.Core.val64 y)) hB hV h3
  have h4 : (own_z (FP.ddiv x y)).natAbs ≤ (own_z V).natAbs := by rw [own_zn, hq]; exact this
  omega
/-- two doubles of the same whole value compare as equal -/
theorem own_eq0 {x y : UInt64} {i : Int} (o : CmpOp) (hx : FP.Core.DInt i x) (hy : FP.Core.DInt i y) : cmpValue (FP.dcmp x y) o = 0 := by
  rw [own_cE o (FP.Core.dcmp_int hx hy), own_c_eq rfl]
theorem own_mb {a b A B : Int} (h1 : -A ≤ a) (h2 : a ≤ A) (h3 : -B ≤ b) (h4 : b ≤ B) (h : A * B ≤ 9007199254740992) : (a * b).natAbs ≤ 2 ^ 53 := by
  rw [Int.natAbs_mul]
  have e1 : a.natAbs ≤ A.toNat := by omega
  have e2 : b.natAbs ≤ B.toNat := by omega
  have e3 : a.natAbs * b.natAbs ≤ A.toNat * B.toNat := Nat.mul_le_mul e1 e2
  have e4 : ((A.toNat * B.toNat : Nat) : Int) = A * B := by rw [Int.natCast_mul, Int.toNat_of_nonneg (by omega), Int.toNat_of_nonneg (by omega)]
  have e5 : (2 : Nat) ^ 53 = 9007199254740992 := by decide
  omega
theorem own_dl (a : Int64) {i : Int} (h : a.toInt = i) (hb : i.natAbs ≤ 2 ^ 53) : FP.Core.DInt i (FP.l2d a) := by subst h; exact FP.Core.l2d_int hb
theorem own_lm {a b : Int64} (h : (a.toInt * b.toInt).natAbs ≤ 2 ^ 53) : (a * b).toInt = a.toInt * b.toInt := by
  have e5 : (2 : Nat) ^ 53 = 9007199254740992 := by decide
  exact Jvm.Kit.i64_mul (by omega) (by omega)
theorem own_sgn_mul {s t : Bool} {b : Nat} {k : Int} (hb : 0 < b) (h : FP.Core.signed s (k.natAbs * b) = k * FP.Core.signed t b) : FP.Core.signed (s != t) k.natAbs = k := by
  have hb' : (0 : Int) < (b : Int) := by omega
  have e : ((k.natAbs * b : Nat) : Int) = (k.natAbs : Int) * (b : Int) := Int.natCast_mul _ _
  have key : ∀ z : Int, (k.natAbs : Int) * (b : Int) = z * (b : Int) → (k.natAbs : Int) = z := fun z q => Int.eq_of_mul_eq_mul_right (by omega) q
  cases s <;> cases t
  · show (k.natAbs : Int) = k
    apply key; rw [← e]; exact h
  · show -(k.natAbs : Int) = k
    have h' : ((k.natAbs * b : Nat) : Int) = k * -(b : Int) := h
    have := key (-k) (by rw [← e, h', Int.mul_neg, Int.neg_mul]); omega
  · show -(k.natAbs : Int) = k
    have h' : -((k.natAbs * b : Nat) : Int) = k * (b : Int) := h
    have := key (-k) (by rw [← e, Int.neg_mul, ← h', Int.neg_neg]); omega
  · show (k.natAbs : Int) = k
    have h' : -((k.natAbs * b : Nat) : Int) = k * -(b : Int) := h
    apply key; rw [← e]
    have : -((k.natAbs * b : Nat) : Int) = -(k * (b : Int)) := by rw [h', Int.mul_neg]
    omega
/-- a quotient of whole values that comes out even -/
theorem own_ddiv_int {k j : Int} {x y : UInt64} (hx : FP.Core.DInt (k * j) x) (hy : FP.Core.DInt j y) (hj : j ≠ 0) (hk : k.natAbs ≤ 2 ^ 53) : FP.Core.DInt k (FP.ddiv x y) := by
  have zx := own_zi hx
  have zy := own_zi hy
  have hz : own_z y ≠ 0 := by rw [zy]; exact Int.mul_ne_zero hj (by have := own_one; omega)
  have hq := own_quot (own_fini hx) (own_fini hy) hz
  have ha : (own_z x).natAbs = k.natAbs * (own_z y).natAbs := by rw [zx, zy, Int.mul_assoc, Int.natAbs_mul]
  have hb : 0 < (own_z y).natAbs := by omega
  show FP.Core.Whole k (FP.Core.val64 (FP.ddiv x y))
  rw [hq, ha, FP.Core.roundRatio_congr (A' := k.natAbs) (B' := 1) (e' := 0) hb (by decide) (by rw [Nat.mul_one])]
  refine FP.Core.whole_round FP.Core.good_b64 FP.Core.wide_b64 hk (d := .fin (FP.Core.sgn (FP.Core.val64 x) != FP.Core.sgn (FP.Core.val64 y)) k.natAbs 0) ?_
  show FP.Core.signed _ (k.natAbs * 1) = k * ((1 : Nat) : Int)
  rw [Nat.mul_one, show ((1 : Nat) : Int) = 1 from rfl, Int.mul_one]
  refine own_sgn_mul hb ?_
  have e1 : FP.Core.signed (FP.Core.sgn (FP.Core.val64 x)) (own_z x).natAbs = own_z x := by rw [own_zn]; rfl
  have e2 : FP.Core.signed (FP.Core.sgn (FP.Core.val64 y)) (own_z y).natAbs = own_z y := by rw [own_zn]; rfl
  rw [← ha, e1, e2, zx, zy, Int.mul_assoc]
theorem own_zmag_s (s : Bool) (A B : Nat) (e : Int) : FP.Core.zmag FP.Core.b64 (FP.Core.roundRatio FP.Core.b64 s A B e) = FP.Core.zmag FP.Core.b64 (FP.Core.roundRatio FP.Core.b64 false A B e) := by
  cases s with
  | false => rfl
  | true =>
    rw [show FP.Core.roundRatio FP.Core.b64 true A B e = FP.Core.negate (FP.Core.roundRatio FP.Core.b64 false A B e) from (FP.Core.negate_roundRatio FP.Core.b64 false A B e).symm]
    cases FP.Core.roundRatio FP.Core.b64 false A B e <;> rfl
theorem own_div_n {x y : UInt64} (hx : Fin64 x) (hy : Fin64 y) (hz : own_z y ≠ 0) : (own_z (FP.ddiv x y)).natAbs = FP.Core.zmag FP.Core.b64 (FP.Core.roundRatio FP.Core.b64 false (own_z x).natAbs (own_z y).natAbs 0) := by
  rw [own_zn, own_quot hx hy hz, own_zmag_s]
/-- two quotients of the same ratio, none below nought -/
theorem own_div_congr {x y x' y' : UInt64} (hx : Fin64 x) (hy : Fin64 y) (hz : own_z y ≠ 0) (hx' : Fin64 x') (hy' : Fin64 y') (hz' : own_z y' ≠ 0)
    (g1 : 0 ≤ own_z x) (g2 : 0 ≤ own_z y) (g3 : 0 ≤ own_z x') (g4 : 0 ≤ own_z y') (h : own_z x * own_z y' = own_z x' * own_z y) : own_z (FP.ddiv x y) = own_z (FP.ddiv x' y') := by
  have e1 := own_div_n hx hy hz
  have e2 := own_div_n hx' hy' hz'
  have k1 := own_div_ge0 hx hy hz g1 g2
  have k2 := own_div_ge0 hx' hy' hz' g3 g4
  have h' : (own_z x).natAbs * (own_z y').natAbs = (own_z x').natAbs * (own_z y).natAbs := by rw [← Int.natAbs_mul, ← Int.natAbs_mul, h]
  rw [FP.Core.roundRatio_congr (A' := (own_z x').natAbs) (B' := (own_z y').natAbs) (e' := 0) (by omega) (by omega) (by rw [h'])] at e1
  omega
/-- m * 2^k units is a double -/
theorem own_rep (m k : Nat) (hm : m < 2 ^ 53) (hk : k ≤ 2045) : ∃ V : UInt64, Fin64 V ∧ own_z V = ((m * 2 ^ k : Nat) : Int) := by
  have hq : FP.Core.b64.qmin = -1074 := FP.Core.qmin_b64
  have hq2 : FP.Core.b64.qmax = 971 := by decide
  obtain ⟨c, q, e1, e2⟩ := FP.Core.round_exact FP.Core.good_b64 false (c := m) (q := (k : Int) - 1074) hm (by rw [hq]; omega) (by rw [hq2]; omega)
  have hv : FP.Core.val64 (FP.Core.of64 (FP.Core.round FP.Core.b64 (.fin false m ((k : Int) - 1074)))) = .fin false c q := by
    rw [FP.Core.val64_of64 (FP.Core.round_fits FP.Core.good_b64 _), e1]
  refine ⟨_, Fl.fin64_core.mpr ⟨_, _, _, hv⟩, ?_⟩
  show FP.Core.zval FP.Core.b64 _ = _
  rw [hv]
  show ((FP.Core.inUnits c q FP.Core.b64.qmin : Nat) : Int) = _
  rw [e2, FP.Core.inUnits, hq, show ((k : Int) - 1074 - -1074).toNat = k by omega]
/-- a quotient that comes out even in some binary place -/
theorem own_div_exact {x y : UInt64} (hx : Fin64 x) (hy : Fin64 y) (hz : own_z y ≠ 0) (g1 : 0 ≤ own_z x) (g2 : 0 ≤ own_z y) (m k : Nat) (hm : m < 2 ^ 53) (hk : k ≤ 2045)
    (h : own_z x * (FP.Core.one64 : Int) = ((m * 2 ^ k : Nat) : Int) * own_z y) : own_z (FP.ddiv x y) = ((m * 2 ^ k : Nat) : Int) := by
  obtain ⟨V, fV, zV⟩ := own_rep m k hm hk
  have k1 := own_div_ge0 hx hy hz g1 g2
  have e1 := own_div_n hx hy hz
  have h3 : (own_z x).natAbs * FP.Core.one64 = (own_z V).natAbs * (own_z y).natAbs := by
    have := congrArg Int.natAbs h
    rw [Int.natAbs_mul, Int.natAbs_mul, ← zV] at this
    exact this
  have l1 := own_rr_le (s := false) (A := (own_z x).natAbs) (B := (own_z y).natAbs) (V := V) (by omega) fV.noNaN (Nat.le_of_eq h3)
  have l2 := own_rr_ge (s := false) (A := (own_z x).natAbs) (B := (own_z y).natAbs) (V := V) (by omega) (Nat.le_of_eq h3.symm)
  omega
theorem own_eqz {x y : UInt64} (o : CmpOp) (hx : NoNaN64 x) (hy : NoNaN64 y) (h : own_z x = own_z y) : cmpValue (FP.dcmp x y) o = 0 := by
  rw [own_cE o (own_cmpz hx hy), own_c_eq h]
theorem own_ge0 {x : UInt64} (h : 0 ≤ own_z x) : ¬ own_z x < own_z FP.dconst0 := by rw [own_zi own_d0, Int.zero_mul]; exact Int.not_lt.mpr h
theorem own_le1 {x : UInt64} (h : own_z x ≤ own_z FP.dconst1) : ¬ own_z FP.dconst1 < own_z x := Int.not_lt.mpr h
theorem own_M (p : Int32) : 1 ≤ ((p &&& (255 : Int32)) + (1 : Int32)).toInt ∧ ((p &&& (255 : Int32)) + (1 : Int32)).toInt ≤ 256 := by
  have h := Jvm.Kit.i32_mask p 255 (k := 8) (by decide) (by decide)
  have h2 : ((p &&& (255 : Int32)) + (1 : Int32)).toInt = (p &&& (255 : Int32)).toInt + 1 := Jvm.Kit.i32_add (q := 1) (by rw [h]; show _ ≤ _ + (1 : Int); omega) (by rw [h]; show _ + (1 : Int) < _; omega)
  omega
theorem own_M2 {M : Int32} (h : 1 ≤ M.toInt ∧ M.toInt ≤ 256) : (M + (1 : Int32)).toInt = M.toInt + 1 := Jvm.Kit.i32_add (q := 1) (by show _ ≤ _ + (1 : Int); omega) (by show _ + (1 : Int) < _; omega)
theorem own_M1 {M : Int32} (h : 1 ≤ M.toInt ∧ M.toInt ≤ 256) : M + (1 : Int32) ≠ 0 := fun q => by
  have := own_M2 h; rw [q] at this; have e : (0 : Int32).toInt = 0 := rfl; omega
theorem own_K {M : Int32} (p : Int32) (h : 1 ≤ M.toInt ∧ M.toInt ≤ 256) : 0 ≤ ((p &&& (2147483647 : Int32)) % (M + (1 : Int32))).toInt ∧ ((p &&& (2147483647 : Int32)) % (M + (1 : Int32))).toInt ≤ M.toInt := by
  have h1 := Jvm.Kit.i32_mask p 2147483647 (k := 31) (by decide) (by decide)
  rw [Jvm.Kit.i32_rem_nonneg (by omega), own_M2 h]
  have h2 := Int.emod_lt_of_pos (p &&& (2147483647 : Int32)).toInt (show 0 < M.toInt + 1 by omega)
  exact ⟨Int.emod_nonneg _ (by omega), by omega⟩
theorem own_le3 {k m : Int} (h : k ≤ m) : k * (FP.Core.one64 : Int) * (FP.Core.one64 : Int) ≤ 1 * (FP.Core.one64 : Int) * (m * (FP.Core.one64 : Int)) := by
  have h1 := Int.mul_le_mul_of_nonneg_right (Int.mul_le_mul_of_nonneg_right h (Int.le_of_lt own_one)) (Int.le_of_lt own_one)
  calc k * (FP.Core.one64 : Int) * (FP.Core.one64 : Int) ≤ m * (FP.Core.one64 : Int) * (FP.Core.one64 : Int) := h1
    _ = 1 * (FP.Core.one64 : Int) * (m * (FP.Core.one64 : Int)) := by rw [Int.one_mul, Int.mul_comm]

theorem own_maxY {a b : Int32} (h : a < b) : a.toInt ≤ b.toInt ∧ b.toInt ≤ b.toInt := by rw [Int32.lt_iff_toInt_lt] at h; omega
theorem own_maxN {a b : Int32} (h : ¬ a < b) : a.toInt ≤ a.toInt ∧ b.toInt ≤ a.toInt := by rw [Int32.lt_iff_toInt_lt] at h; omega
theorem own_ge1 {n : Int32} (h : 1 ≤ n.toInt) : ¬ n < 1 := by rw [Int32.lt_iff_toInt_lt]; show ¬ n.toInt < 1; omega
theorem own_zn1 {n : Int32} (h : 1 ≤ n.toInt) : Nz64 (FP.i2d n) := own_nzi (FP.Core.i2d_int n) (by omega)
theorem own_md (p : Int32) : ¬ (p &&& (2147483647 : Int32)) < 0 := by
  have h1 := Jvm.Kit.i32_mask p 2147483647 (k := 31) (by decide) (by decide)
  rw [Int32.lt_iff_toInt_lt]; show ¬ (p &&& (2147483647 : Int32)).toInt < 0; omega
theorem own_fin01 {x : UInt64} (n : NoNaN64 x) (lo : ¬ own_z x < own_z FP.dconst0) (hi : ¬ own_z FP.dconst1 < own_z x) : Fin64 x := by
  cases hv : FP.Core.val64 x with
  | nan => exact absurd hv (Fl.val64_no.mp n)
  | fin s c q => exact Fl.fin64_core.mpr ⟨s, c, q, hv⟩
  | inf s =>
    exfalso
    have e1 : own_z x = FP.Core.signed s (FP.Core.b64.tails * 2 ^ (FP.Core.b64.exps - 2)) := by show FP.Core.zval _ _ = _; rw [hv]; rfl
    cases s
    · have : own_z FP.dconst1 < own_z x := by rw [e1]; decide +kernel
      exact hi this
    · have : own_z x < own_z FP.dconst0 := by rw [e1]; decide +kernel
      exact lo this

def QrmX (Z : State) (a : Int32) (b : Int32) (h0 : Heap) (n0 : Nat) (vQ : Option Value) (hQ : Heap) (LQ : List Loc) : Prop := ∃ (r : Int32), vQ = some (.int r) ∧ Fr n0 LQ ∧ hQ = h0 ∧ (a.toInt ≤ r.toInt ∧ b.toInt ≤ r.toInt)
theorem ef_rmX (m : MethodId) (a : Int32) (b : Int32) : entryFrame m #[(.int a), (.int b)] 2 = mkF m 0 #[vi a, vi b] [] := by first | (simp [entryFrame, mkF, argsToLocals, Value.category]; done) | rfl
abbrev mn0 : MethodName := ⟨"java/lang/Math", "max", "(II)I"⟩
theorem d_jdk_29_method_65_code_0 : decode jdk_29_method_65_code 0 = .ok (.iload_n 0, 1) := by decide +kernel
theorem d_jdk_29_method_65_code_1 : decode jdk_29_method_65_code 1 = .ok (.iload_n 1, 1) := by decide +kernel
theorem d_jdk_29_method_65_code_2 : decode jdk_29_method_65_code 2 = .ok (.if_icmp .lt 7, 3) := by decide +kernel
theorem d_jdk_29_method_65_code_9 : decode jdk_29_method_65_code 9 = .ok (.iload_n 1, 1) := by decide +kernel
theorem d_jdk_29_method_65_code_10 : decode jdk_29_method_65_code 10 = .ok (.ireturn, 1) := by decide +kernel
theorem d_jdk_29_method_65_code_5 : decode jdk_29_method_65_code 5 = .ok (.iload_n 0, 1) := by decide +kernel
theorem d_jdk_29_method_65_code_6 : decode jdk_29_method_65_code 6 = .ok (.goto 4, 3) := by decide +kernel
set_option maxRecDepth 65536 in
set_option maxHeartbeats 40000000 in
theorem rmX (l : Launch) (Z : State) (a0 : Array Value) (hw : ∀ d ∈ tables_1, d.before a0 Z = true) (ws : List Jvm.Cond) (a : Int32) (b : Int32) (h0 : Heap) (n0 : Nat) (Z0 : n0 ≤ h0.size)  :
    MetFree l mn0 (head1 (Jvm.Cond.code mn0 jdk_29_method_65_code 2 (some .int) :: ws) ({ frames := 0, cells := 0, slots := 0, locals := 0 } : Room)) (fun aA U => aA = #[(.int a), (.int b)] ∧ Z.Warmed39 U.vm ∧ U.heap = h0) (fun _ _ _ _ _ => True) (fun _ U o U' => ∃ vR LR, o = .returned vR ∧ QrmX Z a b h0 n0 vR U'.heap LR ∧ FrameEnd U o U' LR ({ frames := 0, cells := 0, slots := 0, locals := 0 } : Room).cells ({ frames := 0, cells := 0, slots := 0, locals := 0 } : Room).slots) := by
  refine MetFree.of_bodySF (Jvm.Free.JP.mathPlain rfl (by decide +kernel)) hisR ?_
  intro p e s m args below meth c s₁ Bd hml0 hPre hKk
  obtain ⟨rfl, hZ, hh⟩ := hPre
  have hx := Bd.exec
  have hby := Bd.bytes
  have hml : c.maxLocals = 2 := hml0
  have hown : s.vm.findClass "java/lang/Math" = some m.cls := findClass_of_methodNamed Bd.named
  have hnm := (name_of_methodNamed Bd.named Bd.method).1
  have X0 : Stand p l e ({ frames := 0, cells := 0, slots := 0, locals := 0 } : Room) s m #[(.int a), (.int b)] below meth c s₁ [] 0 0 := Stand.of_body Bd
  have e0 : s₁.heap = h0 := by rw [← hh, Bd.state]; rfl
  have N0 := Fr.nil n0
  obtain ⟨E0, hE0⟩ : ∃ zE : State, zE = s₁.setTop (entryFrame m #[(.int a), (.int b)] 2) := ⟨_, rfl⟩
  have k0 : own_G p e below E0 s₁ (mkF m 0 #[vi a, vi b] []) := fun tz kz => hE0 ▸ castTop (ef_rmX m a b) kz
  have k1 : own_G p e below E0 s₁ (mkF m 2 #[vi a, vi b] [(.int b), (.int a)]) := by
    intro t kk
    refine k0 t ?_
    refine XS.iloadN X0.here hx rfl (hb hby d_jdk_29_method_65_code_0) rfl ?_
    refine XS.iloadN X0.here hx rfl (hb hby d_jdk_29_method_65_code_1) rfl ?_
    exact kk
  by_cases c2 : a < b
  · skip
    have k3 : own_G p e below E0 s₁ (mkF m 10 #[vi a, vi b] [(.int b)]) := by
      intro t kk
      refine k1 t ?_
      refine XS.icmpYes X0.here hx rfl (pc0 := 2) (pc' := 9) rfl (hb hby d_jdk_29_method_65_code_2) rfl (own_ic_ltY c2) (by decide) (by decide) ?_
      refine XS.iloadN X0.here hx rfl (hb hby d_jdk_29_method_65_code_9) rfl ?_
      exact kk
    obtain ⟨fs, hr, hrun, hended, hW, hsame⟩ := X0.leave (v := some (.int b)) (fun h => by rw [Bd.returns] at h; cases h)
    have hrun0 := k3 _ (retOut X0 hx Bd.returns (t := .int) rfl (Or.inl ⟨rfl, Or.inl rfl, _, rfl⟩) (hb hby d_jdk_29_method_65_code_10) hr)
    subst hE0
    refine ⟨_, _, hrun0, hrun, hended, _, _, rfl, ?_, ⟨_, rfl⟩, hW, hsame.mono (by decide) (by decide)⟩
    show QrmX Z a b h0 n0 _ s₁.heap _
    rw [e0]
    exact ⟨b, rfl, N0, rfl, (own_maxY c2)⟩
  · skip
    have k4 : own_G p e below E0 s₁ (mkF m 10 #[vi a, vi b] [(.int a)]) := by
      intro t kk
      refine k1 t ?_
      refine XS.icmpNo X0.here hx rfl (hb hby d_jdk_29_method_65_code_2) rfl (own_ic_ltN c2) ?_
      refine XS.iloadN X0.here hx rfl (hb hby d_jdk_29_method_65_code_5) rfl ?_
      refine XS.goto X0.here hx rfl (pc0 := 6) (pc' := 10) rfl (hb hby d_jdk_29_method_65_code_6) (by decide) (by decide) ?_
      exact kk
    obtain ⟨fs, hr, hrun, hended, hW, hsame⟩ := X0.leave (v := some (.int a)) (fun h => by rw [Bd.returns] at h; cases h)
    have hrun0 := k4 _ (retOut X0 hx Bd.returns (t := .int) rfl (Or.inl ⟨rfl, Or.inl rfl, _, rfl⟩) (hb hby d_jdk_29_method_65_code_10) hr)
    subst hE0
    refine ⟨_, _, hrun0, hrun, hended, _, _, rfl, ?_, ⟨_, rfl⟩, hW, hsame.mono (by decide) (by decide)⟩
    show QrmX Z a b h0 n0 _ s₁.heap _
    rw [e0]
    exact ⟨a, rfl, N0, rfl, (own_maxN c2)⟩
def QrmA (Z : State) (x : UInt64) (h0 : Heap) (n0 : Nat) (vQ : Option Value) (hQ : Heap) (LQ : List Loc) : Prop := vQ = some (.double x) ∧ Fr n0 LQ ∧ hQ = h0
theorem ef_rmA (m : MethodId) (x : UInt64) : entryFrame m #[(.double x)] 2 = mkF m 0 #[vd x, ss] [] := by first | (simp [entryFrame, mkF, argsToLocals, Value.category]; done) | rfl
abbrev mn1 : MethodName := ⟨"com/example/meander/meander/WebChain", "checkAlpha", "(D)D"⟩
theorem pn_com_example_meander_meander_WebChain : plainName "com/example/meander/meander/WebChain" = true := by first | (simp [plainName, overriddenIn]; done) | decide +kernel
theorem d_prog_22_method_2_code_0 : decode prog_22_method_2_code 0 = .ok (.dload_n 0, 1) := by decide +kernel
theorem d_prog_22_method_2_code_1 : decode prog_22_method_2_code 1 = .ok (.dconst 0, 1) := by decide +kernel
theorem d_prog_22_method_2_code_2 : decode prog_22_method_2_code 2 = .ok (.dcmp .l, 1) := by decide +kernel
theorem d_prog_22_method_2_code_3 : decode prog_22_method_2_code 3 = .ok (.ifCond .lt 9, 3) := by decide +kernel
theorem d_prog_22_method_2_code_6 : decode prog_22_method_2_code 6 = .ok (.dload_n 0, 1) := by decide +kernel
theorem d_prog_22_method_2_code_7 : decode prog_22_method_2_code 7 = .ok (.dconst 1, 1) := by decide +kernel
theorem d_prog_22_method_2_code_8 : decode prog_22_method_2_code 8 = .ok (.dcmp .g, 1) := by decide +kernel
theorem d_prog_22_method_2_code_9 : decode prog_22_method_2_code 9 = .ok (.ifCond .le 17, 3) := by decide +kernel
theorem d_prog_22_method_2_code_26 : decode prog_22_method_2_code 26 = .ok (.dload_n 0, 1) := by decide +kernel
theorem d_prog_22_method_2_code_27 : decode prog_22_method_2_code 27 = .ok (.dreturn, 1) := by decide +kernel
set_option maxRecDepth 65536 in
set_option maxHeartbeats 40000000 in
theorem rmA (l : Launch) (Z : State) (a0 : Array Value) (hw : ∀ d ∈ tables_1, d.before a0 Z = true) (ws : List Jvm.Cond) (x : UInt64) (h0 : Heap) (n0 : Nat) (Z0 : n0 ≤ h0.size) (nx : NoNaN64 x) (lo : ¬ own_z x < own_z FP.dconst0) (hi : ¬ own_z FP.dconst1 < own_z x) :
    MetFree l mn1 (head1 (Jvm.Cond.code mn1 prog_22_method_2_code 2 (some .double) :: ws) ({ frames := 0, cells := 0, slots := 0, locals := 0 } : Room)) (fun aA U => aA = #[(.double x)] ∧ Z.Warmed39 U.vm ∧ U.heap = h0) (fun _ _ _ _ _ => True) (fun _ U o U' => ∃ vR LR, o = .returned vR ∧ QrmA Z x h0 n0 vR U'.heap LR ∧ FrameEnd U o U' LR ({ frames := 0, cells := 0, slots := 0, locals := 0 } : Room).cells ({ frames := 0, cells := 0, slots := 0, locals := 0 } : Room).slots) := by
  refine MetFree.of_bodySF (plainFor_of_name pn_com_example_meander_meander_WebChain) hisR ?_
  intro p e s m args below meth c s₁ Bd hml0 hPre hKk
  obtain ⟨rfl, hZ, hh⟩ := hPre
  have hx := Bd.exec
  have hby := Bd.bytes
  have hml : c.maxLocals = 2 := hml0
  have hown : s.vm.findClass "com/example/meander/meander/WebChain" = some m.cls := findClass_of_methodNamed Bd.named
  have hnm := (name_of_methodNamed Bd.named Bd.method).1
  have X0 : Stand p l e ({ frames := 0, cells := 0, slots := 0, locals := 0 } : Room) s m #[(.double x)] below meth c s₁ [] 0 0 := Stand.of_body Bd
  have e0 : s₁.heap = h0 := by rw [← hh, Bd.state]; rfl
  have N0 := Fr.nil n0
  obtain ⟨E0, hE0⟩ : ∃ zE : State, zE = s₁.setTop (entryFrame m #[(.double x)] 2) := ⟨_, rfl⟩
  have k0 : own_G p e below E0 s₁ (mkF m 0 #[vd x, ss] []) := fun tz kz => hE0 ▸ castTop (ef_rmA m x) kz
  have k5 : own_G p e below E0 s₁ (mkF m 27 #[vd x, ss] [(.double x)]) := by
    intro t kk
    refine k0 t ?_
    refine XS.dloadN X0.here hx rfl (hb hby d_prog_22_method_2_code_0) rfl ?_
    refine XS.dconst0 X0.here hx rfl (hb hby d_prog_22_method_2_code_1) rfl ?_
    refine XS.dcmpS X0.here hx rfl (hb hby d_prog_22_method_2_code_2) rfl (own_cE .l (own_cmpz nx (own_nn own_d0))) ?_
    refine XS.ifNo X0.here hx rfl (hb hby d_prog_22_method_2_code_3) rfl (own_c_ltN lo) ?_
    show Steps p.tables e below (s₁.setTop (mkF m 6 #[vd x, ss] [])) t
    refine XS.dloadN X0.here hx rfl (hb hby d_prog_22_method_2_code_6) rfl ?_
    refine XS.dconst1 X0.here hx rfl (hb hby d_prog_22_method_2_code_7) rfl ?_
    refine XS.dcmpS X0.here hx rfl (hb hby d_prog_22_method_2_code_8) rfl (own_cE .g (own_cmpz nx (own_nn own_d1))) ?_
    refine XS.ifYes X0.here hx rfl (pc0 := 9) (pc' := 26) rfl (hb hby d_prog_22_method_2_code_9) rfl (own_c_leY hi) (by decide) (by decide) ?_
    show Steps p.tables e below (s₁.setTop (mkF m 26 #[vd x, ss] [])) t
    refine XS.dloadN X0.here hx rfl (hb hby d_prog_22_method_2_code_26) rfl ?_
    exact kk
  obtain ⟨fs, hr, hrun, hended, hW, hsame⟩ := X0.leave (v := some (.double x)) (fun h => by rw [Bd.returns] at h; cases h)
  have hrun0 := k5 _ (retOut X0 hx Bd.returns (t := .double) rfl (Or.inr (Or.inr (Or.inl ⟨rfl, rfl, _, rfl⟩))) (hb hby d_prog_22_method_2_code_27) hr)
  subst hE0
  refine ⟨_, _, hrun0, hrun, hended, _, _, rfl, ?_, ⟨_, rfl⟩, hW, hsame.mono (by decide) (by decide)⟩
  show QrmA Z x h0 n0 _ s₁.heap _
  rw [e0]
  exact ⟨rfl, N0, rfl⟩
abbrev fd2 (Z : State) (h : Heap) (a : Addr) (v : Value) : Prop := Fld Z h a "com/example/meander/meander/WebChain" "pages" "I" v
abbrev fd3 (Z : State) (h : Heap) (a : Addr) (v : Value) : Prop := Fld Z h a "com/example/meander/meander/WebChain" "alpha" "D" v
abbrev fd4 (Z : State) (h : Heap) (a : Addr) (v : Value) : Prop := Fld Z h a "com/example/meander/meander/WebChain" "jump" "D" v
def QrmI (Z : State) (a : Addr) (n : Int32) (x : UInt64) (h0 : Heap) (n0 : Nat) (vQ : Option Value) (hQ : Heap) (LQ : List Loc) : Prop := vQ = none ∧ Fr n0 LQ ∧ Keep h0 hQ [a] ∧ (fd2 Z hQ a (.int n)) ∧ (fd3 Z hQ a (.double x)) ∧ (fd4 Z hQ a (.double (FP.ddiv (FP.dsub FP.dconst1 x) (FP.i2d n))))
theorem ef_rmI (m : MethodId) (a : Addr) (n : Int32) (x : UInt64) : entryFrame m #[(.ref a), (.int n), (.double x)] 4 = mkF m 0 #[vr a, vi n, vd x, ss] [] := by first | (simp [entryFrame, mkF, argsToLocals, Value.category]; done) | rfl
abbrev xa5 (Z : State) (h : Heap) (a : Addr) : Prop := Exa Z h a "com/example/meander/meander/WebChain"
abbrev mn6 : MethodName := ⟨"com/example/meander/meander/WebChain", "<init>", "(ID)V"⟩
theorem d_prog_22_method_1_code_0 : decode prog_22_method_1_code 0 = .ok (.aload_n 0, 1) := by decide +kernel
theorem d_prog_22_method_1_code_1 : decode prog_22_method_1_code 1 = .ok (.invokespecial 1, 3) := by decide +kernel
def tw11 {Z : State} {a0 : Array Value} (hw : ∀ d ∈ tables_1, d.before a0 Z = true) := hw _ (List.mem_of_getElem? (i := 11) rfl)
def tw12 {Z : State} {a0 : Array Value} (hw : ∀ d ∈ tables_1, d.before a0 Z = true) := hw _ (List.mem_of_getElem? (i := 12) rfl)
def tw13 {Z : State} {a0 : Array Value} (hw : ∀ d ∈ tables_1, d.before a0 Z = true) := hw _ (List.mem_of_getElem? (i := 13) rfl)
theorem d_prog_22_method_1_code_4 : decode prog_22_method_1_code 4 = .ok (.iload_n 1, 1) := by decide +kernel
theorem d_prog_22_method_1_code_5 : decode prog_22_method_1_code 5 = .ok (.iconst 1, 1) := by decide +kernel
theorem d_prog_22_method_1_code_6 : decode prog_22_method_1_code 6 = .ok (.if_icmp .ge 17, 3) := by decide +kernel
theorem d_prog_22_method_1_code_23 : decode prog_22_method_1_code 23 = .ok (.aload_n 0, 1) := by decide +kernel
theorem d_prog_22_method_1_code_24 : decode prog_22_method_1_code 24 = .ok (.iload_n 1, 1) := by decide +kernel
theorem d_prog_22_method_1_code_25 : decode prog_22_method_1_code 25 = .ok (.putfield 16, 3) := by decide +kernel
def tw14 {Z : State} {a0 : Array Value} (hw : ∀ d ∈ tables_1, d.before a0 Z = true) := hw _ (List.mem_of_getElem? (i := 14) rfl)
def tw15 {Z : State} {a0 : Array Value} (hw : ∀ d ∈ tables_1, d.before a0 Z = true) := hw _ (List.mem_of_getElem? (i := 15) rfl)
def tw6 {Z : State} {a0 : Array Value} (hw : ∀ d ∈ tables_1, d.before a0 Z = true) := hw _ (List.mem_of_getElem? (i := 6) rfl)
def tw20 {Z : State} {a0 : Array Value} (hw : ∀ d ∈ tables_1, d.before a0 Z = true) := hw _ (List.mem_of_getElem? (i := 20) rfl)
def tw22 {Z : State} {a0 : Array Value} (hw : ∀ d ∈ tables_1, d.before a0 Z = true) := hw _ (List.mem_of_getElem? (i := 22) rfl)
theorem d_prog_22_method_1_code_28 : decode prog_22_method_1_code 28 = .ok (.aload_n 0, 1) := by decide +kernel
theorem d_prog_22_method_1_code_29 : decode prog_22_method_1_code 29 = .ok (.dload_n 2, 1) := by decide +kernel
theorem d_prog_22_method_1_code_30 : decode prog_22_method_1_code 30 = .ok (.invokestatic 22, 3) := by decide +kernel
def tw16 {Z : State} {a0 : Array Value} (hw : ∀ d ∈ tables_1, d.before a0 Z = true) := hw _ (List.mem_of_getElem? (i := 16) rfl)
def tw18 {Z : State} {a0 : Array Value} (hw : ∀ d ∈ tables_1, d.before a0 Z = true) := hw _ (List.mem_of_getElem? (i := 18) rfl)
def tw7 {Z : State} {a0 : Array Value} (hw : ∀ d ∈ tables_1, d.before a0 Z = true) := hw _ (List.mem_of_getElem? (i := 7) rfl)
theorem pd_7 : parseMethodDescriptor "(D)D" = some ⟨[.double], some .double⟩ := by decide +kernel
def tw17 {Z : State} {a0 : Array Value} (hw : ∀ d ∈ tables_1, d.before a0 Z = true) := hw _ (List.mem_of_getElem? (i := 17) rfl)
theorem d_prog_22_method_1_code_33 : decode prog_22_method_1_code 33 = .ok (.putfield 26, 3) := by decide +kernel
def tw19 {Z : State} {a0 : Array Value} (hw : ∀ d ∈ tables_1, d.before a0 Z = true) := hw _ (List.mem_of_getElem? (i := 19) rfl)
theorem d_prog_22_method_1_code_36 : decode prog_22_method_1_code 36 = .ok (.aload_n 0, 1) := by decide +kernel
theorem d_prog_22_method_1_code_37 : decode prog_22_method_1_code 37 = .ok (.dconst 1, 1) := by decide +kernel
theorem d_prog_22_method_1_code_38 : decode prog_22_method_1_code 38 = .ok (.dload_n 2, 1) := by decide +kernel
theorem d_prog_22_method_1_code_39 : decode prog_22_method_1_code 39 = .ok (.dsub, 1) := by decide +kernel
theorem d_prog_22_method_1_code_40 : decode prog_22_method_1_code 40 = .ok (.iload_n 1, 1) := by decide +kernel
theorem d_prog_22_method_1_code_41 : decode prog_22_method_1_code 41 = .ok (.i2d, 1) := by decide +kernel
theorem d_prog_22_method_1_code_42 : decode prog_22_method_1_code 42 = .ok (.ddiv, 1) := by decide +kernel
theorem d_prog_22_method_1_code_43 : decode prog_22_method_1_code 43 = .ok (.putfield 30, 3) := by decide +kernel
def tw21 {Z : State} {a0 : Array Value} (hw : ∀ d ∈ tables_1, d.before a0 Z = true) := hw _ (List.mem_of_getElem? (i := 21) rfl)
theorem d_prog_22_method_1_code_46 : decode prog_22_method_1_code 46 = .ok (.return_, 1) := by decide +kernel
set_option maxRecDepth 65536 in
set_option maxHeartbeats 40000000 in
theorem rmI (l : Launch) (Z : State) (a0 : Array Value) (hw : ∀ d ∈ tables_1, d.before a0 Z = true) (ws : List Jvm.Cond) (a : Addr) (n : Int32) (x : UInt64) (h0 : Heap) (n0 : Nat) (Z0 : n0 ≤ h0.size) (E1 : xa5 Z h0 a) (F1 : fd2 Z h0 a (.int (0 : Int32))) (F2 : fd3 Z h0 a (.double (0 : UInt64))) (F3 : fd4 Z h0 a (.double (0 : UInt64))) (ge_a : n0 ≤ a) (hn : ¬ n < 1) (nx : NoNaN64 x) (lo : ¬ own_z x < own_z FP.dconst0) (hi : ¬ own_z FP.dconst1 < own_z x) (n1 : NoNaN64 (FP.dsub FP.dconst1 x)) (n2 : NoNaN64 (FP.ddiv (FP.dsub FP.dconst1 x) (FP.i2d n))) :
    MetFree l mn6 (head1 (Jvm.Cond.code mn6 prog_22_method_1_code 4 none :: ws) ({ frames := 1, cells := 0, slots := 0, locals := 14 } : Room)) (fun aA U => aA = #[(.ref a), (.int n), (.double x)] ∧ Z.Warmed39 U.vm ∧ U.heap = h0) (fun _ _ _ _ _ => True) (fun _ U o U' => ∃ vR LR, o = .returned vR ∧ QrmI Z a n x h0 n0 vR U'.heap LR ∧ FrameEnd U o U' LR ({ frames := 1, cells := 0, slots := 0, locals := 14 } : Room).cells ({ frames := 1, cells := 0, slots := 0, locals := 14 } : Room).slots) := by
  refine MetFree.of_bodySF (plainFor_of_name pn_com_example_meander_meander_WebChain) hisR ?_
  intro p e s m args below meth c s₁ Bd hml0 hPre hKk
  obtain ⟨rfl, hZ, hh⟩ := hPre
  have hx := Bd.exec
  have hby := Bd.bytes
  have hml : c.maxLocals = 4 := hml0
  have hown : s.vm.findClass "com/example/meander/meander/WebChain" = some m.cls := findClass_of_methodNamed Bd.named
  have hnm := (name_of_methodNamed Bd.named Bd.method).1
  have X0 : Stand p l e ({ frames := 1, cells := 0, slots := 0, locals := 14 } : Room) s m #[(.ref a), (.int n), (.double x)] below meth c s₁ [] 0 0 := Stand.of_body Bd
  have e0 : s₁.heap = h0 := by rw [← hh, Bd.state]; rfl
  have N0 := Fr.nil n0
  obtain ⟨E0, hE0⟩ : ∃ zE : State, zE = s₁.setTop (entryFrame m #[(.ref a), (.int n), (.double x)] 4) := ⟨_, rfl⟩
  have k0 : own_G p e below E0 s₁ (mkF m 0 #[vr a, vi n, vd x, ss] []) := fun tz kz => hE0 ▸ castTop (ef_rmI m a n x) kz
  have K0 : Keep h0 h0 [a] := Keep.refl _ _
  have k6 : own_G p e below E0 s₁ (mkF m 1 #[vr a, vi n, vd x, ss] [(.ref a)]) := by
    intro t kk
    refine k0 t ?_
    refine XS.aloadN X0.here hx rfl (hb hby d_prog_22_method_1_code_0) rfl rfl ?_
    exact kk
  obtain ⟨T7, X8, e9, st10⟩ := initO X0 hx hZ hown (tw11 hw) (tw12 hw) (tw13 hw) e0 (g := (mkF m 1 #[vr a, vi n, vd x, ss] [(.ref a)])) rfl (by rw [hml]; rfl) rfl (hb hby d_prog_22_method_1_code_1) (by decide) (W := 0) (by show 2 * 0 + _ ≤ _; exact Nat.le_of_eq rfl) (by decide)
  have k11 : own_G p e below E0 T7 (mkF m 4 #[vr a, vi n, vd x, ss] []) := fun t kk => k6 t (st10 _ kk)
  have k12 : own_G p e below E0 T7 (mkF m 25 #[vr a, vi n, vd x, ss] [(.int n), (.ref a)]) := by
    intro t kk
    refine k11 t ?_
    refine XS.iloadN X8.here hx rfl (hb hby d_prog_22_method_1_code_4) rfl ?_
    refine XS.iconst X8.here hx rfl (hb hby d_prog_22_method_1_code_5) ?_
    refine XS.icmpYes X8.here hx rfl (pc0 := 6) (pc' := 23) rfl (hb hby d_prog_22_method_1_code_6) rfl (own_ic_geY hn) (by decide) (by decide) ?_
    refine XS.aloadN X8.here hx rfl (hb hby d_prog_22_method_1_code_23) rfl rfl ?_
    show Steps p.tables e below (T7.setTop (mkF m 24 #[vr a, vi n, vd x, ss] [(.ref a)])) t
    refine XS.iloadN X8.here hx rfl (hb hby d_prog_22_method_1_code_24) rfl ?_
    exact kk
  obtain ⟨T13, h14, X15, e16, W17, st18⟩ := putF X8 hx hZ hown (host := "") (Or.inl (tw14 hw)) Via.refl e9 F1 E1 (Or.inr ⟨(tw15 hw), rfl, hnm⟩) (tw6 hw) (ty := .int) (by decide) rfl rfl (g := (mkF m 25 #[vr a, vi n, vd x, ss] [(.int n), (.ref a)])) rfl rfl (hb hby d_prog_22_method_1_code_25)
  have N19 := Fr.snoc X15 N0 ge_a
  have k20 : own_G p e below E0 T13 (mkF m 28 #[vr a, vi n, vd x, ss] []) := fun t kk => k12 t (st18 _ kk)
  have F21 : xa5 Z h14 a := E1.wr W17
  have F22 : fd2 Z h14 a (.int n) := F1.same W17
  have F23 : fd3 Z h14 a (.double (0 : UInt64)) := F2.other W17 (Or.inr (slot_ne (C := "com/example/meander/meander/WebChain") (Or.inr (tw20 hw)) (Or.inr (tw15 hw)) (by decide) (t := .double) (t' := .int) (by decide) (by decide)))
  have F24 : fd4 Z h14 a (.double (0 : UInt64)) := F3.other W17 (Or.inr (slot_ne (C := "com/example/meander/meander/WebChain") (Or.inr (tw22 hw)) (Or.inr (tw15 hw)) (by decide) (t := .double) (t' := .int) (by decide) (by decide)))
  have Z25 : n0 ≤ h14.size := by rw [W17.size]; exact Z0
  have K26 : Keep h0 h14 [a] := K0.wr W17 (Or.inl (List.mem_of_getElem? (i := 0) rfl))
  have k27 : own_G p e below E0 T13 (mkF m 30 #[vr a, vi n, vd x, ss] [(.double x), (.ref a)]) := by
    intro t kk
    refine k20 t ?_
    refine XS.aloadN X15.here hx rfl (hb hby d_prog_22_method_1_code_28) rfl rfl ?_
    refine XS.dloadN X15.here hx rfl (hb hby d_prog_22_method_1_code_29) rfl ?_
    exact kk
  obtain ⟨_, _, ⟨T28, L29, kc30, nc31⟩, -, X32, ⟨Lc33, hQ34, l35, y36, z37⟩, st38⟩ := Jvm.LawKit.callS X15 hx (y := mn1) hown (mvT hZ (tw16 hw)) (mvT hZ (tw17 hw)) (mvT hZ (tw7 hw)) (mvT hZ (tw18 hw)) (by decide) (backOf (W := 1) (rmA l Z a0 hw [] x h14 n0 Z25 nx lo hi) hZ (tw18 hw) (tw7 hw) (by decide) (by decide)) (g := (mkF m 30 #[vr a, vi n, vd x, ss] [(.double x), (.ref a)])) rfl (by rw [hml]; rfl) (argsL := [(.double x)]) (rest := [(.ref a)]) (lenOf pd_7 rfl) rfl (by show 2 * 0 + _ ≤ _; exact Nat.le_of_eq rfl) (hb hby d_prog_22_method_1_code_30) (fun _ _ => ⟨rfl, e16, (by decide : 0 + 0 ≤ _), (by decide : 0 + 0 ≤ _)⟩)
  dsimp only [Pt.U, Pt.locs, Pt.cells, Pt.slots] at X32 l35 y36 z37 st38 hQ34
  subst l35 y36 z37
  obtain ⟨rfl, N39, e40⟩ := hQ34
  have N42 := Fr.app N19 N39
  have k43 : own_G p e below E0 T28 (mkF m 33 #[vr a, vi n, vd x, ss] [(.double x), (.ref a)]) := fun t kk => k27 t (st38 _ kk)
  obtain ⟨T44, h45, X46, e47, W48, st49⟩ := putF X32 hx hZ hown (host := "") (Or.inl (tw19 hw)) Via.refl e40 F23 F21 (Or.inr ⟨(tw20 hw), rfl, hnm⟩) (tw6 hw) (ty := .double) (by decide) rfl rfl (g := (mkF m 33 #[vr a, vi n, vd x, ss] [(.double x), (.ref a)])) rfl rfl (hb hby d_prog_22_method_1_code_33)
  have N50 := Fr.snoc X46 N42 ge_a
  have k51 : own_G p e below E0 T44 (mkF m 36 #[vr a, vi n, vd x, ss] []) := fun t kk => k43 t (st49 _ kk)
  have F52 : xa5 Z h45 a := F21.wr W48
  have F53 : fd2 Z h45 a (.int n) := F22.other W48 (Or.inr (slot_ne (C := "com/example/meander/meander/WebChain") (Or.inr (tw15 hw)) (Or.inr (tw20 hw)) (by decide) (t := .int) (t' := .double) (by decide) (by decide)))
  have F54 : fd3 Z h45 a (.double x) := F23.same W48
  have F55 : fd4 Z h45 a (.double (0 : UInt64)) := F24.other W48 (Or.inr (slot_ne (C := "com/example/meander/meander/WebChain") (Or.inr (tw22 hw)) (Or.inr (tw20 hw)) (by decide) (t := .double) (t' := .double) (by decide) (by decide)))
  have Z56 : n0 ≤ h45.size := by rw [W48.size]; exact Z25
  have K57 : Keep h0 h45 [a] := K26.wr W48 (Or.inl (List.mem_of_getElem? (i := 0) rfl))
  have k58 : own_G p e below E0 T44 (mkF m 43 #[vr a, vi n, vd x, ss] [(.double (FP.ddiv (FP.dsub FP.dconst1 x) (FP.i2d n))), (.ref a)]) := by
    intro t kk
    refine k51 t ?_
    refine XS.aloadN X46.here hx rfl (hb hby d_prog_22_method_1_code_36) rfl rfl ?_
    refine XS.dconst1 X46.here hx rfl (hb hby d_prog_22_method_1_code_37) rfl ?_
    refine XS.dloadN X46.here hx rfl (hb hby d_prog_22_method_1_code_38) rfl ?_
    refine XS.dsubS X46.here hx rfl (hb hby d_prog_22_method_1_code_39) rfl n1 rfl ?_
    show Steps p.tables e below (T44.setTop (mkF m 40 #[vr a, vi n, vd x, ss] [(.double (FP.dsub FP.dconst1 x)), (.ref a)])) t
    refine XS.iloadN X46.here hx rfl (hb hby d_prog_22_method_1_code_40) rfl ?_
    refine XS.i2dS X46.here hx rfl (hb hby d_prog_22_method_1_code_41) rfl rfl ?_
    refine XS.ddivS X46.here hx rfl (hb hby d_prog_22_method_1_code_42) rfl n2 rfl ?_
    exact kk
  obtain ⟨T59, h60, X61, e62, W63, st64⟩ := putF X46 hx hZ hown (host := "") (Or.inl (tw21 hw)) Via.refl e47 F55 F52 (Or.inr ⟨(tw22 hw), rfl, hnm⟩) (tw6 hw) (ty := .double) (by decide) rfl rfl (g := (mkF m 43 #[vr a, vi n, vd x, ss] [(.double (FP.ddiv (FP.dsub FP.dconst1 x) (FP.i2d n))), (.ref a)])) rfl rfl (hb hby d_prog_22_method_1_code_43)
  have N65 := Fr.snoc X61 N50 ge_a
  have k66 : own_G p e below E0 T59 (mkF m 46 #[vr a, vi n, vd x, ss] []) := fun t kk => k58 t (st64 _ kk)
  have F67 : xa5 Z h60 a := F52.wr W63
  have F68 : fd2 Z h60 a (.int n) := F53.other W63 (Or.inr (slot_ne (C := "com/example/meander/meander/WebChain") (Or.inr (tw15 hw)) (Or.inr (tw22 hw)) (by decide) (t := .int) (t' := .double) (by decide) (by decide)))
  have F69 : fd3 Z h60 a (.double x) := F54.other W63 (Or.inr (slot_ne (C := "com/example/meander/meander/WebChain") (Or.inr (tw20 hw)) (Or.inr (tw22 hw)) (by decide) (t := .double) (t' := .double) (by decide) (by decide)))
  have F70 : fd4 Z h60 a (.double (FP.ddiv (FP.dsub FP.dconst1 x) (FP.i2d n))) := F55.same W63
  have Z71 : n0 ≤ h60.size := by rw [W63.size]; exact Z56
  have K72 : Keep h0 h60 [a] := K57.wr W63 (Or.inl (List.mem_of_getElem? (i := 0) rfl))
  obtain ⟨fs, hr, hrun, hended, hW, hsame⟩ := X61.leave (v := none) (fun _ => rfl)
  have hrun0 := k66 _ (X61.returnOut hx Bd.returns (hb hby d_prog_22_method_1_code_46) hr)
  subst hE0
  refine ⟨_, _, hrun0, hrun, hended, _, _, rfl, ?_, ⟨_, rfl⟩, hW, hsame.mono (by decide) (by decide)⟩
  show QrmI Z a n x h0 n0 _ T59.heap _
  rw [e62]
  exact ⟨rfl, N65, K72, F68, F69, F70⟩
def QrmC (Z : State) (d : Int32) (h0 : Heap) (n0 : Nat) (vQ : Option Value) (hQ : Heap) (LQ : List Loc) : Prop := vQ = none ∧ Fr n0 LQ ∧ hQ = h0
theorem ef_rmC (m : MethodId) (d : Int32) : entryFrame m #[(.int d)] 1 = mkF m 0 #[vi d] [] := by first | (simp [entryFrame, mkF, argsToLocals, Value.category]; done) | rfl
abbrev mn8 : MethodName := ⟨"com/example/meander/meander/WebChain", "checkOutLinks", "(I)V"⟩
theorem d_prog_22_method_6_code_0 : decode prog_22_method_6_code 0 = .ok (.iload_n 0, 1) := by decide +kernel
theorem d_prog_22_method_6_code_1 : decode prog_22_method_6_code 1 = .ok (.ifCond .ge 17, 3) := by decide +kernel
theorem d_prog_22_method_6_code_18 : decode prog_22_method_6_code 18 = .ok (.return_, 1) := by decide +kernel
set_option maxRecDepth 65536 in
set_option maxHeartbeats 40000000 in
theorem rmC (l : Launch) (Z : State) (a0 : Array Value) (hw : ∀ d ∈ tables_1, d.before a0 Z = true) (ws : List Jvm.Cond) (d : Int32) (h0 : Heap) (n0 : Nat) (Z0 : n0 ≤ h0.size) (hd : ¬ d < 0) :
    MetFree l mn8 (head1 (Jvm.Cond.code mn8 prog_22_method_6_code 1 none :: ws) ({ frames := 0, cells := 0, slots := 0, locals := 0 } : Room)) (fun aA U => aA = #[(.int d)] ∧ Z.Warmed39 U.vm ∧ U.heap = h0) (fun _ _ _ _ _ => True) (fun _ U o U' => ∃ vR LR, o = .returned vR ∧ QrmC Z d h0 n0 vR U'.heap LR ∧ FrameEnd U o U' LR ({ frames := 0, cells := 0, slots := 0, locals := 0 } : Room).cells ({ frames := 0, cells := 0, slots := 0, locals := 0 } : Room).slots) := by
  refine MetFree.of_bodySF (plainFor_of_name pn_com_example_meander_meander_WebChain) hisR ?_
  intro p e s m args below meth c s₁ Bd hml0 hPre hKk
  obtain ⟨rfl, hZ, hh⟩ := hPre
  have hx := Bd.exec
  have hby := Bd.bytes
  have hml : c.maxLocals = 1 := hml0
  have hown : s.vm.findClass "com/example/meander/meander/WebChain" = some m.cls := findClass_of_methodNamed Bd.named
  have hnm := (name_of_methodNamed Bd.named Bd.method).1
  have X0 : Stand p l e ({ frames := 0, cells := 0, slots := 0, locals := 0 } : Room) s m #[(.int d)] below meth c s₁ [] 0 0 := Stand.of_body Bd
  have e0 : s₁.heap = h0 := by rw [← hh, Bd.state]; rfl
  have N0 := Fr.nil n0
  obtain ⟨E0, hE0⟩ : ∃ zE : State, zE = s₁.setTop (entryFrame m #[(.int d)] 1) := ⟨_, rfl⟩
  have k0 : own_G p e below E0 s₁ (mkF m 0 #[vi d] []) := fun tz kz => hE0 ▸ castTop (ef_rmC m d) kz
  have k73 : own_G p e below E0 s₁ (mkF m 18 #[vi d] []) := by
    intro t kk
    refine k0 t ?_
    refine XS.iloadN X0.here hx rfl (hb hby d_prog_22_method_6_code_0) rfl ?_
    refine XS.ifYes X0.here hx rfl (pc0 := 1) (pc' := 18) rfl (hb hby d_prog_22_method_6_code_1) rfl (own_if_geY hd) (by decide) (by decide) ?_
    exact kk
  obtain ⟨fs, hr, hrun, hended, hW, hsame⟩ := X0.leave (v := none) (fun _ => rfl)
  have hrun0 := k73 _ (X0.returnOut hx Bd.returns (hb hby d_prog_22_method_6_code_18) hr)
  subst hE0
  refine ⟨_, _, hrun0, hrun, hended, _, _, rfl, ?_, ⟨_, rfl⟩, hW, hsame.mono (by decide) (by decide)⟩
  show QrmC Z d h0 n0 _ s₁.heap _
  rw [e0]
  exact ⟨rfl, N0, rfl⟩
def QrmJ (Z : State) (a : Addr) (d : Int32) (n : Int32) (j : UInt64) (h0 : Heap) (n0 : Nat) (vQ : Option Value) (hQ : Heap) (LQ : List Loc) : Prop := vQ = some (.double (if d = 0 then (FP.ddiv FP.dconst1 (FP.i2d n)) else j)) ∧ Fr n0 LQ ∧ hQ = h0
theorem ef_rmJ (m : MethodId) (a : Addr) (d : Int32) (n : Int32) (j : UInt64) : entryFrame m #[(.ref a), (.int d)] 4 = mkF m 0 #[vr a, vi d, uu, uu] [] := by first | (simp [entryFrame, mkF, argsToLocals, Value.category]; done) | rfl
abbrev mn9 : MethodName := ⟨"com/example/meander/meander/WebChain", "jump", "(I)D"⟩
theorem d_prog_22_method_4_code_0 : decode prog_22_method_4_code 0 = .ok (.iload_n 1, 1) := by decide +kernel
theorem d_prog_22_method_4_code_1 : decode prog_22_method_4_code 1 = .ok (.invokestatic 36, 3) := by decide +kernel
def tw28 {Z : State} {a0 : Array Value} (hw : ∀ d ∈ tables_1, d.before a0 Z = true) := hw _ (List.mem_of_getElem? (i := 28) rfl)
def tw30 {Z : State} {a0 : Array Value} (hw : ∀ d ∈ tables_1, d.before a0 Z = true) := hw _ (List.mem_of_getElem? (i := 30) rfl)
theorem pd_10 : parseMethodDescriptor "(I)V" = some ⟨[.int], none⟩ := by decide +kernel
def tw29 {Z : State} {a0 : Array Value} (hw : ∀ d ∈ tables_1, d.before a0 Z = true) := hw _ (List.mem_of_getElem? (i := 29) rfl)
theorem d_prog_22_method_4_code_4 : decode prog_22_method_4_code 4 = .ok (.iload_n 1, 1) := by decide +kernel
theorem d_prog_22_method_4_code_5 : decode prog_22_method_4_code 5 = .ok (.ifCond .ne 14, 3) := by decide +kernel
theorem d_prog_22_method_4_code_8 : decode prog_22_method_4_code 8 = .ok (.dconst 1, 1) := by decide +kernel
theorem d_prog_22_method_4_code_9 : decode prog_22_method_4_code 9 = .ok (.aload_n 0, 1) := by decide +kernel
theorem d_prog_22_method_4_code_10 : decode prog_22_method_4_code 10 = .ok (.getfield 16, 3) := by decide +kernel
theorem d_prog_22_method_4_code_13 : decode prog_22_method_4_code 13 = .ok (.i2d, 1) := by decide +kernel
theorem d_prog_22_method_4_code_14 : decode prog_22_method_4_code 14 = .ok (.ddiv, 1) := by decide +kernel
theorem d_prog_22_method_4_code_15 : decode prog_22_method_4_code 15 = .ok (.dstore_n 2, 1) := by decide +kernel
theorem d_prog_22_method_4_code_16 : decode prog_22_method_4_code 16 = .ok (.goto 8, 3) := by decide +kernel
theorem d_prog_22_method_4_code_24 : decode prog_22_method_4_code 24 = .ok (.dload_n 2, 1) := by decide +kernel
theorem d_prog_22_method_4_code_25 : decode prog_22_method_4_code 25 = .ok (.dreturn, 1) := by decide +kernel
theorem d_prog_22_method_4_code_19 : decode prog_22_method_4_code 19 = .ok (.aload_n 0, 1) := by decide +kernel
theorem d_prog_22_method_4_code_20 : decode prog_22_method_4_code 20 = .ok (.getfield 30, 3) := by decide +kernel
theorem d_prog_22_method_4_code_23 : decode prog_22_method_4_code 23 = .ok (.dstore_n 2, 1) := by decide +kernel
set_option maxRecDepth 65536 in
set_option maxHeartbeats 40000000 in
theorem rmJ (l : Launch) (Z : State) (a0 : Array Value) (hw : ∀ d ∈ tables_1, d.before a0 Z = true) (ws : List Jvm.Cond) (a : Addr) (d : Int32) (n : Int32) (j : UInt64) (h0 : Heap) (n0 : Nat) (Z0 : n0 ≤ h0.size) (F1 : fd2 Z h0 a (.int n)) (F3 : fd4 Z h0 a (.double j)) (hd : ¬ d < 0) (n3 : NoNaN64 (FP.ddiv FP.dconst1 (FP.i2d n))) :
    MetFree l mn9 (head1 (Jvm.Cond.code mn9 prog_22_method_4_code 4 (some .double) :: ws) ({ frames := 1, cells := 0, slots := 0, locals := 12 } : Room)) (fun aA U => aA = #[(.ref a), (.int d)] ∧ Z.Warmed39 U.vm ∧ U.heap = h0) (fun _ _ _ _ _ => True) (fun _ U o U' => ∃ vR LR, o = .returned vR ∧ QrmJ Z a d n j h0 n0 vR U'.heap LR ∧ FrameEnd U o U' LR ({ frames := 1, cells := 0, slots := 0, locals := 12 } : Room).cells ({ frames := 1, cells := 0, slots := 0, locals := 12 } : Room).slots) := by
  refine MetFree.of_bodySF (plainFor_of_name pn_com_example_meander_meander_WebChain) hisR ?_
  intro p e s m args below meth c s₁ Bd hml0 hPre hKk
  obtain ⟨rfl, hZ, hh⟩ := hPre
  have hx := Bd.exec
  have hby := Bd.bytes
  have hml : c.maxLocals = 4 := hml0
  have hown : s.vm.findClass "com/example/meander/meander/WebChain" = some m.cls := findClass_of_methodNamed Bd.named
  have hnm := (name_of_methodNamed Bd.named Bd.method).1
  have X0 : Stand p l e ({ frames := 1, cells := 0, slots := 0, locals := 12 } : Room) s m #[(.ref a), (.int d)] below meth c s₁ [] 0 0 := Stand.of_body Bd
  have e0 : s₁.heap = h0 := by rw [← hh, Bd.state]; rfl
  have N0 := Fr.nil n0
  obtain ⟨E0, hE0⟩ : ∃ zE : State, zE = s₁.setTop (entryFrame m #[(.ref a), (.int d)] 4) := ⟨_, rfl⟩
  have k0 : own_G p e below E0 s₁ (mkF m 0 #[vr a, vi d, uu, uu] []) := fun tz kz => hE0 ▸ castTop (ef_rmJ m a d n j) kz
  have k74 : own_G p e below E0 s₁ (mkF m 1 #[vr a, vi d, uu, uu] [(.int d)]) := by
    intro t kk
    refine k0 t ?_
    refine XS.iloadN X0.here hx rfl (hb hby d_prog_22_method_4_code_0) rfl ?_
    exact kk
  obtain ⟨_, _, ⟨T75, L76, kc77, nc78⟩, -, X79, ⟨Lc80, hQ81, l82, y83, z84⟩, st85⟩ := Jvm.LawKit.callS X0 hx (y := mn8) hown (mvT hZ (tw28 hw)) (mvT hZ (tw29 hw)) (mvT hZ (tw7 hw)) (mvT hZ (tw30 hw)) (by decide) (backOf (W := 0) (rmC l Z a0 hw [] d h0 n0 Z0 hd) hZ (tw30 hw) (tw7 hw) (by decide) (by decide)) (g := (mkF m 1 #[vr a, vi d, uu, uu] [(.int d)])) rfl (by rw [hml]; rfl) (argsL := [(.int d)]) (rest := []) (lenOf pd_10 rfl) rfl (by show 2 * 0 + _ ≤ _; exact Nat.le_of_eq rfl) (hb hby d_prog_22_method_4_code_1) (fun _ _ => ⟨rfl, e0, (by decide : 0 + 0 ≤ _), (by decide : 0 + 0 ≤ _)⟩)
  dsimp only [Pt.U, Pt.locs, Pt.cells, Pt.slots] at X79 l82 y83 z84 st85 hQ81
  subst l82 y83 z84
  obtain ⟨rfl, N86, e87⟩ := hQ81
  have N89 := Fr.app N0 N86
  have k90 : own_G p e below E0 T75 (mkF m 4 #[vr a, vi d, uu, uu] []) := fun t kk => k74 t (st85 _ kk)
  have k91 : own_G p e below E0 T75 (mkF m 5 #[vr a, vi d, uu, uu] [(.int d)]) := by
    intro t kk
    refine k90 t ?_
    refine XS.iloadN X79.here hx rfl (hb hby d_prog_22_method_4_code_4) rfl ?_
    exact kk
  by_cases c92 : d = 0
  · skip
    have k93 : own_G p e below E0 T75 (mkF m 10 #[vr a, vi d, uu, uu] [(.ref a), (.double FP.dconst1)]) := by
      intro t kk
      refine k91 t ?_
      refine XS.ifNo X79.here hx rfl (hb hby d_prog_22_method_4_code_5) rfl (own_if_neN c92) ?_
      refine XS.dconst1 X79.here hx rfl (hb hby d_prog_22_method_4_code_8) rfl ?_
      refine XS.aloadN X79.here hx rfl (hb hby d_prog_22_method_4_code_9) rfl rfl ?_
      exact kk
    obtain ⟨T94, X95, e96, st97⟩ := getF X79 hx hZ hown (host := "") (Or.inl (tw14 hw)) Via.refl e87 F1 (g := (mkF m 10 #[vr a, vi d, uu, uu] [(.ref a), (.double FP.dconst1)])) rfl rfl (hb hby d_prog_22_method_4_code_10)
    have k98 : own_G p e below E0 T94 (mkF m 13 #[vr a, vi d, uu, uu] [(.int n), (.double FP.dconst1)]) := fun t kk => k93 t (st97 _ kk)
    have k99 : own_G p e below E0 T94 (mkF m 25 #[vr a, vi d, vd (FP.ddiv FP.dconst1 (FP.i2d n)), ss] [(.double (FP.ddiv FP.dconst1 (FP.i2d n)))]) := by
      intro t kk
      refine k98 t ?_
      refine XS.i2dS X95.here hx rfl (hb hby d_prog_22_method_4_code_13) rfl rfl ?_
      refine XS.ddivS X95.here hx rfl (hb hby d_prog_22_method_4_code_14) rfl n3 rfl ?_
      refine XS.dstoreN X95.here hx rfl (hb hby d_prog_22_method_4_code_15) rfl (l' := #[vr a, vi d, vd (FP.ddiv FP.dconst1 (FP.i2d n)), ss]) rfl ?_
      refine XS.goto X95.here hx rfl (pc0 := 16) (pc' := 24) rfl (hb hby d_prog_22_method_4_code_16) (by decide) (by decide) ?_
      show Steps p.tables e below (T94.setTop (mkF m 24 #[vr a, vi d, vd (FP.ddiv FP.dconst1 (FP.i2d n)), ss] [])) t
      refine XS.dloadN X95.here hx rfl (hb hby d_prog_22_method_4_code_24) rfl ?_
      exact kk
    obtain ⟨fs, hr, hrun, hended, hW, hsame⟩ := X95.leave (v := some (.double (FP.ddiv FP.dconst1 (FP.i2d n)))) (fun h => by rw [Bd.returns] at h; cases h)
    have hrun0 := k99 _ (retOut X95 hx Bd.returns (t := .double) rfl (Or.inr (Or.inr (Or.inl ⟨rfl, rfl, _, rfl⟩))) (hb hby d_prog_22_method_4_code_25) hr)
    subst hE0
    refine ⟨_, _, hrun0, hrun, hended, _, _, rfl, ?_, ⟨_, rfl⟩, hW, hsame.mono (by decide) (by decide)⟩
    show QrmJ Z a d n j h0 n0 _ T94.heap _
    rw [e96]
    exact ⟨by rw [if_pos c92], N89, rfl⟩
  · skip
    have k100 : own_G p e below E0 T75 (mkF m 20 #[vr a, vi d, uu, uu] [(.ref a)]) := by
      intro t kk
      refine k91 t ?_
      refine XS.ifYes X79.here hx rfl (pc0 := 5) (pc' := 19) rfl (hb hby d_prog_22_method_4_code_5) rfl (own_if_neY c92) (by decide) (by decide) ?_
      refine XS.aloadN X79.here hx rfl (hb hby d_prog_22_method_4_code_19) rfl rfl ?_
      exact kk
    obtain ⟨T101, X102, e103, st104⟩ := getF X79 hx hZ hown (host := "") (Or.inl (tw21 hw)) Via.refl e87 F3 (g := (mkF m 20 #[vr a, vi d, uu, uu] [(.ref a)])) rfl rfl (hb hby d_prog_22_method_4_code_20)
    have k105 : own_G p e below E0 T101 (mkF m 23 #[vr a, vi d, uu, uu] [(.double j)]) := fun t kk => k100 t (st104 _ kk)
    have k106 : own_G p e below E0 T101 (mkF m 25 #[vr a, vi d, vd j, ss] [(.double j)]) := by
      intro t kk
      refine k105 t ?_
      refine XS.dstoreN X102.here hx rfl (hb hby d_prog_22_method_4_code_23) rfl (l' := #[vr a, vi d, vd j, ss]) rfl ?_
      refine XS.dloadN X102.here hx rfl (hb hby d_prog_22_method_4_code_24) rfl ?_
      exact kk
    obtain ⟨fs, hr, hrun, hended, hW, hsame⟩ := X102.leave (v := some (.double j)) (fun h => by rw [Bd.returns] at h; cases h)
    have hrun0 := k106 _ (retOut X102 hx Bd.returns (t := .double) rfl (Or.inr (Or.inr (Or.inl ⟨rfl, rfl, _, rfl⟩))) (hb hby d_prog_22_method_4_code_25) hr)
    subst hE0
    refine ⟨_, _, hrun0, hrun, hended, _, _, rfl, ?_, ⟨_, rfl⟩, hW, hsame.mono (by decide) (by decide)⟩
    show QrmJ Z a d n j h0 n0 _ T101.heap _
    rw [e103]
    exact ⟨by rw [if_neg c92], N89, rfl⟩
def Qrm0 (Z : State) (p0 : Int32) (p1 : Int32) (p2 : Int32) (p3 : Int32) (h0 : Heap) (n0 : Nat) (vQ : Option Value) (hQ : Heap) (LQ : List Loc) : Prop := vQ = some (.int (1 : Int32)) ∧ Fr n0 LQ
theorem ef_rm0 (m : MethodId) (p0 : Int32) (p1 : Int32) (p2 : Int32) (p3 : Int32) : entryFrame m #[(.int p0), (.int p1), (.int p2), (.int p3)] maxLocals = mkF m 0 #[vi p0, vi p1, vi p2, vi p3, uu, uu, uu, uu, uu, uu, uu, uu, uu, uu, uu] [] := by first | (simp [entryFrame, mkF, argsToLocals, Value.category, maxLocals]; done) | rfl
theorem pn_com_example_meander_meander_WebChainJumpPinLaw : plainName "com/example/meander/meander/WebChainJumpPinLaw" = true := by first | (simp [plainName, overriddenIn]; done) | decide +kernel
def tw0 {Z : State} {a0 : Array Value} (hw : ∀ d ∈ tables_1, d.before a0 Z = true) := hw _ (List.mem_of_getElem? (i := 0) rfl)
def tw1 {Z : State} {a0 : Array Value} (hw : ∀ d ∈ tables_1, d.before a0 Z = true) := hw _ (List.mem_of_getElem? (i := 1) rfl)
def tw4 {Z : State} {a0 : Array Value} (hw : ∀ d ∈ tables_1, d.before a0 Z = true) := hw _ (List.mem_of_getElem? (i := 4) rfl)
def tw3 {Z : State} {a0 : Array Value} (hw : ∀ d ∈ tables_1, d.before a0 Z = true) := hw _ (List.mem_of_getElem? (i := 3) rfl)
theorem pd_11 : parseMethodDescriptor "(II)I" = some ⟨[.int, .int], some .int⟩ := by decide +kernel
def tw2 {Z : State} {a0 : Array Value} (hw : ∀ d ∈ tables_1, d.before a0 Z = true) := hw _ (List.mem_of_getElem? (i := 2) rfl)
def tw5 {Z : State} {a0 : Array Value} (hw : ∀ d ∈ tables_1, d.before a0 Z = true) := hw _ (List.mem_of_getElem? (i := 5) rfl)
def tw8 {Z : State} {a0 : Array Value} (hw : ∀ d ∈ tables_1, d.before a0 Z = true) := hw _ (List.mem_of_getElem? (i := 8) rfl)
def tw10 {Z : State} {a0 : Array Value} (hw : ∀ d ∈ tables_1, d.before a0 Z = true) := hw _ (List.mem_of_getElem? (i := 10) rfl)
theorem pd_12 : parseMethodDescriptor "(ID)V" = some ⟨[.int, .double], none⟩ := by decide +kernel
def tw9 {Z : State} {a0 : Array Value} (hw : ∀ d ∈ tables_1, d.before a0 Z = true) := hw _ (List.mem_of_getElem? (i := 9) rfl)
def tw23 {Z : State} {a0 : Array Value} (hw : ∀ d ∈ tables_1, d.before a0 Z = true) := hw _ (List.mem_of_getElem? (i := 23) rfl)
def tw26 {Z : State} {a0 : Array Value} (hw : ∀ d ∈ tables_1, d.before a0 Z = true) := hw _ (List.mem_of_getElem? (i := 26) rfl)
def tw27 {Z : State} {a0 : Array Value} (hw : ∀ d ∈ tables_1, d.before a0 Z = true) := hw _ (List.mem_of_getElem? (i := 27) rfl)
theorem pd_13 : parseMethodDescriptor "(I)D" = some ⟨[.int], some .double⟩ := by decide +kernel
def tw24 {Z : State} {a0 : Array Value} (hw : ∀ d ∈ tables_1, d.before a0 Z = true) := hw _ (List.mem_of_getElem? (i := 24) rfl)
def tw25 {Z : State} {a0 : Array Value} (hw : ∀ d ∈ tables_1, d.before a0 Z = true) := hw _ (List.mem_of_getElem? (i := 25) rfl)
set_option maxRecDepth 65536 in
set_option maxHeartbeats 40000000 in
theorem rm0 (l : Launch) (Z : State) (a0 : Array Value) (hw : ∀ d ∈ tables_1, d.before a0 Z = true) (ws : List Jvm.Cond) (p0 : Int32) (p1 : Int32) (p2 : Int32) (p3 : Int32) (h0 : Heap) (n0 : Nat) (Z0 : n0 ≤ h0.size)  :
    MetFree l x (head1 (Jvm.Cond.code x code maxLocals ret :: ws) room_1) (fun aA U => aA = #[(.int p0), (.int p1), (.int p2), (.int p3)] ∧ Z.Warmed39 U.vm ∧ U.heap = h0) (fun _ _ _ _ _ => True) (fun _ U o U' => ∃ vR LR, o = .returned vR ∧ Qrm0 Z p0 p1 p2 p3 h0 n0 vR U'.heap LR ∧ FrameEnd U o U' LR 16 128) := by
  refine MetFree.of_bodySF (plainFor_of_name pn_com_example_meander_meander_WebChainJumpPinLaw) hisR ?_
  intro p e s m args below meth c s₁ Bd hml0 hPre hKk
  obtain ⟨rfl, hZ, hh⟩ := hPre
  have hx := Bd.exec
  have hby := Bd.bytes
  have hml : c.maxLocals = 15 := hml0
  have hown : s.vm.findClass "com/example/meander/meander/WebChainJumpPinLaw" = some m.cls := findClass_of_methodNamed Bd.named
  have hnm := (name_of_methodNamed Bd.named Bd.method).1
  have X0 : Stand p l e room_1 s m #[(.int p0), (.int p1), (.int p2), (.int p3)] below meth c s₁ [] 0 0 := Stand.of_body Bd
  have e0 : s₁.heap = h0 := by rw [← hh, Bd.state]; rfl
  have N0 := Fr.nil n0
  obtain ⟨E0, hE0⟩ : ∃ zE : State, zE = s₁.setTop (entryFrame m #[(.int p0), (.int p1), (.int p2), (.int p3)] maxLocals) := ⟨_, rfl⟩
  have k0 : own_G p e below E0 s₁ (mkF m 0 #[vi p0, vi p1, vi p2, vi p3, uu, uu, uu, uu, uu, uu, uu, uu, uu, uu, uu] []) := fun tz kz => hE0 ▸ castTop (ef_rm0 m p0 p1 p2 p3) kz
  have k107 : own_G p e below E0 s₁ (mkF m 2 #[vi p0, vi p1, vi p2, vi p3, uu, uu, uu, uu, uu, uu, uu, uu, uu, uu, uu] [(.int p0), (.int (1 : Int32))]) := by
    intro t kk
    refine k0 t ?_
    refine XS.iconst X0.here hx rfl (hb hby at_0) ?_
    refine XS.iloadN X0.here hx rfl (hb hby at_1) rfl ?_
    exact kk
  have st108 := X0.ldcInt hx hown (mvT hZ (tw0 hw)) (g := (mkF m 2 #[vi p0, vi p1, vi p2, vi p3, uu, uu, uu, uu, uu, uu, uu, uu, uu, uu, uu] [(.int p0), (.int (1 : Int32))])) rfl (hb hby at_2)
  have k109 : own_G p e below E0 s₁ (mkF m 4 #[vi p0, vi p1, vi p2, vi p3, uu, uu, uu, uu, uu, uu, uu, uu, uu, uu, uu] [(.int (2147483647 : Int32)), (.int p0), (.int (1 : Int32))]) := fun t kk => k107 t (st108 _ kk)
  have k110 : own_G p e below E0 s₁ (mkF m 5 #[vi p0, vi p1, vi p2, vi p3, uu, uu, uu, uu, uu, uu, uu, uu, uu, uu, uu] [(.int (p0 &&& (2147483647 : Int32))), (.int (1 : Int32))]) := by
    intro t kk
    refine k109 t ?_
    refine XS.iand X0.here hx rfl (hb hby at_4) rfl ?_
    exact kk
  obtain ⟨_, _, ⟨T111, L112, kc113, nc114⟩, -, X115, ⟨Lc116, hQ117, l118, y119, z120⟩, st121⟩ := Jvm.LawKit.callS X0 hx (y := mn0) hown (mvT hZ (tw1 hw)) (mvT hZ (tw2 hw)) (mvT hZ (tw3 hw)) (mvT hZ (tw4 hw)) (by decide) (backOf (W := 0) (rmX l Z a0 hw [] (1 : Int32) (p0 &&& (2147483647 : Int32)) h0 n0 Z0 ) hZ (tw4 hw) (tw3 hw) (by decide) (by decide)) (g := (mkF m 5 #[vi p0, vi p1, vi p2, vi p3, uu, uu, uu, uu, uu, uu, uu, uu, uu, uu, uu] [(.int (p0 &&& (2147483647 : Int32))), (.int (1 : Int32))])) rfl (by rw [hml]; rfl) (argsL := [(.int (1 : Int32)), (.int (p0 &&& (2147483647 : Int32)))]) (rest := []) (lenOf pd_11 rfl) rfl (by show 2 * 0 + _ ≤ _; exact Nat.le_of_eq rfl) (hb hby at_5) (fun _ _ => ⟨rfl, e0, (by decide : 0 + 0 ≤ _), (by decide : 0 + 0 ≤ _)⟩)
  dsimp only [Pt.U, Pt.locs, Pt.cells, Pt.slots] at X115 l118 y119 z120 st121 hQ117
  subst l118 y119 z120
  obtain ⟨r125, rfl, N122, e123, g126⟩ := hQ117
  have N127 := Fr.app N0 N122
  have k128 : own_G p e below E0 T111 (mkF m 8 #[vi p0, vi p1, vi p2, vi p3, uu, uu, uu, uu, uu, uu, uu, uu, uu, uu, uu] [(.int r125)]) := fun t kk => k110 t (st121 _ kk)
  have bn : 1 ≤ r125.toInt := g126.1
  have hn : ¬ r125 < 1 := own_ge1 bn
  have zn := own_zn1 bn
  have n3 := Fl.ddiv_out (own_nn own_d1) (Fl.i2d_fin r125) zn
  have k129 : own_G p e below E0 T111 (mkF m 17 #[vi p0, vi p1, vi p2, vi p3, vi r125, uu, uu, uu, uu, uu, uu, uu, uu, uu, uu] [(.int ((p2 &&& (255 : Int32)) + (1 : Int32)))]) := by
    intro t kk
    refine k128 t ?_
    refine XS.istore X115.here hx rfl (hb hby at_8) rfl (l' := #[vi p0, vi p1, vi p2, vi p3, vi r125, uu, uu, uu, uu, uu, uu, uu, uu, uu, uu]) rfl ?_
    refine XS.iloadN X115.here hx rfl (hb hby at_10) rfl ?_
    refine XS.sipush X115.here hx rfl (hb hby at_11) ?_
    refine XS.iand X115.here hx rfl (hb hby at_14) rfl ?_
    show Steps p.tables e below (T111.setTop (mkF m 15 #[vi p0, vi p1, vi p2, vi p3, vi r125, uu, uu, uu, uu, uu, uu, uu, uu, uu, uu] [(.int (p2 &&& (255 : Int32)))])) t
    refine XS.iconst X115.here hx rfl (hb hby at_15) ?_
    refine XS.iadd X115.here hx rfl (hb hby at_16) rfl ?_
    exact kk
  obtain ⟨M, hM⟩ : ∃ vA, vA = ((p2 &&& (255 : Int32)) + (1 : Int32)) := ⟨_, rfl⟩
  have k130 : own_G p e below E0 T111 (mkF m 17 #[vi p0, vi p1, vi p2, vi p3, vi r125, uu, uu, uu, uu, uu, uu, uu, uu, uu, uu] [(.int M)]) := by rw [hM]; exact k129
  have bM := own_M p2
  rw [← hM] at bM
  have k131 : own_G p e below E0 T111 (mkF m 20 #[vi p0, vi p1, vi p2, vi p3, vi r125, vi M, uu, uu, uu, uu, uu, uu, uu, uu, uu] [(.int p1)]) := by
    intro t kk
    refine k130 t ?_
    refine XS.istore X115.here hx rfl (hb hby at_17) rfl (l' := #[vi p0, vi p1, vi p2, vi p3, vi r125, vi M, uu, uu, uu, uu, uu, uu, uu, uu, uu]) rfl ?_
    refine XS.iloadN X115.here hx rfl (hb hby at_19) rfl ?_
    exact kk
  have st132 := X115.ldcInt hx hown (mvT hZ (tw0 hw)) (g := (mkF m 20 #[vi p0, vi p1, vi p2, vi p3, vi r125, vi M, uu, uu, uu, uu, uu, uu, uu, uu, uu] [(.int p1)])) rfl (hb hby at_20)
  have k133 : own_G p e below E0 T111 (mkF m 22 #[vi p0, vi p1, vi p2, vi p3, vi r125, vi M, uu, uu, uu, uu, uu, uu, uu, uu, uu] [(.int (2147483647 : Int32)), (.int p1)]) := fun t kk => k131 t (st132 _ kk)
  have k134 : own_G p e below E0 T111 (mkF m 28 #[vi p0, vi p1, vi p2, vi p3, vi r125, vi M, uu, uu, uu, uu, uu, uu, uu, uu, uu] [(.int ((p1 &&& (2147483647 : Int32)) % (M + (1 : Int32))))]) := by
    intro t kk
    refine k133 t ?_
    refine XS.iand X115.here hx rfl (hb hby at_22) rfl ?_
    refine XS.iload X115.here hx rfl (hb hby at_23) rfl ?_
    refine XS.iconst X115.here hx rfl (hb hby at_25) ?_
    refine XS.iadd X115.here hx rfl (hb hby at_26) rfl ?_
    show Steps p.tables e below (T111.setTop (mkF m 27 #[vi p0, vi p1, vi p2, vi p3, vi r125, vi M, uu, uu, uu, uu, uu, uu, uu, uu, uu] [(.int (M + (1 : Int32))), (.int (p1 &&& (2147483647 : Int32)))])) t
    refine iremM X115 hx rfl (hb hby at_27) rfl (own_M1 bM) ?_
    exact kk
  obtain ⟨K, hK⟩ : ∃ vA, vA = ((p1 &&& (2147483647 : Int32)) % (M + (1 : Int32))) := ⟨_, rfl⟩
  have k135 : own_G p e below E0 T111 (mkF m 28 #[vi p0, vi p1, vi p2, vi p3, vi r125, vi M, uu, uu, uu, uu, uu, uu, uu, uu, uu] [(.int K)]) := by rw [hK]; exact k134
  have bK := own_K p1 bM
  rw [← hK] at bK
  have DK := FP.Core.i2d_int K
  have DM := FP.Core.i2d_int M
  have zM : own_z (FP.i2d M) ≠ 0 := by rw [own_zi DM]; have := own_one; exact Int.mul_ne_zero (by omega) (by omega)
  have k136 : own_G p e below E0 T111 (mkF m 36 #[vi p0, vi p1, vi p2, vi p3, vi r125, vi M, vi K, uu, uu, uu, uu, uu, uu, uu, uu] [(.double (FP.i2d M)), (.double (FP.i2d K))]) := by
    intro t kk
    refine k135 t ?_
    refine XS.istore X115.here hx rfl (hb hby at_28) rfl (l' := #[vi p0, vi p1, vi p2, vi p3, vi r125, vi M, vi K, uu, uu, uu, uu, uu, uu, uu, uu]) rfl ?_
    refine XS.iload X115.here hx rfl (hb hby at_30) rfl ?_
    refine XS.i2dS X115.here hx rfl (hb hby at_32) rfl rfl ?_
    refine XS.iload X115.here hx rfl (hb hby at_33) rfl ?_
    show Steps p.tables e below (T111.setTop (mkF m 35 #[vi p0, vi p1, vi p2, vi p3, vi r125, vi M, vi K, uu, uu, uu, uu, uu, uu, uu, uu] [(.int M), (.double (FP.i2d K))])) t
    refine XS.i2dS X115.here hx rfl (hb hby at_35) rfl rfl ?_
    exact kk
  obtain ⟨al, hal⟩ : ∃ vA, FP.ddiv (FP.i2d K) (FP.i2d M) = vA := ⟨_, rfl⟩
  have nal : NoNaN64 al := hal ▸ own_div_nn (own_fini DK) (own_fini DM) zM
  have gK : 0 ≤ own_z (FP.i2d K) := by rw [own_zi DK]; exact Int.mul_nonneg bK.1 (Int.le_of_lt own_one)
  have gM : 0 ≤ own_z (FP.i2d M) := by rw [own_zi DM]; exact Int.mul_nonneg (by omega) (Int.le_of_lt own_one)
  have lal : ¬ own_z al < own_z FP.dconst0 := hal ▸ own_ge0 (own_div_ge0 (own_fini DK) (own_fini DM) zM gK gM)
  have ual : ¬ own_z FP.dconst1 < own_z al := hal ▸ own_le1 (own_div_le (V := FP.dconst1) (own_fini DK) (own_fini DM) zM (own_nn own_d1) gK gM (by rw [own_zi own_d1, Int.one_mul]; exact Int.le_of_lt own_one) (by rw [own_zi DK, own_zi DM, own_zi own_d1]; exact own_le3 bK.2))
  have fal : Fin64 al := own_fin01 nal lal ual
  have n1 : NoNaN64 (FP.dsub FP.dconst1 al) := Fl.dsub_out (own_nn own_d1) fal
  have k137 : own_G p e below E0 T111 (mkF m 40 #[vi p0, vi p1, vi p2, vi p3, vi r125, vi M, vi K, vd al, ss, uu, uu, uu, uu, uu, uu] [(.int p3)]) := by
    intro t kk
    refine k136 t ?_
    refine XS.ddivS X115.here hx rfl (hb hby at_36) rfl (own_div_nn (own_fini DK) (own_fini DM) zM) hal ?_
    refine XS.dstore X115.here hx rfl (hb hby at_37) rfl (l' := #[vi p0, vi p1, vi p2, vi p3, vi r125, vi M, vi K, vd al, ss, uu, uu, uu, uu, uu, uu]) rfl ?_
    refine XS.iloadN X115.here hx rfl (hb hby at_39) rfl ?_
    exact kk
  have st138 := X115.ldcInt hx hown (mvT hZ (tw0 hw)) (g := (mkF m 40 #[vi p0, vi p1, vi p2, vi p3, vi r125, vi M, vi K, vd al, ss, uu, uu, uu, uu, uu, uu] [(.int p3)])) rfl (hb hby at_40)
  have k139 : own_G p e below E0 T111 (mkF m 42 #[vi p0, vi p1, vi p2, vi p3, vi r125, vi M, vi K, vd al, ss, uu, uu, uu, uu, uu, uu] [(.int (2147483647 : Int32)), (.int p3)]) := fun t kk => k137 t (st138 _ kk)
  have k140 : own_G p e below E0 T111 (mkF m 50 #[vi p0, vi p1, vi p2, vi p3, vi r125, vi M, vi K, vd al, ss, vi (p3 &&& (2147483647 : Int32)), uu, uu, uu, uu, uu] [(.int (p3 &&& (256 : Int32)))]) := by
    intro t kk
    refine k139 t ?_
    refine XS.iand X115.here hx rfl (hb hby at_42) rfl ?_
    refine XS.istore X115.here hx rfl (hb hby at_43) rfl (l' := #[vi p0, vi p1, vi p2, vi p3, vi r125, vi M, vi K, vd al, ss, vi (p3 &&& (2147483647 : Int32)), uu, uu, uu, uu, uu]) rfl ?_
    refine XS.iloadN X115.here hx rfl (hb hby at_45) rfl ?_
    refine XS.sipush X115.here hx rfl (hb hby at_46) ?_
    show Steps p.tables e below (T111.setTop (mkF m 49 #[vi p0, vi p1, vi p2, vi p3, vi r125, vi M, vi K, vd al, ss, vi (p3 &&& (2147483647 : Int32)), uu, uu, uu, uu, uu] [(.int (256 : Int32)), (.int p3)])) t
    refine XS.iand X115.here hx rfl (hb hby at_49) rfl ?_
    exact kk
  by_cases c141 : (p3 &&& (256 : Int32)) = 0
  · skip
    have k142 : own_G p e below E0 T111 (mkF m 56 #[vi p0, vi p1, vi p2, vi p3, vi r125, vi M, vi K, vd al, ss, vi (p3 &&& (2147483647 : Int32)), uu, uu, uu, uu, uu] []) := by
      intro t kk
      refine k140 t ?_
      refine XS.ifYes X115.here hx rfl (pc0 := 50) (pc' := 56) rfl (hb hby at_50) rfl (own_if_eqY c141) (by decide) (by decide) ?_
      exact kk
    obtain ⟨T143, h144, X145, e146, E147, A148, D149, -, st150⟩ := newO X115 hx hZ hown (tw5 hw) (tw6 hw) (tw7 hw) e123 (g := (mkF m 56 #[vi p0, vi p1, vi p2, vi p3, vi r125, vi M, vi K, vd al, ss, vi (p3 &&& (2147483647 : Int32)), uu, uu, uu, uu, uu] [])) rfl (hb hby at_56) (by decide) (by decide)
    obtain ⟨a151, g152⟩ : ∃ zA : Nat, zA = h0.size := ⟨_, rfl⟩
    rw [← g152] at A148 D149 st150
    have ge153 : n0 ≤ a151 := by have := Z0; omega
    have Z154 : n0 ≤ h144.size := Nat.le_trans Z0 E147.1
    have F155 : Fld Z h144 a151 "com/example/meander/meander/WebChain" "pages" "I" (.int (0 : Int32)) := (D149 (Or.inr (tw15 hw)) (ty := .int) (by decide))
    have F156 : Fld Z h144 a151 "com/example/meander/meander/WebChain" "alpha" "D" (.double (0 : UInt64)) := (D149 (Or.inr (tw20 hw)) (ty := .double) (by decide))
    have F157 : Fld Z h144 a151 "com/example/meander/meander/WebChain" "jump" "D" (.double (0 : UInt64)) := (D149 (Or.inr (tw22 hw)) (ty := .double) (by decide))
    have k158 : own_G p e below E0 T143 (mkF m 59 #[vi p0, vi p1, vi p2, vi p3, vi r125, vi M, vi K, vd al, ss, vi (p3 &&& (2147483647 : Int32)), uu, uu, uu, uu, uu] [(.ref a151)]) := fun t kk => k142 t (st150 _ kk)
    have k159 : own_G p e below E0 T143 (mkF m 64 #[vi p0, vi p1, vi p2, vi p3, vi r125, vi M, vi K, vd al, ss, vi (p3 &&& (2147483647 : Int32)), uu, uu, uu, uu, uu] [(.double al), (.int r125), (.ref a151), (.ref a151)]) := by
      intro t kk
      refine k158 t ?_
      refine XS.dup X145.here hx rfl (hb hby at_59) rfl rfl ?_
      refine XS.iload X145.here hx rfl (hb hby at_60) rfl ?_
      refine XS.dload X145.here hx rfl (hb hby at_62) rfl ?_
      exact kk
    obtain ⟨_, _, ⟨T160, L161, kc162, nc163⟩, -, X164, ⟨Lc165, hQ166, l167, y168, z169⟩, st170⟩ := X145.specialBack hx (y := mn6) rfl hown (mvT hZ (tw8 hw)) (mvT hZ (tw9 hw)) (mvT hZ (tw10 hw)) (by decide) (backOf (W := 1) (rmI l Z a0 hw [] a151 r125 al h144 n0 Z154 A148 F155 F156 F157 ge153 hn nal lal ual n1 (Fl.ddiv_out n1 (Fl.i2d_fin r125) zn)) hZ (tw10 hw) (tw7 hw) (by decide) (by decide)) (g := (mkF m 64 #[vi p0, vi p1, vi p2, vi p3, vi r125, vi M, vi K, vd al, ss, vi (p3 &&& (2147483647 : Int32)), uu, uu, uu, uu, uu] [(.double al), (.int r125), (.ref a151), (.ref a151)])) rfl (by rw [hml]; rfl) (Steps.refl _) (a := a151) (argsL := [(.int r125), (.double al)]) (rest := [(.ref a151)]) (lenOf pd_12 rfl) rfl (by show 2 * 0 + _ ≤ _; exact Nat.le_of_eq rfl) (hb hby at_64) (fun _ _ => ⟨rfl, e146, (by decide : 1 + 0 ≤ _), (by decide : 3 + 0 ≤ _)⟩)
    dsimp only [Pt.U, Pt.locs, Pt.cells, Pt.slots] at X164 l167 y168 z169 st170 hQ166
    subst l167 y168 z169
    obtain ⟨rfl, N171, K174, g175, g176, g177⟩ := hQ166
    have N178 := Fr.app N127 N171
    have Z179 : n0 ≤ T160.heap.size := Nat.le_trans Z154 K174.1
    have F180 : xa5 Z T160.heap a151 := A148.keep K174
    have k184 : own_G p e below E0 T160 (mkF m 67 #[vi p0, vi p1, vi p2, vi p3, vi r125, vi M, vi K, vd al, ss, vi (p3 &&& (2147483647 : Int32)), uu, uu, uu, uu, uu] [(.ref a151)]) := fun t kk => k159 t (st170.trans kk)
    have k185 : own_G p e below E0 T160 (mkF m 73 #[vi p0, vi p1, vi p2, vi p3, vi r125, vi M, vi K, vd al, ss, vi (p3 &&& (2147483647 : Int32)), vr a151, uu, uu, uu, uu] [(.int (p3 &&& (2147483647 : Int32))), (.ref a151)]) := by
      intro t kk
      refine k184 t ?_
      refine XS.astore X164.here hx rfl (hb hby at_67) rfl rfl (l' := #[vi p0, vi p1, vi p2, vi p3, vi r125, vi M, vi K, vd al, ss, vi (p3 &&& (2147483647 : Int32)), vr a151, uu, uu, uu, uu]) rfl ?_
      refine XS.aload X164.here hx rfl (hb hby at_69) rfl rfl ?_
      refine XS.iload X164.here hx rfl (hb hby at_71) rfl ?_
      exact kk
    obtain ⟨cq197, kq198, qa199, qb200, qc201⟩ := isOf hZ rfl F180
    obtain ⟨_, _, ⟨T186, L187, kc188, nc189⟩, -, X190, ⟨Lc191, hQ192, l193, y194, z195⟩, st196⟩ := X164.virtualBack hx (y := mn9) (z := mn9) hown (mvT hZ (tw23 hw)) (mvT hZ (tw24 hw)) (notFace_of_selects (args := #[]) (mvT hZ (tw26 hw))) (mvT hZ (tw26 hw)) (mvT hZ (tw25 hw)) (by decide) (backOf (W := 0) (rmJ l Z a0 hw [] a151 (p3 &&& (2147483647 : Int32)) r125 (FP.ddiv (FP.dsub FP.dconst1 al) (FP.i2d r125)) T160.heap n0 Z179 g175 g177 (own_md p3) n3) hZ (tw27 hw) (tw7 hw) (by decide) (by decide)) qa199 qc201 (g := (mkF m 73 #[vi p0, vi p1, vi p2, vi p3, vi r125, vi M, vi K, vd al, ss, vi (p3 &&& (2147483647 : Int32)), vr a151, uu, uu, uu, uu] [(.int (p3 &&& (2147483647 : Int32))), (.ref a151)])) rfl (by rw [hml]; rfl) (Steps.refl _) (argsL := [(.int (p3 &&& (2147483647 : Int32)))]) (rest := []) (lenOf pd_13 rfl) rfl (by show 2 * 0 + _ ≤ _; exact Nat.le_of_eq rfl) (hb hby at_73) (fun _ _ => ⟨rfl, rfl, (by decide : 1 + 0 ≤ _), (by decide : 3 + 0 ≤ _)⟩)
    dsimp only [Pt.U, Pt.locs, Pt.cells, Pt.slots] at X190 l193 y194 z195 st196 hQ192
    subst l193 y194 z195
    obtain ⟨rfl, N202, e203⟩ := hQ192
    have N205 := Fr.app N178 N202
    have k206 : own_G p e below E0 T186 (mkF m 76 #[vi p0, vi p1, vi p2, vi p3, vi r125, vi M, vi K, vd al, ss, vi (p3 &&& (2147483647 : Int32)), vr a151, uu, uu, uu, uu] [(.double (if (p3 &&& (2147483647 : Int32)) = 0 then (FP.ddiv FP.dconst1 (FP.i2d r125)) else (FP.ddiv (FP.dsub FP.dconst1 al) (FP.i2d r125))))]) := fun t kk => k185 t (st196.trans kk)
    have k207 : own_G p e below E0 T186 (mkF m 80 #[vi p0, vi p1, vi p2, vi p3, vi r125, vi M, vi K, vd al, ss, vi (p3 &&& (2147483647 : Int32)), vr a151, vd (if (p3 &&& (2147483647 : Int32)) = 0 then (FP.ddiv FP.dconst1 (FP.i2d r125)) else (FP.ddiv (FP.dsub FP.dconst1 al) (FP.i2d r125))), ss, uu, uu] [(.int (p3 &&& (2147483647 : Int32)))]) := by
      intro t kk
      refine k206 t ?_
      refine XS.dstore X190.here hx rfl (hb hby at_76) rfl (l' := #[vi p0, vi p1, vi p2, vi p3, vi r125, vi M, vi K, vd al, ss, vi (p3 &&& (2147483647 : Int32)), vr a151, vd (if (p3 &&& (2147483647 : Int32)) = 0 then (FP.ddiv FP.dconst1 (FP.i2d r125)) else (FP.ddiv (FP.dsub FP.dconst1 al) (FP.i2d r125))), ss, uu, uu]) rfl ?_
      refine XS.iload X190.here hx rfl (hb hby at_78) rfl ?_
      exact kk
    by_cases c208 : (p3 &&& (2147483647 : Int32)) = 0
    · skip
      have k209 : own_G p e below E0 T186 (mkF m 116 #[vi p0, vi p1, vi p2, vi p3, vi r125, vi M, vi K, vd al, ss, vi (p3 &&& (2147483647 : Int32)), vr a151, vd (if (p3 &&& (2147483647 : Int32)) = 0 then (FP.ddiv FP.dconst1 (FP.i2d r125)) else (FP.ddiv (FP.dsub FP.dconst1 al) (FP.i2d r125))), ss, vd (FP.ddiv FP.dconst1 (FP.i2d r125)), ss] [(.int (1 : Int32))]) := by
        intro t kk
        refine k207 t ?_
        refine XS.ifNo X190.here hx rfl (hb hby at_80) rfl (own_if_neN c208) ?_
        refine XS.dconst1 X190.here hx rfl (hb hby at_83) rfl ?_
        refine XS.iload X190.here hx rfl (hb hby at_84) rfl ?_
        refine XS.i2dS X190.here hx rfl (hb hby at_86) rfl rfl ?_
        show Steps p.tables e below (T186.setTop (mkF m 87 #[vi p0, vi p1, vi p2, vi p3, vi r125, vi M, vi K, vd al, ss, vi (p3 &&& (2147483647 : Int32)), vr a151, vd (if (p3 &&& (2147483647 : Int32)) = 0 then (FP.ddiv FP.dconst1 (FP.i2d r125)) else (FP.ddiv (FP.dsub FP.dconst1 al) (FP.i2d r125))), ss, uu, uu] [(.double (FP.i2d r125)), (.double FP.dconst1)])) t
        refine XS.ddivS X190.here hx rfl (hb hby at_87) rfl n3 rfl ?_
        refine XS.dstore X190.here hx rfl (hb hby at_88) rfl (l' := #[vi p0, vi p1, vi p2, vi p3, vi r125, vi M, vi K, vd al, ss, vi (p3 &&& (2147483647 : Int32)), vr a151, vd (if (p3 &&& (2147483647 : Int32)) = 0 then (FP.ddiv FP.dconst1 (FP.i2d r125)) else (FP.ddiv (FP.dsub FP.dconst1 al) (FP.i2d r125))), ss, vd (FP.ddiv FP.dconst1 (FP.i2d r125)), ss]) rfl ?_
        refine XS.goto X190.here hx rfl (pc0 := 90) (pc' := 103) rfl (hb hby at_90) (by decide) (by decide) ?_
        refine XS.dload X190.here hx rfl (hb hby at_103) rfl ?_
        show Steps p.tables e below (T186.setTop (mkF m 105 #[vi p0, vi p1, vi p2, vi p3, vi r125, vi M, vi K, vd al, ss, vi (p3 &&& (2147483647 : Int32)), vr a151, vd (if (p3 &&& (2147483647 : Int32)) = 0 then (FP.ddiv FP.dconst1 (FP.i2d r125)) else (FP.ddiv (FP.dsub FP.dconst1 al) (FP.i2d r125))), ss, vd (FP.ddiv FP.dconst1 (FP.i2d r125)), ss] [(.double (if (p3 &&& (2147483647 : Int32)) = 0 then (FP.ddiv FP.dconst1 (FP.i2d r125)) else (FP.ddiv (FP.dsub FP.dconst1 al) (FP.i2d r125))))])) t
        refine XS.dload X190.here hx rfl (hb hby at_105) rfl ?_
        refine XS.dcmpS X190.here hx rfl (hb hby at_107) rfl (dcmpV_eq (if_pos c208) (by rw [if_pos c208]; exact n3) .l) ?_
        refine XS.ifNo X190.here hx rfl (hb hby at_108) rfl (own_if_neN (by decide)) ?_
        refine XS.iconst X190.here hx rfl (hb hby at_111) ?_
        show Steps p.tables e below (T186.setTop (mkF m 112 #[vi p0, vi p1, vi p2, vi p3, vi r125, vi M, vi K, vd al, ss, vi (p3 &&& (2147483647 : Int32)), vr a151, vd (if (p3 &&& (2147483647 : Int32)) = 0 then (FP.ddiv FP.dconst1 (FP.i2d r125)) else (FP.ddiv (FP.dsub FP.dconst1 al) (FP.i2d r125))), ss, vd (FP.ddiv FP.dconst1 (FP.i2d r125)), ss] [(.int (1 : Int32))])) t
        refine XS.goto X190.here hx rfl (pc0 := 112) (pc' := 116) rfl (hb hby at_112) (by decide) (by decide) ?_
        exact kk
      obtain ⟨fs, hr, hrun, hended, hW, hsame⟩ := X190.leave (v := some (.int (1 : Int32))) (fun h => by rw [Bd.returns] at h; cases h)
      have hrun0 := k209 _ (retOut X190 hx Bd.returns (t := .boolean) rfl (Or.inl ⟨rfl, Or.inr (Or.inl rfl), _, rfl⟩) (hb hby at_116) hr)
      subst hE0
      refine ⟨_, _, hrun0, hrun, hended, _, _, rfl, ?_, ⟨_, rfl⟩, hW, hsame.mono (by decide) (by decide)⟩
      show Qrm0 Z p0 p1 p2 p3 h0 n0 _ T186.heap _
      rw [e203]
      exact ⟨rfl, N205⟩
    · skip
      have k210 : own_G p e below E0 T186 (mkF m 116 #[vi p0, vi p1, vi p2, vi p3, vi r125, vi M, vi K, vd al, ss, vi (p3 &&& (2147483647 : Int32)), vr a151, vd (if (p3 &&& (2147483647 : Int32)) = 0 then (FP.ddiv FP.dconst1 (FP.i2d r125)) else (FP.ddiv (FP.dsub FP.dconst1 al) (FP.i2d r125))), ss, vd (FP.ddiv (FP.dsub FP.dconst1 al) (FP.i2d r125)), ss] [(.int (1 : Int32))]) := by
        intro t kk
        refine k207 t ?_
        refine XS.ifYes X190.here hx rfl (pc0 := 80) (pc' := 93) rfl (hb hby at_80) rfl (own_if_neY c208) (by decide) (by decide) ?_
        refine XS.dconst1 X190.here hx rfl (hb hby at_93) rfl ?_
        refine XS.dload X190.here hx rfl (hb hby at_94) rfl ?_
        refine XS.dsubS X190.here hx rfl (hb hby at_96) rfl n1 rfl ?_
        show Steps p.tables e below (T186.setTop (mkF m 97 #[vi p0, vi p1, vi p2, vi p3, vi r125, vi M, vi K, vd al, ss, vi (p3 &&& (2147483647 : Int32)), vr a151, vd (if (p3 &&& (2147483647 : Int32)) = 0 then (FP.ddiv FP.dconst1 (FP.i2d r125)) else (FP.ddiv (FP.dsub FP.dconst1 al) (FP.i2d r125))), ss, uu, uu] [(.double (FP.dsub FP.dconst1 al))])) t
        refine XS.iload X190.here hx rfl (hb hby at_97) rfl ?_
        refine XS.i2dS X190.here hx rfl (hb hby at_99) rfl rfl ?_
        refine XS.ddivS X190.here hx rfl (hb hby at_100) rfl (Fl.ddiv_out n1 (Fl.i2d_fin r125) zn) rfl ?_
        refine XS.dstore X190.here hx rfl (hb hby at_101) rfl (l' := #[vi p0, vi p1, vi p2, vi p3, vi r125, vi M, vi K, vd al, ss, vi (p3 &&& (2147483647 : Int32)), vr a151, vd (if (p3 &&& (2147483647 : Int32)) = 0 then (FP.ddiv FP.dconst1 (FP.i2d r125)) else (FP.ddiv (FP.dsub FP.dconst1 al) (FP.i2d r125))), ss, vd (FP.ddiv (FP.dsub FP.dconst1 al) (FP.i2d r125)), ss]) rfl ?_
        show Steps p.tables e below (T186.setTop (mkF m 103 #[vi p0, vi p1, vi p2, vi p3, vi r125, vi M, vi K, vd al, ss, vi (p3 &&& (2147483647 : Int32)), vr a151, vd (if (p3 &&& (2147483647 : Int32)) = 0 then (FP.ddiv FP.dconst1 (FP.i2d r125)) else (FP.ddiv (FP.dsub FP.dconst1 al) (FP.i2d r125))), ss, vd (FP.ddiv (FP.dsub FP.dconst1 al) (FP.i2d r125)), ss] [])) t
        refine XS.dload X190.here hx rfl (hb hby at_103) rfl ?_
        refine XS.dload X190.here hx rfl (hb hby at_105) rfl ?_
        refine XS.dcmpS X190.here hx rfl (hb hby at_107) rfl (dcmpV_eq (if_neg c208) (by rw [if_neg c208]; exact (Fl.ddiv_out n1 (Fl.i2d_fin r125) zn)) .l) ?_
        refine XS.ifNo X190.here hx rfl (hb hby at_108) rfl (own_if_neN (by decide)) ?_
        show Steps p.tables e below (T186.setTop (mkF m 111 #[vi p0, vi p1, vi p2, vi p3, vi r125, vi M, vi K, vd al, ss, vi (p3 &&& (2147483647 : Int32)), vr a151, vd (if (p3 &&& (2147483647 : Int32)) = 0 then (FP.ddiv FP.dconst1 (FP.i2d r125)) else (FP.ddiv (FP.dsub FP.dconst1 al) (FP.i2d r125))), ss, vd (FP.ddiv (FP.dsub FP.dconst1 al) (FP.i2d r125)), ss] [])) t
        refine XS.iconst X190.here hx rfl (hb hby at_111) ?_
        refine XS.goto X190.here hx rfl (pc0 := 112) (pc' := 116) rfl (hb hby at_112) (by decide) (by decide) ?_
        exact kk
      obtain ⟨fs, hr, hrun, hended, hW, hsame⟩ := X190.leave (v := some (.int (1 : Int32))) (fun h => by rw [Bd.returns] at h; cases h)
      have hrun0 := k210 _ (retOut X190 hx Bd.returns (t := .boolean) rfl (Or.inl ⟨rfl, Or.inr (Or.inl rfl), _, rfl⟩) (hb hby at_116) hr)
      subst hE0
      refine ⟨_, _, hrun0, hrun, hended, _, _, rfl, ?_, ⟨_, rfl⟩, hW, hsame.mono (by decide) (by decide)⟩
      show Qrm0 Z p0 p1 p2 p3 h0 n0 _ T186.heap _
      rw [e203]
      exact ⟨rfl, N205⟩
  · skip
    have k211 : own_G p e below E0 T111 (mkF m 56 #[vi p0, vi p1, vi p2, vi p3, vi r125, vi M, vi K, vd al, ss, vi (0 : Int32), uu, uu, uu, uu, uu] []) := by
      intro t kk
      refine k140 t ?_
      refine XS.ifNo X115.here hx rfl (hb hby at_50) rfl (own_if_eqN c141) ?_
      refine XS.iconst X115.here hx rfl (hb hby at_53) ?_
      refine XS.istore X115.here hx rfl (hb hby at_54) rfl (l' := #[vi p0, vi p1, vi p2, vi p3, vi r125, vi M, vi K, vd al, ss, vi (0 : Int32), uu, uu, uu, uu, uu]) rfl ?_
      exact kk
    obtain ⟨T212, h213, X214, e215, E216, A217, D218, -, st219⟩ := newO X115 hx hZ hown (tw5 hw) (tw6 hw) (tw7 hw) e123 (g := (mkF m 56 #[vi p0, vi p1, vi p2, vi p3, vi r125, vi M, vi K, vd al, ss, vi (0 : Int32), uu, uu, uu, uu, uu] [])) rfl (hb hby at_56) (by decide) (by decide)
    obtain ⟨a220, g221⟩ : ∃ zA : Nat, zA = h0.size := ⟨_, rfl⟩
    rw [← g221] at A217 D218 st219
    have ge222 : n0 ≤ a220 := by have := Z0; omega
    have Z223 : n0 ≤ h213.size := Nat.le_trans Z0 E216.1
    have F224 : Fld Z h213 a220 "com/example/meander/meander/WebChain" "pages" "I" (.int (0 : Int32)) := (D218 (Or.inr (tw15 hw)) (ty := .int) (by decide))
    have F225 : Fld Z h213 a220 "com/example/meander/meander/WebChain" "alpha" "D" (.double (0 : UInt64)) := (D218 (Or.inr (tw20 hw)) (ty := .double) (by decide))
    have F226 : Fld Z h213 a220 "com/example/meander/meander/WebChain" "jump" "D" (.double (0 : UInt64)) := (D218 (Or.inr (tw22 hw)) (ty := .double) (by decide))
    have k227 : own_G p e below E0 T212 (mkF m 59 #[vi p0, vi p1, vi p2, vi p3, vi r125, vi M, vi K, vd al, ss, vi (0 : Int32), uu, uu, uu, uu, uu] [(.ref a220)]) := fun t kk => k211 t (st219 _ kk)
    have k228 : own_G p e below E0 T212 (mkF m 64 #[vi p0, vi p1, vi p2, vi p3, vi r125, vi M, vi K, vd al, ss, vi (0 : Int32), uu, uu, uu, uu, uu] [(.double al), (.int r125), (.ref a220), (.ref a220)]) := by
      intro t kk
      refine k227 t ?_
      refine XS.dup X214.here hx rfl (hb hby at_59) rfl rfl ?_
      refine XS.iload X214.here hx rfl (hb hby at_60) rfl ?_
      refine XS.dload X214.here hx rfl (hb hby at_62) rfl ?_
      exact kk
    obtain ⟨_, _, ⟨T229, L230, kc231, nc232⟩, -, X233, ⟨Lc234, hQ235, l236, y237, z238⟩, st239⟩ := X214.specialBack hx (y := mn6) rfl hown (mvT hZ (tw8 hw)) (mvT hZ (tw9 hw)) (mvT hZ (tw10 hw)) (by decide) (backOf (W := 1) (rmI l Z a0 hw [] a220 r125 al h213 n0 Z223 A217 F224 F225 F226 ge222 hn nal lal ual n1 (Fl.ddiv_out n1 (Fl.i2d_fin r125) zn)) hZ (tw10 hw) (tw7 hw) (by decide) (by decide)) (g := (mkF m 64 #[vi p0, vi p1, vi p2, vi p3, vi r125, vi M, vi K, vd al, ss, vi (0 : Int32), uu, uu, uu, uu, uu] [(.double al), (.int r125), (.ref a220), (.ref a220)])) rfl (by rw [hml]; rfl) (Steps.refl _) (a := a220) (argsL := [(.int r125), (.double al)]) (rest := [(.ref a220)]) (lenOf pd_12 rfl) rfl (by show 2 * 0 + _ ≤ _; exact Nat.le_of_eq rfl) (hb hby at_64) (fun _ _ => ⟨rfl, e215, (by decide : 1 + 0 ≤ _), (by decide : 3 + 0 ≤ _)⟩)
    dsimp only [Pt.U, Pt.locs, Pt.cells, Pt.slots] at X233 l236 y237 z238 st239 hQ235
    subst l236 y237 z238
    obtain ⟨rfl, N240, K243, g244, g245, g246⟩ := hQ235
    have N247 := Fr.app N127 N240
    have Z248 : n0 ≤ T229.heap.size := Nat.le_trans Z223 K243.1
    have F249 : xa5 Z T229.heap a220 := A217.keep K243
    have k253 : own_G p e below E0 T229 (mkF m 67 #[vi p0, vi p1, vi p2, vi p3, vi r125, vi M, vi K, vd al, ss, vi (0 : Int32), uu, uu, uu, uu, uu] [(.ref a220)]) := fun t kk => k228 t (st239.trans kk)
    have k254 : own_G p e below E0 T229 (mkF m 73 #[vi p0, vi p1, vi p2, vi p3, vi r125, vi M, vi K, vd al, ss, vi (0 : Int32), vr a220, uu, uu, uu, uu] [(.int (0 : Int32)), (.ref a220)]) := by
      intro t kk
      refine k253 t ?_
      refine XS.astore X233.here hx rfl (hb hby at_67) rfl rfl (l' := #[vi p0, vi p1, vi p2, vi p3, vi r125, vi M, vi K, vd al, ss, vi (0 : Int32), vr a220, uu, uu, uu, uu]) rfl ?_
      refine XS.aload X233.here hx rfl (hb hby at_69) rfl rfl ?_
      refine XS.iload X233.here hx rfl (hb hby at_71) rfl ?_
      exact kk
    obtain ⟨cq266, kq267, qa268, qb269, qc270⟩ := isOf hZ rfl F249
    obtain ⟨_, _, ⟨T255, L256, kc257, nc258⟩, -, X259, ⟨Lc260, hQ261, l262, y263, z264⟩, st265⟩ := X233.virtualBack hx (y := mn9) (z := mn9) hown (mvT hZ (tw23 hw)) (mvT hZ (tw24 hw)) (notFace_of_selects (args := #[]) (mvT hZ (tw26 hw))) (mvT hZ (tw26 hw)) (mvT hZ (tw25 hw)) (by decide) (backOf (W := 0) (rmJ l Z a0 hw [] a220 (0 : Int32) r125 (FP.ddiv (FP.dsub FP.dconst1 al) (FP.i2d r125)) T229.heap n0 Z248 g244 g246 (by decide) n3) hZ (tw27 hw) (tw7 hw) (by decide) (by decide)) qa268 qc270 (g := (mkF m 73 #[vi p0, vi p1, vi p2, vi p3, vi r125, vi M, vi K, vd al, ss, vi (0 : Int32), vr a220, uu, uu, uu, uu] [(.int (0 : Int32)), (.ref a220)])) rfl (by rw [hml]; rfl) (Steps.refl _) (argsL := [(.int (0 : Int32))]) (rest := []) (lenOf pd_13 rfl) rfl (by show 2 * 0 + _ ≤ _; exact Nat.le_of_eq rfl) (hb hby at_73) (fun _ _ => ⟨rfl, rfl, (by decide : 1 + 0 ≤ _), (by decide : 3 + 0 ≤ _)⟩)
    dsimp only [Pt.U, Pt.locs, Pt.cells, Pt.slots] at X259 l262 y263 z264 st265 hQ261
    subst l262 y263 z264
    obtain ⟨rfl, N271, e272⟩ := hQ261
    have N274 := Fr.app N247 N271
    have k275 : own_G p e below E0 T255 (mkF m 76 #[vi p0, vi p1, vi p2, vi p3, vi r125, vi M, vi K, vd al, ss, vi (0 : Int32), vr a220, uu, uu, uu, uu] [(.double (if (0 : Int32) = 0 then (FP.ddiv FP.dconst1 (FP.i2d r125)) else (FP.ddiv (FP.dsub FP.dconst1 al) (FP.i2d r125))))]) := fun t kk => k254 t (st265.trans kk)
    have k276 : own_G p e below E0 T255 (mkF m 116 #[vi p0, vi p1, vi p2, vi p3, vi r125, vi M, vi K, vd al, ss, vi (0 : Int32), vr a220, vd (if (0 : Int32) = 0 then (FP.ddiv FP.dconst1 (FP.i2d r125)) else (FP.ddiv (FP.dsub FP.dconst1 al) (FP.i2d r125))), ss, vd (FP.ddiv FP.dconst1 (FP.i2d r125)), ss] [(.int (1 : Int32))]) := by
      intro t kk
      refine k275 t ?_
      refine XS.dstore X259.here hx rfl (hb hby at_76) rfl (l' := #[vi p0, vi p1, vi p2, vi p3, vi r125, vi M, vi K, vd al, ss, vi (0 : Int32), vr a220, vd (if (0 : Int32) = 0 then (FP.ddiv FP.dconst1 (FP.i2d r125)) else (FP.ddiv (FP.dsub FP.dconst1 al) (FP.i2d r125))), ss, uu, uu]) rfl ?_
      refine XS.iload X259.here hx rfl (hb hby at_78) rfl ?_
      refine XS.ifNo X259.here hx rfl (hb hby at_80) rfl (own_if_neN (by decide)) ?_
      refine XS.dconst1 X259.here hx rfl (hb hby at_83) rfl ?_
      show Steps p.tables e below (T255.setTop (mkF m 84 #[vi p0, vi p1, vi p2, vi p3, vi r125, vi M, vi K, vd al, ss, vi (0 : Int32), vr a220, vd (if (0 : Int32) = 0 then (FP.ddiv FP.dconst1 (FP.i2d r125)) else (FP.ddiv (FP.dsub FP.dconst1 al) (FP.i2d r125))), ss, uu, uu] [(.double FP.dconst1)])) t
      refine XS.iload X259.here hx rfl (hb hby at_84) rfl ?_
      refine XS.i2dS X259.here hx rfl (hb hby at_86) rfl rfl ?_
      refine XS.ddivS X259.here hx rfl (hb hby at_87) rfl n3 rfl ?_
      refine XS.dstore X259.here hx rfl (hb hby at_88) rfl (l' := #[vi p0, vi p1, vi p2, vi p3, vi r125, vi M, vi K, vd al, ss, vi (0 : Int32), vr a220, vd (if (0 : Int32) = 0 then (FP.ddiv FP.dconst1 (FP.i2d r125)) else (FP.ddiv (FP.dsub FP.dconst1 al) (FP.i2d r125))), ss, vd (FP.ddiv FP.dconst1 (FP.i2d r125)), ss]) rfl ?_
      show Steps p.tables e below (T255.setTop (mkF m 90 #[vi p0, vi p1, vi p2, vi p3, vi r125, vi M, vi K, vd al, ss, vi (0 : Int32), vr a220, vd (if (0 : Int32) = 0 then (FP.ddiv FP.dconst1 (FP.i2d r125)) else (FP.ddiv (FP.dsub FP.dconst1 al) (FP.i2d r125))), ss, vd (FP.ddiv FP.dconst1 (FP.i2d r125)), ss] [])) t
      refine XS.goto X259.here hx rfl (pc0 := 90) (pc' := 103) rfl (hb hby at_90) (by decide) (by decide) ?_
      refine XS.dload X259.here hx rfl (hb hby at_103) rfl ?_
      refine XS.dload X259.here hx rfl (hb hby at_105) rfl ?_
      refine XS.dcmpS X259.here hx rfl (hb hby at_107) rfl (dcmpV_eq (if_pos rfl) (by rw [if_pos rfl]; exact n3) .l) ?_
      show Steps p.tables e below (T255.setTop (mkF m 108 #[vi p0, vi p1, vi p2, vi p3, vi r125, vi M, vi K, vd al, ss, vi (0 : Int32), vr a220, vd (if (0 : Int32) = 0 then (FP.ddiv FP.dconst1 (FP.i2d r125)) else (FP.ddiv (FP.dsub FP.dconst1 al) (FP.i2d r125))), ss, vd (FP.ddiv FP.dconst1 (FP.i2d r125)), ss] [(.int (0 : Int32))])) t
      refine XS.ifNo X259.here hx rfl (hb hby at_108) rfl (own_if_neN (by decide)) ?_
      refine XS.iconst X259.here hx rfl (hb hby at_111) ?_
      refine XS.goto X259.here hx rfl (pc0 := 112) (pc' := 116) rfl (hb hby at_112) (by decide) (by decide) ?_
      exact kk
    obtain ⟨fs, hr, hrun, hended, hW, hsame⟩ := X259.leave (v := some (.int (1 : Int32))) (fun h => by rw [Bd.returns] at h; cases h)
    have hrun0 := k276 _ (retOut X259 hx Bd.returns (t := .boolean) rfl (Or.inl ⟨rfl, Or.inr (Or.inl rfl), _, rfl⟩) (hb hby at_116) hr)
    subst hE0
    refine ⟨_, _, hrun0, hrun, hended, _, _, rfl, ?_, ⟨_, rfl⟩, hW, hsame.mono (by decide) (by decide)⟩
    show Qrm0 Z p0 p1 p2 p3 h0 n0 _ T255.heap _
    rw [e272]
    exact ⟨rfl, N274⟩
set_option maxRecDepth 65536 in
set_option maxHeartbeats 40000000 in
theorem comes_1 {Post : Tables → Env → Array Value → State → Outcome → State → Prop} (hpost : ∀ tb e args s v u, (limb_1_1.after args s (.returned v) u = true ∧ limb_1_2.after args s (.returned v) u = true ∧ True) → FrameEnd s (.returned v) u (Jvm.fieldLocs frame_1_writes args s ++ Jvm.arrayLocs frame_1_arrays args s ++ Jvm.staticLocs frame_1_statics s) 16 128 → Post tb e args s (.returned v) u) :
    ArmFor flags0 classFile x code maxLocals ret World_1 tables_1 room_1 Calls_1 rest_1 Pre_1 Post := by
  intro l hfl _ _ p e ha hc hk s m args below hf hA hF happ hP
  obtain ⟨hcalls, hrest, hpre⟩ := hP
  obtain ⟨-, -, -, hnamed, -, -, -, hat⟩ := (Spec.applies_iff hf).mp happ
  obtain ⟨hg, hn⟩ := and_e (Cond.before_iff.mp (show (Jvm.Cond.and given_1 narrow_1).before args s = true from hpre))
  obtain ⟨hct, hr0⟩ := and_e hg
  obtain ⟨ha0, hr1⟩ := and_e hr0
  obtain ⟨ha1, hr2⟩ := and_e hr1
  obtain ⟨ha2, hr3⟩ := and_e hr2
  obtain ⟨w0, w1, w2, w3, rfl⟩ : ∃ w0 w1 w2 w3 : Value, args = #[w0, w1, w2, w3] := by
    have hs : args.size = 4 := by simpa [Cond.value, given_1] using hct
    obtain ⟨L⟩ := args
    match L, hs with
    | [w0, w1, w2, w3], _ => exact ⟨w0, w1, w2, w3, rfl⟩
  have hw := fun d (hd : d ∈ tables_1) => atoms_spec (ws := Jvm.Cond.code x code maxLocals ret :: tables_1) hat d (List.mem_cons_of_mem _ hd)
  have hfit : Fit s := fun {y c} hc i hi => by
    obtain ⟨ha, rfl⟩ := Array.getElem?_eq_some_iff.mp hc
    have q := List.all_eq_true.mp ((Array.all_eq_true_iff_forall_mem.mp hF) _ (Array.getElem_mem ha)) i (List.mem_range.mpr hi)
    simpa [Array.getElem?_eq_getElem hi] using q
  obtain ⟨i0, ev0⟩ := is_v ha0
  obtain rfl : w0 = (.int i0) := Option.some.inj ev0
  obtain ⟨i1, ev1⟩ := is_v ha1
  obtain rfl : w1 = (.int i1) := Option.some.inj ev1
  obtain ⟨i2, ev2⟩ := is_v ha2
  obtain rfl : w2 = (.int i2) := Option.some.inj ev2
  obtain ⟨i3, ev3⟩ := is_v hr3
  obtain rfl : w3 = (.int i3) := Option.some.inj ev3
  obtain ⟨n, o, h1, h2, h3, _, L, rfl, ⟨rfl, N⟩, hq⟩ := rm0 l s _ hw tables_1 i0 i1 i2 i3 s.heap s.heap.size (Nat.le_refl _) p e ha hc hk s m _ below hf ((Spec.applies_iff_loose hf).mp happ).1 ⟨rfl, State.Warmed39.refl s, rfl⟩ trivial
  refine ⟨n, _, h1, h2, h3, hpost _ _ _ _ _ _ ⟨Cond.after_iff.mpr rfl, Cond.after_iff.mpr (eq_i res_at (Term.int_eval (1)) rfl), trivial⟩ ⟨hq.1, hq.2.1, (hq.2.2.sift fun y hy => Or.inr (N y hy)).mono (by decide) (by decide)⟩⟩
theorem main_1_1 : Claimed_1_1 := comes_1 fun _ _ _ _ _ _ h hF => ⟨h.1, hF⟩
theorem main_1_2 : Claimed_1_2 := comes_1 fun _ _ _ _ _ _ h hF => ⟨h.2.1, hF⟩
end Jvm.Pilot.@@N@@
namespace Jvm.Pilot.@@N@@
open Jvm Jvm.ClassFile Sem Op Lib Jvm.Free Jvm.Stand Jvm.Pilot.@@N@@.Jvm.D
/-! MADE BY PROGRAM (witnessworld.py) out of the Statement's table words and the real class files: 10 classes; the members and pool entries that the words name. The judged class is class 1, her method 1. -/
namespace start1
open Jvm.ClassFile
def u (s : String) : CpInfo := .utf8 (stringToUtf16 s)
/-- a pool by its gaps: so many unusable entries, then the entry; so many at the end -/
def gap : Nat → List CpInfo → List CpInfo
  | 0, r => r
  | n + 1, r => .unusable :: gap n r
def poolList (es : List (Nat × CpInfo)) (last : Nat) : List CpInfo := es.foldr (fun e r => gap e.1 (e.2 :: r)) (gap last [])
def pool (es : List (Nat × CpInfo)) (last : Nat) : Array CpInfo := ⟨poolList es last⟩
def fileOf (pool : Array CpInfo) (this : Nat) (attrs : Array Attribute := #[]) (ms : Array MethodInfo := #[]) (fl : Nat := 33) (sup : Nat := 0) (ifs : Array Nat := #[]) (fds : Array FieldInfo := #[]) : ClassFile where
  minorVersion := 0
  majorVersion := 65
  constantPool := pool
  accessFlags := fl
  thisClass := this
  superClass := sup
  interfaces := ifs
  fields := fds
  methods := ms
  attributes := attrs
def plain (name : String) (sup : Option ClassId) : Class where
  name := name
  kind := .ordinary
  loader := none
  accessFlags := 33
  super := sup
  interfaces := #[]
  cf := none
  fields := #[]
  methods := #[]
  instanceTypes := #[]
  staticTypes := #[]
  resolved := #[]
  callSites := []
  init := .initialized
  statics := none
  mirror := none

def pool0 : Array CpInfo := pool [(5, u "<init>"), (0, u "()V"), (1, .class_ 10), (1, u "java/lang/Object")] 113

def k0c0 : Code := { maxStack := 0, maxLocals := 1, code := object_method_1_code, exceptionTable := #[], attributes := #[] }
def k0m0 : Method := { name := "<init>", desc := "()V", sig := { parameters := [], returnType := none }, accessFlags := 1, code := some k0c0 }
/-- java/lang/Object -/
def k0 : Class := { plain "java/lang/Object" none with
  accessFlags := 33
  interfaces := #[]
  cf := some (fileOf pool0 8 #[] #[{ accessFlags := 1, nameIndex := 5, descriptorIndex := 6, attributes := #[] }] 33 0 #[] #[])
  fields := #[]
  methods := #[k0m0]
  instanceTypes := #[]
  staticTypes := #[]
  resolved := Array.replicate 124 none
  statics := none }

def pool1 : Array CpInfo := pool [(2, .class_ 4), (1, u "java/lang/Object"), (0, u "<init>"), (0, u "()V"), (0, .integer 2147483647), (0, .methodref 9 10), (0, .class_ 11), (0, .nameAndType 12 13), (0, u "java/lang/Math"), (0, u "max"), (0, u "(II)I"), (0, .class_ 15), (0, u "com/example/meander/meander/WebChain"), (0, .methodref 14 17), (0, .nameAndType 5 18), (0, u "(ID)V"), (0, .methodref 14 20), (0, .nameAndType 21 22), (0, u "jump"), (0, u "(I)D"), (0, .class_ 24), (0, u "com/example/meander/meander/WebChainJumpPinLaw"), (2, u "law"), (0, u "(IIII)Z")] 3

def k1m0 : Method := { name := "<init>", desc := "()V", sig := { parameters := [], returnType := none }, accessFlags := 1, code := none }
def k1c1 : Code := { maxStack := 5, maxLocals := 15, code := code, exceptionTable := #[], attributes := #[] }
def k1m1 : Method := { name := "law", desc := "(IIII)Z", sig := { parameters := [.int, .int, .int, .int], returnType := some .boolean }, accessFlags := 9, code := some k1c1 }
/-- com/example/meander/meander/WebChainJumpPinLaw -/
def k1 : Class := { plain "com/example/meander/meander/WebChainJumpPinLaw" (some 0) with
  accessFlags := 49
  interfaces := #[]
  cf := some (fileOf pool1 23 #[] #[{ accessFlags := 1, nameIndex := 5, descriptorIndex := 6, attributes := #[] }, { accessFlags := 9, nameIndex := 27, descriptorIndex := 28, attributes := #[] }] 49 2 #[] #[])
  fields := #[]
  methods := #[k1m0, k1m1]
  instanceTypes := #[]
  staticTypes := #[]
  resolved := Array.replicate 32 none
  statics := none }

def pool2 : Array CpInfo := pool [(1, .class_ 2), (0, u "java/lang/Math"), (1, .class_ 6), (1, u "java/lang/Object"), (0, u "<init>"), (0, u "()V"), (89, .class_ 100), (1, u "java/lang/Math$RandomNumberGeneratorHolder"), (71, u "negativeZeroFloatBits"), (0, u "J"), (2, u "negativeZeroDoubleBits"), (21, u "max"), (46, u "$assertionsDisabled"), (0, u "Z"), (88, u "(II)I"), (2, u "twoToTheDoubleScaleDown"), (0, u "D"), (4, u "twoToTheDoubleScaleUp"), (9, u "E"), (3, u "PI"), (2, u "TAU"), (2, u "DEGREES_TO_RADIANS"), (0, u "RADIANS_TO_DEGREES")] 94

def k2m0 : Method := { name := "<init>", desc := "()V", sig := { parameters := [], returnType := none }, accessFlags := 2, code := none }
def k2c1 : Code := { maxStack := 2, maxLocals := 2, code := jdk_29_method_65_code, exceptionTable := #[], attributes := #[] }
def k2m1 : Method := { name := "max", desc := "(II)I", sig := { parameters := [.int, .int], returnType := some .int }, accessFlags := 9, code := some k2c1 }
/-- java/lang/Math -/
def k2 : Class := { plain "java/lang/Math" (some 0) with
  accessFlags := 49
  interfaces := #[]
  cf := some (fileOf pool2 1 #[.nestMembers #[98]] #[{ accessFlags := 2, nameIndex := 7, descriptorIndex := 8, attributes := #[] }, { accessFlags := 9, nameIndex := 198, descriptorIndex := 335, attributes := #[] }] 49 4 #[] #[{ accessFlags := 25, nameIndex := 354, descriptorIndex := 339, attributes := #[] }, { accessFlags := 25, nameIndex := 358, descriptorIndex := 339, attributes := #[] }, { accessFlags := 25, nameIndex := 361, descriptorIndex := 339, attributes := #[] }, { accessFlags := 26, nameIndex := 364, descriptorIndex := 339, attributes := #[] }, { accessFlags := 26, nameIndex := 365, descriptorIndex := 339, attributes := #[] }, { accessFlags := 26, nameIndex := 172, descriptorIndex := 173, attributes := #[] }, { accessFlags := 26, nameIndex := 176, descriptorIndex := 173, attributes := #[] }, { accessFlags := 8, nameIndex := 344, descriptorIndex := 339, attributes := #[] }, { accessFlags := 8, nameIndex := 338, descriptorIndex := 339, attributes := #[] }, { accessFlags := 4120, nameIndex := 245, descriptorIndex := 246, attributes := #[] }])
  fields := #[{ name := "E", type := .double, accessFlags := 25, slot := 0, constantValue := 0 }, { name := "PI", type := .double, accessFlags := 25, slot := 1, constantValue := 0 }, { name := "TAU", type := .double, accessFlags := 25, slot := 2, constantValue := 0 }, { name := "DEGREES_TO_RADIANS", type := .double, accessFlags := 26, slot := 3, constantValue := 0 }, { name := "RADIANS_TO_DEGREES", type := .double, accessFlags := 26, slot := 4, constantValue := 0 }, { name := "negativeZeroFloatBits", type := .long, accessFlags := 26, slot := 5, constantValue := 0 }, { name := "negativeZeroDoubleBits", type := .long, accessFlags := 26, slot := 6, constantValue := 0 }, { name := "twoToTheDoubleScaleUp", type := .double, accessFlags := 8, slot := 7, constantValue := 0 }, { name := "twoToTheDoubleScaleDown", type := .double, accessFlags := 8, slot := 8, constantValue := 0 }, { name := "$assertionsDisabled", type := .boolean, accessFlags := 4120, slot := 9, constantValue := 0 }]
  methods := #[k2m0, k2m1]
  instanceTypes := #[]
  staticTypes := #[.double, .double, .double, .double, .double, .long, .long, .double, .double, .boolean]
  resolved := Array.replicate 460 none
  statics := none }

def pool3 : Array CpInfo := pool [(1, .methodref 2 3), (0, .class_ 4), (0, .nameAndType 5 6), (0, u "java/lang/Object"), (0, u "<init>"), (0, u "()V"), (9, .fieldref 17 18), (0, .class_ 19), (0, .nameAndType 20 21), (0, u "com/example/meander/meander/WebChain"), (0, u "pages"), (0, u "I"), (0, .methodref 17 23), (0, .nameAndType 24 25), (0, u "checkAlpha"), (0, u "(D)D"), (0, .fieldref 17 27), (0, .nameAndType 28 29), (0, u "alpha"), (0, u "D"), (0, .fieldref 17 31), (0, .nameAndType 32 29), (0, u "jump"), (3, .methodref 17 37), (0, .nameAndType 38 39), (0, u "checkOutLinks"), (0, u "(I)V"), (6, u "(I)D"), (3, u "(ID)V")] 28

def k3c0 : Code := { maxStack := 5, maxLocals := 4, code := prog_22_method_1_code, exceptionTable := #[], attributes := #[] }
def k3m0 : Method := { name := "<init>", desc := "(ID)V", sig := { parameters := [.int, .double], returnType := none }, accessFlags := 1, code := some k3c0 }
def k3c1 : Code := { maxStack := 4, maxLocals := 2, code := prog_22_method_2_code, exceptionTable := #[], attributes := #[] }
def k3m1 : Method := { name := "checkAlpha", desc := "(D)D", sig := { parameters := [.double], returnType := some .double }, accessFlags := 9, code := some k3c1 }
def k3c2 : Code := { maxStack := 4, maxLocals := 4, code := prog_22_method_4_code, exceptionTable := #[], attributes := #[] }
def k3m2 : Method := { name := "jump", desc := "(I)D", sig := { parameters := [.int], returnType := some .double }, accessFlags := 1, code := some k3c2 }
def k3c3 : Code := { maxStack := 3, maxLocals := 1, code := prog_22_method_6_code, exceptionTable := #[], attributes := #[] }
def k3m3 : Method := { name := "checkOutLinks", desc := "(I)V", sig := { parameters := [.int], returnType := none }, accessFlags := 10, code := some k3c3 }
/-- com/example/meander/meander/WebChain -/
def k3 : Class := { plain "com/example/meander/meander/WebChain" (some 0) with
  accessFlags := 49
  interfaces := #[]
  cf := some (fileOf pool3 17 #[] #[{ accessFlags := 1, nameIndex := 5, descriptorIndex := 50, attributes := #[] }, { accessFlags := 9, nameIndex := 24, descriptorIndex := 25, attributes := #[] }, { accessFlags := 1, nameIndex := 32, descriptorIndex := 46, attributes := #[] }, { accessFlags := 10, nameIndex := 38, descriptorIndex := 39, attributes := #[] }] 49 2 #[] #[{ accessFlags := 18, nameIndex := 20, descriptorIndex := 21, attributes := #[] }, { accessFlags := 18, nameIndex := 28, descriptorIndex := 29, attributes := #[] }, { accessFlags := 18, nameIndex := 32, descriptorIndex := 29, attributes := #[] }])
  fields := #[{ name := "pages", type := .int, accessFlags := 18, slot := 0, constantValue := 0 }, { name := "alpha", type := .double, accessFlags := 18, slot := 1, constantValue := 0 }, { name := "jump", type := .double, accessFlags := 18, slot := 2, constantValue := 0 }]
  methods := #[k3m0, k3m1, k3m2, k3m3]
  instanceTypes := #[.int, .double, .double]
  staticTypes := #[]
  resolved := Array.replicate 79 none
  statics := none }

def pool4 : Array CpInfo := pool [(1, u "java/lang/Cloneable"), (0, .class_ 1), (0, u "java/lang/Object"), (0, .class_ 3)] 3

/-- java/lang/Cloneable -/
def k4 : Class := { plain "java/lang/Cloneable" (some 0) with
  accessFlags := 1537
  interfaces := #[]
  cf := some (fileOf pool4 2 #[] #[] 1537 4 #[] #[])
  fields := #[]
  methods := #[]
  instanceTypes := #[]
  staticTypes := #[]
  resolved := Array.replicate 8 none
  statics := none }

def pool5 : Array CpInfo := pool [(1, u "java/io/Serializable"), (0, .class_ 1), (0, u "java/lang/Object"), (0, .class_ 3)] 3

/-- java/io/Serializable -/
def k5 : Class := { plain "java/io/Serializable" (some 0) with
  accessFlags := 1537
  interfaces := #[]
  cf := some (fileOf pool5 2 #[] #[] 1537 4 #[] #[])
  fields := #[]
  methods := #[]
  instanceTypes := #[]
  staticTypes := #[]
  resolved := Array.replicate 8 none
  statics := none }

/-- the primitive byte -/
def k6 : Class := { plain "byte" none with kind := .primitive 'B', accessFlags := 0x411 }
/-- [B -/
def k7 : Class := { plain "[B" (some 0) with kind := .array 6 .byte, interfaces := #[4, 5], accessFlags := 1041 }

/-- the primitive int -/
def k8 : Class := { plain "int" none with kind := .primitive 'I', accessFlags := 0x411 }
/-- [I -/
def k9 : Class := { plain "[I" (some 0) with kind := .array 8 .int, interfaces := #[4, 5], accessFlags := 1041 }

def heap : Heap := #[]
def classes : Array Class := #[k0, k1, k2, k3, k4, k5, k6, k7, k8, k9]
def interned : List (Array UInt16 × Addr) := []
def slotsUsed : Nat := 0
def theMethod : MethodId := ⟨1, 1⟩
def args0 : Array Value := #[.int 5, .int 7, .int 8, .int 9]
def aboutOver (below : List Frame) : State where
  vm := { classes := classes, interned := interned.toArray }
  heap := heap
  slotsUsed := slotsUsed
  threads := #[{ frames := .invoking theMethod args0 :: below }]
def below0 : List Frame := [.native { method := ⟨0, 0⟩, args := #[] }]
def about1 : State := aboutOver below0
def p0 : Program := .bare "" "" ""
def e0 : Env := launch0.env 0 0 0
theorem w_frames : about1.frames = Frame.invoking theMethod args0 :: below0 := rfl
set_option maxRecDepth 65536 in
theorem w_args : argsFit about1.vm theMethod args0 = true := by decide +kernel
set_option maxRecDepth 65536 in
theorem w_heap : heapFits about1 = true := by decide +kernel
set_option maxRecDepth 65536 in
theorem w_runnable : about1.curStatus? = some .runnable := by decide +kernel
set_option maxRecDepth 65536 in
theorem w_alone : about1.alone = true := by decide +kernel
set_option maxRecDepth 65536 in
theorem w_named : about1.methodNamed? x = some theMethod := by decide +kernel
set_option maxRecDepth 65536 in
theorem w_hears : about1.hears theMethod below0 = true := by decide +kernel
set_option maxRecDepth 65536 in
theorem w_ripe : about1.ripe theMethod args0 below0 = true := by decide +kernel
theorem w_running : about1.status = .running := rfl
set_option maxRecDepth 65536 in
theorem w_room : about1.hasRoom e0.platform room_1 = true :=
  launch0.hasRoom_least _ room_1 (by decide +kernel) (by decide +kernel) (by decide +kernel) (by decide +kernel) (by decide +kernel) (by decide +kernel)
theorem allAtoms_all (ts : List Jvm.Cond) (a : Array Jvm.Value) (st : Jvm.State) : (allAtoms ts).before a st = ts.all (fun c => c.before a st) := by
  induction ts with
  | nil => rfl
  | cons c t ih =>
    show (Jvm.Cond.and c (allAtoms t)).before a st = _
    rw [Jvm.Cond.before_and, ih, List.all_cons]
def words1 : List Jvm.Cond := Jvm.Cond.code x code maxLocals ret :: tables_1
/-- a 'code' word, met by the world's own term for the bytes: nothing is compared byte by byte -/
theorem code_word {y : MethodName} {bytes : ByteArray} {mx : Nat} {rt : Option FieldType} {a : Array Value} {s : State} {m : MethodId} {meth : Method} {c : Code} (h1 : s.methodNamed? y = some m) (h2 : s.vm.method? m = some meth) (h3 : meth.code = some c) (h4 : c.code = bytes)
    (h5 : (c.maxLocals == mx && c.exceptionTable.isEmpty && decide (c.maxStack ≤ mostOperands) && decide (meth.sig.returnType = rt) && !meth.locks && decide (parseMethodDescriptor y.desc = some meth.sig)) = true) : (Jvm.Cond.code y bytes mx rt).before a s = true := by
  simp only [Bool.and_eq_true, beq_iff_eq, Bool.not_eq_true', decide_eq_true_eq] at h5
  obtain ⟨⟨⟨⟨⟨g1, g2⟩, g3⟩, g4⟩, g5⟩, g6⟩ := h5
  simp [Cond.before, Cond.holds, Cond.value, h1, h2, h3, h4, g1, g2, g3, g4, g5, g6]
def isCode : Jvm.Cond → Bool
  | .code _ _ _ _ => true
  | _ => false
theorem all_split {L : List Jvm.Cond} {P : Jvm.Cond → Bool} (h1 : L.all (fun c => isCode c || P c) = true) (h2 : ∀ c ∈ L.filter isCode, P c = true) : L.all P = true := by
  refine List.all_eq_true.mpr fun c hc => ?_
  have h := List.all_eq_true.mp h1 c hc
  rcases Bool.eq_false_or_eq_true (isCode c) with hi | hi
  · exact h2 c (List.mem_filter.mpr ⟨hc, hi⟩)
  · simpa [hi] using h
set_option maxRecDepth 65536 in
theorem w_c0 : (Jvm.Cond.code x code maxLocals ret).before args0 about1 = true := code_word (m := ⟨1, 1⟩) (meth := k1m1) (c := k1c1) (by decide +kernel) rfl rfl rfl (by decide +kernel)
set_option maxRecDepth 65536 in
theorem w_c1 : (Jvm.Cond.code ({ cls := "java/lang/Math", name := "max", desc := "(II)I" } : Jvm.MethodName) jdk_29_method_65_code (2 : Nat) (Option.some Jvm.ClassFile.FieldType.int)).before args0 about1 = true := code_word (m := ⟨2, 1⟩) (meth := k2m1) (c := k2c1) (by decide +kernel) rfl rfl rfl (by decide +kernel)
set_option maxRecDepth 65536 in
theorem w_c2 : (Jvm.Cond.code ({ cls := "com/example/meander/meander/WebChain", name := "<init>", desc := "(ID)V" } : Jvm.MethodName) prog_22_method_1_code (4 : Nat) (Option.none : Option Jvm.ClassFile.FieldType)).before args0 about1 = true := code_word (m := ⟨3, 0⟩) (meth := k3m0) (c := k3c0) (by decide +kernel) rfl rfl rfl (by decide +kernel)
set_option maxRecDepth 65536 in
theorem w_c3 : (Jvm.Cond.code ({ cls := "java/lang/Object", name := "<init>", desc := "()V" } : Jvm.MethodName) object_method_1_code (1 : Nat) (Option.none : Option Jvm.ClassFile.FieldType)).before args0 about1 = true := code_word (m := ⟨0, 0⟩) (meth := k0m0) (c := k0c0) (by decide +kernel) rfl rfl rfl (by decide +kernel)
set_option maxRecDepth 65536 in
theorem w_c4 : (Jvm.Cond.code ({ cls := "com/example/meander/meander/WebChain", name := "checkAlpha", desc := "(D)D" } : Jvm.MethodName) prog_22_method_2_code (2 : Nat) (Option.some Jvm.ClassFile.FieldType.double)).before args0 about1 = true := code_word (m := ⟨3, 1⟩) (meth := k3m1) (c := k3c1) (by decide +kernel) rfl rfl rfl (by decide +kernel)
set_option maxRecDepth 65536 in
theorem w_c5 : (Jvm.Cond.code ({ cls := "com/example/meander/meander/WebChain", name := "jump", desc := "(I)D" } : Jvm.MethodName) prog_22_method_4_code (4 : Nat) (Option.some Jvm.ClassFile.FieldType.double)).before args0 about1 = true := code_word (m := ⟨3, 2⟩) (meth := k3m2) (c := k3c2) (by decide +kernel) rfl rfl rfl (by decide +kernel)
set_option maxRecDepth 65536 in
theorem w_c6 : (Jvm.Cond.code ({ cls := "com/example/meander/meander/WebChain", name := "checkOutLinks", desc := "(I)V" } : Jvm.MethodName) prog_22_method_6_code (1 : Nat) (Option.none : Option Jvm.ClassFile.FieldType)).before args0 about1 = true := code_word (m := ⟨3, 3⟩) (meth := k3m3) (c := k3c3) (by decide +kernel) rfl rfl rfl (by decide +kernel)
def codes1 : List Jvm.Cond := [Jvm.Cond.code x code maxLocals ret, Jvm.Cond.code ({ cls := "java/lang/Math", name := "max", desc := "(II)I" } : Jvm.MethodName) jdk_29_method_65_code (2 : Nat) (Option.some Jvm.ClassFile.FieldType.int), Jvm.Cond.code ({ cls := "com/example/meander/meander/WebChain", name := "<init>", desc := "(ID)V" } : Jvm.MethodName) prog_22_method_1_code (4 : Nat) (Option.none : Option Jvm.ClassFile.FieldType), Jvm.Cond.code ({ cls := "java/lang/Object", name := "<init>", desc := "()V" } : Jvm.MethodName) object_method_1_code (1 : Nat) (Option.none : Option Jvm.ClassFile.FieldType), Jvm.Cond.code ({ cls := "com/example/meander/meander/WebChain", name := "checkAlpha", desc := "(D)D" } : Jvm.MethodName) prog_22_method_2_code (2 : Nat) (Option.some Jvm.ClassFile.FieldType.double), Jvm.Cond.code ({ cls := "com/example/meander/meander/WebChain", name := "jump", desc := "(I)D" } : Jvm.MethodName) prog_22_method_4_code (4 : Nat) (Option.some Jvm.ClassFile.FieldType.double), Jvm.Cond.code ({ cls := "com/example/meander/meander/WebChain", name := "checkOutLinks", desc := "(I)V" } : Jvm.MethodName) prog_22_method_6_code (1 : Nat) (Option.none : Option Jvm.ClassFile.FieldType)]
set_option maxRecDepth 65536 in
theorem codes_eq : words1.filter isCode = codes1 := rfl
theorem w_codes : ∀ c ∈ words1.filter isCode, c.before args0 about1 = true := by
  rw [codes_eq]
  intro c hc
  simp only [codes1, List.mem_cons, List.not_mem_nil, or_false] at hc
  rcases hc with rfl | rfl | rfl | rfl | rfl | rfl | rfl
  · exact w_c0
  · exact w_c1
  · exact w_c2
  · exact w_c3
  · exact w_c4
  · exact w_c5
  · exact w_c6
set_option maxRecDepth 65536 in
theorem w_t1 : (words1.take 24).all (fun c => isCode c || c.before args0 about1) = true := by decide +kernel
set_option maxRecDepth 65536 in
theorem w_t2 : (words1.drop 24).all (fun c => isCode c || c.before args0 about1) = true := by decide +kernel
theorem w_tables : (allAtoms (Jvm.Cond.code x code maxLocals ret :: tables_1)).before args0 about1 = true := by
  rw [allAtoms_all]
  show words1.all (fun c => c.before args0 about1) = true
  refine all_split ?_ w_codes
  rw [← List.take_append_drop 24 words1, List.all_append, w_t1, w_t2]
  rfl
set_option maxRecDepth 65536 in
theorem w_case : (Jvm.Cond.and given_1 narrow_1).before args0 about1 = true := by decide +kernel
theorem w_applies : (headSpec (Jvm.Cond.code x code maxLocals ret :: tables_1) room_1).applies x e0.platform about1 = true :=
  (Spec.applies_iff w_frames).mpr ⟨w_running, w_runnable, w_alone, w_named, w_hears, w_ripe, w_room, w_tables⟩
theorem atStart : AtStart classFile x code maxLocals ret World_1 tables_1 room_1 Calls_1 rest_1 Pre_1 launch0 p0 e0 about1 theMethod args0 below0 :=
  ⟨lists_1, trivial, launch0.admits_env _ _ _, launch0.least_env, fairChoices_fair.cas, fairChoices_fair.clock, w_frames, w_args, w_heap, w_applies, trivial, trivial, w_case⟩
end start1
theorem witness_1 : WitnessClaimed_1 := ⟨start1.p0, start1.e0, start1.about1, start1.theMethod, start1.args0, start1.below0, start1.atStart⟩
end Jvm.Pilot.@@N@@
