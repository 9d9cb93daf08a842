import JvmDerived
import JvmDerived.Pilot.@@N@@Statement
import JvmDerived.Pilot.@@N@@Code
set_option linter.unusedVariables false
set_option linter.unusedSimpArgs false
@@BLOCK:NumsL.lean.txt@@
namespace Jvm.Pilot.@@N@@
open Jvm Jvm.ClassFile Sem Op Lib Jvm.Free Jvm.Stand Jvm.LawKit Jvm.RoadKit Bundle Jvm.Pilot.@@N@@.Jvm.D
open Jvm.Free.Fl (NoNaN64 Fin64 Nz64)
abbrev uu : Slot := .unset
abbrev ss : Slot := .second
abbrev vi (x : Int32) : Slot := .val (.int x)
abbrev vj (x : Int64) : Slot := .val (.long x)
abbrev vd (x : UInt64) : Slot := .val (.double x)
abbrev vr (x : Addr) : Slot := .val (.ref x)
/-- whatever is reached from here is reached from E -/
abbrev own_G (p : Program) (e : Env) (below : List Frame) (E T : State) (g : JFrame) : Prop := ∀ t, Steps p.tables e below (T.setTop g) t → Steps p.tables e below E t
theorem own_if_eqY {x : Int32} (h : x = 0) : ifCond.holds .eq x = true := by subst h; rfl
theorem own_if_eqN {x : Int32} (h : ¬ x = 0) : ifCond.holds .eq x = false := beq_false_of_ne h
theorem own_if_neY {x : Int32} (h : ¬ x = 0) : ifCond.holds .ne x = true := bne_iff_ne.mpr h
theorem own_if_neN {x : Int32} (h : x = 0) : ifCond.holds .ne x = false := by subst h; rfl
theorem own_if_ltY {x : Int32} (h : x < 0) : ifCond.holds .lt x = true := decide_eq_true h
theorem own_if_ltN {x : Int32} (h : ¬ x < 0) : ifCond.holds .lt x = false := decide_eq_false h
theorem own_if_geY {x : Int32} (h : ¬ x < 0) : ifCond.holds .ge x = true := decide_eq_true (Int32.not_lt.mp h)
theorem own_if_geN {x : Int32} (h : x < 0) : ifCond.holds .ge x = false := decide_eq_false (fun q => Int32.not_le.mpr h q)
theorem own_if_gtY {x : Int32} (h : 0 < x) : ifCond.holds .gt x = true := decide_eq_true h
theorem own_if_gtN {x : Int32} (h : ¬ 0 < x) : ifCond.holds .gt x = false := decide_eq_false h
theorem own_if_leY {x : Int32} (h : ¬ 0 < x) : ifCond.holds .le x = true := decide_eq_true (Int32.not_lt.mp h)
theorem own_if_leN {x : Int32} (h : 0 < x) : ifCond.holds .le x = false := decide_eq_false (fun q => Int32.not_le.mpr h q)
theorem own_ic_eqY {x y : Int32} (h : x = y) : if_icmp.holds .eq x y = true := beq_iff_eq.mpr h
theorem own_ic_eqN {x y : Int32} (h : ¬ x = y) : if_icmp.holds .eq x y = false := beq_false_of_ne h
theorem own_ic_neY {x y : Int32} (h : ¬ x = y) : if_icmp.holds .ne x y = true := bne_iff_ne.mpr h
theorem own_ic_neN {x y : Int32} (h : x = y) : if_icmp.holds .ne x y = false := by subst h; exact bne_self_eq_false x
theorem own_ic_ltY {x y : Int32} (h : x < y) : if_icmp.holds .lt x y = true := decide_eq_true h
theorem own_ic_ltN {x y : Int32} (h : ¬ x < y) : if_icmp.holds .lt x y = false := decide_eq_false h
theorem own_ic_geY {x y : Int32} (h : ¬ x < y) : if_icmp.holds .ge x y = true := decide_eq_true (Int32.not_lt.mp h)
theorem own_ic_geN {x y : Int32} (h : x < y) : if_icmp.holds .ge x y = false := decide_eq_false (fun q => Int32.not_le.mpr h q)
theorem own_ic_gtY {x y : Int32} (h : y < x) : if_icmp.holds .gt x y = true := decide_eq_true h
theorem own_ic_gtN {x y : Int32} (h : ¬ y < x) : if_icmp.holds .gt x y = false := decide_eq_false h
theorem own_ic_leY {x y : Int32} (h : ¬ y < x) : if_icmp.holds .le x y = true := decide_eq_true (Int32.not_lt.mp h)
theorem own_ic_leN {x y : Int32} (h : y < x) : if_icmp.holds .le x y = false := decide_eq_false (fun q => Int32.not_le.mpr h q)
/-- what a comparison of two whole or scaled values pushes -/
def own_c (i j : Int) : Int32 := if i < j then -1 else if i = j then 0 else 1
theorem own_cE (o : CmpOp) {x y : UInt64} {i j : Int} (h : FP.dcmp x y = some (compare i j)) : cmpValue (FP.dcmp x y) o = own_c i j := by
  rw [h, FP.Core.compare_ite, own_c]
  by_cases h1 : i < j
  · rw [if_pos h1, if_pos h1]; cases o <;> rfl
  · rw [if_neg h1, if_neg h1]
    by_cases h2 : i = j
    · rw [if_pos h2, if_pos h2]; cases o <;> rfl
    · rw [if_neg h2, if_neg h2]; cases o <;> rfl
theorem own_c_lt {i j : Int} (h : i < j) : own_c i j = -1 := by rw [own_c, if_pos h]
theorem own_c_eq {i j : Int} (h : i = j) : own_c i j = 0 := by rw [own_c, if_neg (by omega), if_pos h]
theorem own_c_gt {i j : Int} (h : j < i) : own_c i j = 1 := by rw [own_c, if_neg (by omega), if_neg (by omega)]
theorem own_c_cases (i j : Int) : (i < j ∧ own_c i j = -1) ∨ (i = j ∧ own_c i j = 0) ∨ (j < i ∧ own_c i j = 1) := by
  rcases Int.lt_trichotomy i j with h | h | h
  · exact Or.inl ⟨h, own_c_lt h⟩
  · exact Or.inr (Or.inl ⟨h, own_c_eq h⟩)
  · exact Or.inr (Or.inr ⟨h, own_c_gt h⟩)
theorem own_c_ltY {i j : Int} (h : i < j) : ifCond.holds .lt (own_c i j) = true := by rw [own_c_lt h]; rfl
theorem own_c_ltN {i j : Int} (h : ¬ i < j) : ifCond.holds .lt (own_c i j) = false := by rcases own_c_cases i j with q | q | q <;> first | exact absurd q.1 h | (rw [q.2]; rfl)
theorem own_c_geY {i j : Int} (h : ¬ i < j) : ifCond.holds .ge (own_c i j) = true := by rcases own_c_cases i j with q | q | q <;> first | exact absurd q.1 h | (rw [q.2]; rfl)
theorem own_c_geN {i j : Int} (h : i < j) : ifCond.holds .ge (own_c i j) = false := by rw [own_c_lt h]; rfl
theorem own_c_gtY {i j : Int} (h : j < i) : ifCond.holds .gt (own_c i j) = true := by rw [own_c_gt h]; rfl
theorem own_c_gtN {i j : Int} (h : ¬ j < i) : ifCond.holds .gt (own_c i j) = false := by rcases own_c_cases i j with q | q | q <;> first | exact absurd q.1 h | (rw [q.2]; rfl)
theorem own_c_leY {i j : Int} (h : ¬ j < i) : ifCond.holds .le (own_c i j) = true := by rcases own_c_cases i j with q | q | q <;> first | exact absurd q.1 h | (rw [q.2]; rfl)
theorem own_c_leN {i j : Int} (h : j < i) : ifCond.holds .le (own_c i j) = false := by rw [own_c_gt h]; rfl
theorem own_c_eqY {i j : Int} (h : i = j) : ifCond.holds .eq (own_c i j) = true := by rw [own_c_eq h]; rfl
theorem own_c_eqN {i j : Int} (h : ¬ i = j) : ifCond.holds .eq (own_c i j) = false := by rcases own_c_cases i j with q | q | q <;> first | exact absurd q.1 h | (rw [q.2]; rfl)
theorem own_c_neY {i j : Int} (h : ¬ i = j) : ifCond.holds .ne (own_c i j) = true := by rcases own_c_cases i j with q | q | q <;> first | exact absurd q.1 h | (rw [q.2]; rfl)
theorem own_c_neN {i j : Int} (h : i = j) : ifCond.holds .ne (own_c i j) = false := by rw [own_c_eq h]; rfl
theorem own_l_lt {i j : Int64} (h : i < j) : XT.cmpL i j = -1 := by
  rw [XT.cmpL, if_neg (fun q => Int64.lt_irrefl (Int64.lt_trans h q)), if_neg (fun q => Int64.lt_irrefl (q ▸ h))]
theorem own_l_eq {i j : Int64} (h : i = j) : XT.cmpL i j = 0 := by subst h; rw [XT.cmpL, if_neg Int64.lt_irrefl, if_pos rfl]
theorem own_l_gt {i j : Int64} (h : j < i) : XT.cmpL i j = 1 := by rw [XT.cmpL, if_pos h]
theorem own_l_cases (i j : Int64) : (i < j ∧ XT.cmpL i j = -1) ∨ (i = j ∧ XT.cmpL i j = 0) ∨ (j < i ∧ XT.cmpL i j = 1) := by
  by_cases h : i < j
  · exact Or.inl ⟨h, own_l_lt h⟩
  · by_cases h2 : i = j
    · exact Or.inr (Or.inl ⟨h2, own_l_eq h2⟩)
    · have h3 : j < i := by
        rw [Int64.lt_iff_toInt_lt] at h ⊢
        have h4 : i.toInt ≠ j.toInt := fun q => h2 (Int64.toInt_inj.mp q)
        omega
      exact Or.inr (Or.inr ⟨h3, own_l_gt h3⟩)
theorem own_l_ltY {i j : Int64} (h : i < j) : ifCond.holds .lt (XT.cmpL i j) = true := by rw [own_l_lt h]; rfl
theorem own_l_ltN {i j : Int64} (h : ¬ i < j) : ifCond.holds .lt (XT.cmpL i j) = false := by rcases own_l_cases i j with q | q | q <;> first | exact absurd q.1 h | (rw [q.2]; rfl)
theorem own_l_geY {i j : Int64} (h : ¬ i < j) : ifCond.holds .ge (XT.cmpL i j) = true := by rcases own_l_cases i j with q | q | q <;> first | exact absurd q.1 h | (rw [q.2]; rfl)
theorem own_l_geN {i j : Int64} (h : i < j) : ifCond.holds .ge (XT.cmpL i j) = false := by rw [own_l_lt h]; rfl
theorem own_l_gtY {i j : Int64} (h : j < i) : ifCond.holds .gt (XT.cmpL i j) = true := by rw [own_l_gt h]; rfl
theorem own_l_gtN {i j : Int64} (h : ¬ j < i) : ifCond.holds .gt (XT.cmpL i j) = false := by rcases own_l_cases i j with q | q | q <;> first | exact absurd q.1 h | (rw [q.2]; rfl)
theorem own_l_leY {i j : Int64} (h : ¬ j < i) : ifCond.holds .le (XT.cmpL i j) = true := by rcases own_l_cases i j with q | q | q <;> first | exact absurd q.1 h | (rw [q.2]; rfl)
theorem own_l_leN {i j : Int64} (h : j < i) : ifCond.holds .le (XT.cmpL i j) = false := by rw [own_l_gt h]; rfl
theorem own_l_eqY {i j : Int64} (h : i = j) : ifCond.holds .eq (XT.cmpL i j) = true := by rw [own_l_eq h]; rfl
theorem own_l_eqN {i j : Int64} (h : ¬ i = j) : ifCond.holds .eq (XT.cmpL i j) = false := by rcases own_l_cases i j with q | q | q <;> first | exact absurd q.1 h | (rw [q.2]; rfl)
theorem own_l_neY {i j : Int64} (h : ¬ i = j) : ifCond.holds .ne (XT.cmpL i j) = true := by rcases own_l_cases i j with q | q | q <;> first | exact absurd q.1 h | (rw [q.2]; rfl)
theorem own_l_neN {i j : Int64} (h : i = j) : ifCond.holds .ne (XT.cmpL i j) = false := by rw [own_l_eq h]; rfl
theorem own_ac_eq_Y {x y : Value} (h : x = y) : XT.acmp .eq x y = true := decide_eq_true h
theorem own_ac_eq_N {x y : Value} (h : ¬ x = y) : XT.acmp .eq x y = false := decide_eq_false h
theorem own_ac_ne_Y {x y : Value} (h : ¬ x = y) : XT.acmp .ne x y = true := decide_eq_true h
theorem own_ac_ne_N {x y : Value} (h : x = y) : XT.acmp .ne x y = false := decide_eq_false (fun q => q h)
theorem own_ar_eq_Y {x y : Addr} (h : x = y) : XT.acmp .eq (.ref x) (.ref y) = true := own_ac_eq_Y (congrArg Value.ref h)
theorem own_ar_eq_N {x y : Addr} (h : ¬ x = y) : XT.acmp .eq (.ref x) (.ref y) = false := own_ac_eq_N (fun q => h (Value.ref.inj q))
theorem own_ar_ne_Y {x y : Addr} (h : ¬ x = y) : XT.acmp .ne (.ref x) (.ref y) = true := own_ac_ne_Y (fun q => h (Value.ref.inj q))
theorem own_ar_ne_N {x y : Addr} (h : x = y) : XT.acmp .ne (.ref x) (.ref y) = false := own_ac_ne_N (congrArg Value.ref h)
/-- a static's object's field that the case names by a number -/
theorem own_ord {args : Array Value} {s : State} {t : Term} {C n d : String} {k : Int32} {x : Addr} (ev : t.eval args s none [] s = some (.ref x))
    (h : (Jvm.Cond.eq (Term.field t C n d) (Term.int k)).value args s none s [] = some true) : s.fieldOf? x C n d = some (.int k) := by
  obtain ⟨v, u, e1, e2, k1, k2⟩ := cmp_v (Or.inl h)
  have e3 : u = .int k := by have := (Term.int_eval (args := args) (first := s) (o := none) (idx := []) (s := s) k).symm.trans e2; exact (Option.some.inj this).symm
  subst e3
  obtain ⟨z, rfl⟩ := k2
  have q := gotT (Cond.eq_ints e1 e2) h
  rw [← fld_at ev, e1, q]
/-! doubles: exact values in units of the least double -/
def own_z (x : UInt64) : Int := FP.Core.zval FP.Core.b64 (FP.Core.val64 x)
theorem own_nn {i : Int} {x : UInt64} (h : FP.Core.DInt i x) : NoNaN64 x := Fl.val64_no.mpr (FP.Core.DInt_ne_nan h)
theorem own_cmpz {x y : UInt64} (hx : NoNaN64 x) (hy : NoNaN64 y) : FP.dcmp x y = some (compare (own_z x) (own_z y)) := FP.Core.dcmp_zval (Fl.val64_no.mp hx) (Fl.val64_no.mp hy)
theorem own_d0 : FP.Core.DInt 0 FP.dconst0 := by
  have h := FP.Core.l2d_int (a := 0) (by decide)
  rw [FP.Core.l2d_zero] at h; exact h
theorem own_d1 : FP.Core.DInt 1 FP.dconst1 := FP.Core.dint_one
theorem own_zi {i : Int} {x : UInt64} (h : FP.Core.DInt i x) : own_z x = i * (FP.Core.one64 : Int) := FP.Core.DInt_zval h
theorem own_fini {i : Int} {x : UInt64} (h : FP.Core.DInt i x) : Fin64 x := by
  have h' : FP.Core.Whole i (FP.Core.val64 x) := h
  cases hv : FP.Core.val64 x with
  | nan => rw [hv] at h'; exact h'.elim
  | inf s => rw [hv] at h'; exact h'.elim
  | fin s c q => exact Fl.fin64_core.mpr ⟨s, c, q, hv⟩
theorem own_one : (0 : Int) < (FP.Core.one64 : Int) := by have := FP.Core.one64_pos; omega
theorem own_nz {x : UInt64} (h : own_z x ≠ 0) : Nz64 x := Fl.nz64_core.mpr fun ⟨s, q, e⟩ => h (by
  show FP.Core.zval FP.Core.b64 (FP.Core.val64 x) = 0
  rw [e]; show FP.Core.signed s (0 * _) = 0; rw [Nat.zero_mul]; cases s <;> rfl)
theorem own_nzi {i : Int} {x : UInt64} (h : FP.Core.DInt i x) (hi : i ≠ 0) : Nz64 x := own_nz (by
  rw [own_zi h]; intro q; rcases Int.mul_eq_zero.mp q with r | r
  · exact hi r
  · have := own_one; omega)
theorem own_zn (x : UInt64) : (own_z x).natAbs = FP.Core.zmag FP.Core.b64 (FP.Core.val64 x) := FP.Core.natAbs_signed _ _
/-- the quotient, by the two values alone -/
theorem own_quot {x y : UInt64} (hx : Fin64 x) (hy : Fin64 y) (hz : own_z y ≠ 0) :
    FP.Core.val64 (FP.ddiv x y) = FP.Core.roundRatio FP.Core.b64 (FP.Core.sgn (FP.Core.val64 x) != FP.Core.sgn (FP.Core.val64 y)) (own_z x).natAbs (own_z y).natAbs 0 := by
  obtain ⟨s, c, q, ex⟩ := Fl.fin64_core.mp hx
  obtain ⟨t, d, r, ey⟩ := Fl.fin64_core.mp hy
  have fx : FP.Core.fits FP.Core.b64 (.fin s c q) := ex ▸ FP.Core.val64_fits x
  have fy : FP.Core.fits FP.Core.b64 (.fin t d r) := ey ▸ FP.Core.val64_fits y
  have hd : d ≠ 0 := fun h => hz (by
    show FP.Core.zval FP.Core.b64 (FP.Core.val64 y) = 0
    rw [ey, h]; show FP.Core.signed t (0 * _) = 0; rw [Nat.zero_mul]; cases t <;> rfl)
  rw [own_zn, own_zn, show FP.ddiv x y = FP.Core.ddiv x y from rfl, FP.Core.val64_ddiv, ex, ey]
  show (if d = 0 then _ else FP.Core.roundRatio FP.Core.b64 (s != t) c d (q - r)) = FP.Core.roundRatio FP.Core.b64 (s != t) (c * 2 ^ (q - FP.Core.b64.qmin).toNat) (d * 2 ^ (r - FP.Core.b64.qmin).toNat) 0
  rw [if_neg hd]
  refine FP.Core.roundRatio_congr (Nat.pos_of_ne_zero hd) (Nat.mul_pos (Nat.pos_of_ne_zero hd) (Nat.two_pow_pos _)) ?_
  have h1 := fx.2.1
  have h2 := fy.2.1
  have e1 : (r - FP.Core.b64.qmin).toNat + (q - r - 0).toNat = (q - FP.Core.b64.qmin).toNat + (0 - (q - r)).toNat := by omega
  calc c * (d * 2 ^ (r - FP.Core.b64.qmin).toNat) * 2 ^ (q - r - 0).toNat = c * d * (2 ^ (r - FP.Core.b64.qmin).toNat * 2 ^ (q - r - 0).toNat) := by
        rw [Nat.mul_assoc, Nat.mul_assoc, Nat.mul_assoc]
    _ = c * d * (2 ^ (q - FP.Core.b64.qmin).toNat * 2 ^ (0 - (q - r)).toNat) := by rw [← Nat.pow_add, ← Nat.pow_add, e1]
    _ = c * 2 ^ (q - FP.Core.b64.qmin).toNat * d * 2 ^ (0 - (q - r)).toNat := by
        rw [Nat.mul_right_comm c _ d, Nat.mul_assoc (c * d)]
theorem own_noNaN_of {x : UInt64} {s : Bool} {A B : Nat} {e : Int} (h : FP.Core.val64 x = FP.Core.roundRatio FP.Core.b64 s A B e) : NoNaN64 x :=
  Fl.val64_no.mpr (h ▸ FP.Core.roundRatio_ne_nan _ _ _ _ _)
theorem own_div_nn {x y : UInt64} (hx : Fin64 x) (hy : Fin64 y) (hz : own_z y ≠ 0) : NoNaN64 (FP.ddiv x y) := Fl.ddiv_out hx.noNaN hy (own_nz hz)
/-- what is rounded below (above) a double stays there -/
theorem own_rr_le {s : Bool} {A B : Nat} {V : UInt64} (hB : 0 < B) (hV : NoNaN64 V) (h : A * FP.Core.one64 ≤ (own_z V).natAbs * B) :
    FP.Core.zmag FP.Core.b64 (FP.Core.roundRatio FP.Core.b64 s A B 0) ≤ (own_z V).natAbs := by
  rw [own_zn] at h ⊢
  refine FP.Core.zmag_roundRatio_le FP.Core.good_b64 hB (FP.Core.val64_fits V) (Fl.val64_no.mp hV) (e0 := FP.Core.b64.qmin) (Int.le_refl _) (by decide +kernel) ?_
  rw [Int.sub_self]
  show A * 2 ^ (0 - FP.Core.b64.qmin).toNat ≤ _ * 1 * B
  rw [Nat.mul_one, Int.zero_sub, FP.Core.pow_qmin64]; exact h
theorem own_rr_ge {s : Bool} {A B : Nat} {V : UInt64} (hB : 0 < B) (h : (own_z V).natAbs * B ≤ A * FP.Core.one64) :
    (own_z V).natAbs ≤ FP.Core.zmag FP.Core.b64 (FP.Core.roundRatio FP.Core.b64 s A B 0) := by
  rw [own_zn] at h ⊢
  refine FP.Core.zmag_roundRatio_ge FP.Core.good_b64 hB (FP.Core.val64_fits V) (e0 := FP.Core.b64.qmin) (Int.le_refl _) (by decide +kernel) ?_
  rw [Int.sub_self]
  show _ * 1 * B ≤ A * 2 ^ (0 - FP.Core.b64.qmin).toNat
  rw [Nat.mul_one, Int.zero_sub, FP.Core.pow_qmin64]; exact h
theorem own_z_signed {x : UInt64} {s : Bool} {A B : Nat} (h : FP.Core.val64 x = FP.Core.roundRatio FP.Core.b64 s A B 0) :
    own_z x = FP.Core.signed s (FP.Core.zmag FP.Core.b64 (FP.Core.roundRatio FP.Core.b64 s A B 0)) := by
  show FP.Core.signed _ _ = _
  rw [h, FP.Core.sgn_roundRatio]
/-- a quotient of two that are not below nought -/
theorem own_div_ge0 {x y : UInt64} (hx : Fin64 x) (hy : Fin64 y) (hz : own_z y ≠ 0) (h0 : 0 ≤ own_z x) (h1 : 0 ≤ own_z y) : 0 ≤ own_z (FP.ddiv x y) := by
  have hq := own_quot hx hy hz
  rw [own_z_signed hq]
  cases hs : (FP.Core.sgn (FP.Core.val64 x) != FP.Core.sgn (FP.Core.val64 y)) with
  | false => exact Int.natCast_nonneg _
  | true =>
    have hy2 : FP.Core.sgn (FP.Core.val64 y) = false := by
      cases hs2 : FP.Core.sgn (FP.Core.val64 y) with
      | false => rfl
      | true =>
        exfalso; have : own_z y = -(FP.Core.zmag FP.Core.b64 (FP.Core.val64 y) : Int) := by show FP.Core.signed _ _ = _; rw [hs2]; rfl
        omega
    have hx2 : FP.Core.sgn (FP.Core.val64 x) = true := by rw [hy2] at hs; simpa using hs
    have hx3 : own_z x = -(FP.Core.zmag FP.Core.b64 (FP.Core.val64 x) : Int) := by show FP.Core.signed _ _ = _; rw [hx2]; rfl
    have hx4 : (own_z x).natAbs = 0 := by omega
    rw [hx4, FP.Core.roundRatio, if_pos rfl]
    show 0 ≤ FP.Core.signed true (0 * _); rw [Nat.zero_mul]; decide
theorem own_div_le {x y V : UInt64} (hx : Fin64 x) (hy : Fin64 y) (hz : own_z y ≠ 0) (hV : NoNaN64 V) (h0 : 0 ≤ own_z x) (h1 : 0 ≤ own_z y) (h2 : 0 ≤ own_z V)
    (h : own_z x * (FP.Core.one64 : Int) ≤ own_z V * own_z y) : own_z (FP.ddiv x y) ≤ own_z V := by
  have hq := own_quot hx hy hz
  have hge := own_div_ge0 hx hy hz h0 h1
  have hB : 0 < (own_z y).natAbs := by omega
  have h3 : (own_z x).natAbs * FP.Core.one64 ≤ (own_z V).natAbs * (own_z y).natAbs := by
    have e1 : ((own_z x).natAbs : Int) = own_z x := by omega
    have e2 : ((own_z y).natAbs : Int) = own_z y := by omega
    have e3 : ((own_z V).natAbs : Int) = own_z V := by omega
    have : (((own_z x).natAbs * FP.Core.one64 : Nat) : Int) ≤ (((own_z V).natAbs * (own_z y).natAbs : Nat) : Int) := by
      rw [Int.natCast_mul, Int.natCast_mul, e1, e2, e3]; exact h
    exact Int.ofNat_le.mp this
  have := own_rr_le (s := FP.Core.sgn (FP.Core.val64 x) != FP.Core.sgn (FP.Core.val64 y)) hB hV h3
  have h4 : (own_z (FP.ddiv x y)).natAbs ≤ (own_z V).natAbs := by rw [own_zn, hq]; exact this
  omega
/-- two doubles of the same whole value compare as equal -/
theorem own_eq0 {x y : UInt64} {i : Int} (o : CmpOp) (hx : FP.Core.DInt i x) (hy : FP.Core.DInt i y) : cmpValue (FP.dcmp x y) o = 0 := by
  rw [own_cE o (FP.Core.dcmp_int hx hy), own_c_eq rfl]
theorem own_mb {a b A B : Int} (h1 : -A ≤ a) (h2 : a ≤ A) (h3 : -B ≤ b) (h4 : b ≤ B) (h : A * B ≤ 9007199254740992) : (a * b).natAbs ≤ 2 ^ 53 := by
  rw [Int.natAbs_mul]
  have e1 : a.natAbs ≤ A.toNat := by omega
  have e2 : b.natAbs ≤ B.toNat := by omega
  have e3 : a.natAbs * b.natAbs ≤ A.toNat * B.toNat := Nat.mul_le_mul e1 e2
  have e4 : ((A.toNat * B.toNat : Nat) : Int) = A * B := by rw [Int.natCast_mul, Int.toNat_of_nonneg (by omega), Int.toNat_of_nonneg (by omega)]
  have e5 : (2 : Nat) ^ 53 = 9007199254740992 := by decide
  omega
theorem own_dl (a : Int64) {i : Int} (h : a.toInt = i) (hb : i.natAbs ≤ 2 ^ 53) : FP.Core.DInt i (FP.l2d a) := by subst h; exact FP.Core.l2d_int hb
theorem own_lm {a b : Int64} (h : (a.toInt * b.toInt).natAbs ≤ 2 ^ 53) : (a * b).toInt = a.toInt * b.toInt := by
  have e5 : (2 : Nat) ^ 53 = 9007199254740992 := by decide
  exact Jvm.Kit.i64_mul (by omega) (by omega)
theorem own_sgn_mul {s t : Bool} {b : Nat} {k : Int} (hb : 0 < b) (h : FP.Core.signed s (k.natAbs * b) = k * FP.Core.signed t b) : FP.Core.signed (s != t) k.natAbs = k := by
  have hb' : (0 : Int) < (b : Int) := by omega
  have e : ((k.natAbs * b : Nat) : Int) = (k.natAbs : Int) * (b : Int) := Int.natCast_mul _ _
  have key : ∀ z : Int, (k.natAbs : Int) * (b : Int) = z * (b : Int) → (k.natAbs : Int) = z := fun z q => Int.eq_of_mul_eq_mul_right (by omega) q
  cases s <;> cases t
  · show (k.natAbs : Int) = k
    apply key; rw [← e]; exact h
  · show -(k.natAbs : Int) = k
    have h' : ((k.natAbs * b : Nat) : Int) = k * -(b : Int) := h
    have := key (-k) (by rw [← e, h', Int.mul_neg, Int.neg_mul]); omega
  · show -(k.natAbs : Int) = k
    have h' : -((k.natAbs * b : Nat) : Int) = k * (b : Int) := h
    have := key (-k) (by rw [← e, Int.neg_mul, ← h', Int.neg_neg]); omega
  · show (k.natAbs : Int) = k
    have h' : -((k.natAbs * b : Nat) : Int) = k * -(b : Int) := h
    apply key; rw [← e]
    have : -((k.natAbs * b : Nat) : Int) = -(k * (b : Int)) := by rw [h', Int.mul_neg]
    omega
/-- a quotient of whole values that comes out even -/
theorem own_ddiv_int {k j : Int} {x y : UInt64} (hx : FP.Core.DInt (k * j) x) (hy : FP.Core.DInt j y) (hj : j ≠ 0) (hk : k.natAbs ≤ 2 ^ 53) : FP.Core.DInt k (FP.ddiv x y) := by
  have zx := own_zi hx
  have zy := own_zi hy
  have hz : own_z y ≠ 0 := by rw [zy]; exact Int.mul_ne_zero hj (by have := own_one; omega)
  have hq := own_quot (own_fini hx) (own_fini hy) hz
  have ha : (own_z x).natAbs = k.natAbs * (own_z y).natAbs := by rw [zx, zy, Int.mul_assoc, Int.natAbs_mul]
  have hb : 0 < (own_z y).natAbs := by omega
  show FP.Core.Whole k (FP.Core.val64 (FP.ddiv x y))
  rw [hq, ha, FP.Core.roundRatio_congr (A' := k.natAbs) (B' := 1) (e' := 0) hb (by decide) (by rw [Nat.mul_one])]
  refine FP.Core.whole_round FP.Core.good_b64 FP.Core.wide_b64 hk (d := .fin (FP.Core.sgn (FP.Core.val64 x) != FP.Core.sgn (FP.Core.val64 y)) k.natAbs 0) ?_
  show FP.Core.signed _ (k.natAbs * 1) = k * ((1 : Nat) : Int)
  rw [Nat.mul_one, show ((1 : Nat) : Int) = 1 from rfl, Int.mul_one]
  refine own_sgn_mul hb ?_
  have e1 : FP.Core.signed (FP.Core.sgn (FP.Core.val64 x)) (own_z x).natAbs = own_z x := by rw [own_zn]; rfl
  have e2 : FP.Core.signed (FP.Core.sgn (FP.Core.val64 y)) (own_z y).natAbs = own_z y := by rw [own_zn]; rfl
  rw [← ha, e1, e2, zx, zy, Int.mul_assoc]
theorem own_zmag_s (s : Bool) (A B : Nat) (e : Int) : FP.Core.zmag FP.Core.b64 (FP.Core.roundRatio FP.Core.b64 s A B e) = FP.Core.zmag FP.Core.b64 (FP.Core.roundRatio FP.Core.b64 false A B e) := by
  cases s with
  | false => rfl
  | true =>
    rw [show FP.Core.roundRatio FP.Core.b64 true A B e = FP.Core.negate (FP.Core.roundRatio FP.Core.b64 false A B e) from (FP.Core.negate_roundRatio FP.Core.b64 false A B e).symm]
    cases FP.Core.roundRatio FP.Core.b64 false A B e <;> rfl
theorem own_div_n {x y : UInt64} (hx : Fin64 x) (hy : Fin64 y) (hz : own_z y ≠ 0) : (own_z (FP.ddiv x y)).natAbs = FP.Core.zmag FP.Core.b64 (FP.Core.roundRatio FP.Core.b64 false (own_z x).natAbs (own_z y).natAbs 0) := by
  rw [own_zn, own_quot hx hy hz, own_zmag_s]
/-- two quotients of the same ratio, none below nought -/
theorem own_div_congr {x y x' y' : UInt64} (hx : Fin64 x) (hy : Fin64 y) (hz : own_z y ≠ 0) (hx' : Fin64 x') (hy' : Fin64 y') (hz' : own_z y' ≠ 0)
    (g1 : 0 ≤ own_z x) (g2 : 0 ≤ own_z y) (g3 : 0 ≤ own_z x') (g4 : 0 ≤ own_z y') (h : own_z x * own_z y' = own_z x' * own_z y) : own_z (FP.ddiv x y) = own_z (FP.ddiv x' y') := by
  have e1 := own_div_n hx hy hz
  have e2 := own_div_n hx' hy' hz'
  have k1 := own_div_ge0 hx hy hz g1 g2
  have k2 := own_div_ge0 hx' hy' hz' g3 g4
  have h' : (own_z x).natAbs * (own_z y').natAbs = (own_z x').natAbs * (own_z y).natAbs := by rw [← Int.natAbs_mul, ← Int.natAbs_mul, h]
  rw [FP.Core.roundRatio_congr (A' := (own_z x').natAbs) (B' := (own_z y').natAbs) (e' := 0) (by omega) (by omega) (by rw [h'])] at e1
  omega
/-- m * 2^k units is a double -/
theorem own_rep (m k : Nat) (hm : m < 2 ^ 53) (hk : k ≤ 2045) : ∃ V : UInt64, Fin64 V ∧ own_z V = ((m * 2 ^ k : Nat) : Int) := by
  have hq : FP.Core.b64.qmin = -1074 := FP.Core.qmin_b64
  have hq2 : FP.Core.b64.qmax = 971 := by decide
  obtain ⟨c, q, e1, e2⟩ := FP.Core.round_exact FP.Core.good_b64 false (c := m) (q := (k : Int) - 1074) hm (by rw [hq]; omega) (by rw [hq2]; omega)
  have hv : FP.Core.val64 (FP.Core.of64 (FP.Core.round FP.Core.b64 (.fin false m ((k : Int) - 1074)))) = .fin false c q := by
    rw [FP.Core.val64_of64 (FP.Core.round_fits FP.Core.good_b64 _), e1]
  refine ⟨_, Fl.fin64_core.mpr ⟨_, _, _, hv⟩, ?_⟩
  show FP.Core.zval FP.Core.b64 _ = _
  rw [hv]
  show ((FP.Core.inUnits c q FP.Core.b64.qmin : Nat) : Int) = _
  rw [e2, FP.Core.inUnits, hq, show ((k : Int) - 1074 - -1074).toNat = k by omega]
/-- a quotient that comes out even in some binary place -/
theorem own_div_exact {x y : UInt64} (hx : Fin64 x) (hy : Fin64 y) (hz : own_z y ≠ 0) (g1 : 0 ≤ own_z x) (g2 : 0 ≤ own_z y) (m k : Nat) (hm : m < 2 ^ 53) (hk : k ≤ 2045)
    (h : own_z x * (FP.Core.one64 : Int) = ((m * 2 ^ k : Nat) : Int) * own_z y) : own_z (FP.ddiv x y) = ((m * 2 ^ k : Nat) : Int) := by
  obtain ⟨V, fV, zV⟩ := own_rep m k hm hk
  have k1 := own_div_ge0 hx hy hz g1 g2
  have e1 := own_div_n hx hy hz
  have h3 : (own_z x).natAbs * FP.Core.one64 = (own_z V).natAbs * (own_z y).natAbs := by
    have := congrArg Int.natAbs h
    rw [Int.natAbs_mul, Int.natAbs_mul, ← zV] at this
    exact this
  have l1 := own_rr_le (s := false) (A := (own_z x).natAbs) (B := (own_z y).natAbs) (V := V) (by omega) fV.noNaN (Nat.le_of_eq h3)
  have l2 := own_rr_ge (s := false) (A := (own_z x).natAbs) (B := (own_z y).natAbs) (V := V) (by omega) (Nat.le_of_eq h3.symm)
  omega
theorem own_eqz {x y : UInt64} (o : CmpOp) (hx : NoNaN64 x) (hy : NoNaN64 y) (h : own_z x = own_z y) : cmpValue (FP.dcmp x y) o = 0 := by
  rw [own_cE o (own_cmpz hx hy), own_c_eq h]
theorem own_ge0 {x : UInt64} (h : 0 ≤ own_z x) : ¬ own_z x < own_z FP.dconst0 := by rw [own_zi own_d0, Int.zero_mul]; exact Int.not_lt.mpr h
theorem own_le1 {x : UInt64} (h : own_z x ≤ own_z FP.dconst1) : ¬ own_z FP.dconst1 < own_z x := Int.not_lt.mpr h
theorem own_ge1 {n : Int32} (h : 1 ≤ n.toInt) : ¬ n < 1 := by rw [Int32.lt_iff_toInt_lt]; show ¬ n.toInt < 1; omega
theorem own_zn1 {n : Int32} (h : 1 ≤ n.toInt) : Nz64 (FP.i2d n) := own_nzi (FP.Core.i2d_int n) (by omega)
theorem own_md (p : Int32) : ¬ (p &&& (2147483647 : Int32)) < 0 := by
  have h1 := Jvm.Kit.i32_mask p 2147483647 (k := 31) (by decide) (by decide)
  rw [Int32.lt_iff_toInt_lt]; show ¬ (p &&& (2147483647 : Int32)).toInt < 0; omega
theorem own_fin01 {x : UInt64} (n : NoNaN64 x) (lo : ¬ own_z x < own_z FP.dconst0) (hi : ¬ own_z FP.dconst1 < own_z x) : Fin64 x := by
  cases hv : FP.Core.val64 x with
  | nan => exact absurd hv (Fl.val64_no.mp n)
  | fin s c q => exact Fl.fin64_core.mpr ⟨s, c, q, hv⟩
  | inf s =>
    exfalso
    have e1 : own_z x = FP.Core.signed s (FP.Core.b64.tails * 2 ^ (FP.Core.b64.exps - 2)) := by show FP.Core.zval _ _ = _; rw [hv]; rfl
    cases s
    · have : own_z FP.dconst1 < own_z x := by rw [e1]; decide +kernel
      exact hi this
    · have : own_z x < own_z FP.dconst0 := by rw [e1]; decide +kernel
      exact lo this

theorem own_md7 (p : Int32) : ¬ (p &&& (7 : Int32)) < 0 := by
  have h1 := Jvm.Kit.i32_mask p 7 (k := 3) (by decide) (by decide)
  rw [Int32.lt_iff_toInt_lt]; show ¬ (p &&& (7 : Int32)).toInt < 0; omega
theorem own_N (p : Int32) : 1 ≤ ((p &&& (1073741823 : Int32)) + (1 : Int32)).toInt := by
  have h := Jvm.Kit.i32_mask p 1073741823 (k := 30) (by decide) (by decide)
  have h2 : ((p &&& (1073741823 : Int32)) + (1 : Int32)).toInt = (p &&& (1073741823 : Int32)).toInt + 1 := Jvm.Kit.i32_add (q := 1) (by rw [h]; show _ ≤ _ + (1 : Int); omega) (by rw [h]; show _ + (1 : Int) < _; omega)
  omega
theorem own_P (p : Int32) : 0 ≤ ((p &&& (2047 : Int32)) % (1025 : Int32)).toInt ∧ ((p &&& (2047 : Int32)) % (1025 : Int32)).toInt ≤ 1024 := by
  have h1 := Jvm.Kit.i32_mask p 2047 (k := 11) (by decide) (by decide)
  rw [Jvm.Kit.i32_rem_nonneg (by omega)]
  show 0 ≤ _ % (1025 : Int) ∧ _ % (1025 : Int) ≤ 1024; omega
theorem own_k1024 : FP.Core.DInt 1024 (4652218415073722368 : UInt64) := by
  have h := FP.Core.i2d_int 1024
  rw [show FP.Core.i2d 1024 = (4652218415073722368 : UInt64) by decide +kernel] at h; exact h
theorem own_z1024 : own_z (4652218415073722368 : UInt64) ≠ 0 := by rw [own_zi own_k1024]; have := own_one; omega
theorem own_aln (P : Int32) : NoNaN64 (FP.ddiv (FP.i2d P) (4652218415073722368 : UInt64)) := own_div_nn (Fl.i2d_fin P) (own_fini own_k1024) own_z1024
/-- P / 1024 is P * 2^1064 units -/
theorem own_al {P : Int32} {al : UInt64} (bP : 0 ≤ P.toInt ∧ P.toInt ≤ 1024) (hal : FP.ddiv (FP.i2d P) (4652218415073722368 : UInt64) = al) : own_z al = P.toInt * 2 ^ 1064 := by
  have o : (FP.Core.one64 : Int) = 2 ^ 1064 * 1024 := by rw [FP.Core.one64]; decide +kernel
  have zp := own_zi (FP.Core.i2d_int P)
  have hm : P.toInt.toNat < 2 ^ 53 := by have : (2 : Nat) ^ 53 = 9007199254740992 := by decide
                                         omega
  have h := own_div_exact (Fl.i2d_fin P) (own_fini own_k1024) own_z1024 (by rw [zp]; exact Int.mul_nonneg bP.1 (Int.le_of_lt own_one)) (by rw [own_zi own_k1024]; exact Int.mul_nonneg (by decide) (Int.le_of_lt own_one)) P.toInt.toNat 1064 hm (by decide) (by
    rw [zp, own_zi own_k1024, Int.natCast_mul, Int.toNat_of_nonneg bP.1]
    have e2 : ((2 ^ 1064 : Nat) : Int) = 2 ^ 1064 := by rw [Int.natCast_pow]; rfl
    rw [e2]
    generalize (FP.Core.one64 : Int) = W at o ⊢
    generalize (2 : Int) ^ 1064 = U at o ⊢
    rw [o]
    simp only [Int.mul_assoc, Int.mul_comm, Int.mul_left_comm])
  rw [hal, Int.natCast_mul, Int.toNat_of_nonneg bP.1] at h
  have e2 : ((2 ^ 1064 : Nat) : Int) = 2 ^ 1064 := by rw [Int.natCast_pow]; rfl
  rw [e2] at h; exact h
theorem own_u : (0 : Int) < 2 ^ 1064 := by decide +kernel
theorem own_al0 {al : UInt64} {P : Int32} (h : own_z al = P.toInt * 2 ^ 1064) (bP : 0 ≤ P.toInt ∧ P.toInt ≤ 1024) : ¬ own_z al < own_z FP.dconst0 := by
  rw [own_zi own_d0, h]; have := Int.mul_nonneg bP.1 (Int.le_of_lt own_u); omega
theorem own_al1 {al : UInt64} {P : Int32} (h : own_z al = P.toInt * 2 ^ 1064) (bP : 0 ≤ P.toInt ∧ P.toInt ≤ 1024) : ¬ own_z FP.dconst1 < own_z al := by
  have o : (FP.Core.one64 : Int) = 1024 * 2 ^ 1064 := by rw [FP.Core.one64]; decide +kernel
  rw [own_zi own_d1, h, o, Int.one_mul]
  have := Int.mul_le_mul_of_nonneg_right bP.2 (Int.le_of_lt own_u); omega
theorem own_divn {al : UInt64} {d : Int32} (fal : Fin64 al) (h : ¬ d = 0) : NoNaN64 (FP.ddiv al (FP.i2d d)) := Fl.ddiv_out fal.noNaN (Fl.i2d_fin d) (own_nzi (FP.Core.i2d_int d) (FP.Core.int32_ne h))
theorem own_pos {d : Int32} (h : ¬ d < 0) (h2 : ¬ d = 0) : 0 < d.toInt := by
  rw [Int32.lt_iff_toInt_lt] at h
  have h3 : d.toInt ≠ 0 := FP.Core.int32_ne h2
  have e : (0 : Int32).toInt = 0 := rfl
  omega
theorem own_zp {d : Int32} (h : 0 < d.toInt) : 0 < own_z (FP.i2d d) := by rw [own_zi (FP.Core.i2d_int d)]; exact Int.mul_pos h own_one
theorem own_md1024 (d : Int32) : FP.Core.DInt (1024 * d.toInt) (FP.dmul (4652218415073722368 : UInt64) (FP.i2d d)) := FP.Core.dmul_int own_k1024 (FP.Core.i2d_int d) (by
  have h1 := Int32.le_toInt d; have h2 := Int32.toInt_lt d
  have e5 : (2 : Nat) ^ 53 = 9007199254740992 := by decide
  omega)
theorem own_zq {d : Int32} (h : 0 < d.toInt) : 0 < own_z (FP.dmul (4652218415073722368 : UInt64) (FP.i2d d)) := by rw [own_zi (own_md1024 d)]; exact Int.mul_pos (by omega) own_one
theorem own_qn (P : Int32) {d : Int32} (h : 0 < d.toInt) : NoNaN64 (FP.ddiv (FP.i2d P) (FP.dmul (4652218415073722368 : UInt64) (FP.i2d d))) := own_div_nn (Fl.i2d_fin P) (own_fini (own_md1024 d)) (by have := own_zq h; omega)
theorem own_same {P d : Int32} {al : UInt64} (bP : 0 ≤ P.toInt ∧ P.toInt ≤ 1024) (hal : FP.ddiv (FP.i2d P) (4652218415073722368 : UInt64) = al) (h : 0 < d.toInt) (o : CmpOp) :
    cmpValue (FP.dcmp (FP.ddiv al (FP.i2d d)) (FP.ddiv (FP.i2d P) (FP.dmul (4652218415073722368 : UInt64) (FP.i2d d)))) o = 0 := by
  have za := own_al bP hal
  have fal : Fin64 al := own_fin01 (hal ▸ own_aln P) (own_al0 za bP) (own_al1 za bP)
  have k1 := own_zp h
  have k2 := own_zq h
  have zp := own_zi (FP.Core.i2d_int P)
  have gP : 0 ≤ own_z (FP.i2d P) := by rw [zp]; exact Int.mul_nonneg bP.1 (Int.le_of_lt own_one)
  refine own_eqz o (own_div_nn fal (Fl.i2d_fin d) (by omega)) (own_qn P h) ?_
  refine own_div_congr fal (Fl.i2d_fin d) (by omega) (Fl.i2d_fin P) (own_fini (own_md1024 d)) (by omega) (by rw [za]; exact Int.mul_nonneg bP.1 (Int.le_of_lt own_u)) (by omega) gP (by omega) ?_
  rw [za, zp, own_zi (own_md1024 d), own_zi (FP.Core.i2d_int d)]
  have o : (FP.Core.one64 : Int) = 2 ^ 1064 * 1024 := by rw [FP.Core.one64]; decide +kernel
  generalize (FP.Core.one64 : Int) = W at o ⊢
  generalize (2 : Int) ^ 1064 = U at o ⊢
  rw [o]
  simp only [Int.mul_assoc, Int.mul_comm, Int.mul_left_comm]
theorem own_r0 {al : UInt64} {d : Int32} (fal : Fin64 al) (lal : ¬ own_z al < own_z FP.dconst0) (h : 0 < d.toInt) : ¬ own_z (FP.ddiv al (FP.i2d d)) < own_z FP.dconst0 := by
  have e := own_zi own_d0
  have := own_div_ge0 fal (Fl.i2d_fin d) (by have := own_zp h; omega) (by omega) (by have := own_zp h; omega)
  omega
theorem own_a0 {al : UInt64} (lal : ¬ own_z al < own_z FP.dconst0) : ¬ own_z al < own_z FP.dconst0 := lal
theorem own_r1 {al : UInt64} {d : Int32} (fal : Fin64 al) (nal : NoNaN64 al) (lal : ¬ own_z al < own_z FP.dconst0) (h : 0 < d.toInt) : ¬ own_z al < own_z (FP.ddiv al (FP.i2d d)) := by
  have e := own_zi own_d0
  have k1 := own_zp h
  have g : 0 ≤ own_z al := by omega
  have := own_div_le (V := al) fal (Fl.i2d_fin d) (by omega) nal g (by omega) g (by
    rw [own_zi (FP.Core.i2d_int d)]
    refine Int.mul_le_mul_of_nonneg_left ?_ g
    have := Int.mul_le_mul_of_nonneg_right (show (1 : Int) ≤ d.toInt by omega) (Int.le_of_lt own_one)
    rw [Int.one_mul] at this; exact this)
  omega

def QrmA (Z : State) (x : UInt64) (h0 : Heap) (n0 : Nat) (vQ : Option Value) (hQ : Heap) (LQ : List Loc) : Prop := vQ = some (.double x) ∧ Fr n0 LQ ∧ hQ = h0
theorem ef_rmA (m : MethodId) (x : UInt64) : entryFrame m #[(.double x)] 2 = mkF m 0 #[vd x, ss] [] := by first | (simp [entryFrame, mkF, argsToLocals, Value.category]; done) | rfl
abbrev mn0 : MethodName := ⟨"com/example/meander/meander/WebChain", "checkAlpha", "(D)D"⟩
theorem pn_com_example_meander_meander_WebChain : plainName "com/example/meander/meander/WebChain" = true := by first | (simp [plainName, overriddenIn]; done) | decide +kernel
theorem d_prog_22_method_2_code_0 : decode prog_22_method_2_code 0 = .ok (.dload_n 0, 1) := by decide +kernel
theorem d_prog_22_method_2_code_1 : decode prog_22_method_2_code 1 = .ok (.dconst 0, 1) := by decide +kernel
theorem d_prog_22_method_2_code_2 : decode prog_22_method_2_code 2 = .ok (.dcmp .l, 1) := by decide +kernel
theorem d_prog_22_method_2_code_3 : decode prog_22_method_2_code 3 = .ok (.ifCond .lt 9, 3) := by decide +kernel
theorem d_prog_22_method_2_code_6 : decode prog_22_method_2_code 6 = .ok (.dload_n 0, 1) := by decide +kernel
theorem d_prog_22_method_2_code_7 : decode prog_22_method_2_code 7 = .ok (.dconst 1, 1) := by decide +kernel
theorem d_prog_22_method_2_code_8 : decode prog_22_method_2_code 8 = .ok (.dcmp .g, 1) := by decide +kernel
theorem d_prog_22_method_2_code_9 : decode prog_22_method_2_code 9 = .ok (.ifCond .le 17, 3) := by decide +kernel
theorem d_prog_22_method_2_code_26 : decode prog_22_method_2_code 26 = .ok (.dload_n 0, 1) := by decide +kernel
theorem d_prog_22_method_2_code_27 : decode prog_22_method_2_code 27 = .ok (.dreturn, 1) := by decide +kernel
set_option maxRecDepth 65536 in
set_option maxHeartbeats 40000000 in
theorem rmA (l : Launch) (Z : State) (a0 : Array Value) (hw : ∀ d ∈ tables_1, d.before a0 Z = true) (ws : List Jvm.Cond) (x : UInt64) (h0 : Heap) (n0 : Nat) (Z0 : n0 ≤ h0.size) (nx : NoNaN64 x) (lo : ¬ own_z x < own_z FP.dconst0) (hi : ¬ own_z FP.dconst1 < own_z x) :
    MetFree l mn0 (head1 (Jvm.Cond.code mn0 prog_22_method_2_code 2 (some .double) :: ws) ({ frames := 0, cells := 0, slots := 0, locals := 0 } : Room)) (fun aA U => aA = #[(.double x)] ∧ Z.Warmed39 U.vm ∧ U.heap = h0) (fun _ _ _ _ _ => True) (fun _ U o U' => ∃ vR LR, o = .returned vR ∧ QrmA Z x h0 n0 vR U'.heap LR ∧ FrameEnd U o U' LR ({ frames := 0, cells := 0, slots := 0, locals := 0 } : Room).cells ({ frames := 0, cells := 0, slots := 0, locals := 0 } : Room).slots) := by
  refine MetFree.of_bodySF (plainFor_of_name pn_com_example_meander_meander_WebChain) hisR ?_
  intro p e s m args below meth c s₁ Bd hml0 hPre hKk
  obtain ⟨rfl, hZ, hh⟩ := hPre
  have hx := Bd.exec
  have hby := Bd.bytes
  have hml : c.maxLocals = 2 := hml0
  have hown : s.vm.findClass "com/example/meander/meander/WebChain" = some m.cls := findClass_of_methodNamed Bd.named
  have hnm := (name_of_methodNamed Bd.named Bd.method).1
  have X0 : Stand p l e ({ frames := 0, cells := 0, slots := 0, locals := 0 } : Room) s m #[(.double x)] below meth c s₁ [] 0 0 := Stand.of_body Bd
  have e0 : s₁.heap = h0 := by rw [← hh, Bd.state]; rfl
  have N0 := Fr.nil n0
  obtain ⟨E0, hE0⟩ : ∃ zE : State, zE = s₁.setTop (entryFrame m #[(.double x)] 2) := ⟨_, rfl⟩
  have k0 : own_G p e below E0 s₁ (mkF m 0 #[vd x, ss] []) := fun tz kz => hE0 ▸ castTop (ef_rmA m x) kz
  have k1 : own_G p e below E0 s₁ (mkF m 27 #[vd x, ss] [(.double x)]) := by
    intro t kk
    refine k0 t ?_
    refine XS.dloadN X0.here hx rfl (hb hby d_prog_22_method_2_code_0) rfl ?_
    refine XS.dconst0 X0.here hx rfl (hb hby d_prog_22_method_2_code_1) rfl ?_
    refine XS.dcmpS (v := (own_c (own_z x) (own_z FP.dconst0))) X0.here hx rfl (hb hby d_prog_22_method_2_code_2) rfl (own_cE .l (own_cmpz nx (own_nn own_d0))) ?_
    refine XS.ifNo X0.here hx rfl (hb hby d_prog_22_method_2_code_3) rfl (own_c_ltN lo) ?_
    show Steps p.tables e below (s₁.setTop (mkF m 6 #[vd x, ss] [])) t
    refine XS.dloadN X0.here hx rfl (hb hby d_prog_22_method_2_code_6) rfl ?_
    refine XS.dconst1 X0.here hx rfl (hb hby d_prog_22_method_2_code_7) rfl ?_
    refine XS.dcmpS (v := (own_c (own_z x) (own_z FP.dconst1))) X0.here hx rfl (hb hby d_prog_22_method_2_code_8) rfl (own_cE .g (own_cmpz nx (own_nn own_d1))) ?_
    refine XS.ifYes X0.here hx rfl (pc0 := 9) (pc' := 26) rfl (hb hby d_prog_22_method_2_code_9) rfl (own_c_leY hi) (by decide) (by decide) ?_
    show Steps p.tables e below (s₁.setTop (mkF m 26 #[vd x, ss] [])) t
    refine XS.dloadN X0.here hx rfl (hb hby d_prog_22_method_2_code_26) rfl ?_
    exact kk
  obtain ⟨fs, hr, hrun, hended, hW, hsame⟩ := X0.leave (v := some (.double x)) (fun h => by rw [Bd.returns] at h; cases h)
  have hrun0 := k1 _ (retOut X0 hx Bd.returns (t := .double) rfl (Or.inr (Or.inr (Or.inl ⟨rfl, rfl, _, rfl⟩))) (hb hby d_prog_22_method_2_code_27) hr)
  subst hE0
  refine ⟨_, _, hrun0, hrun, hended, _, _, rfl, ?_, ⟨_, rfl⟩, hW, hsame.mono (by decide) (by decide)⟩
  show QrmA Z x h0 n0 _ s₁.heap _
  rw [e0]
  exact ⟨rfl, N0, rfl⟩
abbrev fd1 (Z : State) (h : Heap) (a : Addr) (v : Value) : Prop := Fld Z h a "com/example/meander/meander/WebChain" "pages" "I" v
abbrev fd2 (Z : State) (h : Heap) (a : Addr) (v : Value) : Prop := Fld Z h a "com/example/meander/meander/WebChain" "alpha" "D" v
abbrev fd3 (Z : State) (h : Heap) (a : Addr) (v : Value) : Prop := Fld Z h a "com/example/meander/meander/WebChain" "jump" "D" v
def QrmI (Z : State) (a : Addr) (n : Int32) (x : UInt64) (h0 : Heap) (n0 : Nat) (vQ : Option Value) (hQ : Heap) (LQ : List Loc) : Prop := vQ = none ∧ Fr n0 LQ ∧ Keep h0 hQ [a] ∧ (fd1 Z hQ a (.int n)) ∧ (fd2 Z hQ a (.double x)) ∧ (fd3 Z hQ a (.double (FP.ddiv (FP.dsub FP.dconst1 x) (FP.i2d n))))
theorem ef_rmI (m : MethodId) (a : Addr) (n : Int32) (x : UInt64) : entryFrame m #[(.ref a), (.int n), (.double x)] 4 = mkF m 0 #[vr a, vi n, vd x, ss] [] := by first | (simp [entryFrame, mkF, argsToLocals, Value.category]; done) | rfl
abbrev xa4 (Z : State) (h : Heap) (a : Addr) : Prop := Exa Z h a "com/example/meander/meander/WebChain"
abbrev mn5 : MethodName := ⟨"com/example/meander/meander/WebChain", "<init>", "(ID)V"⟩
theorem d_prog_22_method_1_code_0 : decode prog_22_method_1_code 0 = .ok (.aload_n 0, 1) := by decide +kernel
theorem d_prog_22_method_1_code_1 : decode prog_22_method_1_code 1 = .ok (.invokespecial 1, 3) := by decide +kernel
def tw8 {Z : State} {a0 : Array Value} (hw : ∀ d ∈ tables_1, d.before a0 Z = true) := hw _ (List.mem_of_getElem? (i := 8) rfl)
def tw9 {Z : State} {a0 : Array Value} (hw : ∀ d ∈ tables_1, d.before a0 Z = true) := hw _ (List.mem_of_getElem? (i := 9) rfl)
def tw10 {Z : State} {a0 : Array Value} (hw : ∀ d ∈ tables_1, d.before a0 Z = true) := hw _ (List.mem_of_getElem? (i := 10) rfl)
theorem d_prog_22_method_1_code_4 : decode prog_22_method_1_code 4 = .ok (.iload_n 1, 1) := by decide +kernel
theorem d_prog_22_method_1_code_5 : decode prog_22_method_1_code 5 = .ok (.iconst 1, 1) := by decide +kernel
theorem d_prog_22_method_1_code_6 : decode prog_22_method_1_code 6 = .ok (.if_icmp .ge 17, 3) := by decide +kernel
theorem d_prog_22_method_1_code_23 : decode prog_22_method_1_code 23 = .ok (.aload_n 0, 1) := by decide +kernel
theorem d_prog_22_method_1_code_24 : decode prog_22_method_1_code 24 = .ok (.iload_n 1, 1) := by decide +kernel
theorem d_prog_22_method_1_code_25 : decode prog_22_method_1_code 25 = .ok (.putfield 16, 3) := by decide +kernel
def tw11 {Z : State} {a0 : Array Value} (hw : ∀ d ∈ tables_1, d.before a0 Z = true) := hw _ (List.mem_of_getElem? (i := 11) rfl)
def tw12 {Z : State} {a0 : Array Value} (hw : ∀ d ∈ tables_1, d.before a0 Z = true) := hw _ (List.mem_of_getElem? (i := 12) rfl)
def tw3 {Z : State} {a0 : Array Value} (hw : ∀ d ∈ tables_1, d.before a0 Z = true) := hw _ (List.mem_of_getElem? (i := 3) rfl)
def tw17 {Z : State} {a0 : Array Value} (hw : ∀ d ∈ tables_1, d.before a0 Z = true) := hw _ (List.mem_of_getElem? (i := 17) rfl)
def tw19 {Z : State} {a0 : Array Value} (hw : ∀ d ∈ tables_1, d.before a0 Z = true) := hw _ (List.mem_of_getElem? (i := 19) rfl)
theorem d_prog_22_method_1_code_28 : decode prog_22_method_1_code 28 = .ok (.aload_n 0, 1) := by decide +kernel
theorem d_prog_22_method_1_code_29 : decode prog_22_method_1_code 29 = .ok (.dload_n 2, 1) := by decide +kernel
theorem d_prog_22_method_1_code_30 : decode prog_22_method_1_code 30 = .ok (.invokestatic 22, 3) := by decide +kernel
def tw13 {Z : State} {a0 : Array Value} (hw : ∀ d ∈ tables_1, d.before a0 Z = true) := hw _ (List.mem_of_getElem? (i := 13) rfl)
def tw15 {Z : State} {a0 : Array Value} (hw : ∀ d ∈ tables_1, d.before a0 Z = true) := hw _ (List.mem_of_getElem? (i := 15) rfl)
def tw4 {Z : State} {a0 : Array Value} (hw : ∀ d ∈ tables_1, d.before a0 Z = true) := hw _ (List.mem_of_getElem? (i := 4) rfl)
theorem pd_6 : parseMethodDescriptor "(D)D" = some ⟨[.double], some .double⟩ := by decide +kernel
def tw14 {Z : State} {a0 : Array Value} (hw : ∀ d ∈ tables_1, d.before a0 Z = true) := hw _ (List.mem_of_getElem? (i := 14) rfl)
theorem d_prog_22_method_1_code_33 : decode prog_22_method_1_code 33 = .ok (.putfield 26, 3) := by decide +kernel
def tw16 {Z : State} {a0 : Array Value} (hw : ∀ d ∈ tables_1, d.before a0 Z = true) := hw _ (List.mem_of_getElem? (i := 16) rfl)
theorem d_prog_22_method_1_code_36 : decode prog_22_method_1_code 36 = .ok (.aload_n 0, 1) := by decide +kernel
theorem d_prog_22_method_1_code_37 : decode prog_22_method_1_code 37 = .ok (.dconst 1, 1) := by decide +kernel
theorem d_prog_22_method_1_code_38 : decode prog_22_method_1_code 38 = .ok (.dload_n 2, 1) := by decide +kernel
theorem d_prog_22_method_1_code_39 : decode prog_22_method_1_code 39 = .ok (.dsub, 1) := by decide +kernel
theorem d_prog_22_method_1_code_40 : decode prog_22_method_1_code 40 = .ok (.iload_n 1, 1) := by decide +kernel
theorem d_prog_22_method_1_code_41 : decode prog_22_method_1_code 41 = .ok (.i2d, 1) := by decide +kernel
theorem d_prog_22_method_1_code_42 : decode prog_22_method_1_code 42 = .ok (.ddiv, 1) := by decide +kernel
theorem d_prog_22_method_1_code_43 : decode prog_22_method_1_code 43 = .ok (.putfield 30, 3) := by decide +kernel
def tw18 {Z : State} {a0 : Array Value} (hw : ∀ d ∈ tables_1, d.before a0 Z = true) := hw _ (List.mem_of_getElem? (i := 18) rfl)
theorem d_prog_22_method_1_code_46 : decode prog_22_method_1_code 46 = .ok (.return_, 1) := by decide +kernel
set_option maxRecDepth 65536 in
set_option maxHeartbeats 40000000 in
theorem rmI (l : Launch) (Z : State) (a0 : Array Value) (hw : ∀ d ∈ tables_1, d.before a0 Z = true) (ws : List Jvm.Cond) (a : Addr) (n : Int32) (x : UInt64) (h0 : Heap) (n0 : Nat) (Z0 : n0 ≤ h0.size) (E1 : xa4 Z h0 a) (F1 : fd1 Z h0 a (.int (0 : Int32))) (F2 : fd2 Z h0 a (.double (0 : UInt64))) (F3 : fd3 Z h0 a (.double (0 : UInt64))) (ge_a : n0 ≤ a) (hn : ¬ n < 1) (nx : NoNaN64 x) (lo : ¬ own_z x < own_z FP.dconst0) (hi : ¬ own_z FP.dconst1 < own_z x) (n1 : NoNaN64 (FP.dsub FP.dconst1 x)) (n2 : NoNaN64 (FP.ddiv (FP.dsub FP.dconst1 x) (FP.i2d n))) :
    MetFree l mn5 (head1 (Jvm.Cond.code mn5 prog_22_method_1_code 4 none :: ws) ({ frames := 1, cells := 0, slots := 0, locals := 14 } : Room)) (fun aA U => aA = #[(.ref a), (.int n), (.double x)] ∧ Z.Warmed39 U.vm ∧ U.heap = h0) (fun _ _ _ _ _ => True) (fun _ U o U' => ∃ vR LR, o = .returned vR ∧ QrmI Z a n x h0 n0 vR U'.heap LR ∧ FrameEnd U o U' LR ({ frames := 1, cells := 0, slots := 0, locals := 14 } : Room).cells ({ frames := 1, cells := 0, slots := 0, locals := 14 } : Room).slots) := by
  refine MetFree.of_bodySF (plainFor_of_name pn_com_example_meander_meander_WebChain) hisR ?_
  intro p e s m args below meth c s₁ Bd hml0 hPre hKk
  obtain ⟨rfl, hZ, hh⟩ := hPre
  have hx := Bd.exec
  have hby := Bd.bytes
  have hml : c.maxLocals = 4 := hml0
  have hown : s.vm.findClass "com/example/meander/meander/WebChain" = some m.cls := findClass_of_methodNamed Bd.named
  have hnm := (name_of_methodNamed Bd.named Bd.method).1
  have X0 : Stand p l e ({ frames := 1, cells := 0, slots := 0, locals := 14 } : Room) s m #[(.ref a), (.int n), (.double x)] below meth c s₁ [] 0 0 := Stand.of_body Bd
  have e0 : s₁.heap = h0 := by rw [← hh, Bd.state]; rfl
  have N0 := Fr.nil n0
  obtain ⟨E0, hE0⟩ : ∃ zE : State, zE = s₁.setTop (entryFrame m #[(.ref a), (.int n), (.double x)] 4) := ⟨_, rfl⟩
  have k0 : own_G p e below E0 s₁ (mkF m 0 #[vr a, vi n, vd x, ss] []) := fun tz kz => hE0 ▸ castTop (ef_rmI m a n x) kz
  have K0 : Keep h0 h0 [a] := Keep.refl _ _
  have k2 : own_G p e below E0 s₁ (mkF m 1 #[vr a, vi n, vd x, ss] [(.ref a)]) := by
    intro t kk
    refine k0 t ?_
    refine XS.aloadN X0.here hx rfl (hb hby d_prog_22_method_1_code_0) rfl rfl ?_
    exact kk
  obtain ⟨T3, X4, e5, st6⟩ := initO X0 hx hZ hown (tw8 hw) (tw9 hw) (tw10 hw) e0 (g := (mkF m 1 #[vr a, vi n, vd x, ss] [(.ref a)])) rfl (by rw [hml]; rfl) rfl (hb hby d_prog_22_method_1_code_1) (by decide) (W := 0) (by show 2 * 0 + _ ≤ _; exact Nat.le_of_eq rfl) (by decide)
  have k7 : own_G p e below E0 T3 (mkF m 4 #[vr a, vi n, vd x, ss] []) := fun t kk => k2 t (st6 _ kk)
  have k8 : own_G p e below E0 T3 (mkF m 25 #[vr a, vi n, vd x, ss] [(.int n), (.ref a)]) := by
    intro t kk
    refine k7 t ?_
    refine XS.iloadN X4.here hx rfl (hb hby d_prog_22_method_1_code_4) rfl ?_
    refine XS.iconst X4.here hx rfl (hb hby d_prog_22_method_1_code_5) ?_
    refine XS.icmpYes X4.here hx rfl (pc0 := 6) (pc' := 23) rfl (hb hby d_prog_22_method_1_code_6) rfl (own_ic_geY hn) (by decide) (by decide) ?_
    refine XS.aloadN X4.here hx rfl (hb hby d_prog_22_method_1_code_23) rfl rfl ?_
    show Steps p.tables e below (T3.setTop (mkF m 24 #[vr a, vi n, vd x, ss] [(.ref a)])) t
    refine XS.iloadN X4.here hx rfl (hb hby d_prog_22_method_1_code_24) rfl ?_
    exact kk
  obtain ⟨T9, h10, X11, e12, W13, st14⟩ := putF X4 hx hZ hown (host := "") (Or.inl (tw11 hw)) Via.refl e5 F1 E1 (Or.inr ⟨(tw12 hw), rfl, hnm⟩) (tw3 hw) (ty := .int) (by decide) rfl rfl (g := (mkF m 25 #[vr a, vi n, vd x, ss] [(.int n), (.ref a)])) rfl rfl (hb hby d_prog_22_method_1_code_25)
  have N15 := Fr.snoc X11 N0 ge_a
  have k16 : own_G p e below E0 T9 (mkF m 28 #[vr a, vi n, vd x, ss] []) := fun t kk => k8 t (st14 _ kk)
  have F17 : xa4 Z h10 a := E1.wr W13
  have F18 : fd1 Z h10 a (.int n) := F1.same W13
  have F19 : fd2 Z h10 a (.double (0 : UInt64)) := F2.other W13 (Or.inr (slot_ne (C := "com/example/meander/meander/WebChain") (Or.inr (tw17 hw)) (Or.inr (tw12 hw)) (by decide) (t := .double) (t' := .int) (by decide) (by decide)))
  have F20 : fd3 Z h10 a (.double (0 : UInt64)) := F3.other W13 (Or.inr (slot_ne (C := "com/example/meander/meander/WebChain") (Or.inr (tw19 hw)) (Or.inr (tw12 hw)) (by decide) (t := .double) (t' := .int) (by decide) (by decide)))
  have Z21 : n0 ≤ h10.size := by rw [W13.size]; exact Z0
  have K22 : Keep h0 h10 [a] := K0.wr W13 (Or.inl (List.mem_of_getElem? (i := 0) rfl))
  have k23 : own_G p e below E0 T9 (mkF m 30 #[vr a, vi n, vd x, ss] [(.double x), (.ref a)]) := by
    intro t kk
    refine k16 t ?_
    refine XS.aloadN X11.here hx rfl (hb hby d_prog_22_method_1_code_28) rfl rfl ?_
    refine XS.dloadN X11.here hx rfl (hb hby d_prog_22_method_1_code_29) rfl ?_
    exact kk
  obtain ⟨_, _, ⟨T24, L25, kc26, nc27⟩, -, X28, ⟨Lc29, hQ30, l31, y32, z33⟩, st34⟩ := Jvm.LawKit.callS X11 hx (y := mn0) hown (mvT hZ (tw13 hw)) (mvT hZ (tw14 hw)) (mvT hZ (tw4 hw)) (mvT hZ (tw15 hw)) (by decide) (backOf (W := 1) (rmA l Z a0 hw [] x h10 n0 Z21 nx lo hi) hZ (tw15 hw) (tw4 hw) (by decide) (by decide)) (g := (mkF m 30 #[vr a, vi n, vd x, ss] [(.double x), (.ref a)])) rfl (by rw [hml]; rfl) (argsL := [(.double x)]) (rest := [(.ref a)]) (lenOf pd_6 rfl) rfl (by show 2 * 0 + _ ≤ _; exact Nat.le_of_eq rfl) (hb hby d_prog_22_method_1_code_30) (fun _ _ => ⟨rfl, e12, (by decide : 0 + 0 ≤ _), (by decide : 0 + 0 ≤ _)⟩)
  dsimp only [Pt.U, Pt.locs, Pt.cells, Pt.slots] at X28 l31 y32 z33 st34 hQ30
  subst l31 y32 z33
  obtain ⟨rfl, N35, e36⟩ := hQ30
  have N38 := Fr.app N15 N35
  have k39 : own_G p e below E0 T24 (mkF m 33 #[vr a, vi n, vd x, ss] [(.double x), (.ref a)]) := fun t kk => k23 t (st34 _ kk)
  obtain ⟨T40, h41, X42, e43, W44, st45⟩ := putF X28 hx hZ hown (host := "") (Or.inl (tw16 hw)) Via.refl e36 F19 F17 (Or.inr ⟨(tw17 hw), rfl, hnm⟩) (tw3 hw) (ty := .double) (by decide) rfl rfl (g := (mkF m 33 #[vr a, vi n, vd x, ss] [(.double x), (.ref a)])) rfl rfl (hb hby d_prog_22_method_1_code_33)
  have N46 := Fr.snoc X42 N38 ge_a
  have k47 : own_G p e below E0 T40 (mkF m 36 #[vr a, vi n, vd x, ss] []) := fun t kk => k39 t (st45 _ kk)
  have F48 : xa4 Z h41 a := F17.wr W44
  have F49 : fd1 Z h41 a (.int n) := F18.other W44 (Or.inr (slot_ne (C := "com/example/meander/meander/WebChain") (Or.inr (tw12 hw)) (Or.inr (tw17 hw)) (by decide) (t := .int) (t' := .double) (by decide) (by decide)))
  have F50 : fd2 Z h41 a (.double x) := F19.same W44
  have F51 : fd3 Z h41 a (.double (0 : UInt64)) := F20.other W44 (Or.inr (slot_ne (C := "com/example/meander/meander/WebChain") (Or.inr (tw19 hw)) (Or.inr (tw17 hw)) (by decide) (t := .double) (t' := .double) (by decide) (by decide)))
  have Z52 : n0 ≤ h41.size := by rw [W44.size]; exact Z21
  have K53 : Keep h0 h41 [a] := K22.wr W44 (Or.inl (List.mem_of_getElem? (i := 0) rfl))
  have k54 : own_G p e below E0 T40 (mkF m 43 #[vr a, vi n, vd x, ss] [(.double (FP.ddiv (FP.dsub FP.dconst1 x) (FP.i2d n))), (.ref a)]) := by
    intro t kk
    refine k47 t ?_
    refine XS.aloadN X42.here hx rfl (hb hby d_prog_22_method_1_code_36) rfl rfl ?_
    refine XS.dconst1 X42.here hx rfl (hb hby d_prog_22_method_1_code_37) rfl ?_
    refine XS.dloadN X42.here hx rfl (hb hby d_prog_22_method_1_code_38) rfl ?_
    refine XS.dsubS X42.here hx rfl (hb hby d_prog_22_method_1_code_39) rfl n1 rfl ?_
    show Steps p.tables e below (T40.setTop (mkF m 40 #[vr a, vi n, vd x, ss] [(.double (FP.dsub FP.dconst1 x)), (.ref a)])) t
    refine XS.iloadN X42.here hx rfl (hb hby d_prog_22_method_1_code_40) rfl ?_
    refine XS.i2dS X42.here hx rfl (hb hby d_prog_22_method_1_code_41) rfl rfl ?_
    refine XS.ddivS X42.here hx rfl (hb hby d_prog_22_method_1_code_42) rfl n2 rfl ?_
    exact kk
  obtain ⟨T55, h56, X57, e58, W59, st60⟩ := putF X42 hx hZ hown (host := "") (Or.inl (tw18 hw)) Via.refl e43 F51 F48 (Or.inr ⟨(tw19 hw), rfl, hnm⟩) (tw3 hw) (ty := .double) (by decide) rfl rfl (g := (mkF m 43 #[vr a, vi n, vd x, ss] [(.double (FP.ddiv (FP.dsub FP.dconst1 x) (FP.i2d n))), (.ref a)])) rfl rfl (hb hby d_prog_22_method_1_code_43)
  have N61 := Fr.snoc X57 N46 ge_a
  have k62 : own_G p e below E0 T55 (mkF m 46 #[vr a, vi n, vd x, ss] []) := fun t kk => k54 t (st60 _ kk)
  have F63 : xa4 Z h56 a := F48.wr W59
  have F64 : fd1 Z h56 a (.int n) := F49.other W59 (Or.inr (slot_ne (C := "com/example/meander/meander/WebChain") (Or.inr (tw12 hw)) (Or.inr (tw19 hw)) (by decide) (t := .int) (t' := .double) (by decide) (by decide)))
  have F65 : fd2 Z h56 a (.double x) := F50.other W59 (Or.inr (slot_ne (C := "com/example/meander/meander/WebChain") (Or.inr (tw17 hw)) (Or.inr (tw19 hw)) (by decide) (t := .double) (t' := .double) (by decide) (by decide)))
  have F66 : fd3 Z h56 a (.double (FP.ddiv (FP.dsub FP.dconst1 x) (FP.i2d n))) := F51.same W59
  have Z67 : n0 ≤ h56.size := by rw [W59.size]; exact Z52
  have K68 : Keep h0 h56 [a] := K53.wr W59 (Or.inl (List.mem_of_getElem? (i := 0) rfl))
  obtain ⟨fs, hr, hrun, hended, hW, hsame⟩ := X57.leave (v := none) (fun _ => rfl)
  have hrun0 := k62 _ (X57.returnOut hx Bd.returns (hb hby d_prog_22_method_1_code_46) hr)
  subst hE0
  refine ⟨_, _, hrun0, hrun, hended, _, _, rfl, ?_, ⟨_, rfl⟩, hW, hsame.mono (by decide) (by decide)⟩
  show QrmI Z a n x h0 n0 _ T55.heap _
  rw [e58]
  exact ⟨rfl, N61, K68, F64, F65, F66⟩
def QrmC (Z : State) (d : Int32) (h0 : Heap) (n0 : Nat) (vQ : Option Value) (hQ : Heap) (LQ : List Loc) : Prop := vQ = none ∧ Fr n0 LQ ∧ hQ = h0
theorem ef_rmC (m : MethodId) (d : Int32) : entryFrame m #[(.int d)] 1 = mkF m 0 #[vi d] [] := by first | (simp [entryFrame, mkF, argsToLocals, Value.category]; done) | rfl
abbrev mn7 : MethodName := ⟨"com/example/meander/meander/WebChain", "checkOutLinks", "(I)V"⟩
theorem d_prog_22_method_6_code_0 : decode prog_22_method_6_code 0 = .ok (.iload_n 0, 1) := by decide +kernel
theorem d_prog_22_method_6_code_1 : decode prog_22_method_6_code 1 = .ok (.ifCond .ge 17, 3) := by decide +kernel
theorem d_prog_22_method_6_code_18 : decode prog_22_method_6_code 18 = .ok (.return_, 1) := by decide +kernel
set_option maxRecDepth 65536 in
set_option maxHeartbeats 40000000 in
theorem rmC (l : Launch) (Z : State) (a0 : Array Value) (hw : ∀ d ∈ tables_1, d.before a0 Z = true) (ws : List Jvm.Cond) (d : Int32) (h0 : Heap) (n0 : Nat) (Z0 : n0 ≤ h0.size) (hd : ¬ d < 0) :
    MetFree l mn7 (head1 (Jvm.Cond.code mn7 prog_22_method_6_code 1 none :: ws) ({ frames := 0, cells := 0, slots := 0, locals := 0 } : Room)) (fun aA U => aA = #[(.int d)] ∧ Z.Warmed39 U.vm ∧ U.heap = h0) (fun _ _ _ _ _ => True) (fun _ U o U' => ∃ vR LR, o = .returned vR ∧ QrmC Z d h0 n0 vR U'.heap LR ∧ FrameEnd U o U' LR ({ frames := 0, cells := 0, slots := 0, locals := 0 } : Room).cells ({ frames := 0, cells := 0, slots := 0, locals := 0 } : Room).slots) := by
  refine MetFree.of_bodySF (plainFor_of_name pn_com_example_meander_meander_WebChain) hisR ?_
  intro p e s m args below meth c s₁ Bd hml0 hPre hKk
  obtain ⟨rfl, hZ, hh⟩ := hPre
  have hx := Bd.exec
  have hby := Bd.bytes
  have hml : c.maxLocals = 1 := hml0
  have hown : s.vm.findClass "com/example/meander/meander/WebChain" = some m.cls := findClass_of_methodNamed Bd.named
  have hnm := (name_of_methodNamed Bd.named Bd.method).1
  have X0 : Stand p l e ({ frames := 0, cells := 0, slots := 0, locals := 0 } : Room) s m #[(.int d)] below meth c s₁ [] 0 0 := Stand.of_body Bd
  have e0 : s₁.heap = h0 := by rw [← hh, Bd.state]; rfl
  have N0 := Fr.nil n0
  obtain ⟨E0, hE0⟩ : ∃ zE : State, zE = s₁.setTop (entryFrame m #[(.int d)] 1) := ⟨_, rfl⟩
  have k0 : own_G p e below E0 s₁ (mkF m 0 #[vi d] []) := fun tz kz => hE0 ▸ castTop (ef_rmC m d) kz
  have k69 : own_G p e below E0 s₁ (mkF m 18 #[vi d] []) := by
    intro t kk
    refine k0 t ?_
    refine XS.iloadN X0.here hx rfl (hb hby d_prog_22_method_6_code_0) rfl ?_
    refine XS.ifYes X0.here hx rfl (pc0 := 1) (pc' := 18) rfl (hb hby d_prog_22_method_6_code_1) rfl (own_if_geY hd) (by decide) (by decide) ?_
    exact kk
  obtain ⟨fs, hr, hrun, hended, hW, hsame⟩ := X0.leave (v := none) (fun _ => rfl)
  have hrun0 := k69 _ (X0.returnOut hx Bd.returns (hb hby d_prog_22_method_6_code_18) hr)
  subst hE0
  refine ⟨_, _, hrun0, hrun, hended, _, _, rfl, ?_, ⟨_, rfl⟩, hW, hsame.mono (by decide) (by decide)⟩
  show QrmC Z d h0 n0 _ s₁.heap _
  rw [e0]
  exact ⟨rfl, N0, rfl⟩
def QrmF (Z : State) (a : Addr) (d : Int32) (x : UInt64) (h0 : Heap) (n0 : Nat) (vQ : Option Value) (hQ : Heap) (LQ : List Loc) : Prop := vQ = some (.double (if d = 0 then FP.dconst0 else (FP.ddiv x (FP.i2d d)))) ∧ Fr n0 LQ ∧ hQ = h0
theorem ef_rmF (m : MethodId) (a : Addr) (d : Int32) (x : UInt64) : entryFrame m #[(.ref a), (.int d)] 4 = mkF m 0 #[vr a, vi d, uu, uu] [] := by first | (simp [entryFrame, mkF, argsToLocals, Value.category]; done) | rfl
abbrev mn8 : MethodName := ⟨"com/example/meander/meander/WebChain", "follow", "(I)D"⟩
theorem d_prog_22_method_3_code_0 : decode prog_22_method_3_code 0 = .ok (.iload_n 1, 1) := by decide +kernel
theorem d_prog_22_method_3_code_1 : decode prog_22_method_3_code 1 = .ok (.invokestatic 36, 3) := by decide +kernel
def tw25 {Z : State} {a0 : Array Value} (hw : ∀ d ∈ tables_1, d.before a0 Z = true) := hw _ (List.mem_of_getElem? (i := 25) rfl)
def tw27 {Z : State} {a0 : Array Value} (hw : ∀ d ∈ tables_1, d.before a0 Z = true) := hw _ (List.mem_of_getElem? (i := 27) rfl)
theorem pd_9 : parseMethodDescriptor "(I)V" = some ⟨[.int], none⟩ := by decide +kernel
def tw26 {Z : State} {a0 : Array Value} (hw : ∀ d ∈ tables_1, d.before a0 Z = true) := hw _ (List.mem_of_getElem? (i := 26) rfl)
theorem d_prog_22_method_3_code_4 : decode prog_22_method_3_code 4 = .ok (.iload_n 1, 1) := by decide +kernel
theorem d_prog_22_method_3_code_5 : decode prog_22_method_3_code 5 = .ok (.ifCond .ne 8, 3) := by decide +kernel
theorem d_prog_22_method_3_code_8 : decode prog_22_method_3_code 8 = .ok (.dconst 0, 1) := by decide +kernel
theorem d_prog_22_method_3_code_9 : decode prog_22_method_3_code 9 = .ok (.dstore_n 2, 1) := by decide +kernel
theorem d_prog_22_method_3_code_10 : decode prog_22_method_3_code 10 = .ok (.goto 11, 3) := by decide +kernel
theorem d_prog_22_method_3_code_21 : decode prog_22_method_3_code 21 = .ok (.dload_n 2, 1) := by decide +kernel
theorem d_prog_22_method_3_code_22 : decode prog_22_method_3_code 22 = .ok (.dreturn, 1) := by decide +kernel
theorem d_prog_22_method_3_code_13 : decode prog_22_method_3_code 13 = .ok (.aload_n 0, 1) := by decide +kernel
theorem d_prog_22_method_3_code_14 : decode prog_22_method_3_code 14 = .ok (.getfield 26, 3) := by decide +kernel
theorem d_prog_22_method_3_code_17 : decode prog_22_method_3_code 17 = .ok (.iload_n 1, 1) := by decide +kernel
theorem d_prog_22_method_3_code_18 : decode prog_22_method_3_code 18 = .ok (.i2d, 1) := by decide +kernel
theorem d_prog_22_method_3_code_19 : decode prog_22_method_3_code 19 = .ok (.ddiv, 1) := by decide +kernel
theorem d_prog_22_method_3_code_20 : decode prog_22_method_3_code 20 = .ok (.dstore_n 2, 1) := by decide +kernel
set_option maxRecDepth 65536 in
set_option maxHeartbeats 40000000 in
theorem rmF (l : Launch) (Z : State) (a0 : Array Value) (hw : ∀ d ∈ tables_1, d.before a0 Z = true) (ws : List Jvm.Cond) (a : Addr) (d : Int32) (x : UInt64) (h0 : Heap) (n0 : Nat) (Z0 : n0 ≤ h0.size) (F2 : fd2 Z h0 a (.double x)) (hd : ¬ d < 0) (n3 : ¬ d = 0 → NoNaN64 (FP.ddiv x (FP.i2d d))) :
    MetFree l mn8 (head1 (Jvm.Cond.code mn8 prog_22_method_3_code 4 (some .double) :: ws) ({ frames := 1, cells := 0, slots := 0, locals := 12 } : Room)) (fun aA U => aA = #[(.ref a), (.int d)] ∧ Z.Warmed39 U.vm ∧ U.heap = h0) (fun _ _ _ _ _ => True) (fun _ U o U' => ∃ vR LR, o = .returned vR ∧ QrmF Z a d x h0 n0 vR U'.heap LR ∧ FrameEnd U o U' LR ({ frames := 1, cells := 0, slots := 0, locals := 12 } : Room).cells ({ frames := 1, cells := 0, slots := 0, locals := 12 } : Room).slots) := by
  refine MetFree.of_bodySF (plainFor_of_name pn_com_example_meander_meander_WebChain) hisR ?_
  intro p e s m args below meth c s₁ Bd hml0 hPre hKk
  obtain ⟨rfl, hZ, hh⟩ := hPre
  have hx := Bd.exec
  have hby := Bd.bytes
  have hml : c.maxLocals = 4 := hml0
  have hown : s.vm.findClass "com/example/meander/meander/WebChain" = some m.cls := findClass_of_methodNamed Bd.named
  have hnm := (name_of_methodNamed Bd.named Bd.method).1
  have X0 : Stand p l e ({ frames := 1, cells := 0, slots := 0, locals := 12 } : Room) s m #[(.ref a), (.int d)] below meth c s₁ [] 0 0 := Stand.of_body Bd
  have e0 : s₁.heap = h0 := by rw [← hh, Bd.state]; rfl
  have N0 := Fr.nil n0
  obtain ⟨E0, hE0⟩ : ∃ zE : State, zE = s₁.setTop (entryFrame m #[(.ref a), (.int d)] 4) := ⟨_, rfl⟩
  have k0 : own_G p e below E0 s₁ (mkF m 0 #[vr a, vi d, uu, uu] []) := fun tz kz => hE0 ▸ castTop (ef_rmF m a d x) kz
  have k70 : own_G p e below E0 s₁ (mkF m 1 #[vr a, vi d, uu, uu] [(.int d)]) := by
    intro t kk
    refine k0 t ?_
    refine XS.iloadN X0.here hx rfl (hb hby d_prog_22_method_3_code_0) rfl ?_
    exact kk
  obtain ⟨_, _, ⟨T71, L72, kc73, nc74⟩, -, X75, ⟨Lc76, hQ77, l78, y79, z80⟩, st81⟩ := Jvm.LawKit.callS X0 hx (y := mn7) hown (mvT hZ (tw25 hw)) (mvT hZ (tw26 hw)) (mvT hZ (tw4 hw)) (mvT hZ (tw27 hw)) (by decide) (backOf (W := 0) (rmC l Z a0 hw [] d h0 n0 Z0 hd) hZ (tw27 hw) (tw4 hw) (by decide) (by decide)) (g := (mkF m 1 #[vr a, vi d, uu, uu] [(.int d)])) rfl (by rw [hml]; rfl) (argsL := [(.int d)]) (rest := []) (lenOf pd_9 rfl) rfl (by show 2 * 0 + _ ≤ _; exact Nat.le_of_eq rfl) (hb hby d_prog_22_method_3_code_1) (fun _ _ => ⟨rfl, e0, (by decide : 0 + 0 ≤ _), (by decide : 0 + 0 ≤ _)⟩)
  dsimp only [Pt.U, Pt.locs, Pt.cells, Pt.slots] at X75 l78 y79 z80 st81 hQ77
  subst l78 y79 z80
  obtain ⟨rfl, N82, e83⟩ := hQ77
  have N85 := Fr.app N0 N82
  have k86 : own_G p e below E0 T71 (mkF m 4 #[vr a, vi d, uu, uu] []) := fun t kk => k70 t (st81 _ kk)
  have k87 : own_G p e below E0 T71 (mkF m 5 #[vr a, vi d, uu, uu] [(.int d)]) := by
    intro t kk
    refine k86 t ?_
    refine XS.iloadN X75.here hx rfl (hb hby d_prog_22_method_3_code_4) rfl ?_
    exact kk
  by_cases cd : d = 0
  · skip
    have k89 : own_G p e below E0 T71 (mkF m 22 #[vr a, vi d, vd FP.dconst0, ss] [(.double FP.dconst0)]) := by
      intro t kk
      refine k87 t ?_
      refine XS.ifNo X75.here hx rfl (hb hby d_prog_22_method_3_code_5) rfl (own_if_neN cd) ?_
      refine XS.dconst0 X75.here hx rfl (hb hby d_prog_22_method_3_code_8) rfl ?_
      refine XS.dstoreN X75.here hx rfl (hb hby d_prog_22_method_3_code_9) rfl (l' := #[vr a, vi d, vd FP.dconst0, ss]) rfl ?_
      refine XS.goto X75.here hx rfl (pc0 := 10) (pc' := 21) rfl (hb hby d_prog_22_method_3_code_10) (by decide) (by decide) ?_
      show Steps p.tables e below (T71.setTop (mkF m 21 #[vr a, vi d, vd FP.dconst0, ss] [])) t
      refine XS.dloadN X75.here hx rfl (hb hby d_prog_22_method_3_code_21) rfl ?_
      exact kk
    obtain ⟨fs, hr, hrun, hended, hW, hsame⟩ := X75.leave (v := some (.double FP.dconst0)) (fun h => by rw [Bd.returns] at h; cases h)
    have hrun0 := k89 _ (retOut X75 hx Bd.returns (t := .double) rfl (Or.inr (Or.inr (Or.inl ⟨rfl, rfl, _, rfl⟩))) (hb hby d_prog_22_method_3_code_22) hr)
    subst hE0
    refine ⟨_, _, hrun0, hrun, hended, _, _, rfl, ?_, ⟨_, rfl⟩, hW, hsame.mono (by decide) (by decide)⟩
    show QrmF Z a d x h0 n0 _ T71.heap _
    rw [e83]
    exact ⟨by rw [if_pos cd], N85, rfl⟩
  · skip
    have k90 : own_G p e below E0 T71 (mkF m 14 #[vr a, vi d, uu, uu] [(.ref a)]) := by
      intro t kk
      refine k87 t ?_
      refine XS.ifYes X75.here hx rfl (pc0 := 5) (pc' := 13) rfl (hb hby d_prog_22_method_3_code_5) rfl (own_if_neY cd) (by decide) (by decide) ?_
      refine XS.aloadN X75.here hx rfl (hb hby d_prog_22_method_3_code_13) rfl rfl ?_
      exact kk
    obtain ⟨T91, X92, e93, st94⟩ := getF X75 hx hZ hown (host := "") (Or.inl (tw16 hw)) Via.refl e83 F2 (g := (mkF m 14 #[vr a, vi d, uu, uu] [(.ref a)])) rfl rfl (hb hby d_prog_22_method_3_code_14)
    have k95 : own_G p e below E0 T91 (mkF m 17 #[vr a, vi d, uu, uu] [(.double x)]) := fun t kk => k90 t (st94 _ kk)
    have k96 : own_G p e below E0 T91 (mkF m 22 #[vr a, vi d, vd (FP.ddiv x (FP.i2d d)), ss] [(.double (FP.ddiv x (FP.i2d d)))]) := by
      intro t kk
      refine k95 t ?_
      refine XS.iloadN X92.here hx rfl (hb hby d_prog_22_method_3_code_17) rfl ?_
      refine XS.i2dS X92.here hx rfl (hb hby d_prog_22_method_3_code_18) rfl rfl ?_
      refine XS.ddivS X92.here hx rfl (hb hby d_prog_22_method_3_code_19) rfl (n3 cd) rfl ?_
      refine XS.dstoreN X92.here hx rfl (hb hby d_prog_22_method_3_code_20) rfl (l' := #[vr a, vi d, vd (FP.ddiv x (FP.i2d d)), ss]) rfl ?_
      show Steps p.tables e below (T91.setTop (mkF m 21 #[vr a, vi d, vd (FP.ddiv x (FP.i2d d)), ss] [])) t
      refine XS.dloadN X92.here hx rfl (hb hby d_prog_22_method_3_code_21) rfl ?_
      exact kk
    obtain ⟨fs, hr, hrun, hended, hW, hsame⟩ := X92.leave (v := some (.double (FP.ddiv x (FP.i2d d)))) (fun h => by rw [Bd.returns] at h; cases h)
    have hrun0 := k96 _ (retOut X92 hx Bd.returns (t := .double) rfl (Or.inr (Or.inr (Or.inl ⟨rfl, rfl, _, rfl⟩))) (hb hby d_prog_22_method_3_code_22) hr)
    subst hE0
    refine ⟨_, _, hrun0, hrun, hended, _, _, rfl, ?_, ⟨_, rfl⟩, hW, hsame.mono (by decide) (by decide)⟩
    show QrmF Z a d x h0 n0 _ T91.heap _
    rw [e93]
    exact ⟨by rw [if_neg cd], N85, rfl⟩
def Qrm0 (Z : State) (p0 : Int32) (p1 : Int32) (p2 : Int32) (p3 : Int32) (h0 : Heap) (n0 : Nat) (vQ : Option Value) (hQ : Heap) (LQ : List Loc) : Prop := vQ = some (.int (1 : Int32)) ∧ Fr n0 LQ
theorem ef_rm0 (m : MethodId) (p0 : Int32) (p1 : Int32) (p2 : Int32) (p3 : Int32) : entryFrame m #[(.int p0), (.int p1), (.int p2), (.int p3)] maxLocals = mkF m 0 #[vi p0, vi p1, vi p2, vi p3, uu, uu, uu, uu, uu, uu, uu, uu, uu, uu] [] := by first | (simp [entryFrame, mkF, argsToLocals, Value.category, maxLocals]; done) | rfl
theorem pn_com_example_meander_meander_WebChainFollowPinLaw : plainName "com/example/meander/meander/WebChainFollowPinLaw" = true := by first | (simp [plainName, overriddenIn]; done) | decide +kernel
def tw0 {Z : State} {a0 : Array Value} (hw : ∀ d ∈ tables_1, d.before a0 Z = true) := hw _ (List.mem_of_getElem? (i := 0) rfl)
def tw1 {Z : State} {a0 : Array Value} (hw : ∀ d ∈ tables_1, d.before a0 Z = true) := hw _ (List.mem_of_getElem? (i := 1) rfl)
def tw28 {Z : State} {a0 : Array Value} (hw : ∀ d ∈ tables_1, d.before a0 Z = true) := hw _ (List.mem_of_getElem? (i := 28) rfl)
def tw2 {Z : State} {a0 : Array Value} (hw : ∀ d ∈ tables_1, d.before a0 Z = true) := hw _ (List.mem_of_getElem? (i := 2) rfl)
def tw5 {Z : State} {a0 : Array Value} (hw : ∀ d ∈ tables_1, d.before a0 Z = true) := hw _ (List.mem_of_getElem? (i := 5) rfl)
def tw7 {Z : State} {a0 : Array Value} (hw : ∀ d ∈ tables_1, d.before a0 Z = true) := hw _ (List.mem_of_getElem? (i := 7) rfl)
theorem pd_10 : parseMethodDescriptor "(ID)V" = some ⟨[.int, .double], none⟩ := by decide +kernel
def tw6 {Z : State} {a0 : Array Value} (hw : ∀ d ∈ tables_1, d.before a0 Z = true) := hw _ (List.mem_of_getElem? (i := 6) rfl)
def tw20 {Z : State} {a0 : Array Value} (hw : ∀ d ∈ tables_1, d.before a0 Z = true) := hw _ (List.mem_of_getElem? (i := 20) rfl)
def tw23 {Z : State} {a0 : Array Value} (hw : ∀ d ∈ tables_1, d.before a0 Z = true) := hw _ (List.mem_of_getElem? (i := 23) rfl)
def tw24 {Z : State} {a0 : Array Value} (hw : ∀ d ∈ tables_1, d.before a0 Z = true) := hw _ (List.mem_of_getElem? (i := 24) rfl)
theorem pd_11 : parseMethodDescriptor "(I)D" = some ⟨[.int], some .double⟩ := by decide +kernel
def tw21 {Z : State} {a0 : Array Value} (hw : ∀ d ∈ tables_1, d.before a0 Z = true) := hw _ (List.mem_of_getElem? (i := 21) rfl)
def tw22 {Z : State} {a0 : Array Value} (hw : ∀ d ∈ tables_1, d.before a0 Z = true) := hw _ (List.mem_of_getElem? (i := 22) rfl)
set_option maxRecDepth 65536 in
set_option maxHeartbeats 40000000 in
theorem rm0 (l : Launch) (Z : State) (a0 : Array Value) (hw : ∀ d ∈ tables_1, d.before a0 Z = true) (ws : List Jvm.Cond) (p0 : Int32) (p1 : Int32) (p2 : Int32) (p3 : Int32) (h0 : Heap) (n0 : Nat) (Z0 : n0 ≤ h0.size)  :
    MetFree l x (head1 (Jvm.Cond.code x code maxLocals ret :: ws) room_1) (fun aA U => aA = #[(.int p0), (.int p1), (.int p2), (.int p3)] ∧ Z.Warmed39 U.vm ∧ U.heap = h0) (fun _ _ _ _ _ => True) (fun _ U o U' => ∃ vR LR, o = .returned vR ∧ Qrm0 Z p0 p1 p2 p3 h0 n0 vR U'.heap LR ∧ FrameEnd U o U' LR 16 128) := by
  refine MetFree.of_bodySF (plainFor_of_name pn_com_example_meander_meander_WebChainFollowPinLaw) hisR ?_
  intro p e s m args below meth c s₁ Bd hml0 hPre hKk
  obtain ⟨rfl, hZ, hh⟩ := hPre
  have hx := Bd.exec
  have hby := Bd.bytes
  have hml : c.maxLocals = 14 := hml0
  have hown : s.vm.findClass "com/example/meander/meander/WebChainFollowPinLaw" = some m.cls := findClass_of_methodNamed Bd.named
  have hnm := (name_of_methodNamed Bd.named Bd.method).1
  have X0 : Stand p l e room_1 s m #[(.int p0), (.int p1), (.int p2), (.int p3)] below meth c s₁ [] 0 0 := Stand.of_body Bd
  have e0 : s₁.heap = h0 := by rw [← hh, Bd.state]; rfl
  have N0 := Fr.nil n0
  obtain ⟨E0, hE0⟩ : ∃ zE : State, zE = s₁.setTop (entryFrame m #[(.int p0), (.int p1), (.int p2), (.int p3)] maxLocals) := ⟨_, rfl⟩
  have k0 : own_G p e below E0 s₁ (mkF m 0 #[vi p0, vi p1, vi p2, vi p3, uu, uu, uu, uu, uu, uu, uu, uu, uu, uu] []) := fun tz kz => hE0 ▸ castTop (ef_rm0 m p0 p1 p2 p3) kz
  have k97 : own_G p e below E0 s₁ (mkF m 9 #[vi p0, vi p1, vi p2, vi p3, uu, uu, uu, uu, uu, uu, uu, uu, uu, uu] [(.int ((p0 &&& (2047 : Int32)) % (1025 : Int32)))]) := by
    intro t kk
    refine k0 t ?_
    refine XS.iloadN X0.here hx rfl (hb hby at_0) rfl ?_
    refine XS.sipush X0.here hx rfl (hb hby at_1) ?_
    refine XS.iand X0.here hx rfl (hb hby at_4) rfl ?_
    refine XS.sipush X0.here hx rfl (hb hby at_5) ?_
    show Steps p.tables e below (s₁.setTop (mkF m 8 #[vi p0, vi p1, vi p2, vi p3, uu, uu, uu, uu, uu, uu, uu, uu, uu, uu] [(.int (1025 : Int32)), (.int (p0 &&& (2047 : Int32)))])) t
    refine iremM X0 hx rfl (hb hby at_8) rfl (by decide) ?_
    exact kk
  obtain ⟨P, hP⟩ : ∃ vA, vA = ((p0 &&& (2047 : Int32)) % (1025 : Int32)) := ⟨_, rfl⟩
  have k98 : own_G p e below E0 s₁ (mkF m 9 #[vi p0, vi p1, vi p2, vi p3, uu, uu, uu, uu, uu, uu, uu, uu, uu, uu] [(.int P)]) := by rw [hP]; exact k97
  have bP := own_P p0
  rw [← hP] at bP
  have k99 : own_G p e below E0 s₁ (mkF m 14 #[vi p0, vi p1, vi p2, vi p3, vi P, uu, uu, uu, uu, uu, uu, uu, uu, uu] [(.double (FP.i2d P))]) := by
    intro t kk
    refine k98 t ?_
    refine XS.istore X0.here hx rfl (hb hby at_9) rfl (l' := #[vi p0, vi p1, vi p2, vi p3, vi P, uu, uu, uu, uu, uu, uu, uu, uu, uu]) rfl ?_
    refine XS.iload X0.here hx rfl (hb hby at_11) rfl ?_
    refine XS.i2dS X0.here hx rfl (hb hby at_13) rfl rfl ?_
    exact kk
  have st100 := X0.ldc2DoubleC hx hown (mvT hZ (tw0 hw)) (g := (mkF m 14 #[vi p0, vi p1, vi p2, vi p3, vi P, uu, uu, uu, uu, uu, uu, uu, uu, uu] [(.double (FP.i2d P))])) rfl (hb hby at_14)
  have k101 : own_G p e below E0 s₁ (mkF m 17 #[vi p0, vi p1, vi p2, vi p3, vi P, uu, uu, uu, uu, uu, uu, uu, uu, uu] [(.double (4652218415073722368 : UInt64)), (.double (FP.i2d P))]) := fun t kk => k99 t (st100 _ kk)
  obtain ⟨al, hal⟩ : ∃ vA, FP.ddiv (FP.i2d P) (4652218415073722368 : UInt64) = vA := ⟨_, rfl⟩
  have nal : NoNaN64 al := hal ▸ own_aln P
  have hall := own_al bP hal
  have lal : ¬ own_z al < own_z FP.dconst0 := own_al0 hall bP
  have ual : ¬ own_z FP.dconst1 < own_z al := own_al1 hall bP
  have fal : Fin64 al := own_fin01 nal lal ual
  have n1 : NoNaN64 (FP.dsub FP.dconst1 al) := Fl.dsub_out (own_nn own_d1) fal
  have k102 : own_G p e below E0 s₁ (mkF m 21 #[vi p0, vi p1, vi p2, vi p3, vi P, vd al, ss, uu, uu, uu, uu, uu, uu, uu] [(.int p2)]) := by
    intro t kk
    refine k101 t ?_
    refine XS.ddivS X0.here hx rfl (hb hby at_17) rfl (own_aln P) hal ?_
    refine XS.dstore X0.here hx rfl (hb hby at_18) rfl (l' := #[vi p0, vi p1, vi p2, vi p3, vi P, vd al, ss, uu, uu, uu, uu, uu, uu, uu]) rfl ?_
    refine XS.iloadN X0.here hx rfl (hb hby at_20) rfl ?_
    exact kk
  have st103 := X0.ldcInt hx hown (mvT hZ (tw1 hw)) (g := (mkF m 21 #[vi p0, vi p1, vi p2, vi p3, vi P, vd al, ss, uu, uu, uu, uu, uu, uu, uu] [(.int p2)])) rfl (hb hby at_21)
  have k104 : own_G p e below E0 s₁ (mkF m 23 #[vi p0, vi p1, vi p2, vi p3, vi P, vd al, ss, uu, uu, uu, uu, uu, uu, uu] [(.int (1073741823 : Int32)), (.int p2)]) := fun t kk => k102 t (st103 _ kk)
  have k105 : own_G p e below E0 s₁ (mkF m 26 #[vi p0, vi p1, vi p2, vi p3, vi P, vd al, ss, uu, uu, uu, uu, uu, uu, uu] [(.int ((p2 &&& (1073741823 : Int32)) + (1 : Int32)))]) := by
    intro t kk
    refine k104 t ?_
    refine XS.iand X0.here hx rfl (hb hby at_23) rfl ?_
    refine XS.iconst X0.here hx rfl (hb hby at_24) ?_
    refine XS.iadd X0.here hx rfl (hb hby at_25) rfl ?_
    exact kk
  obtain ⟨n, hN⟩ : ∃ vA, vA = ((p2 &&& (1073741823 : Int32)) + (1 : Int32)) := ⟨_, rfl⟩
  have k106 : own_G p e below E0 s₁ (mkF m 26 #[vi p0, vi p1, vi p2, vi p3, vi P, vd al, ss, uu, uu, uu, uu, uu, uu, uu] [(.int n)]) := by rw [hN]; exact k105
  have bn := own_N p2
  rw [← hN] at bn
  have hn : ¬ n < 1 := own_ge1 bn
  have zn := own_zn1 bn
  have k107 : own_G p e below E0 s₁ (mkF m 31 #[vi p0, vi p1, vi p2, vi p3, vi P, vd al, ss, vi n, uu, uu, uu, uu, uu, uu] [(.int (p3 &&& (1 : Int32)))]) := by
    intro t kk
    refine k106 t ?_
    refine XS.istore X0.here hx rfl (hb hby at_26) rfl (l' := #[vi p0, vi p1, vi p2, vi p3, vi P, vd al, ss, vi n, uu, uu, uu, uu, uu, uu]) rfl ?_
    refine XS.iloadN X0.here hx rfl (hb hby at_28) rfl ?_
    refine XS.iconst X0.here hx rfl (hb hby at_29) ?_
    refine XS.iand X0.here hx rfl (hb hby at_30) rfl ?_
    exact kk
  by_cases c108 : (p3 &&& (1 : Int32)) = 0
  · skip
    have k109 : own_G p e below E0 s₁ (mkF m 44 #[vi p0, vi p1, vi p2, vi p3, vi P, vd al, ss, vi n, uu, uu, uu, uu, uu, uu] [(.int p1)]) := by
      intro t kk
      refine k107 t ?_
      refine XS.ifYes X0.here hx rfl (pc0 := 31) (pc' := 43) rfl (hb hby at_31) rfl (own_if_eqY c108) (by decide) (by decide) ?_
      refine XS.iloadN X0.here hx rfl (hb hby at_43) rfl ?_
      exact kk
    have st110 := X0.ldcInt hx hown (mvT hZ (tw28 hw)) (g := (mkF m 44 #[vi p0, vi p1, vi p2, vi p3, vi P, vd al, ss, vi n, uu, uu, uu, uu, uu, uu] [(.int p1)])) rfl (hb hby at_44)
    have k111 : own_G p e below E0 s₁ (mkF m 46 #[vi p0, vi p1, vi p2, vi p3, vi P, vd al, ss, vi n, uu, uu, uu, uu, uu, uu] [(.int (2147483647 : Int32)), (.int p1)]) := fun t kk => k109 t (st110 _ kk)
    have hdd : ¬ (p1 &&& (2147483647 : Int32)) < 0 := own_md p1
    have k112 : own_G p e below E0 s₁ (mkF m 49 #[vi p0, vi p1, vi p2, vi p3, vi P, vd al, ss, vi n, vi (p1 &&& (2147483647 : Int32)), uu, uu, uu, uu, uu] []) := by
      intro t kk
      refine k111 t ?_
      refine XS.iand X0.here hx rfl (hb hby at_46) rfl ?_
      refine XS.istore X0.here hx rfl (hb hby at_47) rfl (l' := #[vi p0, vi p1, vi p2, vi p3, vi P, vd al, ss, vi n, vi (p1 &&& (2147483647 : Int32)), uu, uu, uu, uu, uu]) rfl ?_
      exact kk
    obtain ⟨T113, h114, X115, e116, E117, A118, D119, -, st120⟩ := newO X0 hx hZ hown (tw2 hw) (tw3 hw) (tw4 hw) e0 (g := (mkF m 49 #[vi p0, vi p1, vi p2, vi p3, vi P, vd al, ss, vi n, vi (p1 &&& (2147483647 : Int32)), uu, uu, uu, uu, uu] [])) rfl (hb hby at_49) (by decide) (by decide)
    obtain ⟨a121, g122⟩ : ∃ zA : Nat, zA = h0.size := ⟨_, rfl⟩
    rw [← g122] at A118 D119 st120
    have ge123 : n0 ≤ a121 := by have := Z0; omega
    have Z124 : n0 ≤ h114.size := Nat.le_trans Z0 E117.1
    have F125 : Fld Z h114 a121 "com/example/meander/meander/WebChain" "pages" "I" (.int (0 : Int32)) := (D119 (Or.inr (tw12 hw)) (ty := .int) (by decide))
    have F126 : Fld Z h114 a121 "com/example/meander/meander/WebChain" "alpha" "D" (.double (0 : UInt64)) := (D119 (Or.inr (tw17 hw)) (ty := .double) (by decide))
    have F127 : Fld Z h114 a121 "com/example/meander/meander/WebChain" "jump" "D" (.double (0 : UInt64)) := (D119 (Or.inr (tw19 hw)) (ty := .double) (by decide))
    have k128 : own_G p e below E0 T113 (mkF m 52 #[vi p0, vi p1, vi p2, vi p3, vi P, vd al, ss, vi n, vi (p1 &&& (2147483647 : Int32)), uu, uu, uu, uu, uu] [(.ref a121)]) := fun t kk => k112 t (st120 _ kk)
    have k129 : own_G p e below E0 T113 (mkF m 57 #[vi p0, vi p1, vi p2, vi p3, vi P, vd al, ss, vi n, vi (p1 &&& (2147483647 : Int32)), uu, uu, uu, uu, uu] [(.double al), (.int n), (.ref a121), (.ref a121)]) := by
      intro t kk
      refine k128 t ?_
      refine XS.dup X115.here hx rfl (hb hby at_52) rfl rfl ?_
      refine XS.iload X115.here hx rfl (hb hby at_53) rfl ?_
      refine XS.dload X115.here hx rfl (hb hby at_55) rfl ?_
      exact kk
    obtain ⟨_, _, ⟨T130, L131, kc132, nc133⟩, -, X134, ⟨Lc135, hQ136, l137, y138, z139⟩, st140⟩ := X115.specialBack hx (y := mn5) rfl hown (mvT hZ (tw5 hw)) (mvT hZ (tw6 hw)) (mvT hZ (tw7 hw)) (by decide) (backOf (W := 1) (rmI l Z a0 hw [] a121 n al h114 n0 Z124 A118 F125 F126 F127 ge123 hn nal lal ual n1 (Fl.ddiv_out n1 (Fl.i2d_fin n) zn)) hZ (tw7 hw) (tw4 hw) (by decide) (by decide)) (g := (mkF m 57 #[vi p0, vi p1, vi p2, vi p3, vi P, vd al, ss, vi n, vi (p1 &&& (2147483647 : Int32)), uu, uu, uu, uu, uu] [(.double al), (.int n), (.ref a121), (.ref a121)])) rfl (by rw [hml]; rfl) (Steps.refl _) (a := a121) (argsL := [(.int n), (.double al)]) (rest := [(.ref a121)]) (lenOf pd_10 rfl) rfl (by show 2 * 0 + _ ≤ _; exact Nat.le_of_eq rfl) (hb hby at_57) (fun _ _ => ⟨rfl, e116, (by decide : 1 + 0 ≤ _), (by decide : 3 + 0 ≤ _)⟩)
    dsimp only [Pt.U, Pt.locs, Pt.cells, Pt.slots] at X134 l137 y138 z139 st140 hQ136
    subst l137 y138 z139
    obtain ⟨rfl, N141, K144, g145, g146, g147⟩ := hQ136
    have N148 := Fr.app N0 N141
    have Z149 : n0 ≤ T130.heap.size := Nat.le_trans Z124 K144.1
    have F150 : xa4 Z T130.heap a121 := A118.keep K144
    have k154 : own_G p e below E0 T130 (mkF m 60 #[vi p0, vi p1, vi p2, vi p3, vi P, vd al, ss, vi n, vi (p1 &&& (2147483647 : Int32)), uu, uu, uu, uu, uu] [(.ref a121)]) := fun t kk => k129 t (st140.trans kk)
    have k155 : own_G p e below E0 T130 (mkF m 66 #[vi p0, vi p1, vi p2, vi p3, vi P, vd al, ss, vi n, vi (p1 &&& (2147483647 : Int32)), vr a121, uu, uu, uu, uu] [(.int (p1 &&& (2147483647 : Int32))), (.ref a121)]) := by
      intro t kk
      refine k154 t ?_
      refine XS.astore X134.here hx rfl (hb hby at_60) rfl rfl (l' := #[vi p0, vi p1, vi p2, vi p3, vi P, vd al, ss, vi n, vi (p1 &&& (2147483647 : Int32)), vr a121, uu, uu, uu, uu]) rfl ?_
      refine XS.aload X134.here hx rfl (hb hby at_62) rfl rfl ?_
      refine XS.iload X134.here hx rfl (hb hby at_64) rfl ?_
      exact kk
    obtain ⟨cq167, kq168, qa169, qb170, qc171⟩ := isOf hZ rfl F150
    obtain ⟨_, _, ⟨T156, L157, kc158, nc159⟩, -, X160, ⟨Lc161, hQ162, l163, y164, z165⟩, st166⟩ := X134.virtualBack hx (y := mn8) (z := mn8) hown (mvT hZ (tw20 hw)) (mvT hZ (tw21 hw)) (notFace_of_selects (args := #[]) (mvT hZ (tw23 hw))) (mvT hZ (tw23 hw)) (mvT hZ (tw22 hw)) (by decide) (backOf (W := 0) (rmF l Z a0 hw [] a121 (p1 &&& (2147483647 : Int32)) al T130.heap n0 Z149 g146 hdd (fun z => own_divn fal z)) hZ (tw24 hw) (tw4 hw) (by decide) (by decide)) qa169 qc171 (g := (mkF m 66 #[vi p0, vi p1, vi p2, vi p3, vi P, vd al, ss, vi n, vi (p1 &&& (2147483647 : Int32)), vr a121, uu, uu, uu, uu] [(.int (p1 &&& (2147483647 : Int32))), (.ref a121)])) rfl (by rw [hml]; rfl) (Steps.refl _) (argsL := [(.int (p1 &&& (2147483647 : Int32)))]) (rest := []) (lenOf pd_11 rfl) rfl (by show 2 * 0 + _ ≤ _; exact Nat.le_of_eq rfl) (hb hby at_66) (fun _ _ => ⟨rfl, rfl, (by decide : 1 + 0 ≤ _), (by decide : 3 + 0 ≤ _)⟩)
    dsimp only [Pt.U, Pt.locs, Pt.cells, Pt.slots] at X160 l163 y164 z165 st166 hQ162
    subst l163 y164 z165
    obtain ⟨rfl, N172, e173⟩ := hQ162
    have N175 := Fr.app N148 N172
    have k176 : own_G p e below E0 T156 (mkF m 69 #[vi p0, vi p1, vi p2, vi p3, vi P, vd al, ss, vi n, vi (p1 &&& (2147483647 : Int32)), vr a121, uu, uu, uu, uu] [(.double (if (p1 &&& (2147483647 : Int32)) = 0 then FP.dconst0 else (FP.ddiv al (FP.i2d (p1 &&& (2147483647 : Int32))))))]) := fun t kk => k155 t (st166.trans kk)
    have k177 : own_G p e below E0 T156 (mkF m 73 #[vi p0, vi p1, vi p2, vi p3, vi P, vd al, ss, vi n, vi (p1 &&& (2147483647 : Int32)), vr a121, vd (if (p1 &&& (2147483647 : Int32)) = 0 then FP.dconst0 else (FP.ddiv al (FP.i2d (p1 &&& (2147483647 : Int32))))), ss, uu, uu] [(.int (p1 &&& (2147483647 : Int32)))]) := by
      intro t kk
      refine k176 t ?_
      refine XS.dstore X160.here hx rfl (hb hby at_69) rfl (l' := #[vi p0, vi p1, vi p2, vi p3, vi P, vd al, ss, vi n, vi (p1 &&& (2147483647 : Int32)), vr a121, vd (if (p1 &&& (2147483647 : Int32)) = 0 then FP.dconst0 else (FP.ddiv al (FP.i2d (p1 &&& (2147483647 : Int32))))), ss, uu, uu]) rfl ?_
      refine XS.iload X160.here hx rfl (hb hby at_71) rfl ?_
      exact kk
    by_cases c178 : (p1 &&& (2147483647 : Int32)) = 0
    · skip
      have k179 : own_G p e below E0 T156 (mkF m 123 #[vi p0, vi p1, vi p2, vi p3, vi P, vd al, ss, vi n, vi (p1 &&& (2147483647 : Int32)), vr a121, vd (if (p1 &&& (2147483647 : Int32)) = 0 then FP.dconst0 else (FP.ddiv al (FP.i2d (p1 &&& (2147483647 : Int32))))), ss, vd FP.dconst0, ss] [(.int (1 : Int32))]) := by
        intro t kk
        refine k177 t ?_
        refine XS.ifNo X160.here hx rfl (hb hby at_73) rfl (own_if_neN c178) ?_
        refine XS.dconst0 X160.here hx rfl (hb hby at_76) rfl ?_
        refine XS.dstore X160.here hx rfl (hb hby at_77) rfl (l' := #[vi p0, vi p1, vi p2, vi p3, vi P, vd al, ss, vi n, vi (p1 &&& (2147483647 : Int32)), vr a121, vd (if (p1 &&& (2147483647 : Int32)) = 0 then FP.dconst0 else (FP.ddiv al (FP.i2d (p1 &&& (2147483647 : Int32))))), ss, vd FP.dconst0, ss]) rfl ?_
        refine XS.goto X160.here hx rfl (pc0 := 79) (pc' := 95) rfl (hb hby at_79) (by decide) (by decide) ?_
        show Steps p.tables e below (T156.setTop (mkF m 95 #[vi p0, vi p1, vi p2, vi p3, vi P, vd al, ss, vi n, vi (p1 &&& (2147483647 : Int32)), vr a121, vd (if (p1 &&& (2147483647 : Int32)) = 0 then FP.dconst0 else (FP.ddiv al (FP.i2d (p1 &&& (2147483647 : Int32))))), ss, vd FP.dconst0, ss] [])) t
        refine XS.dload X160.here hx rfl (hb hby at_95) rfl ?_
        refine XS.dload X160.here hx rfl (hb hby at_97) rfl ?_
        refine XS.dcmpS (v := (0 : Int32)) X160.here hx rfl (hb hby at_99) rfl (dcmpV_eq (if_pos c178) (by rw [if_pos c178]; exact own_nn own_d0) .l) ?_
        refine XS.ifNo X160.here hx rfl (hb hby at_100) rfl (own_if_neN (by decide)) ?_
        show Steps p.tables e below (T156.setTop (mkF m 103 #[vi p0, vi p1, vi p2, vi p3, vi P, vd al, ss, vi n, vi (p1 &&& (2147483647 : Int32)), vr a121, vd (if (p1 &&& (2147483647 : Int32)) = 0 then FP.dconst0 else (FP.ddiv al (FP.i2d (p1 &&& (2147483647 : Int32))))), ss, vd FP.dconst0, ss] [])) t
        refine XS.dconst0 X160.here hx rfl (hb hby at_103) rfl ?_
        refine XS.dload X160.here hx rfl (hb hby at_104) rfl ?_
        refine XS.dcmpS (v := (own_c 0 0)) X160.here hx rfl (hb hby at_106) rfl (own_cE .g (by rw [if_pos c178]; exact FP.Core.dcmp_int own_d0 own_d0)) ?_
        refine XS.ifNo X160.here hx rfl (hb hby at_107) rfl (own_c_gtN (by decide)) ?_
        show Steps p.tables e below (T156.setTop (mkF m 110 #[vi p0, vi p1, vi p2, vi p3, vi P, vd al, ss, vi n, vi (p1 &&& (2147483647 : Int32)), vr a121, vd (if (p1 &&& (2147483647 : Int32)) = 0 then FP.dconst0 else (FP.ddiv al (FP.i2d (p1 &&& (2147483647 : Int32))))), ss, vd FP.dconst0, ss] [])) t
        refine XS.dload X160.here hx rfl (hb hby at_110) rfl ?_
        refine XS.dload X160.here hx rfl (hb hby at_112) rfl ?_
        refine XS.dcmpS (v := (own_c (own_z FP.dconst0) (own_z al))) X160.here hx rfl (hb hby at_114) rfl (own_cE .g (by rw [if_pos c178]; exact own_cmpz (own_nn own_d0) nal)) ?_
        refine XS.ifNo X160.here hx rfl (hb hby at_115) rfl (own_c_gtN (own_a0 lal)) ?_
        show Steps p.tables e below (T156.setTop (mkF m 118 #[vi p0, vi p1, vi p2, vi p3, vi P, vd al, ss, vi n, vi (p1 &&& (2147483647 : Int32)), vr a121, vd (if (p1 &&& (2147483647 : Int32)) = 0 then FP.dconst0 else (FP.ddiv al (FP.i2d (p1 &&& (2147483647 : Int32))))), ss, vd FP.dconst0, ss] [])) t
        refine XS.iconst X160.here hx rfl (hb hby at_118) ?_
        refine XS.goto X160.here hx rfl (pc0 := 119) (pc' := 123) rfl (hb hby at_119) (by decide) (by decide) ?_
        exact kk
      obtain ⟨fs, hr, hrun, hended, hW, hsame⟩ := X160.leave (v := some (.int (1 : Int32))) (fun h => by rw [Bd.returns] at h; cases h)
      have hrun0 := k179 _ (retOut X160 hx Bd.returns (t := .boolean) rfl (Or.inl ⟨rfl, Or.inr (Or.inl rfl), _, rfl⟩) (hb hby at_123) hr)
      subst hE0
      refine ⟨_, _, hrun0, hrun, hended, _, _, rfl, ?_, ⟨_, rfl⟩, hW, hsame.mono (by decide) (by decide)⟩
      show Qrm0 Z p0 p1 p2 p3 h0 n0 _ T156.heap _
      rw [e173]
      exact ⟨rfl, N175⟩
    · skip
      have k180 : own_G p e below E0 T156 (mkF m 85 #[vi p0, vi p1, vi p2, vi p3, vi P, vd al, ss, vi n, vi (p1 &&& (2147483647 : Int32)), vr a121, vd (if (p1 &&& (2147483647 : Int32)) = 0 then FP.dconst0 else (FP.ddiv al (FP.i2d (p1 &&& (2147483647 : Int32))))), ss, uu, uu] [(.double (FP.i2d P))]) := by
        intro t kk
        refine k177 t ?_
        refine XS.ifYes X160.here hx rfl (pc0 := 73) (pc' := 82) rfl (hb hby at_73) rfl (own_if_neY c178) (by decide) (by decide) ?_
        refine XS.iload X160.here hx rfl (hb hby at_82) rfl ?_
        refine XS.i2dS X160.here hx rfl (hb hby at_84) rfl rfl ?_
        exact kk
      have st181 := X160.ldc2DoubleC hx hown (mvT hZ (tw0 hw)) (g := (mkF m 85 #[vi p0, vi p1, vi p2, vi p3, vi P, vd al, ss, vi n, vi (p1 &&& (2147483647 : Int32)), vr a121, vd (if (p1 &&& (2147483647 : Int32)) = 0 then FP.dconst0 else (FP.ddiv al (FP.i2d (p1 &&& (2147483647 : Int32))))), ss, uu, uu] [(.double (FP.i2d P))])) rfl (hb hby at_85)
      have k182 : own_G p e below E0 T156 (mkF m 88 #[vi p0, vi p1, vi p2, vi p3, vi P, vd al, ss, vi n, vi (p1 &&& (2147483647 : Int32)), vr a121, vd (if (p1 &&& (2147483647 : Int32)) = 0 then FP.dconst0 else (FP.ddiv al (FP.i2d (p1 &&& (2147483647 : Int32))))), ss, uu, uu] [(.double (4652218415073722368 : UInt64)), (.double (FP.i2d P))]) := fun t kk => k180 t (st181 _ kk)
      have k183 : own_G p e below E0 T156 (mkF m 123 #[vi p0, vi p1, vi p2, vi p3, vi P, vd al, ss, vi n, vi (p1 &&& (2147483647 : Int32)), vr a121, vd (if (p1 &&& (2147483647 : Int32)) = 0 then FP.dconst0 else (FP.ddiv al (FP.i2d (p1 &&& (2147483647 : Int32))))), ss, vd (FP.ddiv (FP.i2d P) (FP.dmul (4652218415073722368 : UInt64) (FP.i2d (p1 &&& (2147483647 : Int32))))), ss] [(.int (1 : Int32))]) := by
        intro t kk
        refine k182 t ?_
        refine XS.iload X160.here hx rfl (hb hby at_88) rfl ?_
        refine XS.i2dS X160.here hx rfl (hb hby at_90) rfl rfl ?_
        refine XS.dmulS X160.here hx rfl (hb hby at_91) rfl (own_nn (own_md1024 (p1 &&& (2147483647 : Int32)))) rfl ?_
        refine XS.ddivS X160.here hx rfl (hb hby at_92) rfl (own_qn P (own_pos hdd c178)) rfl ?_
        show Steps p.tables e below (T156.setTop (mkF m 93 #[vi p0, vi p1, vi p2, vi p3, vi P, vd al, ss, vi n, vi (p1 &&& (2147483647 : Int32)), vr a121, vd (if (p1 &&& (2147483647 : Int32)) = 0 then FP.dconst0 else (FP.ddiv al (FP.i2d (p1 &&& (2147483647 : Int32))))), ss, uu, uu] [(.double (FP.ddiv (FP.i2d P) (FP.dmul (4652218415073722368 : UInt64) (FP.i2d (p1 &&& (2147483647 : Int32))))))])) t
        refine XS.dstore X160.here hx rfl (hb hby at_93) rfl (l' := #[vi p0, vi p1, vi p2, vi p3, vi P, vd al, ss, vi n, vi (p1 &&& (2147483647 : Int32)), vr a121, vd (if (p1 &&& (2147483647 : Int32)) = 0 then FP.dconst0 else (FP.ddiv al (FP.i2d (p1 &&& (2147483647 : Int32))))), ss, vd (FP.ddiv (FP.i2d P) (FP.dmul (4652218415073722368 : UInt64) (FP.i2d (p1 &&& (2147483647 : Int32))))), ss]) rfl ?_
        refine XS.dload X160.here hx rfl (hb hby at_95) rfl ?_
        refine XS.dload X160.here hx rfl (hb hby at_97) rfl ?_
        refine XS.dcmpS (v := (0 : Int32)) X160.here hx rfl (hb hby at_99) rfl (by rw [if_neg c178]; exact own_same bP hal (own_pos hdd c178) .l) ?_
        show Steps p.tables e below (T156.setTop (mkF m 100 #[vi p0, vi p1, vi p2, vi p3, vi P, vd al, ss, vi n, vi (p1 &&& (2147483647 : Int32)), vr a121, vd (if (p1 &&& (2147483647 : Int32)) = 0 then FP.dconst0 else (FP.ddiv al (FP.i2d (p1 &&& (2147483647 : Int32))))), ss, vd (FP.ddiv (FP.i2d P) (FP.dmul (4652218415073722368 : UInt64) (FP.i2d (p1 &&& (2147483647 : Int32))))), ss] [(.int (0 : Int32))])) t
        refine XS.ifNo X160.here hx rfl (hb hby at_100) rfl (own_if_neN (by decide)) ?_
        refine XS.dconst0 X160.here hx rfl (hb hby at_103) rfl ?_
        refine XS.dload X160.here hx rfl (hb hby at_104) rfl ?_
        refine XS.dcmpS (v := (own_c (own_z FP.dconst0) (own_z (FP.ddiv al (FP.i2d (p1 &&& (2147483647 : Int32))))))) X160.here hx rfl (hb hby at_106) rfl (own_cE .g (by rw [if_neg c178]; exact own_cmpz (own_nn own_d0) (own_divn fal c178))) ?_
        show Steps p.tables e below (T156.setTop (mkF m 107 #[vi p0, vi p1, vi p2, vi p3, vi P, vd al, ss, vi n, vi (p1 &&& (2147483647 : Int32)), vr a121, vd (if (p1 &&& (2147483647 : Int32)) = 0 then FP.dconst0 else (FP.ddiv al (FP.i2d (p1 &&& (2147483647 : Int32))))), ss, vd (FP.ddiv (FP.i2d P) (FP.dmul (4652218415073722368 : UInt64) (FP.i2d (p1 &&& (2147483647 : Int32))))), ss] [(.int (own_c (own_z FP.dconst0) (own_z (FP.ddiv al (FP.i2d (p1 &&& (2147483647 : Int32)))))))])) t
        refine XS.ifNo X160.here hx rfl (hb hby at_107) rfl (own_c_gtN (own_r0 fal lal (own_pos hdd c178))) ?_
        refine XS.dload X160.here hx rfl (hb hby at_110) rfl ?_
        refine XS.dload X160.here hx rfl (hb hby at_112) rfl ?_
        refine XS.dcmpS (v := (own_c (own_z (FP.ddiv al (FP.i2d (p1 &&& (2147483647 : Int32))))) (own_z al))) X160.here hx rfl (hb hby at_114) rfl (own_cE .g (by rw [if_neg c178]; exact own_cmpz (own_divn fal c178) nal)) ?_
        show Steps p.tables e below (T156.setTop (mkF m 115 #[vi p0, vi p1, vi p2, vi p3, vi P, vd al, ss, vi n, vi (p1 &&& (2147483647 : Int32)), vr a121, vd (if (p1 &&& (2147483647 : Int32)) = 0 then FP.dconst0 else (FP.ddiv al (FP.i2d (p1 &&& (2147483647 : Int32))))), ss, vd (FP.ddiv (FP.i2d P) (FP.dmul (4652218415073722368 : UInt64) (FP.i2d (p1 &&& (2147483647 : Int32))))), ss] [(.int (own_c (own_z (FP.ddiv al (FP.i2d (p1 &&& (2147483647 : Int32))))) (own_z al)))])) t
        refine XS.ifNo X160.here hx rfl (hb hby at_115) rfl (own_c_gtN (own_r1 fal nal lal (own_pos hdd c178))) ?_
        refine XS.iconst X160.here hx rfl (hb hby at_118) ?_
        refine XS.goto X160.here hx rfl (pc0 := 119) (pc' := 123) rfl (hb hby at_119) (by decide) (by decide) ?_
        exact kk
      obtain ⟨fs, hr, hrun, hended, hW, hsame⟩ := X160.leave (v := some (.int (1 : Int32))) (fun h => by rw [Bd.returns] at h; cases h)
      have hrun0 := k183 _ (retOut X160 hx Bd.returns (t := .boolean) rfl (Or.inl ⟨rfl, Or.inr (Or.inl rfl), _, rfl⟩) (hb hby at_123) hr)
      subst hE0
      refine ⟨_, _, hrun0, hrun, hended, _, _, rfl, ?_, ⟨_, rfl⟩, hW, hsame.mono (by decide) (by decide)⟩
      show Qrm0 Z p0 p1 p2 p3 h0 n0 _ T156.heap _
      rw [e173]
      exact ⟨rfl, N175⟩
  · skip
    have hdd : ¬ (p1 &&& (7 : Int32)) < 0 := own_md7 p1
    have k184 : own_G p e below E0 s₁ (mkF m 49 #[vi p0, vi p1, vi p2, vi p3, vi P, vd al, ss, vi n, vi (p1 &&& (7 : Int32)), uu, uu, uu, uu, uu] []) := by
      intro t kk
      refine k107 t ?_
      refine XS.ifNo X0.here hx rfl (hb hby at_31) rfl (own_if_eqN c108) ?_
      refine XS.iloadN X0.here hx rfl (hb hby at_34) rfl ?_
      refine XS.bipush X0.here hx rfl (hb hby at_35) ?_
      refine XS.iand X0.here hx rfl (hb hby at_37) rfl ?_
      show Steps p.tables e below (s₁.setTop (mkF m 38 #[vi p0, vi p1, vi p2, vi p3, vi P, vd al, ss, vi n, uu, uu, uu, uu, uu, uu] [(.int (p1 &&& (7 : Int32)))])) t
      refine XS.istore X0.here hx rfl (hb hby at_38) rfl (l' := #[vi p0, vi p1, vi p2, vi p3, vi P, vd al, ss, vi n, vi (p1 &&& (7 : Int32)), uu, uu, uu, uu, uu]) rfl ?_
      refine XS.goto X0.here hx rfl (pc0 := 40) (pc' := 49) rfl (hb hby at_40) (by decide) (by decide) ?_
      exact kk
    obtain ⟨T185, h186, X187, e188, E189, A190, D191, -, st192⟩ := newO X0 hx hZ hown (tw2 hw) (tw3 hw) (tw4 hw) e0 (g := (mkF m 49 #[vi p0, vi p1, vi p2, vi p3, vi P, vd al, ss, vi n, vi (p1 &&& (7 : Int32)), uu, uu, uu, uu, uu] [])) rfl (hb hby at_49) (by decide) (by decide)
    obtain ⟨a193, g194⟩ : ∃ zA : Nat, zA = h0.size := ⟨_, rfl⟩
    rw [← g194] at A190 D191 st192
    have ge195 : n0 ≤ a193 := by have := Z0; omega
    have Z196 : n0 ≤ h186.size := Nat.le_trans Z0 E189.1
    have F197 : Fld Z h186 a193 "com/example/meander/meander/WebChain" "pages" "I" (.int (0 : Int32)) := (D191 (Or.inr (tw12 hw)) (ty := .int) (by decide))
    have F198 : Fld Z h186 a193 "com/example/meander/meander/WebChain" "alpha" "D" (.double (0 : UInt64)) := (D191 (Or.inr (tw17 hw)) (ty := .double) (by decide))
    have F199 : Fld Z h186 a193 "com/example/meander/meander/WebChain" "jump" "D" (.double (0 : UInt64)) := (D191 (Or.inr (tw19 hw)) (ty := .double) (by decide))
    have k200 : own_G p e below E0 T185 (mkF m 52 #[vi p0, vi p1, vi p2, vi p3, vi P, vd al, ss, vi n, vi (p1 &&& (7 : Int32)), uu, uu, uu, uu, uu] [(.ref a193)]) := fun t kk => k184 t (st192 _ kk)
    have k201 : own_G p e below E0 T185 (mkF m 57 #[vi p0, vi p1, vi p2, vi p3, vi P, vd al, ss, vi n, vi (p1 &&& (7 : Int32)), uu, uu, uu, uu, uu] [(.double al), (.int n), (.ref a193), (.ref a193)]) := by
      intro t kk
      refine k200 t ?_
      refine XS.dup X187.here hx rfl (hb hby at_52) rfl rfl ?_
      refine XS.iload X187.here hx rfl (hb hby at_53) rfl ?_
      refine XS.dload X187.here hx rfl (hb hby at_55) rfl ?_
      exact kk
    obtain ⟨_, _, ⟨T202, L203, kc204, nc205⟩, -, X206, ⟨Lc207, hQ208, l209, y210, z211⟩, st212⟩ := X187.specialBack hx (y := mn5) rfl hown (mvT hZ (tw5 hw)) (mvT hZ (tw6 hw)) (mvT hZ (tw7 hw)) (by decide) (backOf (W := 1) (rmI l Z a0 hw [] a193 n al h186 n0 Z196 A190 F197 F198 F199 ge195 hn nal lal ual n1 (Fl.ddiv_out n1 (Fl.i2d_fin n) zn)) hZ (tw7 hw) (tw4 hw) (by decide) (by decide)) (g := (mkF m 57 #[vi p0, vi p1, vi p2, vi p3, vi P, vd al, ss, vi n, vi (p1 &&& (7 : Int32)), uu, uu, uu, uu, uu] [(.double al), (.int n), (.ref a193), (.ref a193)])) rfl (by rw [hml]; rfl) (Steps.refl _) (a := a193) (argsL := [(.int n), (.double al)]) (rest := [(.ref a193)]) (lenOf pd_10 rfl) rfl (by show 2 * 0 + _ ≤ _; exact Nat.le_of_eq rfl) (hb hby at_57) (fun _ _ => ⟨rfl, e188, (by decide : 1 + 0 ≤ _), (by decide : 3 + 0 ≤ _)⟩)
    dsimp only [Pt.U, Pt.locs, Pt.cells, Pt.slots] at X206 l209 y210 z211 st212 hQ208
    subst l209 y210 z211
    obtain ⟨rfl, N213, K216, g217, g218, g219⟩ := hQ208
    have N220 := Fr.app N0 N213
    have Z221 : n0 ≤ T202.heap.size := Nat.le_trans Z196 K216.1
    have F222 : xa4 Z T202.heap a193 := A190.keep K216
    have k226 : own_G p e below E0 T202 (mkF m 60 #[vi p0, vi p1, vi p2, vi p3, vi P, vd al, ss, vi n, vi (p1 &&& (7 : Int32)), uu, uu, uu, uu, uu] [(.ref a193)]) := fun t kk => k201 t (st212.trans kk)
    have k227 : own_G p e below E0 T202 (mkF m 66 #[vi p0, vi p1, vi p2, vi p3, vi P, vd al, ss, vi n, vi (p1 &&& (7 : Int32)), vr a193, uu, uu, uu, uu] [(.int (p1 &&& (7 : Int32))), (.ref a193)]) := by
      intro t kk
      refine k226 t ?_
      refine XS.astore X206.here hx rfl (hb hby at_60) rfl rfl (l' := #[vi p0, vi p1, vi p2, vi p3, vi P, vd al, ss, vi n, vi (p1 &&& (7 : Int32)), vr a193, uu, uu, uu, uu]) rfl ?_
      refine XS.aload X206.here hx rfl (hb hby at_62) rfl rfl ?_
      refine XS.iload X206.here hx rfl (hb hby at_64) rfl ?_
      exact kk
    obtain ⟨cq239, kq240, qa241, qb242, qc243⟩ := isOf hZ rfl F222
    obtain ⟨_, _, ⟨T228, L229, kc230, nc231⟩, -, X232, ⟨Lc233, hQ234, l235, y236, z237⟩, st238⟩ := X206.virtualBack hx (y := mn8) (z := mn8) hown (mvT hZ (tw20 hw)) (mvT hZ (tw21 hw)) (notFace_of_selects (args := #[]) (mvT hZ (tw23 hw))) (mvT hZ (tw23 hw)) (mvT hZ (tw22 hw)) (by decide) (backOf (W := 0) (rmF l Z a0 hw [] a193 (p1 &&& (7 : Int32)) al T202.heap n0 Z221 g218 hdd (fun z => own_divn fal z)) hZ (tw24 hw) (tw4 hw) (by decide) (by decide)) qa241 qc243 (g := (mkF m 66 #[vi p0, vi p1, vi p2, vi p3, vi P, vd al, ss, vi n, vi (p1 &&& (7 : Int32)), vr a193, uu, uu, uu, uu] [(.int (p1 &&& (7 : Int32))), (.ref a193)])) rfl (by rw [hml]; rfl) (Steps.refl _) (argsL := [(.int (p1 &&& (7 : Int32)))]) (rest := []) (lenOf pd_11 rfl) rfl (by show 2 * 0 + _ ≤ _; exact Nat.le_of_eq rfl) (hb hby at_66) (fun _ _ => ⟨rfl, rfl, (by decide : 1 + 0 ≤ _), (by decide : 3 + 0 ≤ _)⟩)
    dsimp only [Pt.U, Pt.locs, Pt.cells, Pt.slots] at X232 l235 y236 z237 st238 hQ234
    subst l235 y236 z237
    obtain ⟨rfl, N244, e245⟩ := hQ234
    have N247 := Fr.app N220 N244
    have k248 : own_G p e below E0 T228 (mkF m 69 #[vi p0, vi p1, vi p2, vi p3, vi P, vd al, ss, vi n, vi (p1 &&& (7 : Int32)), vr a193, uu, uu, uu, uu] [(.double (if (p1 &&& (7 : Int32)) = 0 then FP.dconst0 else (FP.ddiv al (FP.i2d (p1 &&& (7 : Int32))))))]) := fun t kk => k227 t (st238.trans kk)
    have k249 : own_G p e below E0 T228 (mkF m 73 #[vi p0, vi p1, vi p2, vi p3, vi P, vd al, ss, vi n, vi (p1 &&& (7 : Int32)), vr a193, vd (if (p1 &&& (7 : Int32)) = 0 then FP.dconst0 else (FP.ddiv al (FP.i2d (p1 &&& (7 : Int32))))), ss, uu, uu] [(.int (p1 &&& (7 : Int32)))]) := by
      intro t kk
      refine k248 t ?_
      refine XS.dstore X232.here hx rfl (hb hby at_69) rfl (l' := #[vi p0, vi p1, vi p2, vi p3, vi P, vd al, ss, vi n, vi (p1 &&& (7 : Int32)), vr a193, vd (if (p1 &&& (7 : Int32)) = 0 then FP.dconst0 else (FP.ddiv al (FP.i2d (p1 &&& (7 : Int32))))), ss, uu, uu]) rfl ?_
      refine XS.iload X232.here hx rfl (hb hby at_71) rfl ?_
      exact kk
    by_cases c250 : (p1 &&& (7 : Int32)) = 0
    · skip
      have k251 : own_G p e below E0 T228 (mkF m 123 #[vi p0, vi p1, vi p2, vi p3, vi P, vd al, ss, vi n, vi (p1 &&& (7 : Int32)), vr a193, vd (if (p1 &&& (7 : Int32)) = 0 then FP.dconst0 else (FP.ddiv al (FP.i2d (p1 &&& (7 : Int32))))), ss, vd FP.dconst0, ss] [(.int (1 : Int32))]) := by
        intro t kk
        refine k249 t ?_
        refine XS.ifNo X232.here hx rfl (hb hby at_73) rfl (own_if_neN c250) ?_
        refine XS.dconst0 X232.here hx rfl (hb hby at_76) rfl ?_
        refine XS.dstore X232.here hx rfl (hb hby at_77) rfl (l' := #[vi p0, vi p1, vi p2, vi p3, vi P, vd al, ss, vi n, vi (p1 &&& (7 : Int32)), vr a193, vd (if (p1 &&& (7 : Int32)) = 0 then FP.dconst0 else (FP.ddiv al (FP.i2d (p1 &&& (7 : Int32))))), ss, vd FP.dconst0, ss]) rfl ?_
        refine XS.goto X232.here hx rfl (pc0 := 79) (pc' := 95) rfl (hb hby at_79) (by decide) (by decide) ?_
        show Steps p.tables e below (T228.setTop (mkF m 95 #[vi p0, vi p1, vi p2, vi p3, vi P, vd al, ss, vi n, vi (p1 &&& (7 : Int32)), vr a193, vd (if (p1 &&& (7 : Int32)) = 0 then FP.dconst0 else (FP.ddiv al (FP.i2d (p1 &&& (7 : Int32))))), ss, vd FP.dconst0, ss] [])) t
        refine XS.dload X232.here hx rfl (hb hby at_95) rfl ?_
        refine XS.dload X232.here hx rfl (hb hby at_97) rfl ?_
        refine XS.dcmpS (v := (0 : Int32)) X232.here hx rfl (hb hby at_99) rfl (dcmpV_eq (if_pos c250) (by rw [if_pos c250]; exact own_nn own_d0) .l) ?_
        refine XS.ifNo X232.here hx rfl (hb hby at_100) rfl (own_if_neN (by decide)) ?_
        show Steps p.tables e below (T228.setTop (mkF m 103 #[vi p0, vi p1, vi p2, vi p3, vi P, vd al, ss, vi n, vi (p1 &&& (7 : Int32)), vr a193, vd (if (p1 &&& (7 : Int32)) = 0 then FP.dconst0 else (FP.ddiv al (FP.i2d (p1 &&& (7 : Int32))))), ss, vd FP.dconst0, ss] [])) t
        refine XS.dconst0 X232.here hx rfl (hb hby at_103) rfl ?_
        refine XS.dload X232.here hx rfl (hb hby at_104) rfl ?_
        refine XS.dcmpS (v := (own_c 0 0)) X232.here hx rfl (hb hby at_106) rfl (own_cE .g (by rw [if_pos c250]; exact FP.Core.dcmp_int own_d0 own_d0)) ?_
        refine XS.ifNo X232.here hx rfl (hb hby at_107) rfl (own_c_gtN (by decide)) ?_
        show Steps p.tables e below (T228.setTop (mkF m 110 #[vi p0, vi p1, vi p2, vi p3, vi P, vd al, ss, vi n, vi (p1 &&& (7 : Int32)), vr a193, vd (if (p1 &&& (7 : Int32)) = 0 then FP.dconst0 else (FP.ddiv al (FP.i2d (p1 &&& (7 : Int32))))), ss, vd FP.dconst0, ss] [])) t
        refine XS.dload X232.here hx rfl (hb hby at_110) rfl ?_
        refine XS.dload X232.here hx rfl (hb hby at_112) rfl ?_
        refine XS.dcmpS (v := (own_c (own_z FP.dconst0) (own_z al))) X232.here hx rfl (hb hby at_114) rfl (own_cE .g (by rw [if_pos c250]; exact own_cmpz (own_nn own_d0) nal)) ?_
        refine XS.ifNo X232.here hx rfl (hb hby at_115) rfl (own_c_gtN (own_a0 lal)) ?_
        show Steps p.tables e below (T228.setTop (mkF m 118 #[vi p0, vi p1, vi p2, vi p3, vi P, vd al, ss, vi n, vi (p1 &&& (7 : Int32)), vr a193, vd (if (p1 &&& (7 : Int32)) = 0 then FP.dconst0 else (FP.ddiv al (FP.i2d (p1 &&& (7 : Int32))))), ss, vd FP.dconst0, ss] [])) t
        refine XS.iconst X232.here hx rfl (hb hby at_118) ?_
        refine XS.goto X232.here hx rfl (pc0 := 119) (pc' := 123) rfl (hb hby at_119) (by decide) (by decide) ?_
        exact kk
      obtain ⟨fs, hr, hrun, hended, hW, hsame⟩ := X232.leave (v := some (.int (1 : Int32))) (fun h => by rw [Bd.returns] at h; cases h)
      have hrun0 := k251 _ (retOut X232 hx Bd.returns (t := .boolean) rfl (Or.inl ⟨rfl, Or.inr (Or.inl rfl), _, rfl⟩) (hb hby at_123) hr)
      subst hE0
      refine ⟨_, _, hrun0, hrun, hended, _, _, rfl, ?_, ⟨_, rfl⟩, hW, hsame.mono (by decide) (by decide)⟩
      show Qrm0 Z p0 p1 p2 p3 h0 n0 _ T228.heap _
      rw [e245]
      exact ⟨rfl, N247⟩
    · skip
      have k252 : own_G p e below E0 T228 (mkF m 85 #[vi p0, vi p1, vi p2, vi p3, vi P, vd al, ss, vi n, vi (p1 &&& (7 : Int32)), vr a193, vd (if (p1 &&& (7 : Int32)) = 0 then FP.dconst0 else (FP.ddiv al (FP.i2d (p1 &&& (7 : Int32))))), ss, uu, uu] [(.double (FP.i2d P))]) := by
        intro t kk
        refine k249 t ?_
        refine XS.ifYes X232.here hx rfl (pc0 := 73) (pc' := 82) rfl (hb hby at_73) rfl (own_if_neY c250) (by decide) (by decide) ?_
        refine XS.iload X232.here hx rfl (hb hby at_82) rfl ?_
        refine XS.i2dS X232.here hx rfl (hb hby at_84) rfl rfl ?_
        exact kk
      have st253 := X232.ldc2DoubleC hx hown (mvT hZ (tw0 hw)) (g := (mkF m 85 #[vi p0, vi p1, vi p2, vi p3, vi P, vd al, ss, vi n, vi (p1 &&& (7 : Int32)), vr a193, vd (if (p1 &&& (7 : Int32)) = 0 then FP.dconst0 else (FP.ddiv al (FP.i2d (p1 &&& (7 : Int32))))), ss, uu, uu] [(.double (FP.i2d P))])) rfl (hb hby at_85)
      have k254 : own_G p e below E0 T228 (mkF m 88 #[vi p0, vi p1, vi p2, vi p3, vi P, vd al, ss, vi n, vi (p1 &&& (7 : Int32)), vr a193, vd (if (p1 &&& (7 : Int32)) = 0 then FP.dconst0 else (FP.ddiv al (FP.i2d (p1 &&& (7 : Int32))))), ss, uu, uu] [(.double (4652218415073722368 : UInt64)), (.double (FP.i2d P))]) := fun t kk => k252 t (st253 _ kk)
      have k255 : own_G p e below E0 T228 (mkF m 123 #[vi p0, vi p1, vi p2, vi p3, vi P, vd al, ss, vi n, vi (p1 &&& (7 : Int32)), vr a193, vd (if (p1 &&& (7 : Int32)) = 0 then FP.dconst0 else (FP.ddiv al (FP.i2d (p1 &&& (7 : Int32))))), ss, vd (FP.ddiv (FP.i2d P) (FP.dmul (4652218415073722368 : UInt64) (FP.i2d (p1 &&& (7 : Int32))))), ss] [(.int (1 : Int32))]) := by
        intro t kk
        refine k254 t ?_
        refine XS.iload X232.here hx rfl (hb hby at_88) rfl ?_
        refine XS.i2dS X232.here hx rfl (hb hby at_90) rfl rfl ?_
        refine XS.dmulS X232.here hx rfl (hb hby at_91) rfl (own_nn (own_md1024 (p1 &&& (7 : Int32)))) rfl ?_
        refine XS.ddivS X232.here hx rfl (hb hby at_92) rfl (own_qn P (own_pos hdd c250)) rfl ?_
        show Steps p.tables e below (T228.setTop (mkF m 93 #[vi p0, vi p1, vi p2, vi p3, vi P, vd al, ss, vi n, vi (p1 &&& (7 : Int32)), vr a193, vd (if (p1 &&& (7 : Int32)) = 0 then FP.dconst0 else (FP.ddiv al (FP.i2d (p1 &&& (7 : Int32))))), ss, uu, uu] [(.double (FP.ddiv (FP.i2d P) (FP.dmul (4652218415073722368 : UInt64) (FP.i2d (p1 &&& (7 : Int32))))))])) t
        refine XS.dstore X232.here hx rfl (hb hby at_93) rfl (l' := #[vi p0, vi p1, vi p2, vi p3, vi P, vd al, ss, vi n, vi (p1 &&& (7 : Int32)), vr a193, vd (if (p1 &&& (7 : Int32)) = 0 then FP.dconst0 else (FP.ddiv al (FP.i2d (p1 &&& (7 : Int32))))), ss, vd (FP.ddiv (FP.i2d P) (FP.dmul (4652218415073722368 : UInt64) (FP.i2d (p1 &&& (7 : Int32))))), ss]) rfl ?_
        refine XS.dload X232.here hx rfl (hb hby at_95) rfl ?_
        refine XS.dload X232.here hx rfl (hb hby at_97) rfl ?_
        refine XS.dcmpS (v := (0 : Int32)) X232.here hx rfl (hb hby at_99) rfl (by rw [if_neg c250]; exact own_same bP hal (own_pos hdd c250) .l) ?_
        show Steps p.tables e below (T228.setTop (mkF m 100 #[vi p0, vi p1, vi p2, vi p3, vi P, vd al, ss, vi n, vi (p1 &&& (7 : Int32)), vr a193, vd (if (p1 &&& (7 : Int32)) = 0 then FP.dconst0 else (FP.ddiv al (FP.i2d (p1 &&& (7 : Int32))))), ss, vd (FP.ddiv (FP.i2d P) (FP.dmul (4652218415073722368 : UInt64) (FP.i2d (p1 &&& (7 : Int32))))), ss] [(.int (0 : Int32))])) t
        refine XS.ifNo X232.here hx rfl (hb hby at_100) rfl (own_if_neN (by decide)) ?_
        refine XS.dconst0 X232.here hx rfl (hb hby at_103) rfl ?_
        refine XS.dload X232.here hx rfl (hb hby at_104) rfl ?_
        refine XS.dcmpS (v := (own_c (own_z FP.dconst0) (own_z (FP.ddiv al (FP.i2d (p1 &&& (7 : Int32))))))) X232.here hx rfl (hb hby at_106) rfl (own_cE .g (by rw [if_neg c250]; exact own_cmpz (own_nn own_d0) (own_divn fal c250))) ?_
        show Steps p.tables e below (T228.setTop (mkF m 107 #[vi p0, vi p1, vi p2, vi p3, vi P, vd al, ss, vi n, vi (p1 &&& (7 : Int32)), vr a193, vd (if (p1 &&& (7 : Int32)) = 0 then FP.dconst0 else (FP.ddiv al (FP.i2d (p1 &&& (7 : Int32))))), ss, vd (FP.ddiv (FP.i2d P) (FP.dmul (4652218415073722368 : UInt64) (FP.i2d (p1 &&& (7 : Int32))))), ss] [(.int (own_c (own_z FP.dconst0) (own_z (FP.ddiv al (FP.i2d (p1 &&& (7 : Int32)))))))])) t
        refine XS.ifNo X232.here hx rfl (hb hby at_107) rfl (own_c_gtN (own_r0 fal lal (own_pos hdd c250))) ?_
        refine XS.dload X232.here hx rfl (hb hby at_110) rfl ?_
        refine XS.dload X232.here hx rfl (hb hby at_112) rfl ?_
        refine XS.dcmpS (v := (own_c (own_z (FP.ddiv al (FP.i2d (p1 &&& (7 : Int32))))) (own_z al))) X232.here hx rfl (hb hby at_114) rfl (own_cE .g (by rw [if_neg c250]; exact own_cmpz (own_divn fal c250) nal)) ?_
        show Steps p.tables e below (T228.setTop (mkF m 115 #[vi p0, vi p1, vi p2, vi p3, vi P, vd al, ss, vi n, vi (p1 &&& (7 : Int32)), vr a193, vd (if (p1 &&& (7 : Int32)) = 0 then FP.dconst0 else (FP.ddiv al (FP.i2d (p1 &&& (7 : Int32))))), ss, vd (FP.ddiv (FP.i2d P) (FP.dmul (4652218415073722368 : UInt64) (FP.i2d (p1 &&& (7 : Int32))))), ss] [(.int (own_c (own_z (FP.ddiv al (FP.i2d (p1 &&& (7 : Int32))))) (own_z al)))])) t
        refine XS.ifNo X232.here hx rfl (hb hby at_115) rfl (own_c_gtN (own_r1 fal nal lal (own_pos hdd c250))) ?_
        refine XS.iconst X232.here hx rfl (hb hby at_118) ?_
        refine XS.goto X232.here hx rfl (pc0 := 119) (pc' := 123) rfl (hb hby at_119) (by decide) (by decide) ?_
        exact kk
      obtain ⟨fs, hr, hrun, hended, hW, hsame⟩ := X232.leave (v := some (.int (1 : Int32))) (fun h => by rw [Bd.returns] at h; cases h)
      have hrun0 := k255 _ (retOut X232 hx Bd.returns (t := .boolean) rfl (Or.inl ⟨rfl, Or.inr (Or.inl rfl), _, rfl⟩) (hb hby at_123) hr)
      subst hE0
      refine ⟨_, _, hrun0, hrun, hended, _, _, rfl, ?_, ⟨_, rfl⟩, hW, hsame.mono (by decide) (by decide)⟩
      show Qrm0 Z p0 p1 p2 p3 h0 n0 _ T228.heap _
      rw [e245]
      exact ⟨rfl, N247⟩
set_option maxRecDepth 65536 in
set_option maxHeartbeats 40000000 in
theorem comes_1 {Post : Tables → Env → Array Value → State → Outcome → State → Prop} (hpost : ∀ tb e args s v u, (limb_1_1.after args s (.returned v) u = true ∧ limb_1_2.after args s (.returned v) u = true ∧ True) → FrameEnd s (.returned v) u (Jvm.fieldLocs frame_1_writes args s ++ Jvm.arrayLocs frame_1_arrays args s ++ Jvm.staticLocs frame_1_statics s) 16 128 → Post tb e args s (.returned v) u) :
    ArmFor flags0 classFile x code maxLocals ret World_1 tables_1 room_1 Calls_1 rest_1 Pre_1 Post := by
  intro l hfl _ _ p e ha hc hk s m args below hf hA hF happ hP
  obtain ⟨hcalls, hrest, hpre⟩ := hP
  obtain ⟨-, -, -, hnamed, -, -, -, hat⟩ := (Spec.applies_iff hf).mp happ
  obtain ⟨hg, hn⟩ := and_e (Cond.before_iff.mp (show (Jvm.Cond.and given_1 narrow_1).before args s = true from hpre))
  obtain ⟨hct, hr0⟩ := and_e hg
  obtain ⟨ha0, hr1⟩ := and_e hr0
  obtain ⟨ha1, hr2⟩ := and_e hr1
  obtain ⟨ha2, hr3⟩ := and_e hr2
  obtain ⟨w0, w1, w2, w3, rfl⟩ : ∃ w0 w1 w2 w3 : Value, args = #[w0, w1, w2, w3] := by
    have hs : args.size = 4 := by simpa [Cond.value, given_1] using hct
    obtain ⟨L⟩ := args
    match L, hs with
    | [w0, w1, w2, w3], _ => exact ⟨w0, w1, w2, w3, rfl⟩
  have hw := fun d (hd : d ∈ tables_1) => atoms_spec (ws := Jvm.Cond.code x code maxLocals ret :: tables_1) hat d (List.mem_cons_of_mem _ hd)
  have hfit : Fit s := fun {y c} hc i hi => by
    obtain ⟨ha, rfl⟩ := Array.getElem?_eq_some_iff.mp hc
    have q := List.all_eq_true.mp ((Array.all_eq_true_iff_forall_mem.mp hF) _ (Array.getElem_mem ha)) i (List.mem_range.mpr hi)
    simpa [Array.getElem?_eq_getElem hi] using q
  obtain ⟨i0, ev0⟩ := is_v ha0
  obtain rfl : w0 = (.int i0) := Option.some.inj ev0
  obtain ⟨i1, ev1⟩ := is_v ha1
  obtain rfl : w1 = (.int i1) := Option.some.inj ev1
  obtain ⟨i2, ev2⟩ := is_v ha2
  obtain rfl : w2 = (.int i2) := Option.some.inj ev2
  obtain ⟨i3, ev3⟩ := is_v hr3
  obtain rfl : w3 = (.int i3) := Option.some.inj ev3
  obtain ⟨n, o, h1, h2, h3, _, L, rfl, ⟨rfl, N⟩, hq⟩ := rm0 l s _ hw tables_1 i0 i1 i2 i3 s.heap s.heap.size (Nat.le_refl _) p e ha hc hk s m _ below hf ((Spec.applies_iff_loose hf).mp happ).1 ⟨rfl, State.Warmed39.refl s, rfl⟩ trivial
  refine ⟨n, _, h1, h2, h3, hpost _ _ _ _ _ _ ⟨Cond.after_iff.mpr rfl, Cond.after_iff.mpr (eq_i res_at (Term.int_eval (1)) rfl), trivial⟩ ⟨hq.1, hq.2.1, (hq.2.2.sift fun y hy => Or.inr (N y hy)).mono (by decide) (by decide)⟩⟩
theorem main_1_1 : Claimed_1_1 := comes_1 fun _ _ _ _ _ _ h hF => ⟨h.1, hF⟩
theorem main_1_2 : Claimed_1_2 := comes_1 fun _ _ _ _ _ _ h hF => ⟨h.2.1, hF⟩
end Jvm.Pilot.@@N@@
namespace Jvm.Pilot.@@N@@
open Jvm Jvm.ClassFile Sem Op Lib Jvm.Free Jvm.Stand Jvm.Pilot.@@N@@.Jvm.D
/-! MADE BY PROGRAM (witnessworld.py) out of the Statement's table words and the real class files: 9 classes; the members and pool entries that the words name. The judged class is class 1, her method 1. -/
namespace start1
open Jvm.ClassFile
def u (s : String) : CpInfo := .utf8 (stringToUtf16 s)
/-- a pool by its gaps: so many unusable entries, then the entry; so many at the end -/
def gap : Nat → List CpInfo → List CpInfo
  | 0, r => r
  | n + 1, r => .unusable :: gap n r
def poolList (es : List (Nat × CpInfo)) (last : Nat) : List CpInfo := es.foldr (fun e r => gap e.1 (e.2 :: r)) (gap last [])
def pool (es : List (Nat × CpInfo)) (last : Nat) : Array CpInfo := ⟨poolList es last⟩
def fileOf (pool : Array CpInfo) (this : Nat) (attrs : Array Attribute := #[]) (ms : Array MethodInfo := #[]) (fl : Nat := 33) (sup : Nat := 0) (ifs : Array Nat := #[]) (fds : Array FieldInfo := #[]) : ClassFile where
  minorVersion := 0
  majorVersion := 65
  constantPool := pool
  accessFlags := fl
  thisClass := this
  superClass := sup
  interfaces := ifs
  fields := fds
  methods := ms
  attributes := attrs
def plain (name : String) (sup : Option ClassId) : Class where
  name := name
  kind := .ordinary
  loader := none
  accessFlags := 33
  super := sup
  interfaces := #[]
  cf := none
  fields := #[]
  methods := #[]
  instanceTypes := #[]
  staticTypes := #[]
  resolved := #[]
  callSites := []
  init := .initialized
  statics := none
  mirror := none

def pool0 : Array CpInfo := pool [(5, u "<init>"), (0, u "()V"), (1, .class_ 10), (1, u "java/lang/Object")] 113

def k0c0 : Code := { maxStack := 0, maxLocals := 1, code := object_method_1_code, exceptionTable := #[], attributes := #[] }
def k0m0 : Method := { name := "<init>", desc := "()V", sig := { parameters := [], returnType := none }, accessFlags := 1, code := some k0c0 }
/-- java/lang/Object -/
def k0 : Class := { plain "java/lang/Object" none with
  accessFlags := 33
  interfaces := #[]
  cf := some (fileOf pool0 8 #[] #[{ accessFlags := 1, nameIndex := 5, descriptorIndex := 6, attributes := #[] }] 33 0 #[] #[])
  fields := #[]
  methods := #[k0m0]
  instanceTypes := #[]
  staticTypes := #[]
  resolved := Array.replicate 124 none
  statics := none }

def pool1 : Array CpInfo := pool [(2, .class_ 4), (1, u "java/lang/Object"), (0, u "<init>"), (0, u "()V"), (0, .double 4652218415073722368), (1, .integer 1073741823), (0, .integer 2147483647), (0, .class_ 12), (0, u "com/example/meander/meander/WebChain"), (0, .methodref 11 14), (0, .nameAndType 5 15), (0, u "(ID)V"), (0, .methodref 11 17), (0, .nameAndType 18 19), (0, u "follow"), (0, u "(I)D"), (0, .class_ 21), (0, u "com/example/meander/meander/WebChainFollowPinLaw"), (2, u "law"), (0, u "(IIII)Z")] 3

def k1m0 : Method := { name := "<init>", desc := "()V", sig := { parameters := [], returnType := none }, accessFlags := 1, code := none }
def k1c1 : Code := { maxStack := 6, maxLocals := 14, code := code, exceptionTable := #[], attributes := #[] }
def k1m1 : Method := { name := "law", desc := "(IIII)Z", sig := { parameters := [.int, .int, .int, .int], returnType := some .boolean }, accessFlags := 9, code := some k1c1 }
/-- com/example/meander/meander/WebChainFollowPinLaw -/
def k1 : Class := { plain "com/example/meander/meander/WebChainFollowPinLaw" (some 0) with
  accessFlags := 49
  interfaces := #[]
  cf := some (fileOf pool1 20 #[] #[{ accessFlags := 1, nameIndex := 5, descriptorIndex := 6, attributes := #[] }, { accessFlags := 9, nameIndex := 24, descriptorIndex := 25, attributes := #[] }] 49 2 #[] #[])
  fields := #[]
  methods := #[k1m0, k1m1]
  instanceTypes := #[]
  staticTypes := #[]
  resolved := Array.replicate 29 none
  statics := none }

def pool2 : Array CpInfo := pool [(1, .methodref 2 3), (0, .class_ 4), (0, .nameAndType 5 6), (0, u "java/lang/Object"), (0, u "<init>"), (0, u "()V"), (9, .fieldref 17 18), (0, .class_ 19), (0, .nameAndType 20 21), (0, u "com/example/meander/meander/WebChain"), (0, u "pages"), (0, u "I"), (0, .methodref 17 23), (0, .nameAndType 24 25), (0, u "checkAlpha"), (0, u "(D)D"), (0, .fieldref 17 27), (0, .nameAndType 28 29), (0, u "alpha"), (0, u "D"), (0, .fieldref 17 31), (0, .nameAndType 32 29), (0, u "jump"), (3, .methodref 17 37), (0, .nameAndType 38 39), (0, u "checkOutLinks"), (0, u "(I)V"), (5, u "follow"), (0, u "(I)D"), (3, u "(ID)V")] 28

def k2c0 : Code := { maxStack := 5, maxLocals := 4, code := prog_22_method_1_code, exceptionTable := #[], attributes := #[] }
def k2m0 : Method := { name := "<init>", desc := "(ID)V", sig := { parameters := [.int, .double], returnType := none }, accessFlags := 1, code := some k2c0 }
def k2c1 : Code := { maxStack := 4, maxLocals := 2, code := prog_22_method_2_code, exceptionTable := #[], attributes := #[] }
def k2m1 : Method := { name := "checkAlpha", desc := "(D)D", sig := { parameters := [.double], returnType := some .double }, accessFlags := 9, code := some k2c1 }
def k2c2 : Code := { maxStack := 4, maxLocals := 4, code := prog_22_method_3_code, exceptionTable := #[], attributes := #[] }
def k2m2 : Method := { name := "follow", desc := "(I)D", sig := { parameters := [.int], returnType := some .double }, accessFlags := 1, code := some k2c2 }
def k2c3 : Code := { maxStack := 3, maxLocals := 1, code := prog_22_method_6_code, exceptionTable := #[], attributes := #[] }
def k2m3 : Method := { name := "checkOutLinks", desc := "(I)V", sig := { parameters := [.int], returnType := none }, accessFlags := 10, code := some k2c3 }
/-- com/example/meander/meander/WebChain -/
def k2 : Class := { plain "com/example/meander/meander/WebChain" (some 0) with
  accessFlags := 49
  interfaces := #[]
  cf := some (fileOf pool2 17 #[] #[{ accessFlags := 1, nameIndex := 5, descriptorIndex := 50, attributes := #[] }, { accessFlags := 9, nameIndex := 24, descriptorIndex := 25, attributes := #[] }, { accessFlags := 1, nameIndex := 45, descriptorIndex := 46, attributes := #[] }, { accessFlags := 10, nameIndex := 38, descriptorIndex := 39, attributes := #[] }] 49 2 #[] #[{ accessFlags := 18, nameIndex := 20, descriptorIndex := 21, attributes := #[] }, { accessFlags := 18, nameIndex := 28, descriptorIndex := 29, attributes := #[] }, { accessFlags := 18, nameIndex := 32, descriptorIndex := 29, attributes := #[] }])
  fields := #[{ name := "pages", type := .int, accessFlags := 18, slot := 0, constantValue := 0 }, { name := "alpha", type := .double, accessFlags := 18, slot := 1, constantValue := 0 }, { name := "jump", type := .double, accessFlags := 18, slot := 2, constantValue := 0 }]
  methods := #[k2m0, k2m1, k2m2, k2m3]
  instanceTypes := #[.int, .double, .double]
  staticTypes := #[]
  resolved := Array.replicate 79 none
  statics := none }

def pool3 : Array CpInfo := pool [(1, u "java/lang/Cloneable"), (0, .class_ 1), (0, u "java/lang/Object"), (0, .class_ 3)] 3

/-- java/lang/Cloneable -/
def k3 : Class := { plain "java/lang/Cloneable" (some 0) with
  accessFlags := 1537
  interfaces := #[]
  cf := some (fileOf pool3 2 #[] #[] 1537 4 #[] #[])
  fields := #[]
  methods := #[]
  instanceTypes := #[]
  staticTypes := #[]
  resolved := Array.replicate 8 none
  statics := none }

def pool4 : Array CpInfo := pool [(1, u "java/io/Serializable"), (0, .class_ 1), (0, u "java/lang/Object"), (0, .class_ 3)] 3

/-- java/io/Serializable -/
def k4 : Class := { plain "java/io/Serializable" (some 0) with
  accessFlags := 1537
  interfaces := #[]
  cf := some (fileOf pool4 2 #[] #[] 1537 4 #[] #[])
  fields := #[]
  methods := #[]
  instanceTypes := #[]
  staticTypes := #[]
  resolved := Array.replicate 8 none
  statics := none }

/-- the primitive byte -/
def k5 : Class := { plain "byte" none with kind := .primitive 'B', accessFlags := 0x411 }
/-- [B -/
def k6 : Class := { plain "[B" (some 0) with kind := .array 5 .byte, interfaces := #[3, 4], accessFlags := 1041 }

/-- the primitive int -/
def k7 : Class := { plain "int" none with kind := .primitive 'I', accessFlags := 0x411 }
/-- [I -/
def k8 : Class := { plain "[I" (some 0) with kind := .array 7 .int, interfaces := #[3, 4], accessFlags := 1041 }

def heap : Heap := #[]
def classes : Array Class := #[k0, k1, k2, k3, k4, k5, k6, k7, k8]
def interned : List (Array UInt16 × Addr) := []
def slotsUsed : Nat := 0
def theMethod : MethodId := ⟨1, 1⟩
def args0 : Array Value := #[.int 5, .int 7, .int 8, .int 9]
def aboutOver (below : List Frame) : State where
  vm := { classes := classes, interned := interned.toArray }
  heap := heap
  slotsUsed := slotsUsed
  threads := #[{ frames := .invoking theMethod args0 :: below }]
def below0 : List Frame := [.native { method := ⟨0, 0⟩, args := #[] }]
def about1 : State := aboutOver below0
def p0 : Program := .bare "" "" ""
def e0 : Env := launch0.env 0 0 0
theorem w_frames : about1.frames = Frame.invoking theMethod args0 :: below0 := rfl
set_option maxRecDepth 65536 in
theorem w_args : argsFit about1.vm theMethod args0 = true := by decide +kernel
set_option maxRecDepth 65536 in
theorem w_heap : heapFits about1 = true := by decide +kernel
set_option maxRecDepth 65536 in
theorem w_runnable : about1.curStatus? = some .runnable := by decide +kernel
set_option maxRecDepth 65536 in
theorem w_alone : about1.alone = true := by decide +kernel
set_option maxRecDepth 65536 in
theorem w_named : about1.methodNamed? x = some theMethod := by decide +kernel
set_option maxRecDepth 65536 in
theorem w_hears : about1.hears theMethod below0 = true := by decide +kernel
set_option maxRecDepth 65536 in
theorem w_ripe : about1.ripe theMethod args0 below0 = true := by decide +kernel
theorem w_running : about1.status = .running := rfl
set_option maxRecDepth 65536 in
theorem w_room : about1.hasRoom e0.platform room_1 = true :=
  launch0.hasRoom_least _ room_1 (by decide +kernel) (by decide +kernel) (by decide +kernel) (by decide +kernel) (by decide +kernel) (by decide +kernel)
theorem allAtoms_all (ts : List Jvm.Cond) (a : Array Jvm.Value) (st : Jvm.State) : (allAtoms ts).before a st = ts.all (fun c => c.before a st) := by
  induction ts with
  | nil => rfl
  | cons c t ih =>
    show (Jvm.Cond.and c (allAtoms t)).before a st = _
    rw [Jvm.Cond.before_and, ih, List.all_cons]
def words1 : List Jvm.Cond := Jvm.Cond.code x code maxLocals ret :: tables_1
/-- a 'code' word, met by the world's own term for the bytes: nothing is compared byte by byte -/
theorem code_word {y : MethodName} {bytes : ByteArray} {mx : Nat} {rt : Option FieldType} {a : Array Value} {s : State} {m : MethodId} {meth : Method} {c : Code} (h1 : s.methodNamed? y = some m) (h2 : s.vm.method? m = some meth) (h3 : meth.code = some c) (h4 : c.code = bytes)
    (h5 : (c.maxLocals == mx && c.exceptionTable.isEmpty && decide (c.maxStack ≤ mostOperands) && decide (meth.sig.returnType = rt) && !meth.locks && decide (parseMethodDescriptor y.desc = some meth.sig)) = true) : (Jvm.Cond.code y bytes mx rt).before a s = true := by
  simp only [Bool.and_eq_true, beq_iff_eq, Bool.not_eq_true', decide_eq_true_eq] at h5
  obtain ⟨⟨⟨⟨⟨g1, g2⟩, g3⟩, g4⟩, g5⟩, g6⟩ := h5
  simp [Cond.before, Cond.holds, Cond.value, h1, h2, h3, h4, g1, g2, g3, g4, g5, g6]
def isCode : Jvm.Cond → Bool
  | .code _ _ _ _ => true
  | _ => false
theorem all_split {L : List Jvm.Cond} {P : Jvm.Cond → Bool} (h1 : L.all (fun c => isCode c || P c) = true) (h2 : ∀ c ∈ L.filter isCode, P c = true) : L.all P = true := by
  refine List.all_eq_true.mpr fun c hc => ?_
  have h := List.all_eq_true.mp h1 c hc
  rcases Bool.eq_false_or_eq_true (isCode c) with hi | hi
  · exact h2 c (List.mem_filter.mpr ⟨hc, hi⟩)
  · simpa [hi] using h
set_option maxRecDepth 65536 in
theorem w_c0 : (Jvm.Cond.code x code maxLocals ret).before args0 about1 = true := code_word (m := ⟨1, 1⟩) (meth := k1m1) (c := k1c1) (by decide +kernel) rfl rfl rfl (by decide +kernel)
set_option maxRecDepth 65536 in
theorem w_c1 : (Jvm.Cond.code ({ cls := "com/example/meander/meander/WebChain", name := "<init>", desc := "(ID)V" } : Jvm.MethodName) prog_22_method_1_code (4 : Nat) (Option.none : Option Jvm.ClassFile.FieldType)).before args0 about1 = true := code_word (m := ⟨2, 0⟩) (meth := k2m0) (c := k2c0) (by decide +kernel) rfl rfl rfl (by decide +kernel)
set_option maxRecDepth 65536 in
theorem w_c2 : (Jvm.Cond.code ({ cls := "java/lang/Object", name := "<init>", desc := "()V" } : Jvm.MethodName) object_method_1_code (1 : Nat) (Option.none : Option Jvm.ClassFile.FieldType)).before args0 about1 = true := code_word (m := ⟨0, 0⟩) (meth := k0m0) (c := k0c0) (by decide +kernel) rfl rfl rfl (by decide +kernel)
set_option maxRecDepth 65536 in
theorem w_c3 : (Jvm.Cond.code ({ cls := "com/example/meander/meander/WebChain", name := "checkAlpha", desc := "(D)D" } : Jvm.MethodName) prog_22_method_2_code (2 : Nat) (Option.some Jvm.ClassFile.FieldType.double)).before args0 about1 = true := code_word (m := ⟨2, 1⟩) (meth := k2m1) (c := k2c1) (by decide +kernel) rfl rfl rfl (by decide +kernel)
set_option maxRecDepth 65536 in
theorem w_c4 : (Jvm.Cond.code ({ cls := "com/example/meander/meander/WebChain", name := "follow", desc := "(I)D" } : Jvm.MethodName) prog_22_method_3_code (4 : Nat) (Option.some Jvm.ClassFile.FieldType.double)).before args0 about1 = true := code_word (m := ⟨2, 2⟩) (meth := k2m2) (c := k2c2) (by decide +kernel) rfl rfl rfl (by decide +kernel)
set_option maxRecDepth 65536 in
theorem w_c5 : (Jvm.Cond.code ({ cls := "com/example/meander/meander/WebChain", name := "checkOutLinks", desc := "(I)V" } : Jvm.MethodName) prog_22_method_6_code (1 : Nat) (Option.none : Option Jvm.ClassFile.FieldType)).before args0 about1 = true := code_word (m := ⟨2, 3⟩) (meth := k2m3) (c := k2c3) (by decide +kernel) rfl rfl rfl (by decide +kernel)
def codes1 : List Jvm.Cond := [Jvm.Cond.code x code maxLocals ret, Jvm.Cond.code ({ cls := "com/example/meander/meander/WebChain", name := "<init>", desc := "(ID)V" } : Jvm.MethodName) prog_22_method_1_code (4 : Nat) (Option.none : Option Jvm.ClassFile.FieldType), Jvm.Cond.code ({ cls := "java/lang/Object", name := "<init>", desc := "()V" } : Jvm.MethodName) object_method_1_code (1 : Nat) (Option.none : Option Jvm.ClassFile.FieldType), Jvm.Cond.code ({ cls := "com/example/meander/meander/WebChain", name := "checkAlpha", desc := "(D)D" } : Jvm.MethodName) prog_22_method_2_code (2 : Nat) (Option.some Jvm.ClassFile.FieldType.double), Jvm.Cond.code ({ cls := "com/example/meander/meander/WebChain", name := "follow", desc := "(I)D" } : Jvm.MethodName) prog_22_method_3_code (4 : Nat) (Option.some Jvm.ClassFile.FieldType.double), Jvm.Cond.code ({ cls := "com/example/meander/meander/WebChain", name := "checkOutLinks", desc := "(I)V" } : Jvm.MethodName) prog_22_method_6_code (1 : Nat) (Option.none : Option Jvm.ClassFile.FieldType)]
set_option maxRecDepth 65536 in
theorem codes_eq : words1.filter isCode = codes1 := rfl
theorem w_codes : ∀ c ∈ words1.filter isCode, c.before args0 about1 = true := by
  rw [codes_eq]
  intro c hc
  simp only [codes1, List.mem_cons, List.not_mem_nil, or_false] at hc
  rcases hc with rfl | rfl | rfl | rfl | rfl | rfl
  · exact w_c0
  · exact w_c1
  · exact w_c2
  · exact w_c3
  · exact w_c4
  · exact w_c5
set_option maxRecDepth 65536 in
theorem w_t1 : (words1.take 24).all (fun c => isCode c || c.before args0 about1) = true := by decide +kernel
set_option maxRecDepth 65536 in
theorem w_t2 : (words1.drop 24).all (fun c => isCode c || c.before args0 about1) = true := by decide +kernel
theorem w_tables : (allAtoms (Jvm.Cond.code x code maxLocals ret :: tables_1)).before args0 about1 = true := by
  rw [allAtoms_all]
  show words1.all (fun c => c.before args0 about1) = true
  refine all_split ?_ w_codes
  rw [← List.take_append_drop 24 words1, List.all_append, w_t1, w_t2]
  rfl
set_option maxRecDepth 65536 in
theorem w_case : (Jvm.Cond.and given_1 narrow_1).before args0 about1 = true := by decide +kernel
theorem w_applies : (headSpec (Jvm.Cond.code x code maxLocals ret :: tables_1) room_1).applies x e0.platform about1 = true :=
  (Spec.applies_iff w_frames).mpr ⟨w_running, w_runnable, w_alone, w_named, w_hears, w_ripe, w_room, w_tables⟩
theorem atStart : AtStart classFile x code maxLocals ret World_1 tables_1 room_1 Calls_1 rest_1 Pre_1 launch0 p0 e0 about1 theMethod args0 below0 :=
  ⟨lists_1, trivial, launch0.admits_env _ _ _, launch0.least_env, fairChoices_fair.cas, fairChoices_fair.clock, w_frames, w_args, w_heap, w_applies, trivial, trivial, w_case⟩
end start1
theorem witness_1 : WitnessClaimed_1 := ⟨start1.p0, start1.e0, start1.about1, start1.theMethod, start1.args0, start1.below0, start1.atStart⟩
end Jvm.Pilot.@@N@@
