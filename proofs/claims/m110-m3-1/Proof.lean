import JvmDerived
import JvmDerived.Pilot.@@N@@Statement
import JvmDerived.Pilot.@@N@@Code
set_option linter.unusedVariables false
set_option linter.unusedSimpArgs false
@@BLOCK:NumsL.lean.txt@@
namespace Jvm.Pilot.@@N@@
open Jvm Jvm.ClassFile Sem Op Lib Jvm.Free Jvm.Stand Jvm.LawKit Jvm.RoadKit Bundle Jvm.Pilot.@@N@@.Jvm.D
open Jvm.Free.Fl (NoNaN64 Fin64 Nz64)
abbrev uu : Slot := .unset
abbrev ss : Slot := .second
abbrev vi (x : Int32) : Slot := .val (.int x)
abbrev vj (x : Int64) : Slot := .val (.long x)
abbrev vd (x : UInt64) : Slot := .val (.double x)
abbrev vr (x : Addr) : Slot := .val (.ref x)
/-- whatever is reached from here is reached from E -/
abbrev own_G (p : Program) (e : Env) (below : List Frame) (E T : State) (g : JFrame) : Prop := ∀ t, Steps p.tables e below (T.setTop g) t → Steps p.tables e below E t
theorem own_if_eqY {x : Int32} (h : x = 0) : ifCond.holds .eq x = true := by subst h; rfl
theorem own_if_eqN {x : Int32} (h : ¬ x = 0) : ifCond.holds .eq x = false := beq_false_of_ne h
theorem own_if_neY {x : Int32} (h : ¬ x = 0) : ifCond.holds .ne x = true := bne_iff_ne.mpr h
theorem own_if_neN {x : Int32} (h : x = 0) : ifCond.holds .ne x = false := by subst h; rfl
theorem own_if_ltY {x : Int32} (h : x < 0) : ifCond.holds .lt x = true := decide_eq_true h
theorem own_if_ltN {x : Int32} (h : ¬ x < 0) : ifCond.holds .lt x = false := decide_eq_false h
theorem own_if_geY {x : Int32} (h : ¬ x < 0) : ifCond.holds .ge x = true := decide_eq_true (Int32.not_lt.mp h)
theorem own_if_geN {x : Int32} (h : x < 0) : ifCond.holds .ge x = false := decide_eq_false (fun q => Int32.not_le.mpr h q)
theorem own_if_gtY {x : Int32} (h : 0 < x) : ifCond.holds .gt x = true := decide_eq_true h
theorem own_if_gtN {x : Int32} (h : ¬ 0 < x) : ifCond.holds .gt x = false := decide_eq_false h
theorem own_if_leY {x : Int32} (h : ¬ 0 < x) : ifCond.holds .le x = true := decide_eq_true (Int32.not_lt.mp h)
theorem own_if_leN {x : Int32} (h : 0 < x) : ifCond.holds .le x = false := decide_eq_false (fun q => Int32.not_le.mpr h q)
theorem own_ic_eqY {x y : Int32} (h : x = y) : if_icmp.holds .eq x y = true := beq_iff_eq.mpr h
theorem own_ic_eqN {x y : Int32} (h : ¬ x = y) : if_icmp.holds .eq x y = false := beq_false_of_ne h
theorem own_ic_neY {x y : Int32} (h : ¬ x = y) : if_icmp.holds .ne x y = true := bne_iff_ne.mpr h
theorem own_ic_neN {x y : Int32} (h : x = y) : if_icmp.holds .ne x y = false := by subst h; exact bne_self_eq_false x
theorem own_ic_ltY {x y : Int32} (h : x < y) : if_icmp.holds .lt x y = true := decide_eq_true h
theorem own_ic_ltN {x y : Int32} (h : ¬ x < y) : if_icmp.holds .lt x y = false := decide_eq_false h
theorem own_ic_geY {x y : Int32} (h : ¬ x < y) : if_icmp.holds .ge x y = true := decide_eq_true (Int32.not_lt.mp h)
theorem own_ic_geN {x y : Int32} (h : x < y) : if_icmp.holds .ge x y = false := decide_eq_false (fun q => Int32.not_le.mpr h q)
theorem own_ic_gtY {x y : Int32} (h : y < x) : if_icmp.holds .gt x y = true := decide_eq_true h
theorem own_ic_gtN {x y : Int32} (h : ¬ y < x) : if_icmp.holds .gt x y = false := decide_eq_false h
theorem own_ic_leY {x y : Int32} (h : ¬ y < x) : if_icmp.holds .le x y = true := decide_eq_true (Int32.not_lt.mp h)
theorem own_ic_leN {x y : Int32} (h : y < x) : if_icmp.holds .le x y = false := decide_eq_false (fun q => Int32.not_le.mpr h q)
/-- what a comparison of two whole or scaled values pushes -/
def own_c (i j : Int) : Int32 := if i < j then -1 else if i = j then 0 else 1
theorem own_cE (o : CmpOp) {x y : UInt64} {i j : Int} (h : FP.dcmp x y = some (compare i j)) : cmpValue (FP.dcmp x y) o = own_c i j := by
  rw [h, FP.Core.compare_ite, own_c]
  by_cases h1 : i < j
  · rw [if_pos h1, if_pos h1]; cases o <;> rfl
  · rw [if_neg h1, if_neg h1]
    by_cases h2 : i = j
    · rw [if_pos h2, if_pos h2]; cases o <;> rfl
    · rw [if_neg h2, if_neg h2]; cases o <;> rfl
theorem own_c_lt {i j : Int} (h : i < j) : own_c i j = -1 := by rw [own_c, if_pos h]
theorem own_c_eq {i j : Int} (h : i = j) : own_c i j = 0 := by rw [own_c, if_neg (by omega), if_pos h]
theorem own_c_gt {i j : Int} (h : j < i) : own_c i j = 1 := by rw [own_c, if_neg (by omega), if_neg (by omega)]
theorem own_c_cases (i j : Int) : (i < j ∧ own_c i j = -1) ∨ (i = j ∧ own_c i j = 0) ∨ (j < i ∧ own_c i j = 1) := by
  rcases Int.lt_trichotomy i j with h | h | h
  · exact Or.inl ⟨h, own_c_lt h⟩
  · exact Or.inr (Or.inl ⟨h, own_c_eq h⟩)
  · exact Or.inr (Or.inr ⟨h, own_c_gt h⟩)
theorem own_c_ltY {i j : Int} (h : i < j) : ifCond.holds .lt (own_c i j) = true := by rw [own_c_lt h]; rfl
theorem own_c_ltN {i j : Int} (h : ¬ i < j) : ifCond.holds .lt (own_c i j) = false := by rcases own_c_cases i j with q | q | q <;> first | exact absurd q.1 h | (rw [q.2]; rfl)
theorem own_c_geY {i j : Int} (h : ¬ i < j) : ifCond.holds .ge (own_c i j) = true := by rcases own_c_cases i j with q | q | q <;> first | exact absurd q.1 h | (rw [q.2]; rfl)
theorem own_c_geN {i j : Int} (h : i < j) : ifCond.holds .ge (own_c i j) = false := by rw [own_c_lt h]; rfl
theorem own_c_gtY {i j : Int} (h : j < i) : ifCond.holds .gt (own_c i j) = true := by rw [own_c_gt h]; rfl
theorem own_c_gtN {i j : Int} (h : ¬ j < i) : ifCond.holds .gt (own_c i j) = false := by rcases own_c_cases i j with q | q | q <;> first | exact absurd q.1 h | (rw [q.2]; rfl)
theorem own_c_leY {i j : Int} (h : ¬ j < i) : ifCond.holds .le (own_c i j) = true := by rcases own_c_cases i j with q | q | q <;> first | exact absurd q.1 h | (rw [q.2]; rfl)
theorem own_c_leN {i j : Int} (h : j < i) : ifCond.holds .le (own_c i j) = false := by rw [own_c_gt h]; rfl
theorem own_c_eqY {i j : Int} (h : i = j) : ifCond.holds .eq (own_c i j) = true := by rw [own_c_eq h]; rfl
theorem own_c_eqN {i j : Int} (h : ¬ i = j) : ifCond.holds .eq (own_c i j) = false := by rcases own_c_cases i j with q | q | q <;> first | exact absurd q.1 h | (rw [q.2]; rfl)
theorem own_c_neY {i j : Int} (h : ¬ i = j) : ifCond.holds .ne (own_c i j) = true := by rcases own_c_cases i j with q | q | q <;> first | exact absurd q.1 h | (rw [q.2]; rfl)
theorem own_c_neN {i j : Int} (h : i = j) : ifCond.holds .ne (own_c i j) = false := by rw [own_c_eq h]; rfl
theorem own_l_lt {i j : Int64} (h : i < j) : XT.cmpL i j = -1 := by
  rw [XT.cmpL, if_neg (fun q => Int64.lt_irrefl (Int64.lt_trans h q)), if_neg (fun q => Int64.lt_irrefl (q ▸ h))]
theorem own_l_eq {i j : Int64} (h : i = j) : XT.cmpL i j = 0 := by subst h; rw [XT.cmpL, if_neg Int64.lt_irrefl, if_pos rfl]
theorem own_l_gt {i j : Int64} (h : j < i) : XT.cmpL i j = 1 := by rw [XT.cmpL, if_pos h]
theorem own_l_cases (i j : Int64) : (i < j ∧ XT.cmpL i j = -1) ∨ (i = j ∧ XT.cmpL i j = 0) ∨ (j < i ∧ XT.cmpL i j = 1) := by
  by_cases h : i < j
  · exact Or.inl ⟨h, own_l_lt h⟩
  · by_cases h2 : i = j
    · exact Or.inr (Or.inl ⟨h2, own_l_eq h2⟩)
    · have h3 : j < i := by
        rw [Int64.lt_iff_toInt_lt] at h ⊢
        have h4 : i.toInt ≠ j.toInt := fun q => h2 (Int64.toInt_inj.mp q)
        omega
      exact Or.inr (Or.inr ⟨h3, own_l_gt h3⟩)
theorem own_l_ltY {i j : Int64} (h : i < j) : ifCond.holds .lt (XT.cmpL i j) = true := by rw [own_l_lt h]; rfl
theorem own_l_ltN {i j : Int64} (h : ¬ i < j) : ifCond.holds .lt (XT.cmpL i j) = false := by rcases own_l_cases i j with q | q | q <;> first | exact absurd q.1 h | (rw [q.2]; rfl)
theorem own_l_geY {i j : Int64} (h : ¬ i < j) : ifCond.holds .ge (XT.cmpL i j) = true := by rcases own_l_cases i j with q | q | q <;> first | exact absurd q.1 h | (rw [q.2]; rfl)
theorem own_l_geN {i j : Int64} (h : i < j) : ifCond.holds .ge (XT.cmpL i j) = false := by rw [own_l_lt h]; rfl
theorem own_l_gtY {i j : Int64} (h : j < i) : ifCond.holds .gt (XT.cmpL i j) = true := by rw [own_l_gt h]; rfl
theorem own_l_gtN {i j : Int64} (h : ¬ j < i) : ifCond.holds .gt (XT.cmpL i j) = false := by rcases own_l_cases i j with q | q | q <;> first | exact absurd q.1 h | (rw [q.2]; rfl)
theorem own_l_leY {i j : Int64} (h : ¬ j < i) : ifCond.holds .le (XT.cmpL i j) = true := by rcases own_l_cases i j with q | q | q <;> first | exact absurd q.1 h | (rw [q.2]; rfl)
theorem own_l_leN {i j : Int64} (h : j < i) : ifCond.holds .le (XT.cmpL i j) = false := by rw [own_l_gt h]; rfl
theorem own_l_eqY {i j : Int64} (h : i = j) : ifCond.holds .eq (XT.cmpL i j) = true := by rw [own_l_eq h]; rfl
theorem own_l_eqN {i j : Int64} (h : ¬ i = j) : ifCond.holds .eq (XT.cmpL i j) = false := by rcases own_l_cases i j with q | q | q <;> first | exact absurd q.1 h | (rw [q.2]; rfl)
theorem own_l_neY {i j : Int64} (h : ¬ i = j) : ifCond.holds .ne (XT.cmpL i j) = true := by rcases own_l_cases i j with q | q | q <;> first | exact absurd q.1 h | (rw [q.2]; rfl)
theorem own_l_neN {i j : Int64} (h : i = j) : ifCond.holds .ne (XT.cmpL i j) = false := by rw [own_l_eq h]; rfl
theorem own_ac_eq_Y {x y : Value} (h : x = y) : XT.acmp .eq x y = true := decide_eq_true h
theorem own_ac_eq_N {x y : Value} (h : ¬ x = y) : XT.acmp .eq x y = false := decide_eq_false h
theorem own_ac_ne_Y {x y : Value} (h : ¬ x = y) : XT.acmp .ne x y = true := decide_eq_true h
theorem own_ac_ne_N {x y : Value} (h : x = y) : XT.acmp .ne x y = false := decide_eq_false (fun q => q h)
theorem own_ar_eq_Y {x y : Addr} (h : x = y) : XT.acmp .eq (.ref x) (.ref y) = true := own_ac_eq_Y (congrArg Value.ref h)
theorem own_ar_eq_N {x y : Addr} (h : ¬ x = y) : XT.acmp .eq (.ref x) (.ref y) = false := own_ac_eq_N (fun q => h (Value.ref.inj q))
theorem own_ar_ne_Y {x y : Addr} (h : ¬ x = y) : XT.acmp .ne (.ref x) (.ref y) = true := own_ac_ne_Y (fun q => h (Value.ref.inj q))
theorem own_ar_ne_N {x y : Addr} (h : x = y) : XT.acmp .ne (.ref x) (.ref y) = false := own_ac_ne_N (congrArg Value.ref h)
/-- a static's object's field that the case names by a number -/
theorem own_ord {args : Array Value} {s : State} {t : Term} {C n d : String} {k : Int32} {x : Addr} (ev : t.eval args s none [] s = some (.ref x))
    (h : (Jvm.Cond.eq (Term.field t C n d) (Term.int k)).value args s none s [] = some true) : s.fieldOf? x C n d = some (.int k) := by
  obtain ⟨v, u, e1, e2, k1, k2⟩ := cmp_v (Or.inl h)
  have e3 : u = .int k := by have := (Term.int_eval (args := args) (first := s) (o := none) (idx := []) (s := s) k).symm.trans e2; exact (Option.some.inj this).symm
  subst e3
  obtain ⟨z, rfl⟩ := k2
  have q := gotT (Cond.eq_ints e1 e2) h
  rw [← fld_at ev, e1, q]
/-! doubles: exact values in units of the least double -/
def own_z (x : UInt64) : Int := FP.Core.zval FP.Core.b64 (FP.Core.val64 x)
theorem own_nn {i : Int} {x : UInt64} (h : FP.Core.DInt i x) : NoNaN64 x := Fl.val64_no.mpr (FP.Core.DInt_ne_nan h)
theorem own_cmpz {x y : UInt64} (hx : NoNaN64 x) (hy : NoNaN64 y) : FP.dcmp x y = some (compare (own_z x) (own_z y)) := FP.Core.dcmp_zval (Fl.val64_no.mp hx) (Fl.val64_no.mp hy)
theorem own_d0 : FP.Core.DInt 0 FP.dconst0 := by
  have h := FP.Core.l2d_int (a := 0) (by decide)
  rw [FP.Core.l2d_zero] at h; exact h
theorem own_d1 : FP.Core.DInt 1 FP.dconst1 := FP.Core.dint_one
theorem own_zi {i : Int} {x : UInt64} (h : FP.Core.DInt i x) : own_z x = i * (FP.Core.one64 : Int) := FP.Core.DInt_zval h
theorem own_fini {i : Int} {x : UInt64} (h : FP.Core.DInt i x) : Fin64 x := by
  have h' : FP.Core.Whole i (FP.Core.val64 x) := h
  cases hv : FP.Core.val64 x with
  | nan => rw [hv] at h'; exact h'.elim
  | inf s => rw [hv] at h'; exact h'.elim
  | fin s c q => exact Fl.fin64_core.mpr ⟨s, c, q, hv⟩
theorem own_one : (0 : Int) < (FP.Core.one64 : Int) := by have := FP.Core.one64_pos; omega
theorem own_nz {x : UInt64} (h : own_z x ≠ 0) : Nz64 x := Fl.nz64_core.mpr fun ⟨s, q, e⟩ => h (by
  show FP.Core.zval FP.Core.b64 (FP.Core.val64 x) = 0
  rw [e]; show FP.Core.signed s (0 * _) = 0; rw [Nat.zero_mul]; cases s <;> rfl)
theorem own_nzi {i : Int} {x : UInt64} (h : FP.Core.DInt i x) (hi : i ≠ 0) : Nz64 x := own_nz (by
  rw [own_zi h]; intro q; rcases Int.mul_eq_zero.mp q with r | r
  · exact hi r
  · have := own_one; omega)
theorem own_zn (x : UInt64) : (own_z x).natAbs = FP.Core.zmag FP.Core.b64 (FP.Core.val64 x) := FP.Core.natAbs_signed _ _
/-- the quotient, by the two values alone -/
theorem own_quot {x y : UInt64} (hx : Fin64 x) (hy : Fin64 y) (hz : own_z y ≠ 0) :
    FP.Core.val64 (FP.ddiv x y) = FP.Core.roundRatio FP.Core.b64 (FP.Core.sgn (FP.Core.val64 x) != FP.Core.sgn (FP.Core.val64 y)) (own_z x).natAbs (own_z y).natAbs 0 := by
  obtain ⟨s, c, q, ex⟩ := Fl.fin64_core.mp hx
  obtain ⟨t, d, r, ey⟩ := Fl.fin64_core.mp hy
  have fx : FP.Core.fits FP.Core.b64 (.fin s c q) := ex ▸ FP.Core.val64_fits x
  have fy : FP.Core.fits FP.Core.b64 (.fin t d r) := ey ▸ FP.Core.val64_fits y
  have hd : d ≠ 0 := fun h => hz (by
    show FP.Core.zval FP.Core.b64 (FP.Core.val64 y) = 0
    rw [ey, h]; show FP.Core.signed t (0 * _) = 0; rw [Nat.zero_mul]; cases t <;> rfl)
  rw [own_zn, own_zn, show FP.ddiv x y = FP.Core.ddiv x y from rfl, FP.Core.val64_ddiv, ex, ey]
  show (if d = 0 then _ else FP.Core.roundRatio FP.Core.b64 (s != t) c d (q - r)) = FP.Core.roundRatio FP.Core.b64 (s != t) (c * 2 ^ (q - FP.Core.b64.qmin).toNat) (d * 2 ^ (r - FP.Core.b64.qmin).toNat) 0
  rw [if_neg hd]
  refine FP.Core.roundRatio_congr (Nat.pos_of_ne_zero hd) (Nat.mul_pos (Nat.pos_of_ne_zero hd) (Nat.two_pow_pos _)) ?_
  have h1 := fx.2.1
  have h2 := fy.2.1
  have e1 : (r - FP.Core.b64.qmin).toNat + (q - r - 0).toNat = (q - FP.Core.b64.qmin).toNat + (0 - (q - r)).toNat := by omega
  calc c * (d * 2 ^ (r - FP.Core.b64.qmin).toNat) * 2 ^ (q - r - 0).toNat = c * d * (2 ^ (r - FP.Core.b64.qmin).toNat * 2 ^ (q - r - 0).toNat) := by
        rw [Nat.mul_assoc, Nat.mul_assoc, Nat.mul_assoc]
    _ = c * d * (2 ^ (q - FP.Core.b64.qmin).toNat * 2 ^ (0 - (q - r)).toNat) := by rw [← Nat.pow_add, ← Nat.pow_add, e1]
    _ = c * 2 ^ (q - FP.Core.b64.qmin).toNat * d * 2 ^ (0 - (q - r)).toNat := by
        rw [Nat.mul_right_comm c _ d, Nat.mul_assoc (c * d)]
theorem own_noNaN_of {x : UInt64} {s : Bool} {A B : Nat} {e : Int} (h : FP.Core.val64 x = FP.Core.roundRatio FP.Core.b64 s A B e) : NoNaN64 x :=
  Fl.val64_no.mpr (h ▸ FP.Core.roundRatio_ne_nan _ _ _ _ _)
theorem own_div_nn {x y : UInt64} (hx : Fin64 x) (hy : Fin64 y) (hz : own_z y ≠ 0) : NoNaN64 (FP.ddiv x y) := Fl.ddiv_out hx.noNaN hy (own_nz hz)
/-- what is rounded below (above) a double stays there -/
theorem own_rr_le {s : Bool} {A B : Nat} {V : UInt64} (hB : 0 < B) (hV : NoNaN64 V) (h : A * FP.Core.one64 ≤ (own_z V).natAbs * B) :
    FP.Core.zmag FP.Core.b64 (FP.Core.roundRatio FP.Core.b64 s A B 0) ≤ (own_z V).natAbs := by
  rw [own_zn] at h ⊢
  refine FP.Core.zmag_roundRatio_le FP.Core.good_b64 hB (FP.Core.val64_fits V) (Fl.val64_no.mp hV) (e0 := FP.Core.b64.qmin) (Int.le_refl _) (by decide +kernel) ?_
  rw [Int.sub_self]
  show A * 2 ^ (0 - FP.Core.b64.qmin).toNat ≤ _ * 1 * B
  rw [Nat.mul_one, Int.zero_sub, FP.Core.pow_qmin64]; exact h
theorem own_rr_ge {s : Bool} {A B : Nat} {V : UInt64} (hB : 0 < B) (h : (own_z V).natAbs * B ≤ A * FP.Core.one64) :
    (own_z V).natAbs ≤ FP.Core.zmag FP.Core.b64 (FP.Core.roundRatio FP.Core.b64 s A B 0) := by
  rw [own_zn] at h ⊢
  refine FP.Core.zmag_roundRatio_ge FP.Core.good_b64 hB (FP.Core.val64_fits V) (e0 := FP.Core.b64.qmin) (Int.le_refl _) (by decide +kernel) ?_
  rw [Int.sub_self]
  show _ * 1 * B ≤ A * 2 ^ (0 - FP.Core.b64.qmin).toNat
  rw [Nat.mul_one, Int.zero_sub, FP.Core.pow_qmin64]; exact h
theorem own_z_signed {x : UInt64} {s : Bool} {A B : Nat} (h : FP.Core.val64 x = FP.Core.roundRatio FP.Core.b64 s A B 0) :
    own_z x = FP.Core.signed s (FP.Core.zmag FP.Core.b64 (FP.Core.roundRatio FP.Core.b64 s A B 0)) := by
  show FP.Core.signed _ _ = _
  rw [h, FP.Core.sgn_roundRatio]
/-- a quotient of two that are not below nought -/
theorem own_div_ge0 {x y : UInt64} (hx : Fin64 x) (hy : Fin64 y) (hz : own_z y ≠ 0) (h0 : 0 ≤ own_z x) (h1 : 0 ≤ own_z y) : 0 ≤ own_z (FP.ddiv x y) := by
  have hq := own_quot hx hy hz
  rw [own_z_signed hq]
  cases hs : (FP.Core.sgn (FP.Core.val64 x) != FP.Core.sgn (FP.Core.val64 y)) with
  | false => exact Int.natCast_nonneg _
  | true =>
    have hy2 : FP.Core.sgn (FP.Core.val64 y) = false := by
      cases hs2 : FP.Core.sgn (FP.Core.val64 y) with
      | false => rfl
      | true =>
        exfalso; have : own_z y = -(FP.Core.zmag FP.Core.b64 (FP.Core.val64 y) : Int) := by show FP.Core.signed _ _ = _; rw [hs2]; rfl
        omega
    have hx2 : FP.Core.sgn (FP.Core.val64 x) = true := by rw [hy2] at hs; simpa using hs
    have hx3 : own_z x = -(FP.Core.zmag FP.Core.b64 (FP.Core.val64 x) : Int) := by show FP.Core.signed _ _ = _; rw [hx2]; rfl
    have hx4 : (own_z x).natAbs = 0 := by omega
    rw [hx4, FP.Core.roundRatio, if_pos rfl]
    show 0 ≤ FP.Core.signed true (0 * _); rw [Nat.zero_mul]; decide
theorem own_div_le {x y V : UInt64} (hx : Fin64 x) (hy : Fin64 y) (hz : own_z y ≠ 0) (hV : NoNaN64 V) (h0 : 0 ≤ own_z x) (h1 : 0 ≤ own_z y) (h2 : 0 ≤ own_z V)
    (h : own_z x * (FP.Core.one64 : Int) ≤ own_z V * own_z y) : own_z (FP.ddiv x y) ≤ own_z V := by
  have hq := own_quot hx hy hz
  have hge := own_div_ge0 hx hy hz h0 h1
  have hB : 0 < (own_z y).natAbs := by omega
  have h3 : (own_z x).natAbs * FP.Core.one64 ≤ (own_z V).natAbs * (own_z y).natAbs := by
    have e1 : ((own_z x).natAbs : Int) = own_z x := by omega
    have e2 : ((own_z y).natAbs : Int) = own_z y := by omega
    have e3 : ((own_z V).natAbs : Int) = own_z V := by omega
    have : (((own_z x).natAbs * FP.Core.one64 : Nat) : Int) ≤ (((own_z V).natAbs * (own_z y).natAbs : Nat) : Int) := by
      rw [Int.natCast_mul, Int.natCast_mul, e1, e2, e3]; exact h
    exact Int.ofNat_le.mp this
  have := own_rr_le (s := FP.Core.sgn (FP.Core.val64 x) != FP.Core.sgn (FP.Core.val64 y)) hB hV h3
  have h4 : (own_z (FP.ddiv x y)).natAbs ≤ (own_z V).natAbs := by rw [own_zn, hq]; exact this
  omega
/-- two doubles of the same whole value compare as equal -/
theorem own_eq0 {x y : UInt64} {i : Int} (o : CmpOp) (hx : FP.Core.DInt i x) (hy : FP.Core.DInt i y) : cmpValue (FP.dcmp x y) o = 0 := by
  rw [own_cE o (FP.Core.dcmp_int hx hy), own_c_eq rfl]
theorem own_mb {a b A B : Int} (h1 : -A ≤ a) (h2 : a ≤ A) (h3 : -B ≤ b) (h4 : b ≤ B) (h : A * B ≤ 9007199254740992) : (a * b).natAbs ≤ 2 ^ 53 := by
  rw [Int.natAbs_mul]
  have e1 : a.natAbs ≤ A.toNat := by omega
  have e2 : b.natAbs ≤ B.toNat := by omega
  have e3 : a.natAbs * b.natAbs ≤ A.toNat * B.toNat := Nat.mul_le_mul e1 e2
  have e4 : ((A.toNat * B.toNat : Nat) : Int) = A * B := by rw [Int.natCast_mul, Int.toNat_of_nonneg (by omega), Int.toNat_of_nonneg (by omega)]
  have e5 : (2 : Nat) ^ 53 = 9007199254740992 := by decide
  omega
theorem own_dl (a : Int64) {i : Int} (h : a.toInt = i) (hb : i.natAbs ≤ 2 ^ 53) : FP.Core.DInt i (FP.l2d a) := by subst h; exact FP.Core.l2d_int hb
theorem own_lm {a b : Int64} (h : (a.toInt * b.toInt).natAbs ≤ 2 ^ 53) : (a * b).toInt = a.toInt * b.toInt := by
  have e5 : (2 : Nat) ^ 53 = 9007199254740992 := by decide
  exact Jvm.Kit.i64_mul (by omega) (by omega)
theorem own_sgn_mul {s t : Bool} {b : Nat} {k : Int} (hb : 0 < b) (h : FP.Core.signed s (k.natAbs * b) = k * FP.Core.signed t b) : FP.Core.signed (s != t) k.natAbs = k := by
  have hb' : (0 : Int) < (b : Int) := by omega
  have e : ((k.natAbs * b : Nat) : Int) = (k.natAbs : Int) * (b : Int) := Int.natCast_mul _ _
  have key : ∀ z : Int, (k.natAbs : Int) * (b : Int) = z * (b : Int) → (k.natAbs : Int) = z := fun z q => Int.eq_of_mul_eq_mul_right (by omega) q
  cases s <;> cases t
  · show (k.natAbs : Int) = k
    apply key; rw [← e]; exact h
  · show -(k.natAbs : Int) = k
    have h' : ((k.natAbs * b : Nat) : Int) = k * -(b : Int) := h
    have := key (-k) (by rw [← e, h', Int.mul_neg, Int.neg_mul]); omega
  · show -(k.natAbs : Int) = k
    have h' : -((k.natAbs * b : Nat) : Int) = k * (b : Int) := h
    have := key (-k) (by rw [← e, Int.neg_mul, ← h', Int.neg_neg]); omega
  · show (k.natAbs : Int) = k
    have h' : -((k.natAbs * b : Nat) : Int) = k * -(b : Int) := h
    apply key; rw [← e]
    have : -((k.natAbs * b : Nat) : Int) = -(k * (b : Int)) := by rw [h', Int.mul_neg]
    omega
/-- a quotient of whole values that comes out even -/
theorem own_ddiv_int {k j : Int} {x y : UInt64} (hx : FP.Core.DInt (k * j) x) (hy : FP.Core.DInt j y) (hj : j ≠ 0) (hk : k.natAbs ≤ 2 ^ 53) : FP.Core.DInt k (FP.ddiv x y) := by
  have zx := own_zi hx
  have zy := own_zi hy
  have hz : own_z y ≠ 0 := by rw [zy]; exact Int.mul_ne_zero hj (by have := own_one; omega)
  have hq := own_quot (own_fini hx) (own_fini hy) hz
  have ha : (own_z x).natAbs = k.natAbs * (own_z y).natAbs := by rw [zx, zy, Int.mul_assoc, Int.natAbs_mul]
  have hb : 0 < (own_z y).natAbs := by omega
  show FP.Core.Whole k (FP.Core.val64 (FP.ddiv x y))
  rw [hq, ha, FP.Core.roundRatio_congr (A' := k.natAbs) (B' := 1) (e' := 0) hb (by decide) (by rw [Nat.mul_one])]
  refine FP.Core.whole_round FP.Core.good_b64 FP.Core.wide_b64 hk (d := .fin (FP.Core.sgn (FP.Core.val64 x) != FP.Core.sgn (FP.Core.val64 y)) k.natAbs 0) ?_
  show FP.Core.signed _ (k.natAbs * 1) = k * ((1 : Nat) : Int)
  rw [Nat.mul_one, show ((1 : Nat) : Int) = 1 from rfl, Int.mul_one]
  refine own_sgn_mul hb ?_
  have e1 : FP.Core.signed (FP.Core.sgn (FP.Core.val64 x)) (own_z x).natAbs = own_z x := by rw [own_zn]; rfl
  have e2 : FP.Core.signed (FP.Core.sgn (FP.Core.val64 y)) (own_z y).natAbs = own_z y := by rw [own_zn]; rfl
  rw [← ha, e1, e2, zx, zy, Int.mul_assoc]
theorem own_zmag_s (s : Bool) (A B : Nat) (e : Int) : FP.Core.zmag FP.Core.b64 (FP.Core.roundRatio FP.Core.b64 s A B e) = FP.Core.zmag FP.Core.b64 (FP.Core.roundRatio FP.Core.b64 false A B e) := by
  cases s with
  | false => rfl
  | true =>
    rw [show FP.Core.roundRatio FP.Core.b64 true A B e = FP.Core.negate (FP.Core.roundRatio FP.Core.b64 false A B e) from (FP.Core.negate_roundRatio FP.Core.b64 false A B e).symm]
    cases FP.Core.roundRatio FP.Core.b64 false A B e <;> rfl
theorem own_div_n {x y : UInt64} (hx : Fin64 x) (hy : Fin64 y) (hz : own_z y ≠ 0) : (own_z (FP.ddiv x y)).natAbs = FP.Core.zmag FP.Core.b64 (FP.Core.roundRatio FP.Core.b64 false (own_z x).natAbs (own_z y).natAbs 0) := by
  rw [own_zn, own_quot hx hy hz, own_zmag_s]
/-- two quotients of the same ratio, none below nought -/
theorem own_div_congr {x y x' y' : UInt64} (hx : Fin64 x) (hy : Fin64 y) (hz : own_z y ≠ 0) (hx' : Fin64 x') (hy' : Fin64 y') (hz' : own_z y' ≠ 0)
    (g1 : 0 ≤ own_z x) (g2 : 0 ≤ own_z y) (g3 : 0 ≤ own_z x') (g4 : 0 ≤ own_z y') (h : own_z x * own_z y' = own_z x' * own_z y) : own_z (FP.ddiv x y) = own_z (FP.ddiv x' y') := by
  have e1 := own_div_n hx hy hz
  have e2 := own_div_n hx' hy' hz'
  have k1 := own_div_ge0 hx hy hz g1 g2
  have k2 := own_div_ge0 hx' hy' hz' g3 g4
  have h' : (own_z x).natAbs * (own_z y').natAbs = (own_z x').natAbs * (own_z y).natAbs := by rw [← Int.natAbs_mul, ← Int.natAbs_mul, h]
  rw [FP.Core.roundRatio_congr (A' := (own_z x').natAbs) (B' := (own_z y').natAbs) (e' := 0) (by omega) (by omega) (by rw [h'])] at e1
  omega
/-- m * 2^k units is a double -/
theorem own_rep (m k : Nat) (hm : m < 2 ^ 53) (hk : k ≤ 2045) : ∃ V : UInt64, Fin64 V ∧ own_z V = ((m * 2 ^ k : Nat) : Int) := by
  have hq : FP.Core.b64.qmin = -1074 := FP.Core.qmin_b64
  have hq2 : FP.Core.b64.qmax = 971 := by decide
  obtain ⟨c, q, e1, e2⟩ := FP.Core.round_exact FP.Core.good_b64 false (c := m) (q := (k : Int) - 1074) hm (by rw [hq]; omega) (by rw [hq2]; omega)
  have hv : FP.Core.val64 (FP.Core.of64 (FP.Core.round FP.Core.b64 (.fin false m ((k : Int) - 1074)))) = .fin false c q := by
    rw [FP.Core.val64_of64 (FP.Core.round_fits FP.Core.good_b64 _), e1]
  refine ⟨_, Fl.fin64_core.mpr ⟨_, _, _, hv⟩, ?_⟩
  show FP.Core.zval FP.Core.b64 _ = _
  rw [hv]
  show ((FP.Core.inUnits c q FP.Core.b64.qmin : Nat) : Int) = _
  rw [e2, FP.Core.inUnits, hq, show ((k : Int) - 1074 - -1074).toNat = k by omega]
/-- a quotient that comes out even in some binary place -/
theorem own_div_exact {x y : UInt64} (hx : Fin64 x) (hy : Fin64 y) (hz : own_z y ≠ 0) (g1 : 0 ≤ own_z x) (g2 : 0 ≤ own_z y) (m k : Nat) (hm : m < 2 ^ 53) (hk : k ≤ 2045)
    (h : own_z x * (FP.Core.one64 : Int) = ((m * 2 ^ k : Nat) : Int) * own_z y) : own_z (FP.ddiv x y) = ((m * 2 ^ k : Nat) : Int) := by
  obtain ⟨V, fV, zV⟩ := own_rep m k hm hk
  have k1 := own_div_ge0 hx hy hz g1 g2
  have e1 := own_div_n hx hy hz
  have h3 : (own_z x).natAbs * FP.Core.one64 = (own_z V).natAbs * (own_z y).natAbs := by
    have := congrArg Int.natAbs h
    rw [Int.natAbs_mul, Int.natAbs_mul, ← zV] at this
    exact this
  have l1 := own_rr_le (s := false) (A := (own_z x).natAbs) (B := (own_z y).natAbs) (V := V) (by omega) fV.noNaN (Nat.le_of_eq h3)
  have l2 := own_rr_ge (s := false) (A := (own_z x).natAbs) (B := (own_z y).natAbs) (V := V) (by omega) (Nat.le_of_eq h3.symm)
  omega
theorem own_eqz {x y : UInt64} (o : CmpOp) (hx : NoNaN64 x) (hy : NoNaN64 y) (h : own_z x = own_z y) : cmpValue (FP.dcmp x y) o = 0 := by
  rw [own_cE o (own_cmpz hx hy), own_c_eq h]

theorem own_nan : cmpValue (FP.dcmp (9221120237041090560 : UInt64) (9221120237041090560 : UInt64)) .l = -1 := by decide +kernel
theorem own_q (p : Int64) : NoNaN64 (FP.ddiv (FP.l2d p) (4652218415073722368 : UInt64)) := Fl.ddiv_out (Fl.l2d_fin p).noNaN (by unfold Fin64; decide) (by unfold Nz64; decide)

def QrmR (Z : State) (a : Addr) (h0 : Heap) (n0 : Nat) (vQ : Option Value) (hQ : Heap) (LQ : List Loc) : Prop := vQ = none ∧ Fr n0 LQ ∧ hQ = h0
theorem ef_rmR (m : MethodId) (a : Addr) : entryFrame m #[(.ref a)] 1 = mkF m 0 #[vr a] [] := by first | (simp [entryFrame, mkF, argsToLocals, Value.category]; done) | rfl
abbrev mn0 : MethodName := ⟨"java/lang/Record", "<init>", "()V"⟩
theorem pn_java_lang_Record : plainName "java/lang/Record" = true := by first | (simp [plainName, overriddenIn]; done) | decide +kernel
theorem d_jdk_30_method_1_code_0 : decode jdk_30_method_1_code 0 = .ok (.aload_n 0, 1) := by decide +kernel
theorem d_jdk_30_method_1_code_1 : decode jdk_30_method_1_code 1 = .ok (.invokespecial 1, 3) := by decide +kernel
def tw15 {Z : State} {a0 : Array Value} (hw : ∀ d ∈ tables_1, d.before a0 Z = true) := hw _ (List.mem_of_getElem? (i := 15) rfl)
def tw16 {Z : State} {a0 : Array Value} (hw : ∀ d ∈ tables_1, d.before a0 Z = true) := hw _ (List.mem_of_getElem? (i := 16) rfl)
def tw17 {Z : State} {a0 : Array Value} (hw : ∀ d ∈ tables_1, d.before a0 Z = true) := hw _ (List.mem_of_getElem? (i := 17) rfl)
theorem d_jdk_30_method_1_code_4 : decode jdk_30_method_1_code 4 = .ok (.return_, 1) := by decide +kernel
set_option maxRecDepth 65536 in
set_option maxHeartbeats 40000000 in
theorem rmR (l : Launch) (Z : State) (a0 : Array Value) (hw : ∀ d ∈ tables_1, d.before a0 Z = true) (ws : List Jvm.Cond) (a : Addr) (h0 : Heap) (n0 : Nat) (Z0 : n0 ≤ h0.size)  :
    MetFree l mn0 (head1 (Jvm.Cond.code mn0 jdk_30_method_1_code 1 none :: ws) ({ frames := 1, cells := 0, slots := 0, locals := 12 } : Room)) (fun aA U => aA = #[(.ref a)] ∧ Z.Warmed39 U.vm ∧ U.heap = h0) (fun _ _ _ _ _ => True) (fun _ U o U' => ∃ vR LR, o = .returned vR ∧ QrmR Z a h0 n0 vR U'.heap LR ∧ FrameEnd U o U' LR ({ frames := 1, cells := 0, slots := 0, locals := 12 } : Room).cells ({ frames := 1, cells := 0, slots := 0, locals := 12 } : Room).slots) := by
  refine MetFree.of_bodySF (plainFor_of_name pn_java_lang_Record) hisR ?_
  intro p e s m args below meth c s₁ Bd hml0 hPre hKk
  obtain ⟨rfl, hZ, hh⟩ := hPre
  have hx := Bd.exec
  have hby := Bd.bytes
  have hml : c.maxLocals = 1 := hml0
  have hown : s.vm.findClass "java/lang/Record" = some m.cls := findClass_of_methodNamed Bd.named
  have hnm := (name_of_methodNamed Bd.named Bd.method).1
  have X0 : Stand p l e ({ frames := 1, cells := 0, slots := 0, locals := 12 } : Room) s m #[(.ref a)] below meth c s₁ [] 0 0 := Stand.of_body Bd
  have e0 : s₁.heap = h0 := by rw [← hh, Bd.state]; rfl
  have N0 := Fr.nil n0
  obtain ⟨E0, hE0⟩ : ∃ zE : State, zE = s₁.setTop (entryFrame m #[(.ref a)] 1) := ⟨_, rfl⟩
  have k0 : own_G p e below E0 s₁ (mkF m 0 #[vr a] []) := fun tz kz => hE0 ▸ castTop (ef_rmR m a) kz
  have k1 : own_G p e below E0 s₁ (mkF m 1 #[vr a] [(.ref a)]) := by
    intro t kk
    refine k0 t ?_
    refine XS.aloadN X0.here hx rfl (hb hby d_jdk_30_method_1_code_0) rfl rfl ?_
    exact kk
  obtain ⟨T2, X3, e4, st5⟩ := initO X0 hx hZ hown (tw15 hw) (tw16 hw) (tw17 hw) e0 (g := (mkF m 1 #[vr a] [(.ref a)])) rfl (by rw [hml]; rfl) rfl (hb hby d_jdk_30_method_1_code_1) (by decide) (W := 0) (by show 2 * 0 + _ ≤ _; exact Nat.le_of_eq rfl) (by decide)
  have k6 : own_G p e below E0 T2 (mkF m 4 #[vr a] []) := fun t kk => k1 t (st5 _ kk)
  obtain ⟨fs, hr, hrun, hended, hW, hsame⟩ := X3.leave (v := none) (fun _ => rfl)
  have hrun0 := k6 _ (X3.returnOut hx Bd.returns (hb hby d_jdk_30_method_1_code_4) hr)
  subst hE0
  refine ⟨_, _, hrun0, hrun, hended, _, _, rfl, ?_, ⟨_, rfl⟩, hW, hsame.mono (by decide) (by decide)⟩
  show QrmR Z a h0 n0 _ T2.heap _
  rw [e4]
  exact ⟨rfl, N0, rfl⟩
abbrev fd1 (Z : State) (h : Heap) (a : Addr) (v : Value) : Prop := Fld Z h a "rootzone/CropDay" "kcb" "D" v
abbrev fd2 (Z : State) (h : Heap) (a : Addr) (v : Value) : Prop := Fld Z h a "rootzone/CropDay" "cc" "D" v
abbrev fd3 (Z : State) (h : Heap) (a : Addr) (v : Value) : Prop := Fld Z h a "rootzone/CropDay" "tu" "D" v
abbrev fd4 (Z : State) (h : Heap) (a : Addr) (v : Value) : Prop := Fld Z h a "rootzone/CropDay" "ctu" "D" v
def QrmI (Z : State) (a : Addr) (x0 : UInt64) (x1 : UInt64) (x2 : UInt64) (x3 : UInt64) (h0 : Heap) (n0 : Nat) (vQ : Option Value) (hQ : Heap) (LQ : List Loc) : Prop := vQ = none ∧ Fr n0 LQ ∧ Keep h0 hQ [a] ∧ (fd1 Z hQ a (.double x0)) ∧ (fd2 Z hQ a (.double x1)) ∧ (fd3 Z hQ a (.double x2)) ∧ (fd4 Z hQ a (.double x3))
theorem ef_rmI (m : MethodId) (a : Addr) (x0 : UInt64) (x1 : UInt64) (x2 : UInt64) (x3 : UInt64) : entryFrame m #[(.ref a), (.double x0), (.double x1), (.double x2), (.double x3)] 9 = mkF m 0 #[vr a, vd x0, ss, vd x1, ss, vd x2, ss, vd x3, ss] [] := by first | (simp [entryFrame, mkF, argsToLocals, Value.category]; done) | rfl
abbrev xa5 (Z : State) (h : Heap) (a : Addr) : Prop := Exa Z h a "rootzone/CropDay"
abbrev mn6 : MethodName := ⟨"rootzone/CropDay", "<init>", "(DDDD)V"⟩
theorem pn_rootzone_CropDay : plainName "rootzone/CropDay" = true := by first | (simp [plainName, overriddenIn]; done) | decide +kernel
theorem d_prog_4_method_1_code_0 : decode prog_4_method_1_code 0 = .ok (.aload_n 0, 1) := by decide +kernel
theorem d_prog_4_method_1_code_1 : decode prog_4_method_1_code 1 = .ok (.invokespecial 1, 3) := by decide +kernel
def tw10 {Z : State} {a0 : Array Value} (hw : ∀ d ∈ tables_1, d.before a0 Z = true) := hw _ (List.mem_of_getElem? (i := 10) rfl)
def tw14 {Z : State} {a0 : Array Value} (hw : ∀ d ∈ tables_1, d.before a0 Z = true) := hw _ (List.mem_of_getElem? (i := 14) rfl)
def tw13 {Z : State} {a0 : Array Value} (hw : ∀ d ∈ tables_1, d.before a0 Z = true) := hw _ (List.mem_of_getElem? (i := 13) rfl)
theorem pd_7 : parseMethodDescriptor "()V" = some ⟨[], none⟩ := by decide +kernel
def tw11 {Z : State} {a0 : Array Value} (hw : ∀ d ∈ tables_1, d.before a0 Z = true) := hw _ (List.mem_of_getElem? (i := 11) rfl)
theorem d_prog_4_method_1_code_4 : decode prog_4_method_1_code 4 = .ok (.aload_n 0, 1) := by decide +kernel
theorem d_prog_4_method_1_code_5 : decode prog_4_method_1_code 5 = .ok (.dload_n 1, 1) := by decide +kernel
theorem d_prog_4_method_1_code_6 : decode prog_4_method_1_code 6 = .ok (.putfield 7, 3) := by decide +kernel
def tw18 {Z : State} {a0 : Array Value} (hw : ∀ d ∈ tables_1, d.before a0 Z = true) := hw _ (List.mem_of_getElem? (i := 18) rfl)
def tw19 {Z : State} {a0 : Array Value} (hw : ∀ d ∈ tables_1, d.before a0 Z = true) := hw _ (List.mem_of_getElem? (i := 19) rfl)
def tw5 {Z : State} {a0 : Array Value} (hw : ∀ d ∈ tables_1, d.before a0 Z = true) := hw _ (List.mem_of_getElem? (i := 5) rfl)
def tw21 {Z : State} {a0 : Array Value} (hw : ∀ d ∈ tables_1, d.before a0 Z = true) := hw _ (List.mem_of_getElem? (i := 21) rfl)
def tw23 {Z : State} {a0 : Array Value} (hw : ∀ d ∈ tables_1, d.before a0 Z = true) := hw _ (List.mem_of_getElem? (i := 23) rfl)
def tw25 {Z : State} {a0 : Array Value} (hw : ∀ d ∈ tables_1, d.before a0 Z = true) := hw _ (List.mem_of_getElem? (i := 25) rfl)
theorem d_prog_4_method_1_code_9 : decode prog_4_method_1_code 9 = .ok (.aload_n 0, 1) := by decide +kernel
theorem d_prog_4_method_1_code_10 : decode prog_4_method_1_code 10 = .ok (.dload_n 3, 1) := by decide +kernel
theorem d_prog_4_method_1_code_11 : decode prog_4_method_1_code 11 = .ok (.putfield 13, 3) := by decide +kernel
def tw20 {Z : State} {a0 : Array Value} (hw : ∀ d ∈ tables_1, d.before a0 Z = true) := hw _ (List.mem_of_getElem? (i := 20) rfl)
theorem d_prog_4_method_1_code_14 : decode prog_4_method_1_code 14 = .ok (.aload_n 0, 1) := by decide +kernel
theorem d_prog_4_method_1_code_15 : decode prog_4_method_1_code 15 = .ok (.dload 5, 2) := by decide +kernel
theorem d_prog_4_method_1_code_17 : decode prog_4_method_1_code 17 = .ok (.putfield 16, 3) := by decide +kernel
def tw22 {Z : State} {a0 : Array Value} (hw : ∀ d ∈ tables_1, d.before a0 Z = true) := hw _ (List.mem_of_getElem? (i := 22) rfl)
theorem d_prog_4_method_1_code_20 : decode prog_4_method_1_code 20 = .ok (.aload_n 0, 1) := by decide +kernel
theorem d_prog_4_method_1_code_21 : decode prog_4_method_1_code 21 = .ok (.dload 7, 2) := by decide +kernel
theorem d_prog_4_method_1_code_23 : decode prog_4_method_1_code 23 = .ok (.putfield 19, 3) := by decide +kernel
def tw24 {Z : State} {a0 : Array Value} (hw : ∀ d ∈ tables_1, d.before a0 Z = true) := hw _ (List.mem_of_getElem? (i := 24) rfl)
theorem d_prog_4_method_1_code_26 : decode prog_4_method_1_code 26 = .ok (.return_, 1) := by decide +kernel
set_option maxRecDepth 65536 in
set_option maxHeartbeats 40000000 in
theorem rmI (l : Launch) (Z : State) (a0 : Array Value) (hw : ∀ d ∈ tables_1, d.before a0 Z = true) (ws : List Jvm.Cond) (a : Addr) (x0 : UInt64) (x1 : UInt64) (x2 : UInt64) (x3 : UInt64) (h0 : Heap) (n0 : Nat) (Z0 : n0 ≤ h0.size) (E1 : xa5 Z h0 a) (F0 : fd1 Z h0 a (.double (0 : UInt64))) (F1 : fd2 Z h0 a (.double (0 : UInt64))) (F2 : fd3 Z h0 a (.double (0 : UInt64))) (F3 : fd4 Z h0 a (.double (0 : UInt64))) (ge_a : n0 ≤ a) :
    MetFree l mn6 (head1 (Jvm.Cond.code mn6 prog_4_method_1_code 9 none :: ws) ({ frames := 2, cells := 0, slots := 0, locals := 24 } : Room)) (fun aA U => aA = #[(.ref a), (.double x0), (.double x1), (.double x2), (.double x3)] ∧ Z.Warmed39 U.vm ∧ U.heap = h0) (fun _ _ _ _ _ => True) (fun _ U o U' => ∃ vR LR, o = .returned vR ∧ QrmI Z a x0 x1 x2 x3 h0 n0 vR U'.heap LR ∧ FrameEnd U o U' LR ({ frames := 2, cells := 0, slots := 0, locals := 24 } : Room).cells ({ frames := 2, cells := 0, slots := 0, locals := 24 } : Room).slots) := by
  refine MetFree.of_bodySF (plainFor_of_name pn_rootzone_CropDay) hisR ?_
  intro p e s m args below meth c s₁ Bd hml0 hPre hKk
  obtain ⟨rfl, hZ, hh⟩ := hPre
  have hx := Bd.exec
  have hby := Bd.bytes
  have hml : c.maxLocals = 9 := hml0
  have hown : s.vm.findClass "rootzone/CropDay" = some m.cls := findClass_of_methodNamed Bd.named
  have hnm := (name_of_methodNamed Bd.named Bd.method).1
  have X0 : Stand p l e ({ frames := 2, cells := 0, slots := 0, locals := 24 } : Room) s m #[(.ref a), (.double x0), (.double x1), (.double x2), (.double x3)] below meth c s₁ [] 0 0 := Stand.of_body Bd
  have e0 : s₁.heap = h0 := by rw [← hh, Bd.state]; rfl
  have N0 := Fr.nil n0
  obtain ⟨E0, hE0⟩ : ∃ zE : State, zE = s₁.setTop (entryFrame m #[(.ref a), (.double x0), (.double x1), (.double x2), (.double x3)] 9) := ⟨_, rfl⟩
  have k0 : own_G p e below E0 s₁ (mkF m 0 #[vr a, vd x0, ss, vd x1, ss, vd x2, ss, vd x3, ss] []) := fun tz kz => hE0 ▸ castTop (ef_rmI m a x0 x1 x2 x3) kz
  have K0 : Keep h0 h0 [a] := Keep.refl _ _
  have k7 : own_G p e below E0 s₁ (mkF m 1 #[vr a, vd x0, ss, vd x1, ss, vd x2, ss, vd x3, ss] [(.ref a)]) := by
    intro t kk
    refine k0 t ?_
    refine XS.aloadN X0.here hx rfl (hb hby d_prog_4_method_1_code_0) rfl rfl ?_
    exact kk
  obtain ⟨_, _, ⟨T8, L9, kc10, nc11⟩, -, X12, ⟨Lc13, hQ14, l15, y16, z17⟩, st18⟩ := X0.specialBack hx (y := mn0) rfl hown (mvT hZ (tw10 hw)) (mvT hZ (tw11 hw)) (mvT hZ (tw14 hw)) (by decide) (backOf (W := 0) (rmR l Z a0 hw [] a h0 n0 Z0 ) hZ (tw14 hw) (tw13 hw) (by decide) (by decide)) (g := (mkF m 1 #[vr a, vd x0, ss, vd x1, ss, vd x2, ss, vd x3, ss] [(.ref a)])) rfl (by rw [hml]; rfl) (Steps.refl _) (a := a) (argsL := []) (rest := []) (lenOf pd_7 rfl) rfl (by show 2 * 0 + _ ≤ _; exact Nat.le_of_eq rfl) (hb hby d_prog_4_method_1_code_1) (fun _ _ => ⟨rfl, e0, (by decide : 0 + 0 ≤ _), (by decide : 0 + 0 ≤ _)⟩)
  dsimp only [Pt.U, Pt.locs, Pt.cells, Pt.slots] at X12 l15 y16 z17 st18 hQ14
  subst l15 y16 z17
  obtain ⟨rfl, N19, e20⟩ := hQ14
  have N22 := Fr.app N0 N19
  have k23 : own_G p e below E0 T8 (mkF m 4 #[vr a, vd x0, ss, vd x1, ss, vd x2, ss, vd x3, ss] []) := fun t kk => k7 t (st18.trans kk)
  have k24 : own_G p e below E0 T8 (mkF m 6 #[vr a, vd x0, ss, vd x1, ss, vd x2, ss, vd x3, ss] [(.double x0), (.ref a)]) := by
    intro t kk
    refine k23 t ?_
    refine XS.aloadN X12.here hx rfl (hb hby d_prog_4_method_1_code_4) rfl rfl ?_
    refine XS.dloadN X12.here hx rfl (hb hby d_prog_4_method_1_code_5) rfl ?_
    exact kk
  obtain ⟨T25, h26, X27, e28, W29, st30⟩ := putF X12 hx hZ hown (host := "") (Or.inl (tw18 hw)) Via.refl e20 F0 E1 (Or.inr ⟨(tw19 hw), rfl, hnm⟩) (tw5 hw) (ty := .double) (by decide) rfl rfl (g := (mkF m 6 #[vr a, vd x0, ss, vd x1, ss, vd x2, ss, vd x3, ss] [(.double x0), (.ref a)])) rfl rfl (hb hby d_prog_4_method_1_code_6)
  have N31 := Fr.snoc X27 N22 ge_a
  have k32 : own_G p e below E0 T25 (mkF m 9 #[vr a, vd x0, ss, vd x1, ss, vd x2, ss, vd x3, ss] []) := fun t kk => k24 t (st30 _ kk)
  have F33 : xa5 Z h26 a := E1.wr W29
  have F34 : fd1 Z h26 a (.double x0) := F0.same W29
  have F35 : fd2 Z h26 a (.double (0 : UInt64)) := F1.other W29 (Or.inr (slot_ne (C := "rootzone/CropDay") (Or.inr (tw21 hw)) (Or.inr (tw19 hw)) (by decide) (t := .double) (t' := .double) (by decide) (by decide)))
  have F36 : fd3 Z h26 a (.double (0 : UInt64)) := F2.other W29 (Or.inr (slot_ne (C := "rootzone/CropDay") (Or.inr (tw23 hw)) (Or.inr (tw19 hw)) (by decide) (t := .double) (t' := .double) (by decide) (by decide)))
  have F37 : fd4 Z h26 a (.double (0 : UInt64)) := F3.other W29 (Or.inr (slot_ne (C := "rootzone/CropDay") (Or.inr (tw25 hw)) (Or.inr (tw19 hw)) (by decide) (t := .double) (t' := .double) (by decide) (by decide)))
  have Z38 : n0 ≤ h26.size := by rw [W29.size]; exact Z0
  have K39 : Keep h0 h26 [a] := K0.wr W29 (Or.inl (List.mem_of_getElem? (i := 0) rfl))
  have k40 : own_G p e below E0 T25 (mkF m 11 #[vr a, vd x0, ss, vd x1, ss, vd x2, ss, vd x3, ss] [(.double x1), (.ref a)]) := by
    intro t kk
    refine k32 t ?_
    refine XS.aloadN X27.here hx rfl (hb hby d_prog_4_method_1_code_9) rfl rfl ?_
    refine XS.dloadN X27.here hx rfl (hb hby d_prog_4_method_1_code_10) rfl ?_
    exact kk
  obtain ⟨T41, h42, X43, e44, W45, st46⟩ := putF X27 hx hZ hown (host := "") (Or.inl (tw20 hw)) Via.refl e28 F35 F33 (Or.inr ⟨(tw21 hw), rfl, hnm⟩) (tw5 hw) (ty := .double) (by decide) rfl rfl (g := (mkF m 11 #[vr a, vd x0, ss, vd x1, ss, vd x2, ss, vd x3, ss] [(.double x1), (.ref a)])) rfl rfl (hb hby d_prog_4_method_1_code_11)
  have N47 := Fr.snoc X43 N31 ge_a
  have k48 : own_G p e below E0 T41 (mkF m 14 #[vr a, vd x0, ss, vd x1, ss, vd x2, ss, vd x3, ss] []) := fun t kk => k40 t (st46 _ kk)
  have F49 : xa5 Z h42 a := F33.wr W45
  have F50 : fd1 Z h42 a (.double x0) := F34.other W45 (Or.inr (slot_ne (C := "rootzone/CropDay") (Or.inr (tw19 hw)) (Or.inr (tw21 hw)) (by decide) (t := .double) (t' := .double) (by decide) (by decide)))
  have F51 : fd2 Z h42 a (.double x1) := F35.same W45
  have F52 : fd3 Z h42 a (.double (0 : UInt64)) := F36.other W45 (Or.inr (slot_ne (C := "rootzone/CropDay") (Or.inr (tw23 hw)) (Or.inr (tw21 hw)) (by decide) (t := .double) (t' := .double) (by decide) (by decide)))
  have F53 : fd4 Z h42 a (.double (0 : UInt64)) := F37.other W45 (Or.inr (slot_ne (C := "rootzone/CropDay") (Or.inr (tw25 hw)) (Or.inr (tw21 hw)) (by decide) (t := .double) (t' := .double) (by decide) (by decide)))
  have Z54 : n0 ≤ h42.size := by rw [W45.size]; exact Z38
  have K55 : Keep h0 h42 [a] := K39.wr W45 (Or.inl (List.mem_of_getElem? (i := 0) rfl))
  have k56 : own_G p e below E0 T41 (mkF m 17 #[vr a, vd x0, ss, vd x1, ss, vd x2, ss, vd x3, ss] [(.double x2), (.ref a)]) := by
    intro t kk
    refine k48 t ?_
    refine XS.aloadN X43.here hx rfl (hb hby d_prog_4_method_1_code_14) rfl rfl ?_
    refine XS.dload X43.here hx rfl (hb hby d_prog_4_method_1_code_15) rfl ?_
    exact kk
  obtain ⟨T57, h58, X59, e60, W61, st62⟩ := putF X43 hx hZ hown (host := "") (Or.inl (tw22 hw)) Via.refl e44 F52 F49 (Or.inr ⟨(tw23 hw), rfl, hnm⟩) (tw5 hw) (ty := .double) (by decide) rfl rfl (g := (mkF m 17 #[vr a, vd x0, ss, vd x1, ss, vd x2, ss, vd x3, ss] [(.double x2), (.ref a)])) rfl rfl (hb hby d_prog_4_method_1_code_17)
  have N63 := Fr.snoc X59 N47 ge_a
  have k64 : own_G p e below E0 T57 (mkF m 20 #[vr a, vd x0, ss, vd x1, ss, vd x2, ss, vd x3, ss] []) := fun t kk => k56 t (st62 _ kk)
  have F65 : xa5 Z h58 a := F49.wr W61
  have F66 : fd1 Z h58 a (.double x0) := F50.other W61 (Or.inr (slot_ne (C := "rootzone/CropDay") (Or.inr (tw19 hw)) (Or.inr (tw23 hw)) (by decide) (t := .double) (t' := .double) (by decide) (by decide)))
  have F67 : fd2 Z h58 a (.double x1) := F51.other W61 (Or.inr (slot_ne (C := "rootzone/CropDay") (Or.inr (tw21 hw)) (Or.inr (tw23 hw)) (by decide) (t := .double) (t' := .double) (by decide) (by decide)))
  have F68 : fd3 Z h58 a (.double x2) := F52.same W61
  have F69 : fd4 Z h58 a (.double (0 : UInt64)) := F53.other W61 (Or.inr (slot_ne (C := "rootzone/CropDay") (Or.inr (tw25 hw)) (Or.inr (tw23 hw)) (by decide) (t := .double) (t' := .double) (by decide) (by decide)))
  have Z70 : n0 ≤ h58.size := by rw [W61.size]; exact Z54
  have K71 : Keep h0 h58 [a] := K55.wr W61 (Or.inl (List.mem_of_getElem? (i := 0) rfl))
  have k72 : own_G p e below E0 T57 (mkF m 23 #[vr a, vd x0, ss, vd x1, ss, vd x2, ss, vd x3, ss] [(.double x3), (.ref a)]) := by
    intro t kk
    refine k64 t ?_
    refine XS.aloadN X59.here hx rfl (hb hby d_prog_4_method_1_code_20) rfl rfl ?_
    refine XS.dload X59.here hx rfl (hb hby d_prog_4_method_1_code_21) rfl ?_
    exact kk
  obtain ⟨T73, h74, X75, e76, W77, st78⟩ := putF X59 hx hZ hown (host := "") (Or.inl (tw24 hw)) Via.refl e60 F69 F65 (Or.inr ⟨(tw25 hw), rfl, hnm⟩) (tw5 hw) (ty := .double) (by decide) rfl rfl (g := (mkF m 23 #[vr a, vd x0, ss, vd x1, ss, vd x2, ss, vd x3, ss] [(.double x3), (.ref a)])) rfl rfl (hb hby d_prog_4_method_1_code_23)
  have N79 := Fr.snoc X75 N63 ge_a
  have k80 : own_G p e below E0 T73 (mkF m 26 #[vr a, vd x0, ss, vd x1, ss, vd x2, ss, vd x3, ss] []) := fun t kk => k72 t (st78 _ kk)
  have F81 : xa5 Z h74 a := F65.wr W77
  have F82 : fd1 Z h74 a (.double x0) := F66.other W77 (Or.inr (slot_ne (C := "rootzone/CropDay") (Or.inr (tw19 hw)) (Or.inr (tw25 hw)) (by decide) (t := .double) (t' := .double) (by decide) (by decide)))
  have F83 : fd2 Z h74 a (.double x1) := F67.other W77 (Or.inr (slot_ne (C := "rootzone/CropDay") (Or.inr (tw21 hw)) (Or.inr (tw25 hw)) (by decide) (t := .double) (t' := .double) (by decide) (by decide)))
  have F84 : fd3 Z h74 a (.double x2) := F68.other W77 (Or.inr (slot_ne (C := "rootzone/CropDay") (Or.inr (tw23 hw)) (Or.inr (tw25 hw)) (by decide) (t := .double) (t' := .double) (by decide) (by decide)))
  have F85 : fd4 Z h74 a (.double x3) := F69.same W77
  have Z86 : n0 ≤ h74.size := by rw [W77.size]; exact Z70
  have K87 : Keep h0 h74 [a] := K71.wr W77 (Or.inl (List.mem_of_getElem? (i := 0) rfl))
  obtain ⟨fs, hr, hrun, hended, hW, hsame⟩ := X75.leave (v := none) (fun _ => rfl)
  have hrun0 := k80 _ (X75.returnOut hx Bd.returns (hb hby d_prog_4_method_1_code_26) hr)
  subst hE0
  refine ⟨_, _, hrun0, hrun, hended, _, _, rfl, ?_, ⟨_, rfl⟩, hW, hsame.mono (by decide) (by decide)⟩
  show QrmI Z a x0 x1 x2 x3 h0 n0 _ T73.heap _
  rw [e76]
  exact ⟨rfl, N79, K87, F82, F83, F84, F85⟩
def QrmO (Z : State) (x : UInt64) (h0 : Heap) (n0 : Nat) (vQ : Option Value) (hQ : Heap) (LQ : List Loc) : Prop := ∃ (a : Addr), vQ = some (.ref a) ∧ Fr n0 LQ ∧ Keep h0 hQ [] ∧ (xa5 Z hQ a) ∧ (fd1 Z hQ a (.double x)) ∧ (fd2 Z hQ a (.double (9221120237041090560 : UInt64))) ∧ (fd3 Z hQ a (.double (9221120237041090560 : UInt64))) ∧ (fd4 Z hQ a (.double (9221120237041090560 : UInt64)))
theorem ef_rmO (m : MethodId) (x : UInt64) : entryFrame m #[(.double x)] 2 = mkF m 0 #[vd x, ss] [] := by first | (simp [entryFrame, mkF, argsToLocals, Value.category]; done) | rfl
abbrev mn8 : MethodName := ⟨"rootzone/CropDay", "of", "(D)Lrootzone/CropDay;"⟩
theorem d_prog_4_method_2_code_0 : decode prog_4_method_2_code 0 = .ok (.new 8, 3) := by decide +kernel
def tw4 {Z : State} {a0 : Array Value} (hw : ∀ d ∈ tables_1, d.before a0 Z = true) := hw _ (List.mem_of_getElem? (i := 4) rfl)
def tw2 {Z : State} {a0 : Array Value} (hw : ∀ d ∈ tables_1, d.before a0 Z = true) := hw _ (List.mem_of_getElem? (i := 2) rfl)
theorem d_prog_4_method_2_code_3 : decode prog_4_method_2_code 3 = .ok (.dup, 1) := by decide +kernel
theorem d_prog_4_method_2_code_4 : decode prog_4_method_2_code 4 = .ok (.dload_n 0, 1) := by decide +kernel
theorem d_prog_4_method_2_code_5 : decode prog_4_method_2_code 5 = .ok (.ldc2_w 24, 3) := by decide +kernel
def tw6 {Z : State} {a0 : Array Value} (hw : ∀ d ∈ tables_1, d.before a0 Z = true) := hw _ (List.mem_of_getElem? (i := 6) rfl)
theorem d_prog_4_method_2_code_8 : decode prog_4_method_2_code 8 = .ok (.ldc2_w 24, 3) := by decide +kernel
theorem d_prog_4_method_2_code_11 : decode prog_4_method_2_code 11 = .ok (.ldc2_w 24, 3) := by decide +kernel
theorem d_prog_4_method_2_code_14 : decode prog_4_method_2_code 14 = .ok (.invokespecial 26, 3) := by decide +kernel
def tw7 {Z : State} {a0 : Array Value} (hw : ∀ d ∈ tables_1, d.before a0 Z = true) := hw _ (List.mem_of_getElem? (i := 7) rfl)
def tw9 {Z : State} {a0 : Array Value} (hw : ∀ d ∈ tables_1, d.before a0 Z = true) := hw _ (List.mem_of_getElem? (i := 9) rfl)
theorem pd_9 : parseMethodDescriptor "(DDDD)V" = some ⟨[.double, .double, .double, .double], none⟩ := by decide +kernel
def tw8 {Z : State} {a0 : Array Value} (hw : ∀ d ∈ tables_1, d.before a0 Z = true) := hw _ (List.mem_of_getElem? (i := 8) rfl)
theorem d_prog_4_method_2_code_17 : decode prog_4_method_2_code 17 = .ok (.areturn, 1) := by decide +kernel
set_option maxRecDepth 65536 in
set_option maxHeartbeats 40000000 in
theorem rmO (l : Launch) (Z : State) (a0 : Array Value) (hw : ∀ d ∈ tables_1, d.before a0 Z = true) (ws : List Jvm.Cond) (x : UInt64) (h0 : Heap) (n0 : Nat) (Z0 : n0 ≤ h0.size)  :
    MetFree l mn8 (head1 (Jvm.Cond.code mn8 prog_4_method_2_code 2 (some (.object "rootzone/CropDay")) :: ws) ({ frames := 3, cells := 1, slots := 4, locals := 45 } : Room)) (fun aA U => aA = #[(.double x)] ∧ Z.Warmed39 U.vm ∧ U.heap = h0) (fun _ _ _ _ _ => True) (fun _ U o U' => ∃ vR LR, o = .returned vR ∧ QrmO Z x h0 n0 vR U'.heap LR ∧ FrameEnd U o U' LR ({ frames := 3, cells := 1, slots := 4, locals := 45 } : Room).cells ({ frames := 3, cells := 1, slots := 4, locals := 45 } : Room).slots) := by
  refine MetFree.of_bodySF (plainFor_of_name pn_rootzone_CropDay) hisR ?_
  intro p e s m args below meth c s₁ Bd hml0 hPre hKk
  obtain ⟨rfl, hZ, hh⟩ := hPre
  have hx := Bd.exec
  have hby := Bd.bytes
  have hml : c.maxLocals = 2 := hml0
  have hown : s.vm.findClass "rootzone/CropDay" = some m.cls := findClass_of_methodNamed Bd.named
  have hnm := (name_of_methodNamed Bd.named Bd.method).1
  have X0 : Stand p l e ({ frames := 3, cells := 1, slots := 4, locals := 45 } : Room) s m #[(.double x)] below meth c s₁ [] 0 0 := Stand.of_body Bd
  have e0 : s₁.heap = h0 := by rw [← hh, Bd.state]; rfl
  have N0 := Fr.nil n0
  obtain ⟨E0, hE0⟩ : ∃ zE : State, zE = s₁.setTop (entryFrame m #[(.double x)] 2) := ⟨_, rfl⟩
  have k0 : own_G p e below E0 s₁ (mkF m 0 #[vd x, ss] []) := fun tz kz => hE0 ▸ castTop (ef_rmO m x) kz
  have K0 : Keep h0 h0 [] := Keep.refl _ _
  obtain ⟨T88, h89, X90, e91, E92, A93, D94, -, st95⟩ := newO X0 hx hZ hown (tw4 hw) (tw5 hw) (tw2 hw) e0 (g := (mkF m 0 #[vd x, ss] [])) rfl (hb hby d_prog_4_method_2_code_0) (by decide) (by decide)
  obtain ⟨a96, g97⟩ : ∃ zA : Nat, zA = h0.size := ⟨_, rfl⟩
  rw [← g97] at A93 D94 st95
  have nw98 : h0.size ≤ a96 := by have := K0.1; omega
  have ge99 : n0 ≤ a96 := by have := Z0; omega
  have Z100 : n0 ≤ h89.size := Nat.le_trans Z0 E92.1
  have K101 : Keep h0 h89 [] := K0.ext E92
  have F102 : Fld Z h89 a96 "rootzone/CropDay" "kcb" "D" (.double (0 : UInt64)) := (D94 (Or.inr (tw19 hw)) (ty := .double) (by decide))
  have F103 : Fld Z h89 a96 "rootzone/CropDay" "cc" "D" (.double (0 : UInt64)) := (D94 (Or.inr (tw21 hw)) (ty := .double) (by decide))
  have F104 : Fld Z h89 a96 "rootzone/CropDay" "tu" "D" (.double (0 : UInt64)) := (D94 (Or.inr (tw23 hw)) (ty := .double) (by decide))
  have F105 : Fld Z h89 a96 "rootzone/CropDay" "ctu" "D" (.double (0 : UInt64)) := (D94 (Or.inr (tw25 hw)) (ty := .double) (by decide))
  have k106 : own_G p e below E0 T88 (mkF m 3 #[vd x, ss] [(.ref a96)]) := fun t kk => k0 t (st95 _ kk)
  have k107 : own_G p e below E0 T88 (mkF m 5 #[vd x, ss] [(.double x), (.ref a96), (.ref a96)]) := by
    intro t kk
    refine k106 t ?_
    refine XS.dup X90.here hx rfl (hb hby d_prog_4_method_2_code_3) rfl rfl ?_
    refine XS.dloadN X90.here hx rfl (hb hby d_prog_4_method_2_code_4) rfl ?_
    exact kk
  have st108 := X90.ldc2DoubleC hx hown (mvT hZ (tw6 hw)) (g := (mkF m 5 #[vd x, ss] [(.double x), (.ref a96), (.ref a96)])) rfl (hb hby d_prog_4_method_2_code_5)
  have k109 : own_G p e below E0 T88 (mkF m 8 #[vd x, ss] [(.double (9221120237041090560 : UInt64)), (.double x), (.ref a96), (.ref a96)]) := fun t kk => k107 t (st108 _ kk)
  have st110 := X90.ldc2DoubleC hx hown (mvT hZ (tw6 hw)) (g := (mkF m 8 #[vd x, ss] [(.double (9221120237041090560 : UInt64)), (.double x), (.ref a96), (.ref a96)])) rfl (hb hby d_prog_4_method_2_code_8)
  have k111 : own_G p e below E0 T88 (mkF m 11 #[vd x, ss] [(.double (9221120237041090560 : UInt64)), (.double (9221120237041090560 : UInt64)), (.double x), (.ref a96), (.ref a96)]) := fun t kk => k109 t (st110 _ kk)
  have st112 := X90.ldc2DoubleC hx hown (mvT hZ (tw6 hw)) (g := (mkF m 11 #[vd x, ss] [(.double (9221120237041090560 : UInt64)), (.double (9221120237041090560 : UInt64)), (.double x), (.ref a96), (.ref a96)])) rfl (hb hby d_prog_4_method_2_code_11)
  have k113 : own_G p e below E0 T88 (mkF m 14 #[vd x, ss] [(.double (9221120237041090560 : UInt64)), (.double (9221120237041090560 : UInt64)), (.double (9221120237041090560 : UInt64)), (.double x), (.ref a96), (.ref a96)]) := fun t kk => k111 t (st112 _ kk)
  obtain ⟨_, _, ⟨T114, L115, kc116, nc117⟩, -, X118, ⟨Lc119, hQ120, l121, y122, z123⟩, st124⟩ := X90.specialBack hx (y := mn6) rfl hown (mvT hZ (tw7 hw)) (mvT hZ (tw8 hw)) (mvT hZ (tw9 hw)) (by decide) (backOf (W := 1) (rmI l Z a0 hw [] a96 x (9221120237041090560 : UInt64) (9221120237041090560 : UInt64) (9221120237041090560 : UInt64) h89 n0 Z100 A93 F102 F103 F104 F105 ge99) hZ (tw9 hw) (tw2 hw) (by decide) (by decide)) (g := (mkF m 14 #[vd x, ss] [(.double (9221120237041090560 : UInt64)), (.double (9221120237041090560 : UInt64)), (.double (9221120237041090560 : UInt64)), (.double x), (.ref a96), (.ref a96)])) rfl (by rw [hml]; rfl) (Steps.refl _) (a := a96) (argsL := [(.double x), (.double (9221120237041090560 : UInt64)), (.double (9221120237041090560 : UInt64)), (.double (9221120237041090560 : UInt64))]) (rest := [(.ref a96)]) (lenOf pd_9 rfl) rfl (by show 2 * 0 + _ ≤ _; exact Nat.le_of_eq rfl) (hb hby d_prog_4_method_2_code_14) (fun _ _ => ⟨rfl, e91, (by decide : 1 + 0 ≤ _), (by decide : 4 + 0 ≤ _)⟩)
  dsimp only [Pt.U, Pt.locs, Pt.cells, Pt.slots] at X118 l121 y122 z123 st124 hQ120
  subst l121 y122 z123
  obtain ⟨rfl, N125, K128, g129, g130, g131, g132⟩ := hQ120
  have N133 := Fr.app N0 N125
  have Z134 : n0 ≤ T114.heap.size := Nat.le_trans Z100 K128.1
  have F135 : xa5 Z T114.heap a96 := A93.keep K128
  have K140 : Keep h0 T114.heap [] := K101.trans K128 (allS (Or.inr nw98) all0)
  have k141 : own_G p e below E0 T114 (mkF m 17 #[vd x, ss] [(.ref a96)]) := fun t kk => k113 t (st124.trans kk)
  obtain ⟨fs, hr, hrun, hended, hW, hsame⟩ := X118.leave (v := some (.ref a96)) (fun h => by rw [Bd.returns] at h; cases h)
  have hrun0 := k141 _ (retOut X118 hx Bd.returns (t := (.object "rootzone/CropDay")) rfl (Or.inr (Or.inr (Or.inr (Or.inr ⟨rfl, rfl, rfl⟩)))) (hb hby d_prog_4_method_2_code_17) hr)
  subst hE0
  refine ⟨_, _, hrun0, hrun, hended, _, _, rfl, ?_, ⟨_, rfl⟩, hW, hsame.mono (by decide) (by decide)⟩
  show QrmO Z x h0 n0 _ T114.heap _
  exact ⟨a96, rfl, N133, K140, F135, g129, g130, g131, g132⟩
def QrmG0 (Z : State) (a : Addr) (x : UInt64) (h0 : Heap) (n0 : Nat) (vQ : Option Value) (hQ : Heap) (LQ : List Loc) : Prop := vQ = some (.double x) ∧ Fr n0 LQ ∧ hQ = h0
theorem ef_rmG0 (m : MethodId) (a : Addr) (x : UInt64) : entryFrame m #[(.ref a)] 1 = mkF m 0 #[vr a] [] := by first | (simp [entryFrame, mkF, argsToLocals, Value.category]; done) | rfl
abbrev mn10 : MethodName := ⟨"rootzone/CropDay", "kcb", "()D"⟩
theorem d_prog_4_method_6_code_0 : decode prog_4_method_6_code 0 = .ok (.aload_n 0, 1) := by decide +kernel
theorem d_prog_4_method_6_code_1 : decode prog_4_method_6_code 1 = .ok (.getfield 7, 3) := by decide +kernel
theorem d_prog_4_method_6_code_4 : decode prog_4_method_6_code 4 = .ok (.dreturn, 1) := by decide +kernel
set_option maxRecDepth 65536 in
set_option maxHeartbeats 40000000 in
theorem rmG0 (l : Launch) (Z : State) (a0 : Array Value) (hw : ∀ d ∈ tables_1, d.before a0 Z = true) (ws : List Jvm.Cond) (a : Addr) (x : UInt64) (h0 : Heap) (n0 : Nat) (Z0 : n0 ≤ h0.size) (F1 : fd1 Z h0 a (.double x)) :
    MetFree l mn10 (head1 (Jvm.Cond.code mn10 prog_4_method_6_code 1 (some .double) :: ws) ({ frames := 0, cells := 0, slots := 0, locals := 0 } : Room)) (fun aA U => aA = #[(.ref a)] ∧ Z.Warmed39 U.vm ∧ U.heap = h0) (fun _ _ _ _ _ => True) (fun _ U o U' => ∃ vR LR, o = .returned vR ∧ QrmG0 Z a x h0 n0 vR U'.heap LR ∧ FrameEnd U o U' LR ({ frames := 0, cells := 0, slots := 0, locals := 0 } : Room).cells ({ frames := 0, cells := 0, slots := 0, locals := 0 } : Room).slots) := by
  refine MetFree.of_bodySF (plainFor_of_name pn_rootzone_CropDay) hisR ?_
  intro p e s m args below meth c s₁ Bd hml0 hPre hKk
  obtain ⟨rfl, hZ, hh⟩ := hPre
  have hx := Bd.exec
  have hby := Bd.bytes
  have hml : c.maxLocals = 1 := hml0
  have hown : s.vm.findClass "rootzone/CropDay" = some m.cls := findClass_of_methodNamed Bd.named
  have hnm := (name_of_methodNamed Bd.named Bd.method).1
  have X0 : Stand p l e ({ frames := 0, cells := 0, slots := 0, locals := 0 } : Room) s m #[(.ref a)] below meth c s₁ [] 0 0 := Stand.of_body Bd
  have e0 : s₁.heap = h0 := by rw [← hh, Bd.state]; rfl
  have N0 := Fr.nil n0
  obtain ⟨E0, hE0⟩ : ∃ zE : State, zE = s₁.setTop (entryFrame m #[(.ref a)] 1) := ⟨_, rfl⟩
  have k0 : own_G p e below E0 s₁ (mkF m 0 #[vr a] []) := fun tz kz => hE0 ▸ castTop (ef_rmG0 m a x) kz
  have k142 : own_G p e below E0 s₁ (mkF m 1 #[vr a] [(.ref a)]) := by
    intro t kk
    refine k0 t ?_
    refine XS.aloadN X0.here hx rfl (hb hby d_prog_4_method_6_code_0) rfl rfl ?_
    exact kk
  obtain ⟨T143, X144, e145, st146⟩ := getF X0 hx hZ hown (host := "") (Or.inl (tw18 hw)) Via.refl e0 F1 (g := (mkF m 1 #[vr a] [(.ref a)])) rfl rfl (hb hby d_prog_4_method_6_code_1)
  have k147 : own_G p e below E0 T143 (mkF m 4 #[vr a] [(.double x)]) := fun t kk => k142 t (st146 _ kk)
  obtain ⟨fs, hr, hrun, hended, hW, hsame⟩ := X144.leave (v := some (.double x)) (fun h => by rw [Bd.returns] at h; cases h)
  have hrun0 := k147 _ (retOut X144 hx Bd.returns (t := .double) rfl (Or.inr (Or.inr (Or.inl ⟨rfl, rfl, _, rfl⟩))) (hb hby d_prog_4_method_6_code_4) hr)
  subst hE0
  refine ⟨_, _, hrun0, hrun, hended, _, _, rfl, ?_, ⟨_, rfl⟩, hW, hsame.mono (by decide) (by decide)⟩
  show QrmG0 Z a x h0 n0 _ T143.heap _
  rw [e145]
  exact ⟨rfl, N0, rfl⟩
def QrmG1 (Z : State) (a : Addr) (x : UInt64) (h0 : Heap) (n0 : Nat) (vQ : Option Value) (hQ : Heap) (LQ : List Loc) : Prop := vQ = some (.double x) ∧ Fr n0 LQ ∧ hQ = h0
theorem ef_rmG1 (m : MethodId) (a : Addr) (x : UInt64) : entryFrame m #[(.ref a)] 1 = mkF m 0 #[vr a] [] := by first | (simp [entryFrame, mkF, argsToLocals, Value.category]; done) | rfl
abbrev mn11 : MethodName := ⟨"rootzone/CropDay", "cc", "()D"⟩
theorem d_prog_4_method_7_code_0 : decode prog_4_method_7_code 0 = .ok (.aload_n 0, 1) := by decide +kernel
theorem d_prog_4_method_7_code_1 : decode prog_4_method_7_code 1 = .ok (.getfield 13, 3) := by decide +kernel
theorem d_prog_4_method_7_code_4 : decode prog_4_method_7_code 4 = .ok (.dreturn, 1) := by decide +kernel
set_option maxRecDepth 65536 in
set_option maxHeartbeats 40000000 in
theorem rmG1 (l : Launch) (Z : State) (a0 : Array Value) (hw : ∀ d ∈ tables_1, d.before a0 Z = true) (ws : List Jvm.Cond) (a : Addr) (x : UInt64) (h0 : Heap) (n0 : Nat) (Z0 : n0 ≤ h0.size) (F1 : fd2 Z h0 a (.double x)) :
    MetFree l mn11 (head1 (Jvm.Cond.code mn11 prog_4_method_7_code 1 (some .double) :: ws) ({ frames := 0, cells := 0, slots := 0, locals := 0 } : Room)) (fun aA U => aA = #[(.ref a)] ∧ Z.Warmed39 U.vm ∧ U.heap = h0) (fun _ _ _ _ _ => True) (fun _ U o U' => ∃ vR LR, o = .returned vR ∧ QrmG1 Z a x h0 n0 vR U'.heap LR ∧ FrameEnd U o U' LR ({ frames := 0, cells := 0, slots := 0, locals := 0 } : Room).cells ({ frames := 0, cells := 0, slots := 0, locals := 0 } : Room).slots) := by
  refine MetFree.of_bodySF (plainFor_of_name pn_rootzone_CropDay) hisR ?_
  intro p e s m args below meth c s₁ Bd hml0 hPre hKk
  obtain ⟨rfl, hZ, hh⟩ := hPre
  have hx := Bd.exec
  have hby := Bd.bytes
  have hml : c.maxLocals = 1 := hml0
  have hown : s.vm.findClass "rootzone/CropDay" = some m.cls := findClass_of_methodNamed Bd.named
  have hnm := (name_of_methodNamed Bd.named Bd.method).1
  have X0 : Stand p l e ({ frames := 0, cells := 0, slots := 0, locals := 0 } : Room) s m #[(.ref a)] below meth c s₁ [] 0 0 := Stand.of_body Bd
  have e0 : s₁.heap = h0 := by rw [← hh, Bd.state]; rfl
  have N0 := Fr.nil n0
  obtain ⟨E0, hE0⟩ : ∃ zE : State, zE = s₁.setTop (entryFrame m #[(.ref a)] 1) := ⟨_, rfl⟩
  have k0 : own_G p e below E0 s₁ (mkF m 0 #[vr a] []) := fun tz kz => hE0 ▸ castTop (ef_rmG1 m a x) kz
  have k148 : own_G p e below E0 s₁ (mkF m 1 #[vr a] [(.ref a)]) := by
    intro t kk
    refine k0 t ?_
    refine XS.aloadN X0.here hx rfl (hb hby d_prog_4_method_7_code_0) rfl rfl ?_
    exact kk
  obtain ⟨T149, X150, e151, st152⟩ := getF X0 hx hZ hown (host := "") (Or.inl (tw20 hw)) Via.refl e0 F1 (g := (mkF m 1 #[vr a] [(.ref a)])) rfl rfl (hb hby d_prog_4_method_7_code_1)
  have k153 : own_G p e below E0 T149 (mkF m 4 #[vr a] [(.double x)]) := fun t kk => k148 t (st152 _ kk)
  obtain ⟨fs, hr, hrun, hended, hW, hsame⟩ := X150.leave (v := some (.double x)) (fun h => by rw [Bd.returns] at h; cases h)
  have hrun0 := k153 _ (retOut X150 hx Bd.returns (t := .double) rfl (Or.inr (Or.inr (Or.inl ⟨rfl, rfl, _, rfl⟩))) (hb hby d_prog_4_method_7_code_4) hr)
  subst hE0
  refine ⟨_, _, hrun0, hrun, hended, _, _, rfl, ?_, ⟨_, rfl⟩, hW, hsame.mono (by decide) (by decide)⟩
  show QrmG1 Z a x h0 n0 _ T149.heap _
  rw [e151]
  exact ⟨rfl, N0, rfl⟩
def QrmG2 (Z : State) (a : Addr) (x : UInt64) (h0 : Heap) (n0 : Nat) (vQ : Option Value) (hQ : Heap) (LQ : List Loc) : Prop := vQ = some (.double x) ∧ Fr n0 LQ ∧ hQ = h0
theorem ef_rmG2 (m : MethodId) (a : Addr) (x : UInt64) : entryFrame m #[(.ref a)] 1 = mkF m 0 #[vr a] [] := by first | (simp [entryFrame, mkF, argsToLocals, Value.category]; done) | rfl
abbrev mn12 : MethodName := ⟨"rootzone/CropDay", "tu", "()D"⟩
theorem d_prog_4_method_8_code_0 : decode prog_4_method_8_code 0 = .ok (.aload_n 0, 1) := by decide +kernel
theorem d_prog_4_method_8_code_1 : decode prog_4_method_8_code 1 = .ok (.getfield 16, 3) := by decide +kernel
theorem d_prog_4_method_8_code_4 : decode prog_4_method_8_code 4 = .ok (.dreturn, 1) := by decide +kernel
set_option maxRecDepth 65536 in
set_option maxHeartbeats 40000000 in
theorem rmG2 (l : Launch) (Z : State) (a0 : Array Value) (hw : ∀ d ∈ tables_1, d.before a0 Z = true) (ws : List Jvm.Cond) (a : Addr) (x : UInt64) (h0 : Heap) (n0 : Nat) (Z0 : n0 ≤ h0.size) (F1 : fd3 Z h0 a (.double x)) :
    MetFree l mn12 (head1 (Jvm.Cond.code mn12 prog_4_method_8_code 1 (some .double) :: ws) ({ frames := 0, cells := 0, slots := 0, locals := 0 } : Room)) (fun aA U => aA = #[(.ref a)] ∧ Z.Warmed39 U.vm ∧ U.heap = h0) (fun _ _ _ _ _ => True) (fun _ U o U' => ∃ vR LR, o = .returned vR ∧ QrmG2 Z a x h0 n0 vR U'.heap LR ∧ FrameEnd U o U' LR ({ frames := 0, cells := 0, slots := 0, locals := 0 } : Room).cells ({ frames := 0, cells := 0, slots := 0, locals := 0 } : Room).slots) := by
  refine MetFree.of_bodySF (plainFor_of_name pn_rootzone_CropDay) hisR ?_
  intro p e s m args below meth c s₁ Bd hml0 hPre hKk
  obtain ⟨rfl, hZ, hh⟩ := hPre
  have hx := Bd.exec
  have hby := Bd.bytes
  have hml : c.maxLocals = 1 := hml0
  have hown : s.vm.findClass "rootzone/CropDay" = some m.cls := findClass_of_methodNamed Bd.named
  have hnm := (name_of_methodNamed Bd.named Bd.method).1
  have X0 : Stand p l e ({ frames := 0, cells := 0, slots := 0, locals := 0 } : Room) s m #[(.ref a)] below meth c s₁ [] 0 0 := Stand.of_body Bd
  have e0 : s₁.heap = h0 := by rw [← hh, Bd.state]; rfl
  have N0 := Fr.nil n0
  obtain ⟨E0, hE0⟩ : ∃ zE : State, zE = s₁.setTop (entryFrame m #[(.ref a)] 1) := ⟨_, rfl⟩
  have k0 : own_G p e below E0 s₁ (mkF m 0 #[vr a] []) := fun tz kz => hE0 ▸ castTop (ef_rmG2 m a x) kz
  have k154 : own_G p e below E0 s₁ (mkF m 1 #[vr a] [(.ref a)]) := by
    intro t kk
    refine k0 t ?_
    refine XS.aloadN X0.here hx rfl (hb hby d_prog_4_method_8_code_0) rfl rfl ?_
    exact kk
  obtain ⟨T155, X156, e157, st158⟩ := getF X0 hx hZ hown (host := "") (Or.inl (tw22 hw)) Via.refl e0 F1 (g := (mkF m 1 #[vr a] [(.ref a)])) rfl rfl (hb hby d_prog_4_method_8_code_1)
  have k159 : own_G p e below E0 T155 (mkF m 4 #[vr a] [(.double x)]) := fun t kk => k154 t (st158 _ kk)
  obtain ⟨fs, hr, hrun, hended, hW, hsame⟩ := X156.leave (v := some (.double x)) (fun h => by rw [Bd.returns] at h; cases h)
  have hrun0 := k159 _ (retOut X156 hx Bd.returns (t := .double) rfl (Or.inr (Or.inr (Or.inl ⟨rfl, rfl, _, rfl⟩))) (hb hby d_prog_4_method_8_code_4) hr)
  subst hE0
  refine ⟨_, _, hrun0, hrun, hended, _, _, rfl, ?_, ⟨_, rfl⟩, hW, hsame.mono (by decide) (by decide)⟩
  show QrmG2 Z a x h0 n0 _ T155.heap _
  rw [e157]
  exact ⟨rfl, N0, rfl⟩
def QrmG3 (Z : State) (a : Addr) (x : UInt64) (h0 : Heap) (n0 : Nat) (vQ : Option Value) (hQ : Heap) (LQ : List Loc) : Prop := vQ = some (.double x) ∧ Fr n0 LQ ∧ hQ = h0
theorem ef_rmG3 (m : MethodId) (a : Addr) (x : UInt64) : entryFrame m #[(.ref a)] 1 = mkF m 0 #[vr a] [] := by first | (simp [entryFrame, mkF, argsToLocals, Value.category]; done) | rfl
abbrev mn13 : MethodName := ⟨"rootzone/CropDay", "ctu", "()D"⟩
theorem d_prog_4_method_9_code_0 : decode prog_4_method_9_code 0 = .ok (.aload_n 0, 1) := by decide +kernel
theorem d_prog_4_method_9_code_1 : decode prog_4_method_9_code 1 = .ok (.getfield 19, 3) := by decide +kernel
theorem d_prog_4_method_9_code_4 : decode prog_4_method_9_code 4 = .ok (.dreturn, 1) := by decide +kernel
set_option maxRecDepth 65536 in
set_option maxHeartbeats 40000000 in
theorem rmG3 (l : Launch) (Z : State) (a0 : Array Value) (hw : ∀ d ∈ tables_1, d.before a0 Z = true) (ws : List Jvm.Cond) (a : Addr) (x : UInt64) (h0 : Heap) (n0 : Nat) (Z0 : n0 ≤ h0.size) (F1 : fd4 Z h0 a (.double x)) :
    MetFree l mn13 (head1 (Jvm.Cond.code mn13 prog_4_method_9_code 1 (some .double) :: ws) ({ frames := 0, cells := 0, slots := 0, locals := 0 } : Room)) (fun aA U => aA = #[(.ref a)] ∧ Z.Warmed39 U.vm ∧ U.heap = h0) (fun _ _ _ _ _ => True) (fun _ U o U' => ∃ vR LR, o = .returned vR ∧ QrmG3 Z a x h0 n0 vR U'.heap LR ∧ FrameEnd U o U' LR ({ frames := 0, cells := 0, slots := 0, locals := 0 } : Room).cells ({ frames := 0, cells := 0, slots := 0, locals := 0 } : Room).slots) := by
  refine MetFree.of_bodySF (plainFor_of_name pn_rootzone_CropDay) hisR ?_
  intro p e s m args below meth c s₁ Bd hml0 hPre hKk
  obtain ⟨rfl, hZ, hh⟩ := hPre
  have hx := Bd.exec
  have hby := Bd.bytes
  have hml : c.maxLocals = 1 := hml0
  have hown : s.vm.findClass "rootzone/CropDay" = some m.cls := findClass_of_methodNamed Bd.named
  have hnm := (name_of_methodNamed Bd.named Bd.method).1
  have X0 : Stand p l e ({ frames := 0, cells := 0, slots := 0, locals := 0 } : Room) s m #[(.ref a)] below meth c s₁ [] 0 0 := Stand.of_body Bd
  have e0 : s₁.heap = h0 := by rw [← hh, Bd.state]; rfl
  have N0 := Fr.nil n0
  obtain ⟨E0, hE0⟩ : ∃ zE : State, zE = s₁.setTop (entryFrame m #[(.ref a)] 1) := ⟨_, rfl⟩
  have k0 : own_G p e below E0 s₁ (mkF m 0 #[vr a] []) := fun tz kz => hE0 ▸ castTop (ef_rmG3 m a x) kz
  have k160 : own_G p e below E0 s₁ (mkF m 1 #[vr a] [(.ref a)]) := by
    intro t kk
    refine k0 t ?_
    refine XS.aloadN X0.here hx rfl (hb hby d_prog_4_method_9_code_0) rfl rfl ?_
    exact kk
  obtain ⟨T161, X162, e163, st164⟩ := getF X0 hx hZ hown (host := "") (Or.inl (tw24 hw)) Via.refl e0 F1 (g := (mkF m 1 #[vr a] [(.ref a)])) rfl rfl (hb hby d_prog_4_method_9_code_1)
  have k165 : own_G p e below E0 T161 (mkF m 4 #[vr a] [(.double x)]) := fun t kk => k160 t (st164 _ kk)
  obtain ⟨fs, hr, hrun, hended, hW, hsame⟩ := X162.leave (v := some (.double x)) (fun h => by rw [Bd.returns] at h; cases h)
  have hrun0 := k165 _ (retOut X162 hx Bd.returns (t := .double) rfl (Or.inr (Or.inr (Or.inl ⟨rfl, rfl, _, rfl⟩))) (hb hby d_prog_4_method_9_code_4) hr)
  subst hE0
  refine ⟨_, _, hrun0, hrun, hended, _, _, rfl, ?_, ⟨_, rfl⟩, hW, hsame.mono (by decide) (by decide)⟩
  show QrmG3 Z a x h0 n0 _ T161.heap _
  rw [e163]
  exact ⟨rfl, N0, rfl⟩
def Qrm0 (Z : State) (p0 : Int32) (p1 : Int64) (p2 : Int32) (h0 : Heap) (n0 : Nat) (vQ : Option Value) (hQ : Heap) (LQ : List Loc) : Prop := vQ = some (.int (1 : Int32)) ∧ Fr n0 LQ
theorem ef_rm0 (m : MethodId) (p0 : Int32) (p1 : Int64) (p2 : Int32) : entryFrame m #[(.int p0), (.long p1), (.int p2)] maxLocals = mkF m 0 #[vi p0, vj p1, ss, vi p2, uu, uu, uu, uu, uu, uu, uu, uu, uu, uu, uu, uu, uu, uu, uu] [] := by first | (simp [entryFrame, mkF, argsToLocals, Value.category, maxLocals]; done) | rfl
theorem pn_rootzone_CropDayOfPinLaw : plainName "rootzone/CropDayOfPinLaw" = true := by first | (simp [plainName, overriddenIn]; done) | decide +kernel
def tw46 {Z : State} {a0 : Array Value} (hw : ∀ d ∈ tables_1, d.before a0 Z = true) := hw _ (List.mem_of_getElem? (i := 46) rfl)
def tw0 {Z : State} {a0 : Array Value} (hw : ∀ d ∈ tables_1, d.before a0 Z = true) := hw _ (List.mem_of_getElem? (i := 0) rfl)
def tw3 {Z : State} {a0 : Array Value} (hw : ∀ d ∈ tables_1, d.before a0 Z = true) := hw _ (List.mem_of_getElem? (i := 3) rfl)
theorem pd_14 : parseMethodDescriptor "(D)Lrootzone/CropDay;" = some ⟨[.double], some (.object "rootzone/CropDay")⟩ := by decide +kernel
def tw1 {Z : State} {a0 : Array Value} (hw : ∀ d ∈ tables_1, d.before a0 Z = true) := hw _ (List.mem_of_getElem? (i := 1) rfl)
def tw26 {Z : State} {a0 : Array Value} (hw : ∀ d ∈ tables_1, d.before a0 Z = true) := hw _ (List.mem_of_getElem? (i := 26) rfl)
def tw29 {Z : State} {a0 : Array Value} (hw : ∀ d ∈ tables_1, d.before a0 Z = true) := hw _ (List.mem_of_getElem? (i := 29) rfl)
def tw30 {Z : State} {a0 : Array Value} (hw : ∀ d ∈ tables_1, d.before a0 Z = true) := hw _ (List.mem_of_getElem? (i := 30) rfl)
theorem pd_15 : parseMethodDescriptor "()D" = some ⟨[], some .double⟩ := by decide +kernel
def tw27 {Z : State} {a0 : Array Value} (hw : ∀ d ∈ tables_1, d.before a0 Z = true) := hw _ (List.mem_of_getElem? (i := 27) rfl)
def tw28 {Z : State} {a0 : Array Value} (hw : ∀ d ∈ tables_1, d.before a0 Z = true) := hw _ (List.mem_of_getElem? (i := 28) rfl)
def tw31 {Z : State} {a0 : Array Value} (hw : ∀ d ∈ tables_1, d.before a0 Z = true) := hw _ (List.mem_of_getElem? (i := 31) rfl)
def tw34 {Z : State} {a0 : Array Value} (hw : ∀ d ∈ tables_1, d.before a0 Z = true) := hw _ (List.mem_of_getElem? (i := 34) rfl)
def tw35 {Z : State} {a0 : Array Value} (hw : ∀ d ∈ tables_1, d.before a0 Z = true) := hw _ (List.mem_of_getElem? (i := 35) rfl)
def tw32 {Z : State} {a0 : Array Value} (hw : ∀ d ∈ tables_1, d.before a0 Z = true) := hw _ (List.mem_of_getElem? (i := 32) rfl)
def tw33 {Z : State} {a0 : Array Value} (hw : ∀ d ∈ tables_1, d.before a0 Z = true) := hw _ (List.mem_of_getElem? (i := 33) rfl)
def tw36 {Z : State} {a0 : Array Value} (hw : ∀ d ∈ tables_1, d.before a0 Z = true) := hw _ (List.mem_of_getElem? (i := 36) rfl)
def tw39 {Z : State} {a0 : Array Value} (hw : ∀ d ∈ tables_1, d.before a0 Z = true) := hw _ (List.mem_of_getElem? (i := 39) rfl)
def tw40 {Z : State} {a0 : Array Value} (hw : ∀ d ∈ tables_1, d.before a0 Z = true) := hw _ (List.mem_of_getElem? (i := 40) rfl)
def tw37 {Z : State} {a0 : Array Value} (hw : ∀ d ∈ tables_1, d.before a0 Z = true) := hw _ (List.mem_of_getElem? (i := 37) rfl)
def tw38 {Z : State} {a0 : Array Value} (hw : ∀ d ∈ tables_1, d.before a0 Z = true) := hw _ (List.mem_of_getElem? (i := 38) rfl)
def tw41 {Z : State} {a0 : Array Value} (hw : ∀ d ∈ tables_1, d.before a0 Z = true) := hw _ (List.mem_of_getElem? (i := 41) rfl)
def tw44 {Z : State} {a0 : Array Value} (hw : ∀ d ∈ tables_1, d.before a0 Z = true) := hw _ (List.mem_of_getElem? (i := 44) rfl)
def tw45 {Z : State} {a0 : Array Value} (hw : ∀ d ∈ tables_1, d.before a0 Z = true) := hw _ (List.mem_of_getElem? (i := 45) rfl)
def tw42 {Z : State} {a0 : Array Value} (hw : ∀ d ∈ tables_1, d.before a0 Z = true) := hw _ (List.mem_of_getElem? (i := 42) rfl)
def tw43 {Z : State} {a0 : Array Value} (hw : ∀ d ∈ tables_1, d.before a0 Z = true) := hw _ (List.mem_of_getElem? (i := 43) rfl)
set_option maxRecDepth 65536 in
set_option maxHeartbeats 40000000 in
theorem rm0 (l : Launch) (Z : State) (a0 : Array Value) (hw : ∀ d ∈ tables_1, d.before a0 Z = true) (ws : List Jvm.Cond) (p0 : Int32) (p1 : Int64) (p2 : Int32) (h0 : Heap) (n0 : Nat) (Z0 : n0 ≤ h0.size)  :
    MetFree l x (head1 (Jvm.Cond.code x code maxLocals ret :: ws) room_1) (fun aA U => aA = #[(.int p0), (.long p1), (.int p2)] ∧ Z.Warmed39 U.vm ∧ U.heap = h0) (fun _ _ _ _ _ => True) (fun _ U o U' => ∃ vR LR, o = .returned vR ∧ Qrm0 Z p0 p1 p2 h0 n0 vR U'.heap LR ∧ FrameEnd U o U' LR 16 128) := by
  refine MetFree.of_bodySF (plainFor_of_name pn_rootzone_CropDayOfPinLaw) hisR ?_
  intro p e s m args below meth c s₁ Bd hml0 hPre hKk
  obtain ⟨rfl, hZ, hh⟩ := hPre
  have hx := Bd.exec
  have hby := Bd.bytes
  have hml : c.maxLocals = 19 := hml0
  have hown : s.vm.findClass "rootzone/CropDayOfPinLaw" = some m.cls := findClass_of_methodNamed Bd.named
  have hnm := (name_of_methodNamed Bd.named Bd.method).1
  have X0 : Stand p l e room_1 s m #[(.int p0), (.long p1), (.int p2)] below meth c s₁ [] 0 0 := Stand.of_body Bd
  have e0 : s₁.heap = h0 := by rw [← hh, Bd.state]; rfl
  have N0 := Fr.nil n0
  obtain ⟨E0, hE0⟩ : ∃ zE : State, zE = s₁.setTop (entryFrame m #[(.int p0), (.long p1), (.int p2)] maxLocals) := ⟨_, rfl⟩
  have k0 : own_G p e below E0 s₁ (mkF m 0 #[vi p0, vj p1, ss, vi p2, uu, uu, uu, uu, uu, uu, uu, uu, uu, uu, uu, uu, uu, uu, uu] []) := fun tz kz => hE0 ▸ castTop (ef_rm0 m p0 p1 p2) kz
  have k166 : own_G p e below E0 s₁ (mkF m 3 #[vi p0, vj p1, ss, vi p2, uu, uu, uu, uu, uu, uu, uu, uu, uu, uu, uu, uu, uu, uu, uu] [(.int (p2 &&& (1 : Int32)))]) := by
    intro t kk
    refine k0 t ?_
    refine XS.iloadN X0.here hx rfl (hb hby at_0) rfl ?_
    refine XS.iconst X0.here hx rfl (hb hby at_1) ?_
    refine XS.iand X0.here hx rfl (hb hby at_2) rfl ?_
    exact kk
  by_cases c167 : (p2 &&& (1 : Int32)) = 0
  · skip
    have k168 : own_G p e below E0 s₁ (mkF m 15 #[vi p0, vj p1, ss, vi p2, uu, uu, uu, uu, uu, uu, uu, uu, uu, uu, uu, uu, uu, uu, uu] [(.double (FP.l2d p1))]) := by
      intro t kk
      refine k166 t ?_
      refine XS.ifYes X0.here hx rfl (pc0 := 3) (pc' := 13) rfl (hb hby at_3) rfl (own_if_eqY c167) (by decide) (by decide) ?_
      refine XT.lloadN X0.here hx rfl (hb hby at_13) rfl ?_
      refine XS.l2dS X0.here hx rfl (hb hby at_14) rfl rfl ?_
      exact kk
    have st169 := X0.ldc2DoubleC hx hown (mvT hZ (tw46 hw)) (g := (mkF m 15 #[vi p0, vj p1, ss, vi p2, uu, uu, uu, uu, uu, uu, uu, uu, uu, uu, uu, uu, uu, uu, uu] [(.double (FP.l2d p1))])) rfl (hb hby at_15)
    have k170 : own_G p e below E0 s₁ (mkF m 18 #[vi p0, vj p1, ss, vi p2, uu, uu, uu, uu, uu, uu, uu, uu, uu, uu, uu, uu, uu, uu, uu] [(.double (4652218415073722368 : UInt64)), (.double (FP.l2d p1))]) := fun t kk => k168 t (st169 _ kk)
    have k171 : own_G p e below E0 s₁ (mkF m 23 #[vi p0, vj p1, ss, vi p2, vd (FP.ddiv (FP.l2d p1) (4652218415073722368 : UInt64)), ss, uu, uu, uu, uu, uu, uu, uu, uu, uu, uu, uu, uu, uu] [(.double (FP.ddiv (FP.l2d p1) (4652218415073722368 : UInt64)))]) := by
      intro t kk
      refine k170 t ?_
      refine XS.ddivS X0.here hx rfl (hb hby at_18) rfl (own_q p1) rfl ?_
      refine XS.dstore X0.here hx rfl (hb hby at_19) rfl (l' := #[vi p0, vj p1, ss, vi p2, vd (FP.ddiv (FP.l2d p1) (4652218415073722368 : UInt64)), ss, uu, uu, uu, uu, uu, uu, uu, uu, uu, uu, uu, uu, uu]) rfl ?_
      refine XS.dload X0.here hx rfl (hb hby at_21) rfl ?_
      exact kk
    obtain ⟨_, _, ⟨T172, L173, kc174, nc175⟩, -, X176, ⟨Lc177, hQ178, l179, y180, z181⟩, st182⟩ := Jvm.LawKit.callS X0 hx (y := mn8) hown (mvT hZ (tw0 hw)) (mvT hZ (tw1 hw)) (mvT hZ (tw2 hw)) (mvT hZ (tw3 hw)) (by decide) (backOf (W := 0) (rmO l Z a0 hw [] (FP.ddiv (FP.l2d p1) (4652218415073722368 : UInt64)) h0 n0 Z0 ) hZ (tw3 hw) (tw2 hw) (by decide) (by decide)) (g := (mkF m 23 #[vi p0, vj p1, ss, vi p2, vd (FP.ddiv (FP.l2d p1) (4652218415073722368 : UInt64)), ss, uu, uu, uu, uu, uu, uu, uu, uu, uu, uu, uu, uu, uu] [(.double (FP.ddiv (FP.l2d p1) (4652218415073722368 : UInt64)))])) rfl (by rw [hml]; rfl) (argsL := [(.double (FP.ddiv (FP.l2d p1) (4652218415073722368 : UInt64)))]) (rest := []) (lenOf pd_14 rfl) rfl (by show 2 * 0 + _ ≤ _; exact Nat.le_of_eq rfl) (hb hby at_23) (fun _ _ => ⟨rfl, e0, (by decide : 0 + 1 ≤ _), (by decide : 0 + 4 ≤ _)⟩)
    dsimp only [Pt.U, Pt.locs, Pt.cells, Pt.slots] at X176 l179 y180 z181 st182 hQ178
    subst l179 y180 z181
    obtain ⟨a186, rfl, N183, K187, g188, g189, g190, g191, g192⟩ := hQ178
    have N193 := Fr.app N0 N183
    have Z194 : n0 ≤ T172.heap.size := Nat.le_trans Z0 K187.1
    have k195 : own_G p e below E0 T172 (mkF m 26 #[vi p0, vj p1, ss, vi p2, vd (FP.ddiv (FP.l2d p1) (4652218415073722368 : UInt64)), ss, uu, uu, uu, uu, uu, uu, uu, uu, uu, uu, uu, uu, uu] [(.ref a186)]) := fun t kk => k171 t (st182 _ kk)
    have k196 : own_G p e below E0 T172 (mkF m 30 #[vi p0, vj p1, ss, vi p2, vd (FP.ddiv (FP.l2d p1) (4652218415073722368 : UInt64)), ss, vr a186, uu, uu, uu, uu, uu, uu, uu, uu, uu, uu, uu, uu] [(.ref a186)]) := by
      intro t kk
      refine k195 t ?_
      refine XS.astore X176.here hx rfl (hb hby at_26) rfl rfl (l' := #[vi p0, vj p1, ss, vi p2, vd (FP.ddiv (FP.l2d p1) (4652218415073722368 : UInt64)), ss, vr a186, uu, uu, uu, uu, uu, uu, uu, uu, uu, uu, uu, uu]) rfl ?_
      refine XS.aload X176.here hx rfl (hb hby at_28) rfl rfl ?_
      exact kk
    obtain ⟨cq208, kq209, qa210, qb211, qc212⟩ := isOf hZ rfl g188
    obtain ⟨_, _, ⟨T197, L198, kc199, nc200⟩, -, X201, ⟨Lc202, hQ203, l204, y205, z206⟩, st207⟩ := X176.virtualBack hx (y := mn10) (z := mn10) hown (mvT hZ (tw26 hw)) (mvT hZ (tw27 hw)) (notFace_of_selects (args := #[]) (mvT hZ (tw29 hw))) (mvT hZ (tw29 hw)) (mvT hZ (tw28 hw)) (by decide) (backOf (W := 0) (rmG0 l Z a0 hw [] a186 (FP.ddiv (FP.l2d p1) (4652218415073722368 : UInt64)) T172.heap n0 Z194 g189) hZ (tw30 hw) (tw2 hw) (by decide) (by decide)) qa210 qc212 (g := (mkF m 30 #[vi p0, vj p1, ss, vi p2, vd (FP.ddiv (FP.l2d p1) (4652218415073722368 : UInt64)), ss, vr a186, uu, uu, uu, uu, uu, uu, uu, uu, uu, uu, uu, uu] [(.ref a186)])) rfl (by rw [hml]; rfl) (Steps.refl _) (argsL := []) (rest := []) (lenOf pd_15 rfl) rfl (by show 2 * 0 + _ ≤ _; exact Nat.le_of_eq rfl) (hb hby at_30) (fun _ _ => ⟨rfl, rfl, (by decide : 1 + 0 ≤ _), (by decide : 4 + 0 ≤ _)⟩)
    dsimp only [Pt.U, Pt.locs, Pt.cells, Pt.slots] at X201 l204 y205 z206 st207 hQ203
    subst l204 y205 z206
    obtain ⟨rfl, N213, e214⟩ := hQ203
    have N216 := Fr.app N193 N213
    have k217 : own_G p e below E0 T197 (mkF m 33 #[vi p0, vj p1, ss, vi p2, vd (FP.ddiv (FP.l2d p1) (4652218415073722368 : UInt64)), ss, vr a186, uu, uu, uu, uu, uu, uu, uu, uu, uu, uu, uu, uu] [(.double (FP.ddiv (FP.l2d p1) (4652218415073722368 : UInt64)))]) := fun t kk => k196 t (st207.trans kk)
    have k218 : own_G p e below E0 T197 (mkF m 37 #[vi p0, vj p1, ss, vi p2, vd (FP.ddiv (FP.l2d p1) (4652218415073722368 : UInt64)), ss, vr a186, vd (FP.ddiv (FP.l2d p1) (4652218415073722368 : UInt64)), ss, uu, uu, uu, uu, uu, uu, uu, uu, uu, uu] [(.ref a186)]) := by
      intro t kk
      refine k217 t ?_
      refine XS.dstore X201.here hx rfl (hb hby at_33) rfl (l' := #[vi p0, vj p1, ss, vi p2, vd (FP.ddiv (FP.l2d p1) (4652218415073722368 : UInt64)), ss, vr a186, vd (FP.ddiv (FP.l2d p1) (4652218415073722368 : UInt64)), ss, uu, uu, uu, uu, uu, uu, uu, uu, uu, uu]) rfl ?_
      refine XS.aload X201.here hx rfl (hb hby at_35) rfl rfl ?_
      exact kk
    obtain ⟨cq230, kq231, qa232, qb233, qc234⟩ := isOf hZ e214 g188
    obtain ⟨_, _, ⟨T219, L220, kc221, nc222⟩, -, X223, ⟨Lc224, hQ225, l226, y227, z228⟩, st229⟩ := X201.virtualBack hx (y := mn11) (z := mn11) hown (mvT hZ (tw31 hw)) (mvT hZ (tw32 hw)) (notFace_of_selects (args := #[]) (mvT hZ (tw34 hw))) (mvT hZ (tw34 hw)) (mvT hZ (tw33 hw)) (by decide) (backOf (W := 0) (rmG1 l Z a0 hw [] a186 (9221120237041090560 : UInt64) T172.heap n0 Z194 g190) hZ (tw35 hw) (tw2 hw) (by decide) (by decide)) qa232 qc234 (g := (mkF m 37 #[vi p0, vj p1, ss, vi p2, vd (FP.ddiv (FP.l2d p1) (4652218415073722368 : UInt64)), ss, vr a186, vd (FP.ddiv (FP.l2d p1) (4652218415073722368 : UInt64)), ss, uu, uu, uu, uu, uu, uu, uu, uu, uu, uu] [(.ref a186)])) rfl (by rw [hml]; rfl) (Steps.refl _) (argsL := []) (rest := []) (lenOf pd_15 rfl) rfl (by show 2 * 0 + _ ≤ _; exact Nat.le_of_eq rfl) (hb hby at_37) (fun _ _ => ⟨rfl, e214, (by decide : 1 + 0 ≤ _), (by decide : 4 + 0 ≤ _)⟩)
    dsimp only [Pt.U, Pt.locs, Pt.cells, Pt.slots] at X223 l226 y227 z228 st229 hQ225
    subst l226 y227 z228
    obtain ⟨rfl, N235, e236⟩ := hQ225
    have N238 := Fr.app N216 N235
    have k239 : own_G p e below E0 T219 (mkF m 40 #[vi p0, vj p1, ss, vi p2, vd (FP.ddiv (FP.l2d p1) (4652218415073722368 : UInt64)), ss, vr a186, vd (FP.ddiv (FP.l2d p1) (4652218415073722368 : UInt64)), ss, uu, uu, uu, uu, uu, uu, uu, uu, uu, uu] [(.double (9221120237041090560 : UInt64))]) := fun t kk => k218 t (st229.trans kk)
    have k240 : own_G p e below E0 T219 (mkF m 44 #[vi p0, vj p1, ss, vi p2, vd (FP.ddiv (FP.l2d p1) (4652218415073722368 : UInt64)), ss, vr a186, vd (FP.ddiv (FP.l2d p1) (4652218415073722368 : UInt64)), ss, vd (9221120237041090560 : UInt64), ss, uu, uu, uu, uu, uu, uu, uu, uu] [(.ref a186)]) := by
      intro t kk
      refine k239 t ?_
      refine XS.dstore X223.here hx rfl (hb hby at_40) rfl (l' := #[vi p0, vj p1, ss, vi p2, vd (FP.ddiv (FP.l2d p1) (4652218415073722368 : UInt64)), ss, vr a186, vd (FP.ddiv (FP.l2d p1) (4652218415073722368 : UInt64)), ss, vd (9221120237041090560 : UInt64), ss, uu, uu, uu, uu, uu, uu, uu, uu]) rfl ?_
      refine XS.aload X223.here hx rfl (hb hby at_42) rfl rfl ?_
      exact kk
    obtain ⟨cq252, kq253, qa254, qb255, qc256⟩ := isOf hZ e236 g188
    obtain ⟨_, _, ⟨T241, L242, kc243, nc244⟩, -, X245, ⟨Lc246, hQ247, l248, y249, z250⟩, st251⟩ := X223.virtualBack hx (y := mn12) (z := mn12) hown (mvT hZ (tw36 hw)) (mvT hZ (tw37 hw)) (notFace_of_selects (args := #[]) (mvT hZ (tw39 hw))) (mvT hZ (tw39 hw)) (mvT hZ (tw38 hw)) (by decide) (backOf (W := 0) (rmG2 l Z a0 hw [] a186 (9221120237041090560 : UInt64) T172.heap n0 Z194 g191) hZ (tw40 hw) (tw2 hw) (by decide) (by decide)) qa254 qc256 (g := (mkF m 44 #[vi p0, vj p1, ss, vi p2, vd (FP.ddiv (FP.l2d p1) (4652218415073722368 : UInt64)), ss, vr a186, vd (FP.ddiv (FP.l2d p1) (4652218415073722368 : UInt64)), ss, vd (9221120237041090560 : UInt64), ss, uu, uu, uu, uu, uu, uu, uu, uu] [(.ref a186)])) rfl (by rw [hml]; rfl) (Steps.refl _) (argsL := []) (rest := []) (lenOf pd_15 rfl) rfl (by show 2 * 0 + _ ≤ _; exact Nat.le_of_eq rfl) (hb hby at_44) (fun _ _ => ⟨rfl, e236, (by decide : 1 + 0 ≤ _), (by decide : 4 + 0 ≤ _)⟩)
    dsimp only [Pt.U, Pt.locs, Pt.cells, Pt.slots] at X245 l248 y249 z250 st251 hQ247
    subst l248 y249 z250
    obtain ⟨rfl, N257, e258⟩ := hQ247
    have N260 := Fr.app N238 N257
    have k261 : own_G p e below E0 T241 (mkF m 47 #[vi p0, vj p1, ss, vi p2, vd (FP.ddiv (FP.l2d p1) (4652218415073722368 : UInt64)), ss, vr a186, vd (FP.ddiv (FP.l2d p1) (4652218415073722368 : UInt64)), ss, vd (9221120237041090560 : UInt64), ss, uu, uu, uu, uu, uu, uu, uu, uu] [(.double (9221120237041090560 : UInt64))]) := fun t kk => k240 t (st251.trans kk)
    have k262 : own_G p e below E0 T241 (mkF m 51 #[vi p0, vj p1, ss, vi p2, vd (FP.ddiv (FP.l2d p1) (4652218415073722368 : UInt64)), ss, vr a186, vd (FP.ddiv (FP.l2d p1) (4652218415073722368 : UInt64)), ss, vd (9221120237041090560 : UInt64), ss, vd (9221120237041090560 : UInt64), ss, uu, uu, uu, uu, uu, uu] [(.ref a186)]) := by
      intro t kk
      refine k261 t ?_
      refine XS.dstore X245.here hx rfl (hb hby at_47) rfl (l' := #[vi p0, vj p1, ss, vi p2, vd (FP.ddiv (FP.l2d p1) (4652218415073722368 : UInt64)), ss, vr a186, vd (FP.ddiv (FP.l2d p1) (4652218415073722368 : UInt64)), ss, vd (9221120237041090560 : UInt64), ss, vd (9221120237041090560 : UInt64), ss, uu, uu, uu, uu, uu, uu]) rfl ?_
      refine XS.aload X245.here hx rfl (hb hby at_49) rfl rfl ?_
      exact kk
    obtain ⟨cq274, kq275, qa276, qb277, qc278⟩ := isOf hZ e258 g188
    obtain ⟨_, _, ⟨T263, L264, kc265, nc266⟩, -, X267, ⟨Lc268, hQ269, l270, y271, z272⟩, st273⟩ := X245.virtualBack hx (y := mn13) (z := mn13) hown (mvT hZ (tw41 hw)) (mvT hZ (tw42 hw)) (notFace_of_selects (args := #[]) (mvT hZ (tw44 hw))) (mvT hZ (tw44 hw)) (mvT hZ (tw43 hw)) (by decide) (backOf (W := 0) (rmG3 l Z a0 hw [] a186 (9221120237041090560 : UInt64) T172.heap n0 Z194 g192) hZ (tw45 hw) (tw2 hw) (by decide) (by decide)) qa276 qc278 (g := (mkF m 51 #[vi p0, vj p1, ss, vi p2, vd (FP.ddiv (FP.l2d p1) (4652218415073722368 : UInt64)), ss, vr a186, vd (FP.ddiv (FP.l2d p1) (4652218415073722368 : UInt64)), ss, vd (9221120237041090560 : UInt64), ss, vd (9221120237041090560 : UInt64), ss, uu, uu, uu, uu, uu, uu] [(.ref a186)])) rfl (by rw [hml]; rfl) (Steps.refl _) (argsL := []) (rest := []) (lenOf pd_15 rfl) rfl (by show 2 * 0 + _ ≤ _; exact Nat.le_of_eq rfl) (hb hby at_51) (fun _ _ => ⟨rfl, e258, (by decide : 1 + 0 ≤ _), (by decide : 4 + 0 ≤ _)⟩)
    dsimp only [Pt.U, Pt.locs, Pt.cells, Pt.slots] at X267 l270 y271 z272 st273 hQ269
    subst l270 y271 z272
    obtain ⟨rfl, N279, e280⟩ := hQ269
    have N282 := Fr.app N260 N279
    have k283 : own_G p e below E0 T263 (mkF m 54 #[vi p0, vj p1, ss, vi p2, vd (FP.ddiv (FP.l2d p1) (4652218415073722368 : UInt64)), ss, vr a186, vd (FP.ddiv (FP.l2d p1) (4652218415073722368 : UInt64)), ss, vd (9221120237041090560 : UInt64), ss, vd (9221120237041090560 : UInt64), ss, uu, uu, uu, uu, uu, uu] [(.double (9221120237041090560 : UInt64))]) := fun t kk => k262 t (st273.trans kk)
    have k284 : own_G p e below E0 T263 (mkF m 141 #[vi p0, vj p1, ss, vi p2, vd (FP.ddiv (FP.l2d p1) (4652218415073722368 : UInt64)), ss, vr a186, vd (FP.ddiv (FP.l2d p1) (4652218415073722368 : UInt64)), ss, vd (9221120237041090560 : UInt64), ss, vd (9221120237041090560 : UInt64), ss, vd (9221120237041090560 : UInt64), ss, vi (1 : Int32), vi (1 : Int32), vi (1 : Int32), vi (1 : Int32)] [(.int (1 : Int32))]) := by
      intro t kk
      refine k283 t ?_
      refine XS.dstore X267.here hx rfl (hb hby at_54) rfl (l' := #[vi p0, vj p1, ss, vi p2, vd (FP.ddiv (FP.l2d p1) (4652218415073722368 : UInt64)), ss, vr a186, vd (FP.ddiv (FP.l2d p1) (4652218415073722368 : UInt64)), ss, vd (9221120237041090560 : UInt64), ss, vd (9221120237041090560 : UInt64), ss, vd (9221120237041090560 : UInt64), ss, uu, uu, uu, uu]) rfl ?_
      refine XS.dload X267.here hx rfl (hb hby at_56) rfl ?_
      refine XS.dload X267.here hx rfl (hb hby at_58) rfl ?_
      refine XS.dcmpS X267.here hx rfl (hb hby at_60) rfl (dcmpV_self (own_q p1) .l) ?_
      show Steps p.tables e below (T263.setTop (mkF m 61 #[vi p0, vj p1, ss, vi p2, vd (FP.ddiv (FP.l2d p1) (4652218415073722368 : UInt64)), ss, vr a186, vd (FP.ddiv (FP.l2d p1) (4652218415073722368 : UInt64)), ss, vd (9221120237041090560 : UInt64), ss, vd (9221120237041090560 : UInt64), ss, vd (9221120237041090560 : UInt64), ss, uu, uu, uu, uu] [(.int (0 : Int32))])) t
      refine XS.ifNo X267.here hx rfl (hb hby at_61) rfl (own_if_neN (by decide)) ?_
      refine XS.iconst X267.here hx rfl (hb hby at_64) ?_
      refine XS.goto X267.here hx rfl (pc0 := 65) (pc' := 69) rfl (hb hby at_65) (by decide) (by decide) ?_
      refine XS.istore X267.here hx rfl (hb hby at_69) rfl (l' := #[vi p0, vj p1, ss, vi p2, vd (FP.ddiv (FP.l2d p1) (4652218415073722368 : UInt64)), ss, vr a186, vd (FP.ddiv (FP.l2d p1) (4652218415073722368 : UInt64)), ss, vd (9221120237041090560 : UInt64), ss, vd (9221120237041090560 : UInt64), ss, vd (9221120237041090560 : UInt64), ss, vi (1 : Int32), uu, uu, uu]) rfl ?_
      show Steps p.tables e below (T263.setTop (mkF m 71 #[vi p0, vj p1, ss, vi p2, vd (FP.ddiv (FP.l2d p1) (4652218415073722368 : UInt64)), ss, vr a186, vd (FP.ddiv (FP.l2d p1) (4652218415073722368 : UInt64)), ss, vd (9221120237041090560 : UInt64), ss, vd (9221120237041090560 : UInt64), ss, vd (9221120237041090560 : UInt64), ss, vi (1 : Int32), uu, uu, uu] [])) t
      refine XS.dload X267.here hx rfl (hb hby at_71) rfl ?_
      refine XS.dload X267.here hx rfl (hb hby at_73) rfl ?_
      refine XS.dcmpS X267.here hx rfl (hb hby at_75) rfl own_nan ?_
      refine XS.ifNo X267.here hx rfl (hb hby at_76) rfl (own_if_eqN (by decide)) ?_
      show Steps p.tables e below (T263.setTop (mkF m 79 #[vi p0, vj p1, ss, vi p2, vd (FP.ddiv (FP.l2d p1) (4652218415073722368 : UInt64)), ss, vr a186, vd (FP.ddiv (FP.l2d p1) (4652218415073722368 : UInt64)), ss, vd (9221120237041090560 : UInt64), ss, vd (9221120237041090560 : UInt64), ss, vd (9221120237041090560 : UInt64), ss, vi (1 : Int32), uu, uu, uu] [])) t
      refine XS.iconst X267.here hx rfl (hb hby at_79) ?_
      refine XS.goto X267.here hx rfl (pc0 := 80) (pc' := 84) rfl (hb hby at_80) (by decide) (by decide) ?_
      refine XS.istore X267.here hx rfl (hb hby at_84) rfl (l' := #[vi p0, vj p1, ss, vi p2, vd (FP.ddiv (FP.l2d p1) (4652218415073722368 : UInt64)), ss, vr a186, vd (FP.ddiv (FP.l2d p1) (4652218415073722368 : UInt64)), ss, vd (9221120237041090560 : UInt64), ss, vd (9221120237041090560 : UInt64), ss, vd (9221120237041090560 : UInt64), ss, vi (1 : Int32), vi (1 : Int32), uu, uu]) rfl ?_
      refine XS.dload X267.here hx rfl (hb hby at_86) rfl ?_
      show Steps p.tables e below (T263.setTop (mkF m 88 #[vi p0, vj p1, ss, vi p2, vd (FP.ddiv (FP.l2d p1) (4652218415073722368 : UInt64)), ss, vr a186, vd (FP.ddiv (FP.l2d p1) (4652218415073722368 : UInt64)), ss, vd (9221120237041090560 : UInt64), ss, vd (9221120237041090560 : UInt64), ss, vd (9221120237041090560 : UInt64), ss, vi (1 : Int32), vi (1 : Int32), uu, uu] [(.double (9221120237041090560 : UInt64))])) t
      refine XS.dload X267.here hx rfl (hb hby at_88) rfl ?_
      refine XS.dcmpS X267.here hx rfl (hb hby at_90) rfl own_nan ?_
      refine XS.ifNo X267.here hx rfl (hb hby at_91) rfl (own_if_eqN (by decide)) ?_
      refine XS.iconst X267.here hx rfl (hb hby at_94) ?_
      show Steps p.tables e below (T263.setTop (mkF m 95 #[vi p0, vj p1, ss, vi p2, vd (FP.ddiv (FP.l2d p1) (4652218415073722368 : UInt64)), ss, vr a186, vd (FP.ddiv (FP.l2d p1) (4652218415073722368 : UInt64)), ss, vd (9221120237041090560 : UInt64), ss, vd (9221120237041090560 : UInt64), ss, vd (9221120237041090560 : UInt64), ss, vi (1 : Int32), vi (1 : Int32), uu, uu] [(.int (1 : Int32))])) t
      refine XS.goto X267.here hx rfl (pc0 := 95) (pc' := 99) rfl (hb hby at_95) (by decide) (by decide) ?_
      refine XS.istore X267.here hx rfl (hb hby at_99) rfl (l' := #[vi p0, vj p1, ss, vi p2, vd (FP.ddiv (FP.l2d p1) (4652218415073722368 : UInt64)), ss, vr a186, vd (FP.ddiv (FP.l2d p1) (4652218415073722368 : UInt64)), ss, vd (9221120237041090560 : UInt64), ss, vd (9221120237041090560 : UInt64), ss, vd (9221120237041090560 : UInt64), ss, vi (1 : Int32), vi (1 : Int32), vi (1 : Int32), uu]) rfl ?_
      refine XS.dload X267.here hx rfl (hb hby at_101) rfl ?_
      refine XS.dload X267.here hx rfl (hb hby at_103) rfl ?_
      show Steps p.tables e below (T263.setTop (mkF m 105 #[vi p0, vj p1, ss, vi p2, vd (FP.ddiv (FP.l2d p1) (4652218415073722368 : UInt64)), ss, vr a186, vd (FP.ddiv (FP.l2d p1) (4652218415073722368 : UInt64)), ss, vd (9221120237041090560 : UInt64), ss, vd (9221120237041090560 : UInt64), ss, vd (9221120237041090560 : UInt64), ss, vi (1 : Int32), vi (1 : Int32), vi (1 : Int32), uu] [(.double (9221120237041090560 : UInt64)), (.double (9221120237041090560 : UInt64))])) t
      refine XS.dcmpS X267.here hx rfl (hb hby at_105) rfl own_nan ?_
      refine XS.ifNo X267.here hx rfl (hb hby at_106) rfl (own_if_eqN (by decide)) ?_
      refine XS.iconst X267.here hx rfl (hb hby at_109) ?_
      refine XS.goto X267.here hx rfl (pc0 := 110) (pc' := 114) rfl (hb hby at_110) (by decide) (by decide) ?_
      show Steps p.tables e below (T263.setTop (mkF m 114 #[vi p0, vj p1, ss, vi p2, vd (FP.ddiv (FP.l2d p1) (4652218415073722368 : UInt64)), ss, vr a186, vd (FP.ddiv (FP.l2d p1) (4652218415073722368 : UInt64)), ss, vd (9221120237041090560 : UInt64), ss, vd (9221120237041090560 : UInt64), ss, vd (9221120237041090560 : UInt64), ss, vi (1 : Int32), vi (1 : Int32), vi (1 : Int32), uu] [(.int (1 : Int32))])) t
      refine XS.istore X267.here hx rfl (hb hby at_114) rfl (l' := #[vi p0, vj p1, ss, vi p2, vd (FP.ddiv (FP.l2d p1) (4652218415073722368 : UInt64)), ss, vr a186, vd (FP.ddiv (FP.l2d p1) (4652218415073722368 : UInt64)), ss, vd (9221120237041090560 : UInt64), ss, vd (9221120237041090560 : UInt64), ss, vd (9221120237041090560 : UInt64), ss, vi (1 : Int32), vi (1 : Int32), vi (1 : Int32), vi (1 : Int32)]) rfl ?_
      refine XS.iload X267.here hx rfl (hb hby at_116) rfl ?_
      refine XS.ifNo X267.here hx rfl (hb hby at_118) rfl (own_if_eqN (by decide)) ?_
      refine XS.iload X267.here hx rfl (hb hby at_121) rfl ?_
      show Steps p.tables e below (T263.setTop (mkF m 123 #[vi p0, vj p1, ss, vi p2, vd (FP.ddiv (FP.l2d p1) (4652218415073722368 : UInt64)), ss, vr a186, vd (FP.ddiv (FP.l2d p1) (4652218415073722368 : UInt64)), ss, vd (9221120237041090560 : UInt64), ss, vd (9221120237041090560 : UInt64), ss, vd (9221120237041090560 : UInt64), ss, vi (1 : Int32), vi (1 : Int32), vi (1 : Int32), vi (1 : Int32)] [(.int (1 : Int32))])) t
      refine XS.ifNo X267.here hx rfl (hb hby at_123) rfl (own_if_eqN (by decide)) ?_
      refine XS.iload X267.here hx rfl (hb hby at_126) rfl ?_
      refine XS.ifNo X267.here hx rfl (hb hby at_128) rfl (own_if_eqN (by decide)) ?_
      refine XS.iload X267.here hx rfl (hb hby at_131) rfl ?_
      show Steps p.tables e below (T263.setTop (mkF m 133 #[vi p0, vj p1, ss, vi p2, vd (FP.ddiv (FP.l2d p1) (4652218415073722368 : UInt64)), ss, vr a186, vd (FP.ddiv (FP.l2d p1) (4652218415073722368 : UInt64)), ss, vd (9221120237041090560 : UInt64), ss, vd (9221120237041090560 : UInt64), ss, vd (9221120237041090560 : UInt64), ss, vi (1 : Int32), vi (1 : Int32), vi (1 : Int32), vi (1 : Int32)] [(.int (1 : Int32))])) t
      refine XS.ifNo X267.here hx rfl (hb hby at_133) rfl (own_if_eqN (by decide)) ?_
      refine XS.iconst X267.here hx rfl (hb hby at_136) ?_
      refine XS.goto X267.here hx rfl (pc0 := 137) (pc' := 141) rfl (hb hby at_137) (by decide) (by decide) ?_
      exact kk
    obtain ⟨fs, hr, hrun, hended, hW, hsame⟩ := X267.leave (v := some (.int (1 : Int32))) (fun h => by rw [Bd.returns] at h; cases h)
    have hrun0 := k284 _ (retOut X267 hx Bd.returns (t := .boolean) rfl (Or.inl ⟨rfl, Or.inr (Or.inl rfl), _, rfl⟩) (hb hby at_141) hr)
    subst hE0
    refine ⟨_, _, hrun0, hrun, hended, _, _, rfl, ?_, ⟨_, rfl⟩, hW, hsame.mono (by decide) (by decide)⟩
    show Qrm0 Z p0 p1 p2 h0 n0 _ T263.heap _
    rw [e280]
    exact ⟨rfl, N282⟩
  · skip
    have k285 : own_G p e below E0 s₁ (mkF m 23 #[vi p0, vj p1, ss, vi p2, vd (FP.i2d p0), ss, uu, uu, uu, uu, uu, uu, uu, uu, uu, uu, uu, uu, uu] [(.double (FP.i2d p0))]) := by
      intro t kk
      refine k166 t ?_
      refine XS.ifNo X0.here hx rfl (hb hby at_3) rfl (own_if_eqN c167) ?_
      refine XS.iloadN X0.here hx rfl (hb hby at_6) rfl ?_
      refine XS.i2dS X0.here hx rfl (hb hby at_7) rfl rfl ?_
      refine XS.dstore X0.here hx rfl (hb hby at_8) rfl (l' := #[vi p0, vj p1, ss, vi p2, vd (FP.i2d p0), ss, uu, uu, uu, uu, uu, uu, uu, uu, uu, uu, uu, uu, uu]) rfl ?_
      show Steps p.tables e below (s₁.setTop (mkF m 10 #[vi p0, vj p1, ss, vi p2, vd (FP.i2d p0), ss, uu, uu, uu, uu, uu, uu, uu, uu, uu, uu, uu, uu, uu] [])) t
      refine XS.goto X0.here hx rfl (pc0 := 10) (pc' := 21) rfl (hb hby at_10) (by decide) (by decide) ?_
      refine XS.dload X0.here hx rfl (hb hby at_21) rfl ?_
      exact kk
    obtain ⟨_, _, ⟨T286, L287, kc288, nc289⟩, -, X290, ⟨Lc291, hQ292, l293, y294, z295⟩, st296⟩ := Jvm.LawKit.callS X0 hx (y := mn8) hown (mvT hZ (tw0 hw)) (mvT hZ (tw1 hw)) (mvT hZ (tw2 hw)) (mvT hZ (tw3 hw)) (by decide) (backOf (W := 0) (rmO l Z a0 hw [] (FP.i2d p0) h0 n0 Z0 ) hZ (tw3 hw) (tw2 hw) (by decide) (by decide)) (g := (mkF m 23 #[vi p0, vj p1, ss, vi p2, vd (FP.i2d p0), ss, uu, uu, uu, uu, uu, uu, uu, uu, uu, uu, uu, uu, uu] [(.double (FP.i2d p0))])) rfl (by rw [hml]; rfl) (argsL := [(.double (FP.i2d p0))]) (rest := []) (lenOf pd_14 rfl) rfl (by show 2 * 0 + _ ≤ _; exact Nat.le_of_eq rfl) (hb hby at_23) (fun _ _ => ⟨rfl, e0, (by decide : 0 + 1 ≤ _), (by decide : 0 + 4 ≤ _)⟩)
    dsimp only [Pt.U, Pt.locs, Pt.cells, Pt.slots] at X290 l293 y294 z295 st296 hQ292
    subst l293 y294 z295
    obtain ⟨a300, rfl, N297, K301, g302, g303, g304, g305, g306⟩ := hQ292
    have N307 := Fr.app N0 N297
    have Z308 : n0 ≤ T286.heap.size := Nat.le_trans Z0 K301.1
    have k309 : own_G p e below E0 T286 (mkF m 26 #[vi p0, vj p1, ss, vi p2, vd (FP.i2d p0), ss, uu, uu, uu, uu, uu, uu, uu, uu, uu, uu, uu, uu, uu] [(.ref a300)]) := fun t kk => k285 t (st296 _ kk)
    have k310 : own_G p e below E0 T286 (mkF m 30 #[vi p0, vj p1, ss, vi p2, vd (FP.i2d p0), ss, vr a300, uu, uu, uu, uu, uu, uu, uu, uu, uu, uu, uu, uu] [(.ref a300)]) := by
      intro t kk
      refine k309 t ?_
      refine XS.astore X290.here hx rfl (hb hby at_26) rfl rfl (l' := #[vi p0, vj p1, ss, vi p2, vd (FP.i2d p0), ss, vr a300, uu, uu, uu, uu, uu, uu, uu, uu, uu, uu, uu, uu]) rfl ?_
      refine XS.aload X290.here hx rfl (hb hby at_28) rfl rfl ?_
      exact kk
    obtain ⟨cq322, kq323, qa324, qb325, qc326⟩ := isOf hZ rfl g302
    obtain ⟨_, _, ⟨T311, L312, kc313, nc314⟩, -, X315, ⟨Lc316, hQ317, l318, y319, z320⟩, st321⟩ := X290.virtualBack hx (y := mn10) (z := mn10) hown (mvT hZ (tw26 hw)) (mvT hZ (tw27 hw)) (notFace_of_selects (args := #[]) (mvT hZ (tw29 hw))) (mvT hZ (tw29 hw)) (mvT hZ (tw28 hw)) (by decide) (backOf (W := 0) (rmG0 l Z a0 hw [] a300 (FP.i2d p0) T286.heap n0 Z308 g303) hZ (tw30 hw) (tw2 hw) (by decide) (by decide)) qa324 qc326 (g := (mkF m 30 #[vi p0, vj p1, ss, vi p2, vd (FP.i2d p0), ss, vr a300, uu, uu, uu, uu, uu, uu, uu, uu, uu, uu, uu, uu] [(.ref a300)])) rfl (by rw [hml]; rfl) (Steps.refl _) (argsL := []) (rest := []) (lenOf pd_15 rfl) rfl (by show 2 * 0 + _ ≤ _; exact Nat.le_of_eq rfl) (hb hby at_30) (fun _ _ => ⟨rfl, rfl, (by decide : 1 + 0 ≤ _), (by decide : 4 + 0 ≤ _)⟩)
    dsimp only [Pt.U, Pt.locs, Pt.cells, Pt.slots] at X315 l318 y319 z320 st321 hQ317
    subst l318 y319 z320
    obtain ⟨rfl, N327, e328⟩ := hQ317
    have N330 := Fr.app N307 N327
    have k331 : own_G p e below E0 T311 (mkF m 33 #[vi p0, vj p1, ss, vi p2, vd (FP.i2d p0), ss, vr a300, uu, uu, uu, uu, uu, uu, uu, uu, uu, uu, uu, uu] [(.double (FP.i2d p0))]) := fun t kk => k310 t (st321.trans kk)
    have k332 : own_G p e below E0 T311 (mkF m 37 #[vi p0, vj p1, ss, vi p2, vd (FP.i2d p0), ss, vr a300, vd (FP.i2d p0), ss, uu, uu, uu, uu, uu, uu, uu, uu, uu, uu] [(.ref a300)]) := by
      intro t kk
      refine k331 t ?_
      refine XS.dstore X315.here hx rfl (hb hby at_33) rfl (l' := #[vi p0, vj p1, ss, vi p2, vd (FP.i2d p0), ss, vr a300, vd (FP.i2d p0), ss, uu, uu, uu, uu, uu, uu, uu, uu, uu, uu]) rfl ?_
      refine XS.aload X315.here hx rfl (hb hby at_35) rfl rfl ?_
      exact kk
    obtain ⟨cq344, kq345, qa346, qb347, qc348⟩ := isOf hZ e328 g302
    obtain ⟨_, _, ⟨T333, L334, kc335, nc336⟩, -, X337, ⟨Lc338, hQ339, l340, y341, z342⟩, st343⟩ := X315.virtualBack hx (y := mn11) (z := mn11) hown (mvT hZ (tw31 hw)) (mvT hZ (tw32 hw)) (notFace_of_selects (args := #[]) (mvT hZ (tw34 hw))) (mvT hZ (tw34 hw)) (mvT hZ (tw33 hw)) (by decide) (backOf (W := 0) (rmG1 l Z a0 hw [] a300 (9221120237041090560 : UInt64) T286.heap n0 Z308 g304) hZ (tw35 hw) (tw2 hw) (by decide) (by decide)) qa346 qc348 (g := (mkF m 37 #[vi p0, vj p1, ss, vi p2, vd (FP.i2d p0), ss, vr a300, vd (FP.i2d p0), ss, uu, uu, uu, uu, uu, uu, uu, uu, uu, uu] [(.ref a300)])) rfl (by rw [hml]; rfl) (Steps.refl _) (argsL := []) (rest := []) (lenOf pd_15 rfl) rfl (by show 2 * 0 + _ ≤ _; exact Nat.le_of_eq rfl) (hb hby at_37) (fun _ _ => ⟨rfl, e328, (by decide : 1 + 0 ≤ _), (by decide : 4 + 0 ≤ _)⟩)
    dsimp only [Pt.U, Pt.locs, Pt.cells, Pt.slots] at X337 l340 y341 z342 st343 hQ339
    subst l340 y341 z342
    obtain ⟨rfl, N349, e350⟩ := hQ339
    have N352 := Fr.app N330 N349
    have k353 : own_G p e below E0 T333 (mkF m 40 #[vi p0, vj p1, ss, vi p2, vd (FP.i2d p0), ss, vr a300, vd (FP.i2d p0), ss, uu, uu, uu, uu, uu, uu, uu, uu, uu, uu] [(.double (9221120237041090560 : UInt64))]) := fun t kk => k332 t (st343.trans kk)
    have k354 : own_G p e below E0 T333 (mkF m 44 #[vi p0, vj p1, ss, vi p2, vd (FP.i2d p0), ss, vr a300, vd (FP.i2d p0), ss, vd (9221120237041090560 : UInt64), ss, uu, uu, uu, uu, uu, uu, uu, uu] [(.ref a300)]) := by
      intro t kk
      refine k353 t ?_
      refine XS.dstore X337.here hx rfl (hb hby at_40) rfl (l' := #[vi p0, vj p1, ss, vi p2, vd (FP.i2d p0), ss, vr a300, vd (FP.i2d p0), ss, vd (9221120237041090560 : UInt64), ss, uu, uu, uu, uu, uu, uu, uu, uu]) rfl ?_
      refine XS.aload X337.here hx rfl (hb hby at_42) rfl rfl ?_
      exact kk
    obtain ⟨cq366, kq367, qa368, qb369, qc370⟩ := isOf hZ e350 g302
    obtain ⟨_, _, ⟨T355, L356, kc357, nc358⟩, -, X359, ⟨Lc360, hQ361, l362, y363, z364⟩, st365⟩ := X337.virtualBack hx (y := mn12) (z := mn12) hown (mvT hZ (tw36 hw)) (mvT hZ (tw37 hw)) (notFace_of_selects (args := #[]) (mvT hZ (tw39 hw))) (mvT hZ (tw39 hw)) (mvT hZ (tw38 hw)) (by decide) (backOf (W := 0) (rmG2 l Z a0 hw [] a300 (9221120237041090560 : UInt64) T286.heap n0 Z308 g305) hZ (tw40 hw) (tw2 hw) (by decide) (by decide)) qa368 qc370 (g := (mkF m 44 #[vi p0, vj p1, ss, vi p2, vd (FP.i2d p0), ss, vr a300, vd (FP.i2d p0), ss, vd (9221120237041090560 : UInt64), ss, uu, uu, uu, uu, uu, uu, uu, uu] [(.ref a300)])) rfl (by rw [hml]; rfl) (Steps.refl _) (argsL := []) (rest := []) (lenOf pd_15 rfl) rfl (by show 2 * 0 + _ ≤ _; exact Nat.le_of_eq rfl) (hb hby at_44) (fun _ _ => ⟨rfl, e350, (by decide : 1 + 0 ≤ _), (by decide : 4 + 0 ≤ _)⟩)
    dsimp only [Pt.U, Pt.locs, Pt.cells, Pt.slots] at X359 l362 y363 z364 st365 hQ361
    subst l362 y363 z364
    obtain ⟨rfl, N371, e372⟩ := hQ361
    have N374 := Fr.app N352 N371
    have k375 : own_G p e below E0 T355 (mkF m 47 #[vi p0, vj p1, ss, vi p2, vd (FP.i2d p0), ss, vr a300, vd (FP.i2d p0), ss, vd (9221120237041090560 : UInt64), ss, uu, uu, uu, uu, uu, uu, uu, uu] [(.double (9221120237041090560 : UInt64))]) := fun t kk => k354 t (st365.trans kk)
    have k376 : own_G p e below E0 T355 (mkF m 51 #[vi p0, vj p1, ss, vi p2, vd (FP.i2d p0), ss, vr a300, vd (FP.i2d p0), ss, vd (9221120237041090560 : UInt64), ss, vd (9221120237041090560 : UInt64), ss, uu, uu, uu, uu, uu, uu] [(.ref a300)]) := by
      intro t kk
      refine k375 t ?_
      refine XS.dstore X359.here hx rfl (hb hby at_47) rfl (l' := #[vi p0, vj p1, ss, vi p2, vd (FP.i2d p0), ss, vr a300, vd (FP.i2d p0), ss, vd (9221120237041090560 : UInt64), ss, vd (9221120237041090560 : UInt64), ss, uu, uu, uu, uu, uu, uu]) rfl ?_
      refine XS.aload X359.here hx rfl (hb hby at_49) rfl rfl ?_
      exact kk
    obtain ⟨cq388, kq389, qa390, qb391, qc392⟩ := isOf hZ e372 g302
    obtain ⟨_, _, ⟨T377, L378, kc379, nc380⟩, -, X381, ⟨Lc382, hQ383, l384, y385, z386⟩, st387⟩ := X359.virtualBack hx (y := mn13) (z := mn13) hown (mvT hZ (tw41 hw)) (mvT hZ (tw42 hw)) (notFace_of_selects (args := #[]) (mvT hZ (tw44 hw))) (mvT hZ (tw44 hw)) (mvT hZ (tw43 hw)) (by decide) (backOf (W := 0) (rmG3 l Z a0 hw [] a300 (9221120237041090560 : UInt64) T286.heap n0 Z308 g306) hZ (tw45 hw) (tw2 hw) (by decide) (by decide)) qa390 qc392 (g := (mkF m 51 #[vi p0, vj p1, ss, vi p2, vd (FP.i2d p0), ss, vr a300, vd (FP.i2d p0), ss, vd (9221120237041090560 : UInt64), ss, vd (9221120237041090560 : UInt64), ss, uu, uu, uu, uu, uu, uu] [(.ref a300)])) rfl (by rw [hml]; rfl) (Steps.refl _) (argsL := []) (rest := []) (lenOf pd_15 rfl) rfl (by show 2 * 0 + _ ≤ _; exact Nat.le_of_eq rfl) (hb hby at_51) (fun _ _ => ⟨rfl, e372, (by decide : 1 + 0 ≤ _), (by decide : 4 + 0 ≤ _)⟩)
    dsimp only [Pt.U, Pt.locs, Pt.cells, Pt.slots] at X381 l384 y385 z386 st387 hQ383
    subst l384 y385 z386
    obtain ⟨rfl, N393, e394⟩ := hQ383
    have N396 := Fr.app N374 N393
    have k397 : own_G p e below E0 T377 (mkF m 54 #[vi p0, vj p1, ss, vi p2, vd (FP.i2d p0), ss, vr a300, vd (FP.i2d p0), ss, vd (9221120237041090560 : UInt64), ss, vd (9221120237041090560 : UInt64), ss, uu, uu, uu, uu, uu, uu] [(.double (9221120237041090560 : UInt64))]) := fun t kk => k376 t (st387.trans kk)
    have k398 : own_G p e below E0 T377 (mkF m 141 #[vi p0, vj p1, ss, vi p2, vd (FP.i2d p0), ss, vr a300, vd (FP.i2d p0), ss, vd (9221120237041090560 : UInt64), ss, vd (9221120237041090560 : UInt64), ss, vd (9221120237041090560 : UInt64), ss, vi (1 : Int32), vi (1 : Int32), vi (1 : Int32), vi (1 : Int32)] [(.int (1 : Int32))]) := by
      intro t kk
      refine k397 t ?_
      refine XS.dstore X381.here hx rfl (hb hby at_54) rfl (l' := #[vi p0, vj p1, ss, vi p2, vd (FP.i2d p0), ss, vr a300, vd (FP.i2d p0), ss, vd (9221120237041090560 : UInt64), ss, vd (9221120237041090560 : UInt64), ss, vd (9221120237041090560 : UInt64), ss, uu, uu, uu, uu]) rfl ?_
      refine XS.dload X381.here hx rfl (hb hby at_56) rfl ?_
      refine XS.dload X381.here hx rfl (hb hby at_58) rfl ?_
      refine XS.dcmpS X381.here hx rfl (hb hby at_60) rfl (dcmpV_self ((Fl.i2d_fin p0).noNaN) .l) ?_
      show Steps p.tables e below (T377.setTop (mkF m 61 #[vi p0, vj p1, ss, vi p2, vd (FP.i2d p0), ss, vr a300, vd (FP.i2d p0), ss, vd (9221120237041090560 : UInt64), ss, vd (9221120237041090560 : UInt64), ss, vd (9221120237041090560 : UInt64), ss, uu, uu, uu, uu] [(.int (0 : Int32))])) t
      refine XS.ifNo X381.here hx rfl (hb hby at_61) rfl (own_if_neN (by decide)) ?_
      refine XS.iconst X381.here hx rfl (hb hby at_64) ?_
      refine XS.goto X381.here hx rfl (pc0 := 65) (pc' := 69) rfl (hb hby at_65) (by decide) (by decide) ?_
      refine XS.istore X381.here hx rfl (hb hby at_69) rfl (l' := #[vi p0, vj p1, ss, vi p2, vd (FP.i2d p0), ss, vr a300, vd (FP.i2d p0), ss, vd (9221120237041090560 : UInt64), ss, vd (9221120237041090560 : UInt64), ss, vd (9221120237041090560 : UInt64), ss, vi (1 : Int32), uu, uu, uu]) rfl ?_
      show Steps p.tables e below (T377.setTop (mkF m 71 #[vi p0, vj p1, ss, vi p2, vd (FP.i2d p0), ss, vr a300, vd (FP.i2d p0), ss, vd (9221120237041090560 : UInt64), ss, vd (9221120237041090560 : UInt64), ss, vd (9221120237041090560 : UInt64), ss, vi (1 : Int32), uu, uu, uu] [])) t
      refine XS.dload X381.here hx rfl (hb hby at_71) rfl ?_
      refine XS.dload X381.here hx rfl (hb hby at_73) rfl ?_
      refine XS.dcmpS X381.here hx rfl (hb hby at_75) rfl own_nan ?_
      refine XS.ifNo X381.here hx rfl (hb hby at_76) rfl (own_if_eqN (by decide)) ?_
      show Steps p.tables e below (T377.setTop (mkF m 79 #[vi p0, vj p1, ss, vi p2, vd (FP.i2d p0), ss, vr a300, vd (FP.i2d p0), ss, vd (9221120237041090560 : UInt64), ss, vd (9221120237041090560 : UInt64), ss, vd (9221120237041090560 : UInt64), ss, vi (1 : Int32), uu, uu, uu] [])) t
      refine XS.iconst X381.here hx rfl (hb hby at_79) ?_
      refine XS.goto X381.here hx rfl (pc0 := 80) (pc' := 84) rfl (hb hby at_80) (by decide) (by decide) ?_
      refine XS.istore X381.here hx rfl (hb hby at_84) rfl (l' := #[vi p0, vj p1, ss, vi p2, vd (FP.i2d p0), ss, vr a300, vd (FP.i2d p0), ss, vd (9221120237041090560 : UInt64), ss, vd (9221120237041090560 : UInt64), ss, vd (9221120237041090560 : UInt64), ss, vi (1 : Int32), vi (1 : Int32), uu, uu]) rfl ?_
      refine XS.dload X381.here hx rfl (hb hby at_86) rfl ?_
      show Steps p.tables e below (T377.setTop (mkF m 88 #[vi p0, vj p1, ss, vi p2, vd (FP.i2d p0), ss, vr a300, vd (FP.i2d p0), ss, vd (9221120237041090560 : UInt64), ss, vd (9221120237041090560 : UInt64), ss, vd (9221120237041090560 : UInt64), ss, vi (1 : Int32), vi (1 : Int32), uu, uu] [(.double (9221120237041090560 : UInt64))])) t
      refine XS.dload X381.here hx rfl (hb hby at_88) rfl ?_
      refine XS.dcmpS X381.here hx rfl (hb hby at_90) rfl own_nan ?_
      refine XS.ifNo X381.here hx rfl (hb hby at_91) rfl (own_if_eqN (by decide)) ?_
      refine XS.iconst X381.here hx rfl (hb hby at_94) ?_
      show Steps p.tables e below (T377.setTop (mkF m 95 #[vi p0, vj p1, ss, vi p2, vd (FP.i2d p0), ss, vr a300, vd (FP.i2d p0), ss, vd (9221120237041090560 : UInt64), ss, vd (9221120237041090560 : UInt64), ss, vd (9221120237041090560 : UInt64), ss, vi (1 : Int32), vi (1 : Int32), uu, uu] [(.int (1 : Int32))])) t
      refine XS.goto X381.here hx rfl (pc0 := 95) (pc' := 99) rfl (hb hby at_95) (by decide) (by decide) ?_
      refine XS.istore X381.here hx rfl (hb hby at_99) rfl (l' := #[vi p0, vj p1, ss, vi p2, vd (FP.i2d p0), ss, vr a300, vd (FP.i2d p0), ss, vd (9221120237041090560 : UInt64), ss, vd (9221120237041090560 : UInt64), ss, vd (9221120237041090560 : UInt64), ss, vi (1 : Int32), vi (1 : Int32), vi (1 : Int32), uu]) rfl ?_
      refine XS.dload X381.here hx rfl (hb hby at_101) rfl ?_
      refine XS.dload X381.here hx rfl (hb hby at_103) rfl ?_
      show Steps p.tables e below (T377.setTop (mkF m 105 #[vi p0, vj p1, ss, vi p2, vd (FP.i2d p0), ss, vr a300, vd (FP.i2d p0), ss, vd (9221120237041090560 : UInt64), ss, vd (9221120237041090560 : UInt64), ss, vd (9221120237041090560 : UInt64), ss, vi (1 : Int32), vi (1 : Int32), vi (1 : Int32), uu] [(.double (9221120237041090560 : UInt64)), (.double (9221120237041090560 : UInt64))])) t
      refine XS.dcmpS X381.here hx rfl (hb hby at_105) rfl own_nan ?_
      refine XS.ifNo X381.here hx rfl (hb hby at_106) rfl (own_if_eqN (by decide)) ?_
      refine XS.iconst X381.here hx rfl (hb hby at_109) ?_
      refine XS.goto X381.here hx rfl (pc0 := 110) (pc' := 114) rfl (hb hby at_110) (by decide) (by decide) ?_
      show Steps p.tables e below (T377.setTop (mkF m 114 #[vi p0, vj p1, ss, vi p2, vd (FP.i2d p0), ss, vr a300, vd (FP.i2d p0), ss, vd (9221120237041090560 : UInt64), ss, vd (9221120237041090560 : UInt64), ss, vd (9221120237041090560 : UInt64), ss, vi (1 : Int32), vi (1 : Int32), vi (1 : Int32), uu] [(.int (1 : Int32))])) t
      refine XS.istore X381.here hx rfl (hb hby at_114) rfl (l' := #[vi p0, vj p1, ss, vi p2, vd (FP.i2d p0), ss, vr a300, vd (FP.i2d p0), ss, vd (9221120237041090560 : UInt64), ss, vd (9221120237041090560 : UInt64), ss, vd (9221120237041090560 : UInt64), ss, vi (1 : Int32), vi (1 : Int32), vi (1 : Int32), vi (1 : Int32)]) rfl ?_
      refine XS.iload X381.here hx rfl (hb hby at_116) rfl ?_
      refine XS.ifNo X381.here hx rfl (hb hby at_118) rfl (own_if_eqN (by decide)) ?_
      refine XS.iload X381.here hx rfl (hb hby at_121) rfl ?_
      show Steps p.tables e below (T377.setTop (mkF m 123 #[vi p0, vj p1, ss, vi p2, vd (FP.i2d p0), ss, vr a300, vd (FP.i2d p0), ss, vd (9221120237041090560 : UInt64), ss, vd (9221120237041090560 : UInt64), ss, vd (9221120237041090560 : UInt64), ss, vi (1 : Int32), vi (1 : Int32), vi (1 : Int32), vi (1 : Int32)] [(.int (1 : Int32))])) t
      refine XS.ifNo X381.here hx rfl (hb hby at_123) rfl (own_if_eqN (by decide)) ?_
      refine XS.iload X381.here hx rfl (hb hby at_126) rfl ?_
      refine XS.ifNo X381.here hx rfl (hb hby at_128) rfl (own_if_eqN (by decide)) ?_
      refine XS.iload X381.here hx rfl (hb hby at_131) rfl ?_
      show Steps p.tables e below (T377.setTop (mkF m 133 #[vi p0, vj p1, ss, vi p2, vd (FP.i2d p0), ss, vr a300, vd (FP.i2d p0), ss, vd (9221120237041090560 : UInt64), ss, vd (9221120237041090560 : UInt64), ss, vd (9221120237041090560 : UInt64), ss, vi (1 : Int32), vi (1 : Int32), vi (1 : Int32), vi (1 : Int32)] [(.int (1 : Int32))])) t
      refine XS.ifNo X381.here hx rfl (hb hby at_133) rfl (own_if_eqN (by decide)) ?_
      refine XS.iconst X381.here hx rfl (hb hby at_136) ?_
      refine XS.goto X381.here hx rfl (pc0 := 137) (pc' := 141) rfl (hb hby at_137) (by decide) (by decide) ?_
      exact kk
    obtain ⟨fs, hr, hrun, hended, hW, hsame⟩ := X381.leave (v := some (.int (1 : Int32))) (fun h => by rw [Bd.returns] at h; cases h)
    have hrun0 := k398 _ (retOut X381 hx Bd.returns (t := .boolean) rfl (Or.inl ⟨rfl, Or.inr (Or.inl rfl), _, rfl⟩) (hb hby at_141) hr)
    subst hE0
    refine ⟨_, _, hrun0, hrun, hended, _, _, rfl, ?_, ⟨_, rfl⟩, hW, hsame.mono (by decide) (by decide)⟩
    show Qrm0 Z p0 p1 p2 h0 n0 _ T377.heap _
    rw [e394]
    exact ⟨rfl, N396⟩
set_option maxRecDepth 65536 in
set_option maxHeartbeats 40000000 in
theorem comes_1 {Post : Tables → Env → Array Value → State → Outcome → State → Prop} (hpost : ∀ tb e args s v u, (limb_1_1.after args s (.returned v) u = true ∧ limb_1_2.after args s (.returned v) u = true ∧ True) → FrameEnd s (.returned v) u (Jvm.fieldLocs frame_1_writes args s ++ Jvm.arrayLocs frame_1_arrays args s ++ Jvm.staticLocs frame_1_statics s) 16 128 → Post tb e args s (.returned v) u) :
    ArmFor flags0 classFile x code maxLocals ret World_1 tables_1 room_1 Calls_1 rest_1 Pre_1 Post := by
  intro l hfl _ _ p e ha hc hk s m args below hf hA hF happ hP
  obtain ⟨hcalls, hrest, hpre⟩ := hP
  obtain ⟨-, -, -, hnamed, -, -, -, hat⟩ := (Spec.applies_iff hf).mp happ
  obtain ⟨hg, hn⟩ := and_e (Cond.before_iff.mp (show (Jvm.Cond.and given_1 narrow_1).before args s = true from hpre))
  obtain ⟨hct, hr0⟩ := and_e hg
  obtain ⟨ha0, hr1⟩ := and_e hr0
  obtain ⟨ha1, hr2⟩ := and_e hr1
  obtain ⟨w0, w1, w2, rfl⟩ : ∃ w0 w1 w2 : Value, args = #[w0, w1, w2] := by
    have hs : args.size = 3 := by simpa [Cond.value, given_1] using hct
    obtain ⟨L⟩ := args
    match L, hs with
    | [w0, w1, w2], _ => exact ⟨w0, w1, w2, rfl⟩
  have hw := fun d (hd : d ∈ tables_1) => atoms_spec (ws := Jvm.Cond.code x code maxLocals ret :: tables_1) hat d (List.mem_cons_of_mem _ hd)
  have hfit : Fit s := fun {y c} hc i hi => by
    obtain ⟨ha, rfl⟩ := Array.getElem?_eq_some_iff.mp hc
    have q := List.all_eq_true.mp ((Array.all_eq_true_iff_forall_mem.mp hF) _ (Array.getElem_mem ha)) i (List.mem_range.mpr hi)
    simpa [Array.getElem?_eq_getElem hi] using q
  obtain ⟨i0, ev0⟩ := is_v ha0
  obtain rfl : w0 = (.int i0) := Option.some.inj ev0
  obtain ⟨i1, ev1⟩ := isL_v ha1
  obtain rfl : w1 = (.long i1) := Option.some.inj ev1
  obtain ⟨i2, ev2⟩ := is_v hr2
  obtain rfl : w2 = (.int i2) := Option.some.inj ev2
  obtain ⟨n, o, h1, h2, h3, _, L, rfl, ⟨rfl, N⟩, hq⟩ := rm0 l s _ hw tables_1 i0 i1 i2 s.heap s.heap.size (Nat.le_refl _) p e ha hc hk s m _ below hf ((Spec.applies_iff_loose hf).mp happ).1 ⟨rfl, State.Warmed39.refl s, rfl⟩ trivial
  refine ⟨n, _, h1, h2, h3, hpost _ _ _ _ _ _ ⟨Cond.after_iff.mpr rfl, Cond.after_iff.mpr (eq_i res_at (Term.int_eval (1)) rfl), trivial⟩ ⟨hq.1, hq.2.1, (hq.2.2.sift fun y hy => Or.inr (N y hy)).mono (by decide) (by decide)⟩⟩
theorem main_1_1 : Claimed_1_1 := comes_1 fun _ _ _ _ _ _ h hF => ⟨h.1, hF⟩
theorem main_1_2 : Claimed_1_2 := comes_1 fun _ _ _ _ _ _ h hF => ⟨h.2.1, hF⟩
end Jvm.Pilot.@@N@@
namespace Jvm.Pilot.@@N@@
open Jvm Jvm.ClassFile Sem Op Lib Jvm.Free Jvm.Stand Jvm.Pilot.@@N@@.Jvm.D
/-! MADE BY PROGRAM (witnessworld.py) out of the Statement's table words and the real class files: 10 classes; the members and pool entries that the words name. The judged class is class 1, her method 1. -/
namespace start1
open Jvm.ClassFile
def u (s : String) : CpInfo := .utf8 (stringToUtf16 s)
/-- a pool by its gaps: so many unusable entries, then the entry; so many at the end -/
def gap : Nat → List CpInfo → List CpInfo
  | 0, r => r
  | n + 1, r => .unusable :: gap n r
def poolList (es : List (Nat × CpInfo)) (last : Nat) : List CpInfo := es.foldr (fun e r => gap e.1 (e.2 :: r)) (gap last [])
def pool (es : List (Nat × CpInfo)) (last : Nat) : Array CpInfo := ⟨poolList es last⟩
def fileOf (pool : Array CpInfo) (this : Nat) (attrs : Array Attribute := #[]) (ms : Array MethodInfo := #[]) (fl : Nat := 33) (sup : Nat := 0) (ifs : Array Nat := #[]) (fds : Array FieldInfo := #[]) : ClassFile where
  minorVersion := 0
  majorVersion := 65
  constantPool := pool
  accessFlags := fl
  thisClass := this
  superClass := sup
  interfaces := ifs
  fields := fds
  methods := ms
  attributes := attrs
def plain (name : String) (sup : Option ClassId) : Class where
  name := name
  kind := .ordinary
  loader := none
  accessFlags := 33
  super := sup
  interfaces := #[]
  cf := none
  fields := #[]
  methods := #[]
  instanceTypes := #[]
  staticTypes := #[]
  resolved := #[]
  callSites := []
  init := .initialized
  statics := none
  mirror := none

def pool0 : Array CpInfo := pool [(5, u "<init>"), (0, u "()V"), (1, .class_ 10), (1, u "java/lang/Object")] 113

def k0c0 : Code := { maxStack := 0, maxLocals := 1, code := object_method_1_code, exceptionTable := #[], attributes := #[] }
def k0m0 : Method := { name := "<init>", desc := "()V", sig := { parameters := [], returnType := none }, accessFlags := 1, code := some k0c0 }
/-- java/lang/Object -/
def k0 : Class := { plain "java/lang/Object" none with
  accessFlags := 33
  interfaces := #[]
  cf := some (fileOf pool0 8 #[] #[{ accessFlags := 1, nameIndex := 5, descriptorIndex := 6, attributes := #[] }] 33 0 #[] #[])
  fields := #[]
  methods := #[k0m0]
  instanceTypes := #[]
  staticTypes := #[]
  resolved := Array.replicate 124 none
  statics := none }

def pool1 : Array CpInfo := pool [(2, .class_ 4), (1, u "java/lang/Object"), (0, u "<init>"), (0, u "()V"), (0, .double 4652218415073722368), (1, .methodref 10 11), (0, .class_ 12), (0, .nameAndType 13 14), (0, u "rootzone/CropDay"), (0, u "of"), (0, u "(D)Lrootzone/CropDay;"), (0, .methodref 10 16), (0, .nameAndType 17 18), (0, u "kcb"), (0, u "()D"), (0, .methodref 10 20), (0, .nameAndType 21 18), (0, u "cc"), (0, .methodref 10 23), (0, .nameAndType 24 18), (0, u "tu"), (0, .methodref 10 26), (0, .nameAndType 27 18), (0, u "ctu"), (0, .class_ 29), (0, u "rootzone/CropDayOfPinLaw"), (2, u "law"), (0, u "(IJI)Z")] 3

def k1m0 : Method := { name := "<init>", desc := "()V", sig := { parameters := [], returnType := none }, accessFlags := 1, code := none }
def k1c1 : Code := { maxStack := 4, maxLocals := 19, code := code, exceptionTable := #[], attributes := #[] }
def k1m1 : Method := { name := "law", desc := "(IJI)Z", sig := { parameters := [.int, .long, .int], returnType := some .boolean }, accessFlags := 9, code := some k1c1 }
/-- rootzone/CropDayOfPinLaw -/
def k1 : Class := { plain "rootzone/CropDayOfPinLaw" (some 0) with
  accessFlags := 49
  interfaces := #[]
  cf := some (fileOf pool1 28 #[] #[{ accessFlags := 1, nameIndex := 5, descriptorIndex := 6, attributes := #[] }, { accessFlags := 9, nameIndex := 32, descriptorIndex := 33, attributes := #[] }] 49 2 #[] #[])
  fields := #[]
  methods := #[k1m0, k1m1]
  instanceTypes := #[]
  staticTypes := #[]
  resolved := Array.replicate 37 none
  statics := none }

def pool2 : Array CpInfo := pool [(1, .methodref 2 3), (0, .class_ 4), (0, .nameAndType 5 6), (0, u "java/lang/Object"), (0, u "<init>"), (0, u "()V"), (0, .class_ 8), (0, u "java/lang/Record")] 13

def k2c0 : Code := { maxStack := 1, maxLocals := 1, code := jdk_30_method_1_code, exceptionTable := #[], attributes := #[] }
def k2m0 : Method := { name := "<init>", desc := "()V", sig := { parameters := [], returnType := none }, accessFlags := 4, code := some k2c0 }
/-- java/lang/Record -/
def k2 : Class := { plain "java/lang/Record" (some 0) with
  accessFlags := 1057
  interfaces := #[]
  cf := some (fileOf pool2 7 #[] #[{ accessFlags := 4, nameIndex := 5, descriptorIndex := 6, attributes := #[] }] 1057 2 #[] #[])
  fields := #[]
  methods := #[k2m0]
  instanceTypes := #[]
  staticTypes := #[]
  resolved := Array.replicate 22 none
  statics := none }

def pool3 : Array CpInfo := pool [(1, .methodref 2 3), (0, .class_ 4), (0, .nameAndType 5 6), (0, u "java/lang/Record"), (0, u "<init>"), (0, u "()V"), (0, .fieldref 8 9), (0, .class_ 10), (0, .nameAndType 11 12), (0, u "rootzone/CropDay"), (0, u "kcb"), (0, u "D"), (0, .fieldref 8 14), (0, .nameAndType 15 12), (0, u "cc"), (0, .fieldref 8 17), (0, .nameAndType 18 12), (0, u "tu"), (0, .fieldref 8 20), (0, .nameAndType 21 12), (0, u "ctu"), (2, .double 9221120237041090560), (1, .methodref 8 27), (0, .nameAndType 5 28), (0, u "(DDDD)V"), (14, u "NONE"), (0, u "Lrootzone/CropDay;"), (3, u "of"), (0, u "(D)Lrootzone/CropDay;"), (3, u "()D")] 24

def k3c0 : Code := { maxStack := 3, maxLocals := 9, code := prog_4_method_1_code, exceptionTable := #[], attributes := #[] }
def k3m0 : Method := { name := "<init>", desc := "(DDDD)V", sig := { parameters := [.double, .double, .double, .double], returnType := none }, accessFlags := 1, code := some k3c0 }
def k3c1 : Code := { maxStack := 10, maxLocals := 2, code := prog_4_method_2_code, exceptionTable := #[], attributes := #[] }
def k3m1 : Method := { name := "of", desc := "(D)Lrootzone/CropDay;", sig := { parameters := [.double], returnType := some (.object "rootzone/CropDay") }, accessFlags := 9, code := some k3c1 }
def k3c2 : Code := { maxStack := 2, maxLocals := 1, code := prog_4_method_6_code, exceptionTable := #[], attributes := #[] }
def k3m2 : Method := { name := "kcb", desc := "()D", sig := { parameters := [], returnType := some .double }, accessFlags := 1, code := some k3c2 }
def k3c3 : Code := { maxStack := 2, maxLocals := 1, code := prog_4_method_7_code, exceptionTable := #[], attributes := #[] }
def k3m3 : Method := { name := "cc", desc := "()D", sig := { parameters := [], returnType := some .double }, accessFlags := 1, code := some k3c3 }
def k3c4 : Code := { maxStack := 2, maxLocals := 1, code := prog_4_method_8_code, exceptionTable := #[], attributes := #[] }
def k3m4 : Method := { name := "tu", desc := "()D", sig := { parameters := [], returnType := some .double }, accessFlags := 1, code := some k3c4 }
def k3c5 : Code := { maxStack := 2, maxLocals := 1, code := prog_4_method_9_code, exceptionTable := #[], attributes := #[] }
def k3m5 : Method := { name := "ctu", desc := "()D", sig := { parameters := [], returnType := some .double }, accessFlags := 1, code := some k3c5 }
/-- rootzone/CropDay -/
def k3 : Class := { plain "rootzone/CropDay" (some 2) with
  accessFlags := 49
  interfaces := #[]
  cf := some (fileOf pool3 8 #[] #[{ accessFlags := 1, nameIndex := 5, descriptorIndex := 28, attributes := #[] }, { accessFlags := 9, nameIndex := 48, descriptorIndex := 49, attributes := #[] }, { accessFlags := 1, nameIndex := 11, descriptorIndex := 53, attributes := #[] }, { accessFlags := 1, nameIndex := 15, descriptorIndex := 53, attributes := #[] }, { accessFlags := 1, nameIndex := 18, descriptorIndex := 53, attributes := #[] }, { accessFlags := 1, nameIndex := 21, descriptorIndex := 53, attributes := #[] }] 49 2 #[] #[{ accessFlags := 18, nameIndex := 11, descriptorIndex := 12, attributes := #[] }, { accessFlags := 18, nameIndex := 15, descriptorIndex := 12, attributes := #[] }, { accessFlags := 18, nameIndex := 18, descriptorIndex := 12, attributes := #[] }, { accessFlags := 18, nameIndex := 21, descriptorIndex := 12, attributes := #[] }, { accessFlags := 25, nameIndex := 43, descriptorIndex := 44, attributes := #[] }])
  fields := #[{ name := "kcb", type := .double, accessFlags := 18, slot := 0, constantValue := 0 }, { name := "cc", type := .double, accessFlags := 18, slot := 1, constantValue := 0 }, { name := "tu", type := .double, accessFlags := 18, slot := 2, constantValue := 0 }, { name := "ctu", type := .double, accessFlags := 18, slot := 3, constantValue := 0 }, { name := "NONE", type := (.object "rootzone/CropDay"), accessFlags := 25, slot := 0, constantValue := 0 }]
  methods := #[k3m0, k3m1, k3m2, k3m3, k3m4, k3m5]
  instanceTypes := #[.double, .double, .double, .double]
  staticTypes := #[(.object "rootzone/CropDay")]
  resolved := Array.replicate 78 none
  statics := none }

def pool4 : Array CpInfo := pool [(1, u "java/lang/Cloneable"), (0, .class_ 1), (0, u "java/lang/Object"), (0, .class_ 3)] 3

/-- java/lang/Cloneable -/
def k4 : Class := { plain "java/lang/Cloneable" (some 0) with
  accessFlags := 1537
  interfaces := #[]
  cf := some (fileOf pool4 2 #[] #[] 1537 4 #[] #[])
  fields := #[]
  methods := #[]
  instanceTypes := #[]
  staticTypes := #[]
  resolved := Array.replicate 8 none
  statics := none }

def pool5 : Array CpInfo := pool [(1, u "java/io/Serializable"), (0, .class_ 1), (0, u "java/lang/Object"), (0, .class_ 3)] 3

/-- java/io/Serializable -/
def k5 : Class := { plain "java/io/Serializable" (some 0) with
  accessFlags := 1537
  interfaces := #[]
  cf := some (fileOf pool5 2 #[] #[] 1537 4 #[] #[])
  fields := #[]
  methods := #[]
  instanceTypes := #[]
  staticTypes := #[]
  resolved := Array.replicate 8 none
  statics := none }

/-- the primitive byte -/
def k6 : Class := { plain "byte" none with kind := .primitive 'B', accessFlags := 0x411 }
/-- [B -/
def k7 : Class := { plain "[B" (some 0) with kind := .array 6 .byte, interfaces := #[4, 5], accessFlags := 1041 }

/-- the primitive int -/
def k8 : Class := { plain "int" none with kind := .primitive 'I', accessFlags := 0x411 }
/-- [I -/
def k9 : Class := { plain "[I" (some 0) with kind := .array 8 .int, interfaces := #[4, 5], accessFlags := 1041 }

def heap : Heap := #[]
def classes : Array Class := #[k0, k1, k2, k3, k4, k5, k6, k7, k8, k9]
def interned : List (Array UInt16 × Addr) := []
def slotsUsed : Nat := 0
def theMethod : MethodId := ⟨1, 1⟩
def args0 : Array Value := #[.int 5, .long 7, .int 1]
def aboutOver (below : List Frame) : State where
  vm := { classes := classes, interned := interned.toArray }
  heap := heap
  slotsUsed := slotsUsed
  threads := #[{ frames := .invoking theMethod args0 :: below }]
def below0 : List Frame := [.native { method := ⟨0, 0⟩, args := #[] }]
def about1 : State := aboutOver below0
def p0 : Program := .bare "" "" ""
def e0 : Env := launch0.env 0 0 0
theorem w_frames : about1.frames = Frame.invoking theMethod args0 :: below0 := rfl
set_option maxRecDepth 65536 in
theorem w_args : argsFit about1.vm theMethod args0 = true := by decide +kernel
set_option maxRecDepth 65536 in
theorem w_heap : heapFits about1 = true := by decide +kernel
set_option maxRecDepth 65536 in
theorem w_runnable : about1.curStatus? = some .runnable := by decide +kernel
set_option maxRecDepth 65536 in
theorem w_alone : about1.alone = true := by decide +kernel
set_option maxRecDepth 65536 in
theorem w_named : about1.methodNamed? x = some theMethod := by decide +kernel
set_option maxRecDepth 65536 in
theorem w_hears : about1.hears theMethod below0 = true := by decide +kernel
set_option maxRecDepth 65536 in
theorem w_ripe : about1.ripe theMethod args0 below0 = true := by decide +kernel
theorem w_running : about1.status = .running := rfl
set_option maxRecDepth 65536 in
theorem w_room : about1.hasRoom e0.platform room_1 = true :=
  launch0.hasRoom_least _ room_1 (by decide +kernel) (by decide +kernel) (by decide +kernel) (by decide +kernel) (by decide +kernel) (by decide +kernel)
theorem allAtoms_all (ts : List Jvm.Cond) (a : Array Jvm.Value) (st : Jvm.State) : (allAtoms ts).before a st = ts.all (fun c => c.before a st) := by
  induction ts with
  | nil => rfl
  | cons c t ih =>
    show (Jvm.Cond.and c (allAtoms t)).before a st = _
    rw [Jvm.Cond.before_and, ih, List.all_cons]
def words1 : List Jvm.Cond := Jvm.Cond.code x code maxLocals ret :: tables_1
/-- a 'code' word, met by the world's own term for the bytes: nothing is compared byte by byte -/
theorem code_word {y : MethodName} {bytes : ByteArray} {mx : Nat} {rt : Option FieldType} {a : Array Value} {s : State} {m : MethodId} {meth : Method} {c : Code} (h1 : s.methodNamed? y = some m) (h2 : s.vm.method? m = some meth) (h3 : meth.code = some c) (h4 : c.code = bytes)
    (h5 : (c.maxLocals == mx && c.exceptionTable.isEmpty && decide (c.maxStack ≤ mostOperands) && decide (meth.sig.returnType = rt) && !meth.locks && decide (parseMethodDescriptor y.desc = some meth.sig)) = true) : (Jvm.Cond.code y bytes mx rt).before a s = true := by
  simp only [Bool.and_eq_true, beq_iff_eq, Bool.not_eq_true', decide_eq_true_eq] at h5
  obtain ⟨⟨⟨⟨⟨g1, g2⟩, g3⟩, g4⟩, g5⟩, g6⟩ := h5
  simp [Cond.before, Cond.holds, Cond.value, h1, h2, h3, h4, g1, g2, g3, g4, g5, g6]
def isCode : Jvm.Cond → Bool
  | .code _ _ _ _ => true
  | _ => false
theorem all_split {L : List Jvm.Cond} {P : Jvm.Cond → Bool} (h1 : L.all (fun c => isCode c || P c) = true) (h2 : ∀ c ∈ L.filter isCode, P c = true) : L.all P = true := by
  refine List.all_eq_true.mpr fun c hc => ?_
  have h := List.all_eq_true.mp h1 c hc
  rcases Bool.eq_false_or_eq_true (isCode c) with hi | hi
  · exact h2 c (List.mem_filter.mpr ⟨hc, hi⟩)
  · simpa [hi] using h
set_option maxRecDepth 65536 in
theorem w_c0 : (Jvm.Cond.code x code maxLocals ret).before args0 about1 = true := code_word (m := ⟨1, 1⟩) (meth := k1m1) (c := k1c1) (by decide +kernel) rfl rfl rfl (by decide +kernel)
set_option maxRecDepth 65536 in
theorem w_c1 : (Jvm.Cond.code ({ cls := "rootzone/CropDay", name := "of", desc := "(D)Lrootzone/CropDay;" } : Jvm.MethodName) prog_4_method_2_code (2 : Nat) (Option.some (Jvm.ClassFile.FieldType.object "rootzone/CropDay"))).before args0 about1 = true := code_word (m := ⟨3, 1⟩) (meth := k3m1) (c := k3c1) (by decide +kernel) rfl rfl rfl (by decide +kernel)
set_option maxRecDepth 65536 in
theorem w_c2 : (Jvm.Cond.code ({ cls := "rootzone/CropDay", name := "<init>", desc := "(DDDD)V" } : Jvm.MethodName) prog_4_method_1_code (9 : Nat) (Option.none : Option Jvm.ClassFile.FieldType)).before args0 about1 = true := code_word (m := ⟨3, 0⟩) (meth := k3m0) (c := k3c0) (by decide +kernel) rfl rfl rfl (by decide +kernel)
set_option maxRecDepth 65536 in
theorem w_c3 : (Jvm.Cond.code ({ cls := "java/lang/Record", name := "<init>", desc := "()V" } : Jvm.MethodName) jdk_30_method_1_code (1 : Nat) (Option.none : Option Jvm.ClassFile.FieldType)).before args0 about1 = true := code_word (m := ⟨2, 0⟩) (meth := k2m0) (c := k2c0) (by decide +kernel) rfl rfl rfl (by decide +kernel)
set_option maxRecDepth 65536 in
theorem w_c4 : (Jvm.Cond.code ({ cls := "java/lang/Object", name := "<init>", desc := "()V" } : Jvm.MethodName) object_method_1_code (1 : Nat) (Option.none : Option Jvm.ClassFile.FieldType)).before args0 about1 = true := code_word (m := ⟨0, 0⟩) (meth := k0m0) (c := k0c0) (by decide +kernel) rfl rfl rfl (by decide +kernel)
set_option maxRecDepth 65536 in
theorem w_c5 : (Jvm.Cond.code ({ cls := "rootzone/CropDay", name := "kcb", desc := "()D" } : Jvm.MethodName) prog_4_method_6_code (1 : Nat) (Option.some Jvm.ClassFile.FieldType.double)).before args0 about1 = true := code_word (m := ⟨3, 2⟩) (meth := k3m2) (c := k3c2) (by decide +kernel) rfl rfl rfl (by decide +kernel)
set_option maxRecDepth 65536 in
theorem w_c6 : (Jvm.Cond.code ({ cls := "rootzone/CropDay", name := "cc", desc := "()D" } : Jvm.MethodName) prog_4_method_7_code (1 : Nat) (Option.some Jvm.ClassFile.FieldType.double)).before args0 about1 = true := code_word (m := ⟨3, 3⟩) (meth := k3m3) (c := k3c3) (by decide +kernel) rfl rfl rfl (by decide +kernel)
set_option maxRecDepth 65536 in
theorem w_c7 : (Jvm.Cond.code ({ cls := "rootzone/CropDay", name := "tu", desc := "()D" } : Jvm.MethodName) prog_4_method_8_code (1 : Nat) (Option.some Jvm.ClassFile.FieldType.double)).before args0 about1 = true := code_word (m := ⟨3, 4⟩) (meth := k3m4) (c := k3c4) (by decide +kernel) rfl rfl rfl (by decide +kernel)
set_option maxRecDepth 65536 in
theorem w_c8 : (Jvm.Cond.code ({ cls := "rootzone/CropDay", name := "ctu", desc := "()D" } : Jvm.MethodName) prog_4_method_9_code (1 : Nat) (Option.some Jvm.ClassFile.FieldType.double)).before args0 about1 = true := code_word (m := ⟨3, 5⟩) (meth := k3m5) (c := k3c5) (by decide +kernel) rfl rfl rfl (by decide +kernel)
def codes1 : List Jvm.Cond := [Jvm.Cond.code x code maxLocals ret, Jvm.Cond.code ({ cls := "rootzone/CropDay", name := "of", desc := "(D)Lrootzone/CropDay;" } : Jvm.MethodName) prog_4_method_2_code (2 : Nat) (Option.some (Jvm.ClassFile.FieldType.object "rootzone/CropDay")), Jvm.Cond.code ({ cls := "rootzone/CropDay", name := "<init>", desc := "(DDDD)V" } : Jvm.MethodName) prog_4_method_1_code (9 : Nat) (Option.none : Option Jvm.ClassFile.FieldType), Jvm.Cond.code ({ cls := "java/lang/Record", name := "<init>", desc := "()V" } : Jvm.MethodName) jdk_30_method_1_code (1 : Nat) (Option.none : Option Jvm.ClassFile.FieldType), Jvm.Cond.code ({ cls := "java/lang/Object", name := "<init>", desc := "()V" } : Jvm.MethodName) object_method_1_code (1 : Nat) (Option.none : Option Jvm.ClassFile.FieldType), Jvm.Cond.code ({ cls := "rootzone/CropDay", name := "kcb", desc := "()D" } : Jvm.MethodName) prog_4_method_6_code (1 : Nat) (Option.some Jvm.ClassFile.FieldType.double), Jvm.Cond.code ({ cls := "rootzone/CropDay", name := "cc", desc := "()D" } : Jvm.MethodName) prog_4_method_7_code (1 : Nat) (Option.some Jvm.ClassFile.FieldType.double), Jvm.Cond.code ({ cls := "rootzone/CropDay", name := "tu", desc := "()D" } : Jvm.MethodName) prog_4_method_8_code (1 : Nat) (Option.some Jvm.ClassFile.FieldType.double), Jvm.Cond.code ({ cls := "rootzone/CropDay", name := "ctu", desc := "()D" } : Jvm.MethodName) prog_4_method_9_code (1 : Nat) (Option.some Jvm.ClassFile.FieldType.double)]
set_option maxRecDepth 65536 in
theorem codes_eq : words1.filter isCode = codes1 := rfl
theorem w_codes : ∀ c ∈ words1.filter isCode, c.before args0 about1 = true := by
  rw [codes_eq]
  intro c hc
  simp only [codes1, List.mem_cons, List.not_mem_nil, or_false] at hc
  rcases hc with rfl | rfl | rfl | rfl | rfl | rfl | rfl | rfl | rfl
  · exact w_c0
  · exact w_c1
  · exact w_c2
  · exact w_c3
  · exact w_c4
  · exact w_c5
  · exact w_c6
  · exact w_c7
  · exact w_c8
set_option maxRecDepth 65536 in
theorem w_t1 : (words1.take 24).all (fun c => isCode c || c.before args0 about1) = true := by decide +kernel
set_option maxRecDepth 65536 in
theorem w_t2 : (words1.drop 24).all (fun c => isCode c || c.before args0 about1) = true := by decide +kernel
theorem w_tables : (allAtoms (Jvm.Cond.code x code maxLocals ret :: tables_1)).before args0 about1 = true := by
  rw [allAtoms_all]
  show words1.all (fun c => c.before args0 about1) = true
  refine all_split ?_ w_codes
  rw [← List.take_append_drop 24 words1, List.all_append, w_t1, w_t2]
  rfl
set_option maxRecDepth 65536 in
theorem w_case : (Jvm.Cond.and given_1 narrow_1).before args0 about1 = true := by decide +kernel
theorem w_applies : (headSpec (Jvm.Cond.code x code maxLocals ret :: tables_1) room_1).applies x e0.platform about1 = true :=
  (Spec.applies_iff w_frames).mpr ⟨w_running, w_runnable, w_alone, w_named, w_hears, w_ripe, w_room, w_tables⟩
theorem atStart : AtStart classFile x code maxLocals ret World_1 tables_1 room_1 Calls_1 rest_1 Pre_1 launch0 p0 e0 about1 theMethod args0 below0 :=
  ⟨lists_1, trivial, launch0.admits_env _ _ _, launch0.least_env, fairChoices_fair.cas, fairChoices_fair.clock, w_frames, w_args, w_heap, w_applies, trivial, trivial, w_case⟩
end start1
theorem witness_1 : WitnessClaimed_1 := ⟨start1.p0, start1.e0, start1.about1, start1.theMethod, start1.args0, start1.below0, start1.atStart⟩
end Jvm.Pilot.@@N@@
