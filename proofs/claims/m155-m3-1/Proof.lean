import JvmDerived
import JvmDerived.Pilot.@@N@@Statement
import JvmDerived.Pilot.@@N@@Code
set_option linter.unusedVariables false
set_option linter.unusedSimpArgs false
@@BLOCK:NumsL.lean.txt@@
namespace Jvm.Pilot.@@N@@
open Jvm Jvm.ClassFile Sem Op Lib Jvm.Free Jvm.Stand Jvm.LawKit Jvm.RoadKit Bundle Jvm.Pilot.@@N@@.Jvm.D
open Jvm.Free.Fl (NoNaN64 Fin64 Nz64)
abbrev uu : Slot := .unset
abbrev ss : Slot := .second
abbrev vi (x : Int32) : Slot := .val (.int x)
abbrev vj (x : Int64) : Slot := .val (.long x)
abbrev vd (x : UInt64) : Slot := .val (.double x)
abbrev vr (x : Addr) : Slot := .val (.ref x)
/-- whatever is reached from here is reached from E -/
abbrev own_G (p : Program) (e : Env) (below : List Frame) (E T : State) (g : JFrame) : Prop := ∀ t, Steps p.tables e below (T.setTop g) t → Steps p.tables e below E t
theorem own_if_eqY {x : Int32} (h : x = 0) : ifCond.holds .eq x = true := by subst h; rfl
theorem own_if_eqN {x : Int32} (h : ¬ x = 0) : ifCond.holds .eq x = false := beq_false_of_ne h
theorem own_if_neY {x : Int32} (h : ¬ x = 0) : ifCond.holds .ne x = true := bne_iff_ne.mpr h
theorem own_if_neN {x : Int32} (h : x = 0) : ifCond.holds .ne x = false := by subst h; rfl
theorem own_if_ltY {x : Int32} (h : x < 0) : ifCond.holds .lt x = true := decide_eq_true h
theorem own_if_ltN {x : Int32} (h : ¬ x < 0) : ifCond.holds .lt x = false := decide_eq_false h
theorem own_if_geY {x : Int32} (h : ¬ x < 0) : ifCond.holds .ge x = true := decide_eq_true (Int32.not_lt.mp h)
theorem own_if_geN {x : Int32} (h : x < 0) : ifCond.holds .ge x = false := decide_eq_false (fun q => Int32.not_le.mpr h q)
theorem own_if_gtY {x : Int32} (h : 0 < x) : ifCond.holds .gt x = true := decide_eq_true h
theorem own_if_gtN {x : Int32} (h : ¬ 0 < x) : ifCond.holds .gt x = false := decide_eq_false h
theorem own_if_leY {x : Int32} (h : ¬ 0 < x) : ifCond.holds .le x = true := decide_eq_true (Int32.not_lt.mp h)
theorem own_if_leN {x : Int32} (h : 0 < x) : ifCond.holds .le x = false := decide_eq_false (fun q => Int32.not_le.mpr h q)
theorem own_ic_eqY {x y : Int32} (h : x = y) : if_icmp.holds .eq x y = true := beq_iff_eq.mpr h
theorem own_ic_eqN {x y : Int32} (h : ¬ x = y) : if_icmp.holds .eq x y = false := beq_false_of_ne h
theorem own_ic_neY {x y : Int32} (h : ¬ x = y) : if_icmp.holds .ne x y = true := bne_iff_ne.mpr h
theorem own_ic_neN {x y : Int32} (h : x = y) : if_icmp.holds .ne x y = false := by subst h; exact bne_self_eq_false x
theorem own_ic_ltY {x y : Int32} (h : x < y) : if_icmp.holds .lt x y = true := decide_eq_true h
theorem own_ic_ltN {x y : Int32} (h : ¬ x < y) : if_icmp.holds .lt x y = false := decide_eq_false h
theorem own_ic_geY {x y : Int32} (h : ¬ x < y) : if_icmp.holds .ge x y = true := decide_eq_true (Int32.not_lt.mp h)
theorem own_ic_geN {x y : Int32} (h : x < y) : if_icmp.holds .ge x y = false := decide_eq_false (fun q => Int32.not_le.mpr h q)
theorem own_ic_gtY {x y : Int32} (h : y < x) : if_icmp.holds .gt x y = true := decide_eq_true h
theorem own_ic_gtN {x y : Int32} (h : ¬ y < x) : if_icmp.holds .gt x y = false := decide_eq_false h
theorem own_ic_leY {x y : Int32} (h : ¬ y < x) : if_icmp.holds .le x y = true := decide_eq_true (Int32.not_lt.mp h)
theorem own_ic_leN {x y : Int32} (h : y < x) : if_icmp.holds .le x y = false := decide_eq_false (fun q => Int32.not_le.mpr h q)
/-- what a comparison of two whole or scaled values pushes -/
def own_c (i j : Int) : Int32 := if i < j then -1 else if i = j then 0 else 1
theorem own_cE (o : CmpOp) {x y : UInt64} {i j : Int} (h : FP.dcmp x y = some (compare i j)) : cmpValue (FP.dcmp x y) o = own_c i j := by
  rw [h, FP.Core.compare_ite, own_c]
  by_cases h1 : i < j
  · rw [if_pos h1, if_pos h1]; cases o <;> rfl
  · rw [if_neg h1, if_neg h1]
    by_cases h2 : i = j
    · rw [if_pos h2, if_pos h2]; cases o <;> rfl
    · rw [if_neg h2, if_neg h2]; cases o <;> rfl
theorem own_c_lt {i j : Int} (h : i < j) : own_c i j = -1 := by rw [own_c, if_pos h]
theorem own_c_eq {i j : Int} (h : i = j) : own_c i j = 0 := by rw [own_c, if_neg (by omega), if_pos h]
theorem own_c_gt {i j : Int} (h : j < i) : own_c i j = 1 := by rw [own_c, if_neg (by omega), if_neg (by omega)]
theorem own_c_cases (i j : Int) : (i < j ∧ own_c i j = -1) ∨ (i = j ∧ own_c i j = 0) ∨ (j < i ∧ own_c i j = 1) := by
  rcases Int.lt_trichotomy i j with h | h | h
  · exact Or.inl ⟨h, own_c_lt h⟩
  · exact Or.inr (Or.inl ⟨h, own_c_eq h⟩)
  · exact Or.inr (Or.inr ⟨h, own_c_gt h⟩)
theorem own_c_ltY {i j : Int} (h : i < j) : ifCond.holds .lt (own_c i j) = true := by rw [own_c_lt h]; rfl
theorem own_c_ltN {i j : Int} (h : ¬ i < j) : ifCond.holds .lt (own_c i j) = false := by rcases own_c_cases i j with q | q | q <;> first | exact absurd q.1 h | (rw [q.2]; rfl)
theorem own_c_geY {i j : Int} (h : ¬ i < j) : ifCond.holds .ge (own_c i j) = true := by rcases own_c_cases i j with q | q | q <;> first | exact absurd q.1 h | (rw [q.2]; rfl)
theorem own_c_geN {i j : Int} (h : i < j) : ifCond.holds .ge (own_c i j) = false := by rw [own_c_lt h]; rfl
theorem own_c_gtY {i j : Int} (h : j < i) : ifCond.holds .gt (own_c i j) = true := by rw [own_c_gt h]; rfl
theorem own_c_gtN {i j : Int} (h : ¬ j < i) : ifCond.holds .gt (own_c i j) = false := by rcases own_c_cases i j with q | q | q <;> first | exact absurd q.1 h | (rw [q.2]; rfl)
theorem own_c_leY {i j : Int} (h : ¬ j < i) : ifCond.holds .le (own_c i j) = true := by rcases own_c_cases i j with q | q | q <;> first | exact absurd q.1 h | (rw [q.2]; rfl)
theorem own_c_leN {i j : Int} (h : j < i) : ifCond.holds .le (own_c i j) = false := by rw [own_c_gt h]; rfl
theorem own_c_eqY {i j : Int} (h : i = j) : ifCond.holds .eq (own_c i j) = true := by rw [own_c_eq h]; rfl
theorem own_c_eqN {i j : Int} (h : ¬ i = j) : ifCond.holds .eq (own_c i j) = false := by rcases own_c_cases i j with q | q | q <;> first | exact absurd q.1 h | (rw [q.2]; rfl)
theorem own_c_neY {i j : Int} (h : ¬ i = j) : ifCond.holds .ne (own_c i j) = true := by rcases own_c_cases i j with q | q | q <;> first | exact absurd q.1 h | (rw [q.2]; rfl)
theorem own_c_neN {i j : Int} (h : i = j) : ifCond.holds .ne (own_c i j) = false := by rw [own_c_eq h]; rfl
theorem own_l_lt {i j : Int64} (h : i < j) : XT.cmpL i j = -1 := by
  rw [XT.cmpL, if_neg (fun q => Int64.lt_irrefl (Int64.lt_trans h q)), if_neg (fun q => Int64.lt_irrefl (q ▸ h))]
theorem own_l_eq {i j : Int64} (h : i = j) : XT.cmpL i j = 0 := by subst h; rw [XT.cmpL, if_neg Int64.lt_irrefl, if_pos rfl]
theorem own_l_gt {i j : Int64} (h : j < i) : XT.cmpL i j = 1 := by rw [XT.cmpL, if_pos h]
theorem own_l_cases (i j : Int64) : (i < j ∧ XT.cmpL i j = -1) ∨ (i = j ∧ XT.cmpL i j = 0) ∨ (j < i ∧ XT.cmpL i j = 1) := by
  by_cases h : i < j
  · exact Or.inl ⟨h, own_l_lt h⟩
  · by_cases h2 : i = j
    · exact Or.inr (Or.inl ⟨h2, own_l_eq h2⟩)
    · have h3 : j < i := by
        rw [Int64.lt_iff_toInt_lt] at h ⊢
        have h4 : i.toInt ≠ j.toInt := fun q => h2 (Int64.toInt_inj.mp q)
        omega
      exact Or.inr (Or.inr ⟨h3, own_l_gt h3⟩)
theorem own_l_ltY {i j : Int64} (h : i < j) : ifCond.holds .lt (XT.cmpL i j) = true := by rw [own_l_lt h]; rfl
theorem own_l_ltN {i j : Int64} (h : ¬ i < j) : ifCond.holds .lt (XT.cmpL i j) = false := by rcases own_l_cases i j with q | q | q <;> first | exact absurd q.1 h | (rw [q.2]; rfl)
theorem own_l_geY {i j : Int64} (h : ¬ i < j) : ifCond.holds .ge (XT.cmpL i j) = true := by rcases own_l_cases i j with q | q | q <;> first | exact absurd q.1 h | (rw [q.2]; rfl)
theorem own_l_geN {i j : Int64} (h : i < j) : ifCond.holds .ge (XT.cmpL i j) = false := by rw [own_l_lt h]; rfl
theorem own_l_gtY {i j : Int64} (h : j < i) : ifCond.holds .gt (XT.cmpL i j) = true := by rw [own_l_gt h]; rfl
theorem own_l_gtN {i j : Int64} (h : ¬ j < i) : ifCond.holds .gt (XT.cmpL i j) = false := by rcases own_l_cases i j with q | q | q <;> first | exact absurd q.1 h | (rw [q.2]; rfl)
theorem own_l_leY {i j : Int64} (h : ¬ j < i) : ifCond.holds .le (XT.cmpL i j) = true := by rcases own_l_cases i j with q | q | q <;> first | exact absurd q.1 h | (rw [q.2]; rfl)
theorem own_l_leN {i j : Int64} (h : j < i) : ifCond.holds .le (XT.cmpL i j) = false := by rw [own_l_gt h]; rfl
theorem own_l_eqY {i j : Int64} (h : i = j) : ifCond.holds .eq (XT.cmpL i j) = true := by rw [own_l_eq h]; rfl
theorem own_l_eqN {i j : Int64} (h : ¬ i = j) : ifCond.holds .eq (XT.cmpL i j) = false := by rcases own_l_cases i j with q | q | q <;> first | exact absurd q.1 h | (rw [q.2]; rfl)
theorem own_l_neY {i j : Int64} (h : ¬ i = j) : ifCond.holds .ne (XT.cmpL i j) = true := by rcases own_l_cases i j with q | q | q <;> first | exact absurd q.1 h | (rw [q.2]; rfl)
theorem own_l_neN {i j : Int64} (h : i = j) : ifCond.holds .ne (XT.cmpL i j) = false := by rw [own_l_eq h]; rfl
theorem own_ac_eq_Y {x y : Value} (h : x = y) : XT.acmp .eq x y = true := decide_eq_true h
theorem own_ac_eq_N {x y : Value} (h : ¬ x = y) : XT.acmp .eq x y = false := decide_eq_false h
theorem own_ac_ne_Y {x y : Value} (h : ¬ x = y) : XT.acmp .ne x y = true := decide_eq_true h
theorem own_ac_ne_N {x y : Value} (h : x = y) : XT.acmp .ne x y = false := decide_eq_false (fun q => q h)
theorem own_ar_eq_Y {x y : Addr} (h : x = y) : XT.acmp .eq (.ref x) (.ref y) = true := own_ac_eq_Y (congrArg Value.ref h)
theorem own_ar_eq_N {x y : Addr} (h : ¬ x = y) : XT.acmp .eq (.ref x) (.ref y) = false := own_ac_eq_N (fun q => h (Value.ref.inj q))
theorem own_ar_ne_Y {x y : Addr} (h : ¬ x = y) : XT.acmp .ne (.ref x) (.ref y) = true := own_ac_ne_Y (fun q => h (Value.ref.inj q))
theorem own_ar_ne_N {x y : Addr} (h : x = y) : XT.acmp .ne (.ref x) (.ref y) = false := own_ac_ne_N (congrArg Value.ref h)
/-- a static's object's field that the case names by a number -/
theorem own_ord {args : Array Value} {s : State} {t : Term} {C n d : String} {k : Int32} {x : Addr} (ev : t.eval args s none [] s = some (.ref x))
    (h : (Jvm.Cond.eq (Term.field t C n d) (Term.int k)).value args s none s [] = some true) : s.fieldOf? x C n d = some (.int k) := by
  obtain ⟨v, u, e1, e2, k1, k2⟩ := cmp_v (Or.inl h)
  have e3 : u = .int k := by have := (Term.int_eval (args := args) (first := s) (o := none) (idx := []) (s := s) k).symm.trans e2; exact (Option.some.inj this).symm
  subst e3
  obtain ⟨z, rfl⟩ := k2
  have q := gotT (Cond.eq_ints e1 e2) h
  rw [← fld_at ev, e1, q]
/-! doubles: exact values in units of the least double -/
def own_z (x : UInt64) : Int := FP.Core.zval FP.Core.b64 (FP.Core.val64 x)
theorem own_nn {i : Int} {x : UInt64} (h : FP.Core.DInt i x) : NoNaN64 x := Fl.val64_no.mpr (FP.Core.DInt_ne_nan h)
theorem own_cmpz {x y : UInt64} (hx : NoNaN64 x) (hy : NoNaN64 y) : FP.dcmp x y = some (compare (own_z x) (own_z y)) := FP.Core.dcmp_zval (Fl.val64_no.mp hx) (Fl.val64_no.mp hy)
theorem own_d0 : FP.Core.DInt 0 FP.dconst0 := by
  have h := FP.Core.l2d_int (a := 0) (by decide)
  rw [FP.Core.l2d_zero] at h; exact h
theorem own_d1 : FP.Core.DInt 1 FP.dconst1 := FP.Core.dint_one
theorem own_zi {i : Int} {x : UInt64} (h : FP.Core.DInt i x) : own_z x = i * (FP.Core.one64 : Int) := FP.Core.DInt_zval h
theorem own_fini {i : Int} {x : UInt64} (h : FP.Core.DInt i x) : Fin64 x := by
  have h' : FP.Core.Whole i (FP.Core.val64 x) := h
  cases hv : FP.Core.val64 x with
  | nan => rw [hv] at h'; exact h'.elim
  | inf s => rw [hv] at h'; exact h'.elim
  | fin s c q => exact Fl.fin64_core.mpr ⟨s, c, q, hv⟩
theorem own_one : (0 : Int) < (FP.Core.one64 : Int) := by have := FP.Core.one64_pos; omega
theorem own_nz {x : UInt64} (h : own_z x ≠ 0) : Nz64 x := Fl.nz64_core.mpr fun ⟨s, q, e⟩ => h (by
  show FP.Core.zval FP.Core.b64 (FP.Core.val64 x) = 0
  rw [e]; show FP.Core.signed s (0 * _) = 0; rw [Nat.zero_mul]; cases s <;> rfl)
theorem own_nzi {i : Int} {x : UInt64} (h : FP.Core.DInt i x) (hi : i ≠ 0) : Nz64 x := own_nz (by
  rw [own_zi h]; intro q; rcases Int.mul_eq_zero.mp q with r | r
  · exact hi r
  · have := own_one; omega)
theorem own_zn (x : UInt64) : (own_z x).natAbs = FP.Core.zmag FP.Core.b64 (FP.Core.val64 x) := FP.Core.natAbs_signed _ _
/-- the quotient, by the two values alone -/
theorem own_quot {x y : UInt64} (hx : Fin64 x) (hy : Fin64 y) (hz : own_z y ≠ 0) :
    FP.Core.val64 (FP.ddiv x y) = FP.Core.roundRatio FP.Core.b64 (FP.Core.sgn (FP.Core.val64 x) != FP.Core.sgn (FP.Core.val64 y)) (own_z x).natAbs (own_z y).natAbs 0 := by
  obtain ⟨s, c, q, ex⟩ := Fl.fin64_core.mp hx
  obtain ⟨t, d, r, ey⟩ := Fl.fin64_core.mp hy
  have fx : FP.Core.fits FP.Core.b64 (.fin s c q) := ex ▸ FP.Core.val64_fits x
  have fy : FP.Core.fits FP.Core.b64 (.fin t d r) := ey ▸ FP.Core.val64_fits y
  have hd : d ≠ 0 := fun h => hz (by
    show FP.Core.zval FP.Core.b64 (FP.Core.val64 y) = 0
    rw [ey, h]; show FP.Core.signed t (0 * _) = 0; rw [Nat.zero_mul]; cases t <;> rfl)
  rw [own_zn, own_zn, show FP.ddiv x y = FP.Core.ddiv x y from rfl, FP.Core.val64_ddiv, ex, ey]
  show (if d = 0 then _ else FP.Core.roundRatio FP.Core.b64 (s != t) c d (q - r)) = FP.Core.roundRatio FP.Core.b64 (s != t) (c * 2 ^ (q - FP.Core.b64.qmin).toNat) (d * 2 ^ (r - FP.Core.b64.qmin).toNat) 0
  rw [if_neg hd]
  refine FP.Core.roundRatio_congr (Nat.pos_of_ne_zero hd) (Nat.mul_pos (Nat.pos_of_ne_zero hd) (Nat.two_pow_pos _)) ?_
  have h1 := fx.2.1
  have h2 := fy.2.1
  have e1 : (r - FP.Core.b64.qmin).toNat + (q - r - 0).toNat = (q - FP.Core.b64.qmin).toNat + (0 - (q - r)).toNat := by omega
  calc c * (d * 2 ^ (r - FP.Core.b64.qmin).toNat) * 2 ^ (q - r - 0).toNat = c * d * (2 ^ (r - FP.Core.b64.qmin).toNat * 2 ^ (q - r - 0).toNat) := by
        rw [Nat.mul_assoc, Nat.mul_assoc, Nat.mul_assoc]
    _ = c * d * (2 ^ (q - FP.Core.b64.qmin).toNat * 2 ^ (0 - (q - r)).toNat) := by rw [← Nat.pow_add, ← Nat.pow_add, e1]
    _ = c * 2 ^ (q - FP.Core.b64.qmin).toNat * d * 2 ^ (0 - (q - r)).toNat := by
        rw [Nat.mul_right_comm c _ d, Nat.mul_assoc (c * d)]
theorem own_noNaN_of {x : UInt64} {s : Bool} {A B : Nat} {e : Int} (h : FP.Core.val64 x = FP.Core.roundRatio FP.Core.b64 s A B e) : NoNaN64 x :=
  Fl.val64_no.mpr (h ▸ FP.Core.roundRatio_ne_nan _ _ _ _ _)
theorem own_div_nn {x y : UInt64} (hx : Fin64 x) (hy : Fin64 y) (hz : own_z y ≠ 0) : NoNaN64 (FP.ddiv x y) := Fl.ddiv_out hx.noNaN hy (own_nz hz)
/-- what is rounded below (above) a double stays there -/
theorem own_rr_le {s : Bool} {A B : Nat} {V : UInt64} (hB : 0 < B) (hV : NoNaN64 V) (h : A * FP.Core.one64 ≤ (own_z V).natAbs * B) :
    FP.Core.zmag FP.Core.b64 (FP.Core.roundRatio FP.Core.b64 s A B 0) ≤ (own_z V).natAbs := by
  rw [own_zn] at h ⊢
  refine FP.Core.zmag_roundRatio_le FP.Core.good_b64 hB (FP.Core.val64_fits V) (Fl.val64_no.mp hV) (e0 := FP.Core.b64.qmin) (Int.le_refl _) (by decide +kernel) ?_
  rw [Int.sub_self]
  show A * 2 ^ (0 - FP.Core.b64.qmin).toNat ≤ _ * 1 * B
  rw [Nat.mul_one, Int.zero_sub, FP.Core.pow_qmin64]; exact h
theorem own_rr_ge {s : Bool} {A B : Nat} {V : UInt64} (hB : 0 < B) (h : (own_z V).natAbs * B ≤ A * FP.Core.one64) :
    (own_z V).natAbs ≤ FP.Core.zmag FP.Core.b64 (FP.Core.roundRatio FP.Core.b64 s A B 0) := by
  rw [own_zn] at h ⊢
  refine FP.Core.zmag_roundRatio_ge FP.Core.good_b64 hB (FP.Core.val64_fits V) (e0 := FP.Core.b64.qmin) (Int.le_refl _) (by decide +kernel) ?_
  rw [Int.sub_self]
  show _ * 1 * B ≤ A * 2 ^ (0 - FP.Core.b64.qmin).toNat
  rw [Nat.mul_one, Int.zero_sub, FP.Core.pow_qmin64]; exact h
theorem own_z_signed {x : UInt64} {s : Bool} {A B : Nat} (h : FP.Core.val64 x = FP.Core.roundRatio FP.Core.b64 s A B 0) :
    own_z x = FP.Core.signed s (FP.Core.zmag FP.Core.b64 (FP.Core.roundRatio FP.Core.b64 s A B 0)) := by
  show FP.Core.signed _ _ = _
  rw [h, FP.Core.sgn_roundRatio]
/-- a quotient of two that are not below nought -/
theorem own_div_ge0 {x y : UInt64} (hx : Fin64 x) (hy : Fin64 y) (hz : own_z y ≠ 0) (h0 : 0 ≤ own_z x) (h1 : 0 ≤ own_z y) : 0 ≤ own_z (FP.ddiv x y) := by
  have hq := own_quot hx hy hz
  rw [own_z_signed hq]
  cases hs : (FP.Core.sgn (FP.Core.val64 x) != FP.Core.sgn (FP.Core.val64 y)) with
  | false => exact Int.natCast_nonneg _
  | true =>
    have hy2 : FP.Core.sgn (FP.Core.val64 y) = false := by
      cases hs2 : FP.Core.sgn (FP.Core.val64 y) with
      | false => rfl
      | true =>
        exfalso; have : own_z y = -(FP.Core.zmag FP.Core.b64 (FP.Core.val64 y) : Int) := by show FP.Core.signed _ _ = _; rw [hs2]; rfl
        omega
    have hx2 : FP.Core.sgn (FP.Core.val64 x) = true := by rw [hy2] at hs; simpa using hs
    have hx3 : own_z x = -(FP.Core.zmag FP.Core.b64 (FP.Core.val64 x) : Int) := by show FP.Core.signed _ _ = _; rw [hx2]; rfl
    have hx4 : (own_z x).natAbs = 0 := by omega
    rw [hx4, FP.Core.roundRatio, if_pos rfl]
    show 0 ≤ FP.Core.signed true (0 * _); rw [Nat.zero_mul]; decide
theorem own_div_le {x y V : UInt64} (hx : Fin64 x) (hy : Fin64 y) (hz : own_z y ≠ 0) (hV : NoNaN64 V) (h0 : 0 ≤ own_z x) (h1 : 0 ≤ own_z y) (h2 : 0 ≤ own_z V)
    (h : own_z x * (FP.Core.one64 : Int) ≤ own_z V * own_z y) : own_z (FP.ddiv x y) ≤ own_z V := by
  have hq := own_quot hx hy hz
  have hge := own_div_ge0 hx hy hz h0 h1
  have hB : 0 < (own_z y).natAbs := by omega
  have h3 : (own_z x).natAbs * FP.Core.one64 ≤ (own_z V).natAbs * (own_z y).natAbs := by
    have e1 : ((own_z x).natAbs : Int) = own_z x := by omega
    have e2 : ((own_z y).natAbs : Int) = own_z y := by omega
    have e3 : ((own_z V).natAbs : Int) = own_z V := by omega
    have : (((own_z x).natAbs * FP.Core.one64 : Nat) : Int) ≤ (((own_z V).natAbs * (own_z y).natAbs : Nat) : Int) := by
      rw [Int.natCast_mul, Int.natCast_mul, e1, e2, e3]; exact h
    exact Int.ofNat_le.mp this
  have := own_rr_le (s := FP.Core.sgn (FP.Core.val64 x) != FP.Core.sgn (FP.Core.val64 y)) hB hV h3
  have h4 : (own_z (FP.ddiv x y)).natAbs ≤ (own_z V).natAbs := by rw [own_zn, hq]; exact this
  omega
/-- two doubles of the same whole value compare as equal -/
theorem own_eq0 {x y : UInt64} {i : Int} (o : CmpOp) (hx : FP.Core.DInt i x) (hy : FP.Core.DInt i y) : cmpValue (FP.dcmp x y) o = 0 := by
  rw [own_cE o (FP.Core.dcmp_int hx hy), own_c_eq rfl]
theorem own_mb {a b A B : Int} (h1 : -A ≤ a) (h2 : a ≤ A) (h3 : -B ≤ b) (h4 : b ≤ B) (h : A * B ≤ 9007199254740992) : (a * b).natAbs ≤ 2 ^ 53 := by
  rw [Int.natAbs_mul]
  have e1 : a.natAbs ≤ A.toNat := by omega
  have e2 : b.natAbs ≤ B.toNat := by omega
  have e3 : a.natAbs * b.natAbs ≤ A.toNat * B.toNat := Nat.mul_le_mul e1 e2
  have e4 : ((A.toNat * B.toNat : Nat) : Int) = A * B := by rw [Int.natCast_mul, Int.toNat_of_nonneg (by omega), Int.toNat_of_nonneg (by omega)]
  have e5 : (2 : Nat) ^ 53 = 9007199254740992 := by decide
  omega
theorem own_dl (a : Int64) {i : Int} (h : a.toInt = i) (hb : i.natAbs ≤ 2 ^ 53) : FP.Core.DInt i (FP.l2d a) := by subst h; exact FP.Core.l2d_int hb
theorem own_lm {a b : Int64} (h : (a.toInt * b.toInt).natAbs ≤ 2 ^ 53) : (a * b).toInt = a.toInt * b.toInt := by
  have e5 : (2 : Nat) ^ 53 = 9007199254740992 := by decide
  exact Jvm.Kit.i64_mul (by omega) (by omega)
theorem own_sgn_mul {s t : Bool} {b : Nat} {k : Int} (hb : 0 < b) (h : FP.Core.signed s (k.natAbs * b) = k * FP.Core.signed t b) : FP.Core.signed (s != t) k.natAbs = k := by
  have hb' : (0 : Int) < (b : Int) := by omega
  have e : ((k.natAbs * b : Nat) : Int) = (k.natAbs : Int) * (b : Int) := Int.natCast_mul _ _
  have key : ∀ z : Int, (k.natAbs : Int) * (b : Int) = z * (b : Int) → (k.natAbs : Int) = z := fun z q => Int.eq_of_mul_eq_mul_right (by omega) q
  cases s <;> cases t
  · show (k.natAbs : Int) = k
    apply key; rw [← e]; exact h
  · show -(k.natAbs : Int) = k
    have h' : ((k.natAbs * b : Nat) : Int) = k * -(b : Int) := h
    have := key (-k) (by rw [← e, h', Int.mul_neg, Int.neg_mul]); omega
  · show -(k.natAbs : Int) = k
    have h' : -((k.natAbs * b : Nat) : Int) = k * (b : Int) := h
    have := key (-k) (by rw [← e, Int.neg_mul, ← h', Int.neg_neg]); omega
  · show (k.natAbs : Int) = k
    have h' : -((k.natAbs * b : Nat) : Int) = k * -(b : Int) := h
    apply key; rw [← e]
    have : -((k.natAbs * b : Nat) : Int) = -(k * (b : Int)) := by rw [h', Int.mul_neg]
    omega
/-- a quotient of whole values that comes out even -/
theorem own_ddiv_int {k j : Int} {x y : UInt64} (hx : FP.Core.DInt (k * j) x) (hy : FP.Core.DInt j y) (hj : j ≠ 0) (hk : k.natAbs ≤ 2 ^ 53) : FP.Core.DInt k (FP.ddiv x y) := by
  have zx := own_zi hx
  have zy := own_zi hy
  have hz : own_z y ≠ 0 := by rw [zy]; exact Int.mul_ne_zero hj (by have := own_one; omega)
  have hq := own_quot (own_fini hx) (own_fini hy) hz
  have ha : (own_z x).natAbs = k.natAbs * (own_z y).natAbs := by rw [zx, zy, Int.mul_assoc, Int.natAbs_mul]
  have hb : 0 < (own_z y).natAbs := by omega
  show FP.Core.Whole k (FP.Core.val64 (FP.ddiv x y))
  rw [hq, ha, FP.Core.roundRatio_congr (A' := k.natAbs) (B' := 1) (e' := 0) hb (by decide) (by rw [Nat.mul_one])]
  refine FP.Core.whole_round FP.Core.good_b64 FP.Core.wide_b64 hk (d := .fin (FP.Core.sgn (FP.Core.val64 x) != FP.Core.sgn (FP.Core.val64 y)) k.natAbs 0) ?_
  show FP.Core.signed _ (k.natAbs * 1) = k * ((1 : Nat) : Int)
  rw [Nat.mul_one, show ((1 : Nat) : Int) = 1 from rfl, Int.mul_one]
  refine own_sgn_mul hb ?_
  have e1 : FP.Core.signed (FP.Core.sgn (FP.Core.val64 x)) (own_z x).natAbs = own_z x := by rw [own_zn]; rfl
  have e2 : FP.Core.signed (FP.Core.sgn (FP.Core.val64 y)) (own_z y).natAbs = own_z y := by rw [own_zn]; rfl
  rw [← ha, e1, e2, zx, zy, Int.mul_assoc]
theorem own_zmag_s (s : Bool) (A B : Nat) (e : Int) : FP.Core.zmag FP.Core.b64 (FP.Core.roundRatio FP.Core.b64 s A B e) = FP.Core.zmag FP.Core.b64 (FP.Core.roundRatio FP.Core.b64 false A B e) := by
  cases s with
  | false => rfl
  | true =>
    rw [show FP.Core.roundRatio FP.Core.b64 true A B e = FP.Core.negate (FP.Core.roundRatio FP.Core.b64 false A B e) from (FP.Core.negate_roundRatio FP.Core.b64 false A B e).symm]
    cases FP.Core.roundRatio FP.Core.b64 false A B e <;> rfl
theorem own_div_n {x y : UInt64} (hx : Fin64 x) (hy : Fin64 y) (hz : own_z y ≠ 0) : (own_z (FP.ddiv x y)).natAbs = FP.Core.zmag FP.Core.b64 (FP.Core.roundRatio FP.Core.b64 false (own_z x).natAbs (own_z y).natAbs 0) := by
  rw [own_zn, own_quot hx hy hz, own_zmag_s]
/-- two quotients of the same ratio, none below nought -/
theorem own_div_congr {x y x' y' : UInt64} (hx : Fin64 x) (hy : Fin64 y) (hz : own_z y ≠ 0) (hx' : Fin64 x') (hy' : Fin64 y') (hz' : own_z y' ≠ 0)
    (g1 : 0 ≤ own_z x) (g2 : 0 ≤ own_z y) (g3 : 0 ≤ own_z x') (g4 : 0 ≤ own_z y') (h : own_z x * own_z y' = own_z x' * own_z y) : own_z (FP.ddiv x y) = own_z (FP.ddiv x' y') := by
  have e1 := own_div_n hx hy hz
  have e2 := own_div_n hx' hy' hz'
  have k1 := own_div_ge0 hx hy hz g1 g2
  have k2 := own_div_ge0 hx' hy' hz' g3 g4
  have h' : (own_z x).natAbs * (own_z y').natAbs = (own_z x').natAbs * (own_z y).natAbs := by rw [← Int.natAbs_mul, ← Int.natAbs_mul, h]
  rw [FP.Core.roundRatio_congr (A' := (own_z x').natAbs) (B' := (own_z y').natAbs) (e' := 0) (by omega) (by omega) (by rw [h'])] at e1
  omega
/-- m * 2^k units is a double -/
theorem own_rep (m k : Nat) (hm : m < 2 ^ 53) (hk : k ≤ 2045) : ∃ V : UInt64, Fin64 V ∧ own_z V = ((m * 2 ^ k : Nat) : Int) := by
  have hq : FP.Core.b64.qmin = -1074 := FP.Core.qmin_b64
  have hq2 : FP.Core.b64.qmax = 971 := by decide
  obtain ⟨c, q, e1, e2⟩ := FP.Core.round_exact FP.Core.good_b64 false (c := m) (q := (k : Int) - 1074) hm (by rw [hq]; omega) (by rw [hq2]; omega)
  have hv : FP.Core.val64 (FP.Core.of64 (FP.Core.round FP.Core.b64 (.fin false m ((k : Int) - 1074)))) = .fin false c q := by
    rw [FP.Core.val64_of64 (FP.Core.round_fits FP.Core.good_b64 _), e1]
  refine ⟨_, Fl.fin64_core.mpr ⟨_, _, _, hv⟩, ?_⟩
  show FP.Core.zval FP.Core.b64 _ = _
  rw [hv]
  show ((FP.Core.inUnits c q FP.Core.b64.qmin : Nat) : Int) = _
  rw [e2, FP.Core.inUnits, hq, show ((k : Int) - 1074 - -1074).toNat = k by omega]
/-- a quotient that comes out even in some binary place -/
theorem own_div_exact {x y : UInt64} (hx : Fin64 x) (hy : Fin64 y) (hz : own_z y ≠ 0) (g1 : 0 ≤ own_z x) (g2 : 0 ≤ own_z y) (m k : Nat) (hm : m < 2 ^ 53) (hk : k ≤ 2045)
    (h : own_z x * (FP.Core.one64 : Int) = ((m * 2 ^ k : Nat) : Int) * own_z y) : own_z (FP.ddiv x y) = ((m * 2 ^ k : Nat) : Int) := by
  obtain ⟨V, fV, zV⟩ := own_rep m k hm hk
  have k1 := own_div_ge0 hx hy hz g1 g2
  have e1 := own_div_n hx hy hz
  have h3 : (own_z x).natAbs * FP.Core.one64 = (own_z V).natAbs * (own_z y).natAbs := by
    have := congrArg Int.natAbs h
    rw [Int.natAbs_mul, Int.natAbs_mul, ← zV] at this
    exact this
  have l1 := own_rr_le (s := false) (A := (own_z x).natAbs) (B := (own_z y).natAbs) (V := V) (by omega) fV.noNaN (Nat.le_of_eq h3)
  have l2 := own_rr_ge (s := false) (A := (own_z x).natAbs) (B := (own_z y).natAbs) (V := V) (by omega) (Nat.le_of_eq h3.symm)
  omega
theorem own_eqz {x y : UInt64} (o : CmpOp) (hx : NoNaN64 x) (hy : NoNaN64 y) (h : own_z x = own_z y) : cmpValue (FP.dcmp x y) o = 0 := by
  rw [own_cE o (own_cmpz hx hy), own_c_eq h]
theorem own_ge0 {x : UInt64} (h : 0 ≤ own_z x) : ¬ own_z x < own_z FP.dconst0 := by rw [own_zi own_d0, Int.zero_mul]; exact Int.not_lt.mpr h
theorem own_le1 {x : UInt64} (h : own_z x ≤ own_z FP.dconst1) : ¬ own_z FP.dconst1 < own_z x := Int.not_lt.mpr h
/-! arrays by the list of what they hold -/
def own_A (Z : State) (h : Heap) (a : Addr) (ty : FieldType) (vs : List Value) : Prop := ∃ c : Cell, Arr Z h a c ty ∧ c.slots.toList = vs
section OwnArr
variable {p : Program} {l : Launch} {e : Env} {R : Room} {s : State} {m : MethodId} {args : Array Value} {below : List Frame} {meth : Method} {c : Code} {T : State} {locs : List Loc} {cells slots : Nat} {Z : State} {h h' : Heap} {a b : Addr} {ty : FieldType} {vs : List Value} {sl : Nat} {v : Value} {ws : List Addr}
theorem own_A.lt (F : own_A Z h a ty vs) : a < h.size := by obtain ⟨c, A, -⟩ := F; exact A.lt
theorem own_A.ext (F : own_A Z h a ty vs) (E : Ext h h') : own_A Z h' a ty vs := by obtain ⟨c, A, r⟩ := F; exact ⟨c, A.ext E, r⟩
theorem own_A.other (F : own_A Z h b ty vs) (W : Wr h h' a sl v) (q : b ≠ a) : own_A Z h' b ty vs := by obtain ⟨c, A, r⟩ := F; exact ⟨c, A.other W q, r⟩
theorem own_A.keep (F : own_A Z h a ty vs) (K : Keep h h' ws) (q : a ∉ ws) : own_A Z h' a ty vs := by obtain ⟨c, A, r⟩ := F; exact ⟨c, ⟨K.2.1 a c A.1 q, A.2⟩, r⟩
theorem own_A.new {k : ClassId} {n : Int32} (A : Arr Z h a (newA k ty n) ty) : own_A Z h a ty (List.replicate n.toNatClampNeg (defaultValue ty)) := ⟨_, A, by simp [newA]⟩
theorem own_A.len (X : Stand p l e R s m args below meth c T locs cells slots) (hx : p.tables.exec = Jvm.exec) (hZ : Z.Warmed39 s.vm) (eT : T.heap = h) (F : own_A Z h a ty vs)
    {g : JFrame} (hg : g.method = m) {rest : List Value} (hs : g.stack = .ref a :: rest) (hd : decode c.code g.pc = .ok (.arraylength, 1)) (target : State)
    (hr : Steps p.tables e below (T.setTop { g with pc := g.pc + 1, stack := .int vs.length.toInt32 :: rest }) target) : Steps p.tables e below (T.setTop g) target := by
  obtain ⟨cl, A, rfl⟩ := F
  refine X.arraylength hx (cell := cl) (by rw [eT]; exact A.1) (State.isArrayOf_alike hZ.alike A.2.1) hg hs hd _ ?_
  rw [Array.length_toList] at hr; exact hr
theorem own_A.inb {cl : Cell} {j : Int32} (hj : ¬ j < 0) (hv : cl.slots.toList[j.toNatClampNeg]? = some v) : ¬ (j < 0 ∨ cl.slots.size ≤ j.toNatClampNeg) := by
  rintro (q | q)
  · exact hj q
  · rw [List.getElem?_eq_none (by rw [Array.length_toList]; exact q)] at hv; cases hv
theorem own_A.dld (X : Stand p l e R s m args below meth c T locs cells slots) (hx : p.tables.exec = Jvm.exec) (hZ : Z.Warmed39 s.vm) (eT : T.heap = h) (F : own_A Z h a .double vs) {j : Int32} (hj : ¬ j < 0) (hv : vs[j.toNatClampNeg]? = some v)
    {g : JFrame} (hg : g.method = m) {rest : List Value} (hs : g.stack = .int j :: .ref a :: rest) (hd : decode c.code g.pc = .ok (.daload, 1)) (target : State)
    (hr : Steps p.tables e below (T.setTop { g with pc := g.pc + 1, stack := v :: rest }) target) : Steps p.tables e below (T.setTop g) target := by
  obtain ⟨cl, A, rfl⟩ := F
  exact X.daload hx (by rw [eT]; exact A.1) (State.isArrayOf_alike hZ.alike A.2.1) A.2.2 (own_A.inb hj hv) (by rw [← Array.getElem?_toList]; exact hv) hg hs hd _ hr
theorem own_A.ild (X : Stand p l e R s m args below meth c T locs cells slots) (hx : p.tables.exec = Jvm.exec) (hZ : Z.Warmed39 s.vm) (eT : T.heap = h) (F : own_A Z h a .int vs) {j : Int32} (hj : ¬ j < 0) (hv : vs[j.toNatClampNeg]? = some v)
    {g : JFrame} (hg : g.method = m) {rest : List Value} (hs : g.stack = .int j :: .ref a :: rest) (hd : decode c.code g.pc = .ok (.iaload, 1)) (target : State)
    (hr : Steps p.tables e below (T.setTop { g with pc := g.pc + 1, stack := v :: rest }) target) : Steps p.tables e below (T.setTop g) target := by
  obtain ⟨cl, A, rfl⟩ := F
  exact X.iaload hx (by rw [eT]; exact A.1) (State.isArrayOf_alike hZ.alike A.2.1) A.2.2 (own_A.inb hj hv) (by rw [← Array.getElem?_toList]; exact hv) hg hs hd _ hr
theorem own_A.lld (X : Stand p l e R s m args below meth c T locs cells slots) (hx : p.tables.exec = Jvm.exec) (hZ : Z.Warmed39 s.vm) (eT : T.heap = h) (F : own_A Z h a .long vs) {j : Int32} (hj : ¬ j < 0) (hv : vs[j.toNatClampNeg]? = some v)
    {g : JFrame} (hg : g.method = m) {rest : List Value} (hs : g.stack = .int j :: .ref a :: rest) (hd : decode c.code g.pc = .ok (.laload, 1)) (target : State)
    (hr : Steps p.tables e below (T.setTop { g with pc := g.pc + 1, stack := v :: rest }) target) : Steps p.tables e below (T.setTop g) target := by
  obtain ⟨cl, A, rfl⟩ := F
  exact X.laload hx (by rw [eT]; exact A.1) (State.isArrayOf_alike hZ.alike A.2.1) A.2.2 (own_A.inb hj hv) (by rw [← Array.getElem?_toList]; exact hv) hg hs hd _ hr
theorem own_A.same {cl : Cell} (A : Arr Z h a cl ty) (W : Wr h h' a sl v) : own_A Z h' a ty (cl.slots.toList.set sl v) := ⟨_, A.same W, by simp [Cell.setSlot]⟩
theorem own_A.dst (X : Stand p l e R s m args below meth c T locs cells slots) (hx : p.tables.exec = Jvm.exec) (hZ : Z.Warmed39 s.vm) (eT : T.heap = h) (F : own_A Z h a .double vs) {j : Int32} {x : UInt64} (hj : ¬ j < 0) {o : Value} (hv : vs[j.toNatClampNeg]? = some o)
    {g : JFrame} (hg : g.method = m) {rest : List Value} (hs : g.stack = .double x :: .int j :: .ref a :: rest) (hd : decode c.code g.pc = .ok (.dastore, 1)) :
    ∃ T' h', Stand p l e R s m args below meth c T' (locs ++ [⟨a, j.toNatClampNeg⟩]) cells slots ∧ T'.heap = h' ∧ Wr h h' a j.toNatClampNeg (.double x) ∧ own_A Z h' a .double (vs.set j.toNatClampNeg (.double x)) ∧
      ∀ target, Steps p.tables e below (T'.setTop { g with pc := g.pc + 1, stack := rest }) target → Steps p.tables e below (T.setTop g) target := by
  obtain ⟨cl, A, rfl⟩ := F
  obtain ⟨T', h', X', e', W, st⟩ := stD X hx hZ eT A (own_A.inb hj hv) hg hs hd
  exact ⟨T', h', X', e', W, own_A.same A W, st⟩
theorem own_A.ist (X : Stand p l e R s m args below meth c T locs cells slots) (hx : p.tables.exec = Jvm.exec) (hZ : Z.Warmed39 s.vm) (eT : T.heap = h) (F : own_A Z h a .int vs) {j : Int32} {x : Int32} (hj : ¬ j < 0) {o : Value} (hv : vs[j.toNatClampNeg]? = some o)
    {g : JFrame} (hg : g.method = m) {rest : List Value} (hs : g.stack = .int x :: .int j :: .ref a :: rest) (hd : decode c.code g.pc = .ok (.iastore, 1)) :
    ∃ T' h', Stand p l e R s m args below meth c T' (locs ++ [⟨a, j.toNatClampNeg⟩]) cells slots ∧ T'.heap = h' ∧ Wr h h' a j.toNatClampNeg (.int x) ∧ own_A Z h' a .int (vs.set j.toNatClampNeg (.int x)) ∧
      ∀ target, Steps p.tables e below (T'.setTop { g with pc := g.pc + 1, stack := rest }) target → Steps p.tables e below (T.setTop g) target := by
  obtain ⟨cl, A, rfl⟩ := F
  obtain ⟨T', h', X', e', W, st⟩ := stI X hx hZ eT A (own_A.inb hj hv) hg hs hd
  exact ⟨T', h', X', e', W, own_A.same A W, st⟩
theorem own_A.lst (X : Stand p l e R s m args below meth c T locs cells slots) (hx : p.tables.exec = Jvm.exec) (hZ : Z.Warmed39 s.vm) (eT : T.heap = h) (F : own_A Z h a .long vs) {j : Int32} {x : Int64} (hj : ¬ j < 0) {o : Value} (hv : vs[j.toNatClampNeg]? = some o)
    {g : JFrame} (hg : g.method = m) {rest : List Value} (hs : g.stack = .long x :: .int j :: .ref a :: rest) (hd : decode c.code g.pc = .ok (.lastore, 1)) :
    ∃ T' h', Stand p l e R s m args below meth c T' (locs ++ [⟨a, j.toNatClampNeg⟩]) cells slots ∧ T'.heap = h' ∧ Wr h h' a j.toNatClampNeg (.long x) ∧ own_A Z h' a .long (vs.set j.toNatClampNeg (.long x)) ∧
      ∀ target, Steps p.tables e below (T'.setTop { g with pc := g.pc + 1, stack := rest }) target → Steps p.tables e below (T.setTop g) target := by
  obtain ⟨cl, A, rfl⟩ := F
  obtain ⟨T', h', X', e', W, st⟩ := stJ X hx hZ eT A (own_A.inb hj hv) hg hs hd
  exact ⟨T', h', X', e', W, own_A.same A W, st⟩
end OwnArr

theorem own_s20 (p : Int32) : -524288 ≤ ((p <<< ((12 : Int32) &&& 31)) >>> ((12 : Int32) &&& 31)).toInt ∧ ((p <<< ((12 : Int32) &&& 31)) >>> ((12 : Int32) &&& 31)).toInt < 524288 := by
  rw [Jvm.Kit.i32_shr _ _ (k := 12) (by decide)]
  have h1 := Int32.le_toInt (p <<< ((12 : Int32) &&& 31))
  have h2 := Int32.toInt_lt (p <<< ((12 : Int32) &&& 31))
  omega
theorem own_and3 (p : Int32) {N : Int32} (h : N = p &&& (3 : Int32)) : N = 0 ∨ N = 1 ∨ N = 2 ∨ N = 3 := by
  have h1 := Jvm.Kit.i32_mask p 3 (k := 2) (by decide) (by decide)
  rw [← h] at h1
  have h2 : N.toInt = 0 ∨ N.toInt = 1 ∨ N.toInt = 2 ∨ N.toInt = 3 := by omega
  rcases h2 with q | q | q | q
  · exact Or.inl (Int32.toInt_inj.mp q)
  · exact Or.inr (Or.inl (Int32.toInt_inj.mp q))
  · exact Or.inr (Or.inr (Or.inl (Int32.toInt_inj.mp q)))
  · exact Or.inr (Or.inr (Or.inr (Int32.toInt_inj.mp q)))
theorem own_pl (a b : Int32) (h : (a.toInt * b.toInt).natAbs ≤ 2 ^ 53) : FP.Core.DInt (a.toInt * b.toInt) (FP.l2d (a.toInt64 * b.toInt64)) := by
  have h1 := own_lm (a := a.toInt64) (b := b.toInt64) (by rw [Jvm.Kit.i64_of_i32, Jvm.Kit.i64_of_i32]; exact h)
  rw [Jvm.Kit.i64_of_i32, Jvm.Kit.i64_of_i32] at h1
  exact own_dl _ h1 h

def QrmS (Z : State) (pp : Int32) (h0 : Heap) (n0 : Nat) (vQ : Option Value) (hQ : Heap) (LQ : List Loc) : Prop := ∃ (r : Int32), vQ = some (.int r) ∧ Fr n0 LQ ∧ hQ = h0 ∧ (-524288 ≤ r.toInt ∧ r.toInt < 524288)
theorem ef_rmS (m : MethodId) (pp : Int32) : entryFrame m #[(.int pp)] 1 = mkF m 0 #[vi pp] [] := by first | (simp [entryFrame, mkF, argsToLocals, Value.category]; done) | rfl
abbrev mn0 : MethodName := ⟨"com/example/velvet_postings/velvetpostings/search/VectorsScalePinLaw", "s20", "(I)I"⟩
theorem pn_com_example_velvet_postings_velvetpostings_search_VectorsScalePinLaw : plainName "com/example/velvet_postings/velvetpostings/search/VectorsScalePinLaw" = true := by first | (simp [plainName, overriddenIn]; done) | decide +kernel
theorem d_method_2_code_0 : decode method_2_code 0 = .ok (.iload_n 0, 1) := by decide +kernel
theorem d_method_2_code_1 : decode method_2_code 1 = .ok (.bipush 12, 2) := by decide +kernel
theorem d_method_2_code_3 : decode method_2_code 3 = .ok (.ishl, 1) := by decide +kernel
theorem d_method_2_code_4 : decode method_2_code 4 = .ok (.bipush 12, 2) := by decide +kernel
theorem d_method_2_code_6 : decode method_2_code 6 = .ok (.ishr, 1) := by decide +kernel
theorem d_method_2_code_7 : decode method_2_code 7 = .ok (.ireturn, 1) := by decide +kernel
set_option maxRecDepth 65536 in
set_option maxHeartbeats 40000000 in
theorem rmS (l : Launch) (Z : State) (a0 : Array Value) (hw : ∀ d ∈ tables_1, d.before a0 Z = true) (ws : List Jvm.Cond) (pp : Int32) (h0 : Heap) (n0 : Nat) (Z0 : n0 ≤ h0.size)  :
    MetFree l mn0 (head1 (Jvm.Cond.code mn0 method_2_code 1 (some .int) :: ws) ({ frames := 0, cells := 0, slots := 0, locals := 0 } : Room)) (fun aA U => aA = #[(.int pp)] ∧ Z.Warmed39 U.vm ∧ U.heap = h0) (fun _ _ _ _ _ => True) (fun _ U o U' => ∃ vR LR, o = .returned vR ∧ QrmS Z pp h0 n0 vR U'.heap LR ∧ FrameEnd U o U' LR ({ frames := 0, cells := 0, slots := 0, locals := 0 } : Room).cells ({ frames := 0, cells := 0, slots := 0, locals := 0 } : Room).slots) := by
  refine MetFree.of_bodySF (plainFor_of_name pn_com_example_velvet_postings_velvetpostings_search_VectorsScalePinLaw) hisR ?_
  intro p e s m args below meth c s₁ Bd hml0 hPre hKk
  obtain ⟨rfl, hZ, hh⟩ := hPre
  have hx := Bd.exec
  have hby := Bd.bytes
  have hml : c.maxLocals = 1 := hml0
  have hown : s.vm.findClass "com/example/velvet_postings/velvetpostings/search/VectorsScalePinLaw" = some m.cls := findClass_of_methodNamed Bd.named
  have hnm := (name_of_methodNamed Bd.named Bd.method).1
  have X0 : Stand p l e ({ frames := 0, cells := 0, slots := 0, locals := 0 } : Room) s m #[(.int pp)] below meth c s₁ [] 0 0 := Stand.of_body Bd
  have e0 : s₁.heap = h0 := by rw [← hh, Bd.state]; rfl
  have N0 := Fr.nil n0
  obtain ⟨E0, hE0⟩ : ∃ zE : State, zE = s₁.setTop (entryFrame m #[(.int pp)] 1) := ⟨_, rfl⟩
  have k0 : own_G p e below E0 s₁ (mkF m 0 #[vi pp] []) := fun tz kz => hE0 ▸ castTop (ef_rmS m pp) kz
  have k1 : own_G p e below E0 s₁ (mkF m 7 #[vi pp] [(.int ((pp <<< ((12 : Int32) &&& 31)) >>> ((12 : Int32) &&& 31)))]) := by
    intro t kk
    refine k0 t ?_
    refine XS.iloadN X0.here hx rfl (hb hby d_method_2_code_0) rfl ?_
    refine XS.bipush X0.here hx rfl (hb hby d_method_2_code_1) ?_
    refine XT.ishl X0.here hx rfl (hb hby d_method_2_code_3) rfl ?_
    refine XS.bipush X0.here hx rfl (hb hby d_method_2_code_4) ?_
    show Steps p.tables e below (s₁.setTop (mkF m 6 #[vi pp] [(.int (12 : Int32)), (.int (pp <<< ((12 : Int32) &&& 31)))])) t
    refine XT.ishr X0.here hx rfl (hb hby d_method_2_code_6) rfl ?_
    exact kk
  obtain ⟨fs, hr, hrun, hended, hW, hsame⟩ := X0.leave (v := some (.int ((pp <<< ((12 : Int32) &&& 31)) >>> ((12 : Int32) &&& 31)))) (fun h => by rw [Bd.returns] at h; cases h)
  have hrun0 := k1 _ (retOut X0 hx Bd.returns (t := .int) rfl (Or.inl ⟨rfl, Or.inl rfl, _, rfl⟩) (hb hby d_method_2_code_7) hr)
  subst hE0
  refine ⟨_, _, hrun0, hrun, hended, _, _, rfl, ?_, ⟨_, rfl⟩, hW, hsame.mono (by decide) (by decide)⟩
  show QrmS Z pp h0 n0 _ s₁.heap _
  rw [e0]
  exact ⟨((pp <<< ((12 : Int32) &&& 31)) >>> ((12 : Int32) &&& 31)), rfl, N0, rfl, own_s20 pp⟩
def QrmV0 (Z : State) (a : Addr) (f : UInt64) (h0 : Heap) (n0 : Nat) (vQ : Option Value) (hQ : Heap) (LQ : List Loc) : Prop := vQ = none ∧ Fr n0 LQ ∧ Keep h0 hQ [a] ∧ (own_A Z hQ a .double [])
theorem ef_rmV0 (m : MethodId) (a : Addr) (f : UInt64) : entryFrame m #[(.ref a), (.double f)] 4 = mkF m 0 #[vr a, vd f, ss, uu] [] := by first | (simp [entryFrame, mkF, argsToLocals, Value.category]; done) | rfl
abbrev mn1 : MethodName := ⟨"com/example/velvet_postings/velvetpostings/search/Vectors", "scale", "([DD)V"⟩
theorem pn_com_example_velvet_postings_velvetpostings_search_Vectors : plainName "com/example/velvet_postings/velvetpostings/search/Vectors" = true := by first | (simp [plainName, overriddenIn]; done) | decide +kernel
theorem d_prog_103_method_4_code_0 : decode prog_103_method_4_code 0 = .ok (.iconst 0, 1) := by decide +kernel
theorem d_prog_103_method_4_code_1 : decode prog_103_method_4_code 1 = .ok (.istore_n 3, 1) := by decide +kernel
theorem d_prog_103_method_4_code_2 : decode prog_103_method_4_code 2 = .ok (.iload_n 3, 1) := by decide +kernel
theorem d_prog_103_method_4_code_3 : decode prog_103_method_4_code 3 = .ok (.aload_n 0, 1) := by decide +kernel
theorem d_prog_103_method_4_code_4 : decode prog_103_method_4_code 4 = .ok (.arraylength, 1) := by decide +kernel
theorem d_prog_103_method_4_code_5 : decode prog_103_method_4_code 5 = .ok (.if_icmp .ge 16, 3) := by decide +kernel
theorem d_prog_103_method_4_code_21 : decode prog_103_method_4_code 21 = .ok (.return_, 1) := by decide +kernel
set_option maxRecDepth 65536 in
set_option maxHeartbeats 40000000 in
theorem rmV0 (l : Launch) (Z : State) (a0 : Array Value) (hw : ∀ d ∈ tables_1, d.before a0 Z = true) (ws : List Jvm.Cond) (a : Addr) (f : UInt64) (h0 : Heap) (n0 : Nat) (Z0 : n0 ≤ h0.size) (A1 : own_A Z h0 a .double []) (ge_a : n0 ≤ a) :
    MetFree l mn1 (head1 (Jvm.Cond.code mn1 prog_103_method_4_code 4 none :: ws) ({ frames := 0, cells := 0, slots := 0, locals := 0 } : Room)) (fun aA U => aA = #[(.ref a), (.double f)] ∧ Z.Warmed39 U.vm ∧ U.heap = h0) (fun _ _ _ _ _ => True) (fun _ U o U' => ∃ vR LR, o = .returned vR ∧ QrmV0 Z a f h0 n0 vR U'.heap LR ∧ FrameEnd U o U' LR ({ frames := 0, cells := 0, slots := 0, locals := 0 } : Room).cells ({ frames := 0, cells := 0, slots := 0, locals := 0 } : Room).slots) := by
  refine MetFree.of_bodySF (plainFor_of_name pn_com_example_velvet_postings_velvetpostings_search_Vectors) hisR ?_
  intro p e s m args below meth c s₁ Bd hml0 hPre hKk
  obtain ⟨rfl, hZ, hh⟩ := hPre
  have hx := Bd.exec
  have hby := Bd.bytes
  have hml : c.maxLocals = 4 := hml0
  have hown : s.vm.findClass "com/example/velvet_postings/velvetpostings/search/Vectors" = some m.cls := findClass_of_methodNamed Bd.named
  have hnm := (name_of_methodNamed Bd.named Bd.method).1
  have X0 : Stand p l e ({ frames := 0, cells := 0, slots := 0, locals := 0 } : Room) s m #[(.ref a), (.double f)] below meth c s₁ [] 0 0 := Stand.of_body Bd
  have e0 : s₁.heap = h0 := by rw [← hh, Bd.state]; rfl
  have N0 := Fr.nil n0
  obtain ⟨E0, hE0⟩ : ∃ zE : State, zE = s₁.setTop (entryFrame m #[(.ref a), (.double f)] 4) := ⟨_, rfl⟩
  have k0 : own_G p e below E0 s₁ (mkF m 0 #[vr a, vd f, ss, uu] []) := fun tz kz => hE0 ▸ castTop (ef_rmV0 m a f) kz
  have K0 : Keep h0 h0 [a] := Keep.refl _ _
  have k2 : own_G p e below E0 s₁ (mkF m 4 #[vr a, vd f, ss, vi (0 : Int32)] [(.ref a), (.int (0 : Int32))]) := by
    intro t kk
    refine k0 t ?_
    refine XS.iconst X0.here hx rfl (hb hby d_prog_103_method_4_code_0) ?_
    refine XS.istoreN X0.here hx rfl (hb hby d_prog_103_method_4_code_1) rfl (l' := #[vr a, vd f, ss, vi (0 : Int32)]) rfl ?_
    refine XS.iloadN X0.here hx rfl (hb hby d_prog_103_method_4_code_2) rfl ?_
    refine XS.aloadN X0.here hx rfl (hb hby d_prog_103_method_4_code_3) rfl rfl ?_
    exact kk
  have st3 := fun t => own_A.len X0 hx hZ e0 A1 (g := (mkF m 4 #[vr a, vd f, ss, vi (0 : Int32)] [(.ref a), (.int (0 : Int32))])) rfl rfl (hb hby d_prog_103_method_4_code_4) t
  have k4 : own_G p e below E0 s₁ (mkF m 5 #[vr a, vd f, ss, vi (0 : Int32)] [(.int (0 : Int32)), (.int (0 : Int32))]) := fun t kk => k2 t (st3 _ kk)
  have k5 : own_G p e below E0 s₁ (mkF m 21 #[vr a, vd f, ss, vi (0 : Int32)] []) := by
    intro t kk
    refine k4 t ?_
    refine XS.icmpYes X0.here hx rfl (pc0 := 5) (pc' := 21) rfl (hb hby d_prog_103_method_4_code_5) rfl (own_ic_geY (by decide)) (by decide) (by decide) ?_
    exact kk
  obtain ⟨fs, hr, hrun, hended, hW, hsame⟩ := X0.leave (v := none) (fun _ => rfl)
  have hrun0 := k5 _ (X0.returnOut hx Bd.returns (hb hby d_prog_103_method_4_code_21) hr)
  subst hE0
  refine ⟨_, _, hrun0, hrun, hended, _, _, rfl, ?_, ⟨_, rfl⟩, hW, hsame.mono (by decide) (by decide)⟩
  show QrmV0 Z a f h0 n0 _ s₁.heap _
  rw [e0]
  exact ⟨rfl, N0, K0, A1⟩
def QrmV1 (Z : State) (a : Addr) (f : UInt64) (x0 : UInt64) (h0 : Heap) (n0 : Nat) (vQ : Option Value) (hQ : Heap) (LQ : List Loc) : Prop := vQ = none ∧ Fr n0 LQ ∧ Keep h0 hQ [a] ∧ (own_A Z hQ a .double [(.double (FP.dmul x0 f))])
theorem ef_rmV1 (m : MethodId) (a : Addr) (f : UInt64) (x0 : UInt64) : entryFrame m #[(.ref a), (.double f)] 4 = mkF m 0 #[vr a, vd f, ss, uu] [] := by first | (simp [entryFrame, mkF, argsToLocals, Value.category]; done) | rfl
theorem d_prog_103_method_4_code_8 : decode prog_103_method_4_code 8 = .ok (.aload_n 0, 1) := by decide +kernel
theorem d_prog_103_method_4_code_9 : decode prog_103_method_4_code 9 = .ok (.iload_n 3, 1) := by decide +kernel
theorem d_prog_103_method_4_code_10 : decode prog_103_method_4_code 10 = .ok (.dup2, 1) := by decide +kernel
theorem d_prog_103_method_4_code_11 : decode prog_103_method_4_code 11 = .ok (.daload, 1) := by decide +kernel
theorem d_prog_103_method_4_code_12 : decode prog_103_method_4_code 12 = .ok (.dload_n 1, 1) := by decide +kernel
theorem d_prog_103_method_4_code_13 : decode prog_103_method_4_code 13 = .ok (.dmul, 1) := by decide +kernel
theorem d_prog_103_method_4_code_14 : decode prog_103_method_4_code 14 = .ok (.dastore, 1) := by decide +kernel
theorem d_prog_103_method_4_code_15 : decode prog_103_method_4_code 15 = .ok (.iinc 3 1, 3) := by decide +kernel
theorem d_prog_103_method_4_code_18 : decode prog_103_method_4_code 18 = .ok (.goto (-16), 3) := by decide +kernel
set_option maxRecDepth 65536 in
set_option maxHeartbeats 40000000 in
theorem rmV1 (l : Launch) (Z : State) (a0 : Array Value) (hw : ∀ d ∈ tables_1, d.before a0 Z = true) (ws : List Jvm.Cond) (a : Addr) (f : UInt64) (x0 : UInt64) (h0 : Heap) (n0 : Nat) (Z0 : n0 ≤ h0.size) (A1 : own_A Z h0 a .double [(.double x0)]) (ge_a : n0 ≤ a) (nn0 : NoNaN64 (FP.dmul x0 f)) :
    MetFree l mn1 (head1 (Jvm.Cond.code mn1 prog_103_method_4_code 4 none :: ws) ({ frames := 0, cells := 0, slots := 0, locals := 0 } : Room)) (fun aA U => aA = #[(.ref a), (.double f)] ∧ Z.Warmed39 U.vm ∧ U.heap = h0) (fun _ _ _ _ _ => True) (fun _ U o U' => ∃ vR LR, o = .returned vR ∧ QrmV1 Z a f x0 h0 n0 vR U'.heap LR ∧ FrameEnd U o U' LR ({ frames := 0, cells := 0, slots := 0, locals := 0 } : Room).cells ({ frames := 0, cells := 0, slots := 0, locals := 0 } : Room).slots) := by
  refine MetFree.of_bodySF (plainFor_of_name pn_com_example_velvet_postings_velvetpostings_search_Vectors) hisR ?_
  intro p e s m args below meth c s₁ Bd hml0 hPre hKk
  obtain ⟨rfl, hZ, hh⟩ := hPre
  have hx := Bd.exec
  have hby := Bd.bytes
  have hml : c.maxLocals = 4 := hml0
  have hown : s.vm.findClass "com/example/velvet_postings/velvetpostings/search/Vectors" = some m.cls := findClass_of_methodNamed Bd.named
  have hnm := (name_of_methodNamed Bd.named Bd.method).1
  have X0 : Stand p l e ({ frames := 0, cells := 0, slots := 0, locals := 0 } : Room) s m #[(.ref a), (.double f)] below meth c s₁ [] 0 0 := Stand.of_body Bd
  have e0 : s₁.heap = h0 := by rw [← hh, Bd.state]; rfl
  have N0 := Fr.nil n0
  obtain ⟨E0, hE0⟩ : ∃ zE : State, zE = s₁.setTop (entryFrame m #[(.ref a), (.double f)] 4) := ⟨_, rfl⟩
  have k0 : own_G p e below E0 s₁ (mkF m 0 #[vr a, vd f, ss, uu] []) := fun tz kz => hE0 ▸ castTop (ef_rmV1 m a f x0) kz
  have K0 : Keep h0 h0 [a] := Keep.refl _ _
  have k6 : own_G p e below E0 s₁ (mkF m 4 #[vr a, vd f, ss, vi (0 : Int32)] [(.ref a), (.int (0 : Int32))]) := by
    intro t kk
    refine k0 t ?_
    refine XS.iconst X0.here hx rfl (hb hby d_prog_103_method_4_code_0) ?_
    refine XS.istoreN X0.here hx rfl (hb hby d_prog_103_method_4_code_1) rfl (l' := #[vr a, vd f, ss, vi (0 : Int32)]) rfl ?_
    refine XS.iloadN X0.here hx rfl (hb hby d_prog_103_method_4_code_2) rfl ?_
    refine XS.aloadN X0.here hx rfl (hb hby d_prog_103_method_4_code_3) rfl rfl ?_
    exact kk
  have st7 := fun t => own_A.len X0 hx hZ e0 A1 (g := (mkF m 4 #[vr a, vd f, ss, vi (0 : Int32)] [(.ref a), (.int (0 : Int32))])) rfl rfl (hb hby d_prog_103_method_4_code_4) t
  have k8 : own_G p e below E0 s₁ (mkF m 5 #[vr a, vd f, ss, vi (0 : Int32)] [(.int (1 : Int32)), (.int (0 : Int32))]) := fun t kk => k6 t (st7 _ kk)
  have k9 : own_G p e below E0 s₁ (mkF m 11 #[vr a, vd f, ss, vi (0 : Int32)] [(.int (0 : Int32)), (.ref a), (.int (0 : Int32)), (.ref a)]) := by
    intro t kk
    refine k8 t ?_
    refine XS.icmpNo X0.here hx rfl (hb hby d_prog_103_method_4_code_5) rfl (own_ic_geN (by decide)) ?_
    refine XS.aloadN X0.here hx rfl (hb hby d_prog_103_method_4_code_8) rfl rfl ?_
    refine XS.iloadN X0.here hx rfl (hb hby d_prog_103_method_4_code_9) rfl ?_
    refine XT.dup2 X0.here hx rfl (hb hby d_prog_103_method_4_code_10) rfl rfl rfl ?_
    exact kk
  have st10 := fun t => own_A.dld X0 hx hZ e0 A1 (j := (0 : Int32)) (v := (.double x0)) (by decide) rfl (g := (mkF m 11 #[vr a, vd f, ss, vi (0 : Int32)] [(.int (0 : Int32)), (.ref a), (.int (0 : Int32)), (.ref a)])) rfl rfl (hb hby d_prog_103_method_4_code_11) t
  have k11 : own_G p e below E0 s₁ (mkF m 12 #[vr a, vd f, ss, vi (0 : Int32)] [(.double x0), (.int (0 : Int32)), (.ref a)]) := fun t kk => k9 t (st10 _ kk)
  have k12 : own_G p e below E0 s₁ (mkF m 14 #[vr a, vd f, ss, vi (0 : Int32)] [(.double (FP.dmul x0 f)), (.int (0 : Int32)), (.ref a)]) := by
    intro t kk
    refine k11 t ?_
    refine XS.dloadN X0.here hx rfl (hb hby d_prog_103_method_4_code_12) rfl ?_
    refine XS.dmulS X0.here hx rfl (hb hby d_prog_103_method_4_code_13) rfl nn0 rfl ?_
    exact kk
  obtain ⟨T13, h14, X15, e16, W17, F18, st19⟩ := own_A.dst X0 hx hZ e0 A1 (j := (0 : Int32)) (by decide) rfl (g := (mkF m 14 #[vr a, vd f, ss, vi (0 : Int32)] [(.double (FP.dmul x0 f)), (.int (0 : Int32)), (.ref a)])) rfl rfl (hb hby d_prog_103_method_4_code_14)
  have N20 := Fr.snoc X15 N0 ge_a
  have k21 : own_G p e below E0 T13 (mkF m 15 #[vr a, vd f, ss, vi (0 : Int32)] []) := fun t kk => k12 t (st19 _ kk)
  have Z22 : n0 ≤ h14.size := by rw [W17.size]; exact Z0
  have K23 : Keep h0 h14 [a] := K0.wr W17 (Or.inl (List.mem_of_getElem? (i := 0) rfl))
  have F24 : own_A Z h14 a .double [(.double (FP.dmul x0 f))] := F18
  have k25 : own_G p e below E0 T13 (mkF m 4 #[vr a, vd f, ss, vi (1 : Int32)] [(.ref a), (.int (1 : Int32))]) := by
    intro t kk
    refine k21 t ?_
    refine XS.iinc X15.here hx rfl (hb hby d_prog_103_method_4_code_15) rfl (l' := #[vr a, vd f, ss, vi (1 : Int32)]) rfl ?_
    refine XS.goto X15.here hx rfl (pc0 := 18) (pc' := 2) rfl (hb hby d_prog_103_method_4_code_18) (by decide) (by decide) ?_
    refine XS.iloadN X15.here hx rfl (hb hby d_prog_103_method_4_code_2) rfl ?_
    refine XS.aloadN X15.here hx rfl (hb hby d_prog_103_method_4_code_3) rfl rfl ?_
    exact kk
  have st26 := fun t => own_A.len X15 hx hZ e16 F24 (g := (mkF m 4 #[vr a, vd f, ss, vi (1 : Int32)] [(.ref a), (.int (1 : Int32))])) rfl rfl (hb hby d_prog_103_method_4_code_4) t
  have k27 : own_G p e below E0 T13 (mkF m 5 #[vr a, vd f, ss, vi (1 : Int32)] [(.int (1 : Int32)), (.int (1 : Int32))]) := fun t kk => k25 t (st26 _ kk)
  have k28 : own_G p e below E0 T13 (mkF m 21 #[vr a, vd f, ss, vi (1 : Int32)] []) := by
    intro t kk
    refine k27 t ?_
    refine XS.icmpYes X15.here hx rfl (pc0 := 5) (pc' := 21) rfl (hb hby d_prog_103_method_4_code_5) rfl (own_ic_geY (by decide)) (by decide) (by decide) ?_
    exact kk
  obtain ⟨fs, hr, hrun, hended, hW, hsame⟩ := X15.leave (v := none) (fun _ => rfl)
  have hrun0 := k28 _ (X15.returnOut hx Bd.returns (hb hby d_prog_103_method_4_code_21) hr)
  subst hE0
  refine ⟨_, _, hrun0, hrun, hended, _, _, rfl, ?_, ⟨_, rfl⟩, hW, hsame.mono (by decide) (by decide)⟩
  show QrmV1 Z a f x0 h0 n0 _ T13.heap _
  rw [e16]
  exact ⟨rfl, N20, K23, F24⟩
def QrmV2 (Z : State) (a : Addr) (f : UInt64) (x0 : UInt64) (x1 : UInt64) (h0 : Heap) (n0 : Nat) (vQ : Option Value) (hQ : Heap) (LQ : List Loc) : Prop := vQ = none ∧ Fr n0 LQ ∧ Keep h0 hQ [a] ∧ (own_A Z hQ a .double [(.double (FP.dmul x0 f)), (.double (FP.dmul x1 f))])
theorem ef_rmV2 (m : MethodId) (a : Addr) (f : UInt64) (x0 : UInt64) (x1 : UInt64) : entryFrame m #[(.ref a), (.double f)] 4 = mkF m 0 #[vr a, vd f, ss, uu] [] := by first | (simp [entryFrame, mkF, argsToLocals, Value.category]; done) | rfl
set_option maxRecDepth 65536 in
set_option maxHeartbeats 40000000 in
theorem rmV2 (l : Launch) (Z : State) (a0 : Array Value) (hw : ∀ d ∈ tables_1, d.before a0 Z = true) (ws : List Jvm.Cond) (a : Addr) (f : UInt64) (x0 : UInt64) (x1 : UInt64) (h0 : Heap) (n0 : Nat) (Z0 : n0 ≤ h0.size) (A1 : own_A Z h0 a .double [(.double x0), (.double x1)]) (ge_a : n0 ≤ a) (nn0 : NoNaN64 (FP.dmul x0 f)) (nn1 : NoNaN64 (FP.dmul x1 f)) :
    MetFree l mn1 (head1 (Jvm.Cond.code mn1 prog_103_method_4_code 4 none :: ws) ({ frames := 0, cells := 0, slots := 0, locals := 0 } : Room)) (fun aA U => aA = #[(.ref a), (.double f)] ∧ Z.Warmed39 U.vm ∧ U.heap = h0) (fun _ _ _ _ _ => True) (fun _ U o U' => ∃ vR LR, o = .returned vR ∧ QrmV2 Z a f x0 x1 h0 n0 vR U'.heap LR ∧ FrameEnd U o U' LR ({ frames := 0, cells := 0, slots := 0, locals := 0 } : Room).cells ({ frames := 0, cells := 0, slots := 0, locals := 0 } : Room).slots) := by
  refine MetFree.of_bodySF (plainFor_of_name pn_com_example_velvet_postings_velvetpostings_search_Vectors) hisR ?_
  intro p e s m args below meth c s₁ Bd hml0 hPre hKk
  obtain ⟨rfl, hZ, hh⟩ := hPre
  have hx := Bd.exec
  have hby := Bd.bytes
  have hml : c.maxLocals = 4 := hml0
  have hown : s.vm.findClass "com/example/velvet_postings/velvetpostings/search/Vectors" = some m.cls := findClass_of_methodNamed Bd.named
  have hnm := (name_of_methodNamed Bd.named Bd.method).1
  have X0 : Stand p l e ({ frames := 0, cells := 0, slots := 0, locals := 0 } : Room) s m #[(.ref a), (.double f)] below meth c s₁ [] 0 0 := Stand.of_body Bd
  have e0 : s₁.heap = h0 := by rw [← hh, Bd.state]; rfl
  have N0 := Fr.nil n0
  obtain ⟨E0, hE0⟩ : ∃ zE : State, zE = s₁.setTop (entryFrame m #[(.ref a), (.double f)] 4) := ⟨_, rfl⟩
  have k0 : own_G p e below E0 s₁ (mkF m 0 #[vr a, vd f, ss, uu] []) := fun tz kz => hE0 ▸ castTop (ef_rmV2 m a f x0 x1) kz
  have K0 : Keep h0 h0 [a] := Keep.refl _ _
  have k29 : own_G p e below E0 s₁ (mkF m 4 #[vr a, vd f, ss, vi (0 : Int32)] [(.ref a), (.int (0 : Int32))]) := by
    intro t kk
    refine k0 t ?_
    refine XS.iconst X0.here hx rfl (hb hby d_prog_103_method_4_code_0) ?_
    refine XS.istoreN X0.here hx rfl (hb hby d_prog_103_method_4_code_1) rfl (l' := #[vr a, vd f, ss, vi (0 : Int32)]) rfl ?_
    refine XS.iloadN X0.here hx rfl (hb hby d_prog_103_method_4_code_2) rfl ?_
    refine XS.aloadN X0.here hx rfl (hb hby d_prog_103_method_4_code_3) rfl rfl ?_
    exact kk
  have st30 := fun t => own_A.len X0 hx hZ e0 A1 (g := (mkF m 4 #[vr a, vd f, ss, vi (0 : Int32)] [(.ref a), (.int (0 : Int32))])) rfl rfl (hb hby d_prog_103_method_4_code_4) t
  have k31 : own_G p e below E0 s₁ (mkF m 5 #[vr a, vd f, ss, vi (0 : Int32)] [(.int (2 : Int32)), (.int (0 : Int32))]) := fun t kk => k29 t (st30 _ kk)
  have k32 : own_G p e below E0 s₁ (mkF m 11 #[vr a, vd f, ss, vi (0 : Int32)] [(.int (0 : Int32)), (.ref a), (.int (0 : Int32)), (.ref a)]) := by
    intro t kk
    refine k31 t ?_
    refine XS.icmpNo X0.here hx rfl (hb hby d_prog_103_method_4_code_5) rfl (own_ic_geN (by decide)) ?_
    refine XS.aloadN X0.here hx rfl (hb hby d_prog_103_method_4_code_8) rfl rfl ?_
    refine XS.iloadN X0.here hx rfl (hb hby d_prog_103_method_4_code_9) rfl ?_
    refine XT.dup2 X0.here hx rfl (hb hby d_prog_103_method_4_code_10) rfl rfl rfl ?_
    exact kk
  have st33 := fun t => own_A.dld X0 hx hZ e0 A1 (j := (0 : Int32)) (v := (.double x0)) (by decide) rfl (g := (mkF m 11 #[vr a, vd f, ss, vi (0 : Int32)] [(.int (0 : Int32)), (.ref a), (.int (0 : Int32)), (.ref a)])) rfl rfl (hb hby d_prog_103_method_4_code_11) t
  have k34 : own_G p e below E0 s₁ (mkF m 12 #[vr a, vd f, ss, vi (0 : Int32)] [(.double x0), (.int (0 : Int32)), (.ref a)]) := fun t kk => k32 t (st33 _ kk)
  have k35 : own_G p e below E0 s₁ (mkF m 14 #[vr a, vd f, ss, vi (0 : Int32)] [(.double (FP.dmul x0 f)), (.int (0 : Int32)), (.ref a)]) := by
    intro t kk
    refine k34 t ?_
    refine XS.dloadN X0.here hx rfl (hb hby d_prog_103_method_4_code_12) rfl ?_
    refine XS.dmulS X0.here hx rfl (hb hby d_prog_103_method_4_code_13) rfl nn0 rfl ?_
    exact kk
  obtain ⟨T36, h37, X38, e39, W40, F41, st42⟩ := own_A.dst X0 hx hZ e0 A1 (j := (0 : Int32)) (by decide) rfl (g := (mkF m 14 #[vr a, vd f, ss, vi (0 : Int32)] [(.double (FP.dmul x0 f)), (.int (0 : Int32)), (.ref a)])) rfl rfl (hb hby d_prog_103_method_4_code_14)
  have N43 := Fr.snoc X38 N0 ge_a
  have k44 : own_G p e below E0 T36 (mkF m 15 #[vr a, vd f, ss, vi (0 : Int32)] []) := fun t kk => k35 t (st42 _ kk)
  have Z45 : n0 ≤ h37.size := by rw [W40.size]; exact Z0
  have K46 : Keep h0 h37 [a] := K0.wr W40 (Or.inl (List.mem_of_getElem? (i := 0) rfl))
  have F47 : own_A Z h37 a .double [(.double (FP.dmul x0 f)), (.double x1)] := F41
  have k48 : own_G p e below E0 T36 (mkF m 4 #[vr a, vd f, ss, vi (1 : Int32)] [(.ref a), (.int (1 : Int32))]) := by
    intro t kk
    refine k44 t ?_
    refine XS.iinc X38.here hx rfl (hb hby d_prog_103_method_4_code_15) rfl (l' := #[vr a, vd f, ss, vi (1 : Int32)]) rfl ?_
    refine XS.goto X38.here hx rfl (pc0 := 18) (pc' := 2) rfl (hb hby d_prog_103_method_4_code_18) (by decide) (by decide) ?_
    refine XS.iloadN X38.here hx rfl (hb hby d_prog_103_method_4_code_2) rfl ?_
    refine XS.aloadN X38.here hx rfl (hb hby d_prog_103_method_4_code_3) rfl rfl ?_
    exact kk
  have st49 := fun t => own_A.len X38 hx hZ e39 F47 (g := (mkF m 4 #[vr a, vd f, ss, vi (1 : Int32)] [(.ref a), (.int (1 : Int32))])) rfl rfl (hb hby d_prog_103_method_4_code_4) t
  have k50 : own_G p e below E0 T36 (mkF m 5 #[vr a, vd f, ss, vi (1 : Int32)] [(.int (2 : Int32)), (.int (1 : Int32))]) := fun t kk => k48 t (st49 _ kk)
  have k51 : own_G p e below E0 T36 (mkF m 11 #[vr a, vd f, ss, vi (1 : Int32)] [(.int (1 : Int32)), (.ref a), (.int (1 : Int32)), (.ref a)]) := by
    intro t kk
    refine k50 t ?_
    refine XS.icmpNo X38.here hx rfl (hb hby d_prog_103_method_4_code_5) rfl (own_ic_geN (by decide)) ?_
    refine XS.aloadN X38.here hx rfl (hb hby d_prog_103_method_4_code_8) rfl rfl ?_
    refine XS.iloadN X38.here hx rfl (hb hby d_prog_103_method_4_code_9) rfl ?_
    refine XT.dup2 X38.here hx rfl (hb hby d_prog_103_method_4_code_10) rfl rfl rfl ?_
    exact kk
  have st52 := fun t => own_A.dld X38 hx hZ e39 F47 (j := (1 : Int32)) (v := (.double x1)) (by decide) rfl (g := (mkF m 11 #[vr a, vd f, ss, vi (1 : Int32)] [(.int (1 : Int32)), (.ref a), (.int (1 : Int32)), (.ref a)])) rfl rfl (hb hby d_prog_103_method_4_code_11) t
  have k53 : own_G p e below E0 T36 (mkF m 12 #[vr a, vd f, ss, vi (1 : Int32)] [(.double x1), (.int (1 : Int32)), (.ref a)]) := fun t kk => k51 t (st52 _ kk)
  have k54 : own_G p e below E0 T36 (mkF m 14 #[vr a, vd f, ss, vi (1 : Int32)] [(.double (FP.dmul x1 f)), (.int (1 : Int32)), (.ref a)]) := by
    intro t kk
    refine k53 t ?_
    refine XS.dloadN X38.here hx rfl (hb hby d_prog_103_method_4_code_12) rfl ?_
    refine XS.dmulS X38.here hx rfl (hb hby d_prog_103_method_4_code_13) rfl nn1 rfl ?_
    exact kk
  obtain ⟨T55, h56, X57, e58, W59, F60, st61⟩ := own_A.dst X38 hx hZ e39 F47 (j := (1 : Int32)) (by decide) rfl (g := (mkF m 14 #[vr a, vd f, ss, vi (1 : Int32)] [(.double (FP.dmul x1 f)), (.int (1 : Int32)), (.ref a)])) rfl rfl (hb hby d_prog_103_method_4_code_14)
  have N62 := Fr.snoc X57 N43 ge_a
  have k63 : own_G p e below E0 T55 (mkF m 15 #[vr a, vd f, ss, vi (1 : Int32)] []) := fun t kk => k54 t (st61 _ kk)
  have Z64 : n0 ≤ h56.size := by rw [W59.size]; exact Z45
  have K65 : Keep h0 h56 [a] := K46.wr W59 (Or.inl (List.mem_of_getElem? (i := 0) rfl))
  have F66 : own_A Z h56 a .double [(.double (FP.dmul x0 f)), (.double (FP.dmul x1 f))] := F60
  have k67 : own_G p e below E0 T55 (mkF m 4 #[vr a, vd f, ss, vi (2 : Int32)] [(.ref a), (.int (2 : Int32))]) := by
    intro t kk
    refine k63 t ?_
    refine XS.iinc X57.here hx rfl (hb hby d_prog_103_method_4_code_15) rfl (l' := #[vr a, vd f, ss, vi (2 : Int32)]) rfl ?_
    refine XS.goto X57.here hx rfl (pc0 := 18) (pc' := 2) rfl (hb hby d_prog_103_method_4_code_18) (by decide) (by decide) ?_
    refine XS.iloadN X57.here hx rfl (hb hby d_prog_103_method_4_code_2) rfl ?_
    refine XS.aloadN X57.here hx rfl (hb hby d_prog_103_method_4_code_3) rfl rfl ?_
    exact kk
  have st68 := fun t => own_A.len X57 hx hZ e58 F66 (g := (mkF m 4 #[vr a, vd f, ss, vi (2 : Int32)] [(.ref a), (.int (2 : Int32))])) rfl rfl (hb hby d_prog_103_method_4_code_4) t
  have k69 : own_G p e below E0 T55 (mkF m 5 #[vr a, vd f, ss, vi (2 : Int32)] [(.int (2 : Int32)), (.int (2 : Int32))]) := fun t kk => k67 t (st68 _ kk)
  have k70 : own_G p e below E0 T55 (mkF m 21 #[vr a, vd f, ss, vi (2 : Int32)] []) := by
    intro t kk
    refine k69 t ?_
    refine XS.icmpYes X57.here hx rfl (pc0 := 5) (pc' := 21) rfl (hb hby d_prog_103_method_4_code_5) rfl (own_ic_geY (by decide)) (by decide) (by decide) ?_
    exact kk
  obtain ⟨fs, hr, hrun, hended, hW, hsame⟩ := X57.leave (v := none) (fun _ => rfl)
  have hrun0 := k70 _ (X57.returnOut hx Bd.returns (hb hby d_prog_103_method_4_code_21) hr)
  subst hE0
  refine ⟨_, _, hrun0, hrun, hended, _, _, rfl, ?_, ⟨_, rfl⟩, hW, hsame.mono (by decide) (by decide)⟩
  show QrmV2 Z a f x0 x1 h0 n0 _ T55.heap _
  rw [e58]
  exact ⟨rfl, N62, K65, F66⟩
def QrmV3 (Z : State) (a : Addr) (f : UInt64) (x0 : UInt64) (x1 : UInt64) (x2 : UInt64) (h0 : Heap) (n0 : Nat) (vQ : Option Value) (hQ : Heap) (LQ : List Loc) : Prop := vQ = none ∧ Fr n0 LQ ∧ Keep h0 hQ [a] ∧ (own_A Z hQ a .double [(.double (FP.dmul x0 f)), (.double (FP.dmul x1 f)), (.double (FP.dmul x2 f))])
theorem ef_rmV3 (m : MethodId) (a : Addr) (f : UInt64) (x0 : UInt64) (x1 : UInt64) (x2 : UInt64) : entryFrame m #[(.ref a), (.double f)] 4 = mkF m 0 #[vr a, vd f, ss, uu] [] := by first | (simp [entryFrame, mkF, argsToLocals, Value.category]; done) | rfl
set_option maxRecDepth 65536 in
set_option maxHeartbeats 40000000 in
theorem rmV3 (l : Launch) (Z : State) (a0 : Array Value) (hw : ∀ d ∈ tables_1, d.before a0 Z = true) (ws : List Jvm.Cond) (a : Addr) (f : UInt64) (x0 : UInt64) (x1 : UInt64) (x2 : UInt64) (h0 : Heap) (n0 : Nat) (Z0 : n0 ≤ h0.size) (A1 : own_A Z h0 a .double [(.double x0), (.double x1), (.double x2)]) (ge_a : n0 ≤ a) (nn0 : NoNaN64 (FP.dmul x0 f)) (nn1 : NoNaN64 (FP.dmul x1 f)) (nn2 : NoNaN64 (FP.dmul x2 f)) :
    MetFree l mn1 (head1 (Jvm.Cond.code mn1 prog_103_method_4_code 4 none :: ws) ({ frames := 0, cells := 0, slots := 0, locals := 0 } : Room)) (fun aA U => aA = #[(.ref a), (.double f)] ∧ Z.Warmed39 U.vm ∧ U.heap = h0) (fun _ _ _ _ _ => True) (fun _ U o U' => ∃ vR LR, o = .returned vR ∧ QrmV3 Z a f x0 x1 x2 h0 n0 vR U'.heap LR ∧ FrameEnd U o U' LR ({ frames := 0, cells := 0, slots := 0, locals := 0 } : Room).cells ({ frames := 0, cells := 0, slots := 0, locals := 0 } : Room).slots) := by
  refine MetFree.of_bodySF (plainFor_of_name pn_com_example_velvet_postings_velvetpostings_search_Vectors) hisR ?_
  intro p e s m args below meth c s₁ Bd hml0 hPre hKk
  obtain ⟨rfl, hZ, hh⟩ := hPre
  have hx := Bd.exec
  have hby := Bd.bytes
  have hml : c.maxLocals = 4 := hml0
  have hown : s.vm.findClass "com/example/velvet_postings/velvetpostings/search/Vectors" = some m.cls := findClass_of_methodNamed Bd.named
  have hnm := (name_of_methodNamed Bd.named Bd.method).1
  have X0 : Stand p l e ({ frames := 0, cells := 0, slots := 0, locals := 0 } : Room) s m #[(.ref a), (.double f)] below meth c s₁ [] 0 0 := Stand.of_body Bd
  have e0 : s₁.heap = h0 := by rw [← hh, Bd.state]; rfl
  have N0 := Fr.nil n0
  obtain ⟨E0, hE0⟩ : ∃ zE : State, zE = s₁.setTop (entryFrame m #[(.ref a), (.double f)] 4) := ⟨_, rfl⟩
  have k0 : own_G p e below E0 s₁ (mkF m 0 #[vr a, vd f, ss, uu] []) := fun tz kz => hE0 ▸ castTop (ef_rmV3 m a f x0 x1 x2) kz
  have K0 : Keep h0 h0 [a] := Keep.refl _ _
  have k71 : own_G p e below E0 s₁ (mkF m 4 #[vr a, vd f, ss, vi (0 : Int32)] [(.ref a), (.int (0 : Int32))]) := by
    intro t kk
    refine k0 t ?_
    refine XS.iconst X0.here hx rfl (hb hby d_prog_103_method_4_code_0) ?_
    refine XS.istoreN X0.here hx rfl (hb hby d_prog_103_method_4_code_1) rfl (l' := #[vr a, vd f, ss, vi (0 : Int32)]) rfl ?_
    refine XS.iloadN X0.here hx rfl (hb hby d_prog_103_method_4_code_2) rfl ?_
    refine XS.aloadN X0.here hx rfl (hb hby d_prog_103_method_4_code_3) rfl rfl ?_
    exact kk
  have st72 := fun t => own_A.len X0 hx hZ e0 A1 (g := (mkF m 4 #[vr a, vd f, ss, vi (0 : Int32)] [(.ref a), (.int (0 : Int32))])) rfl rfl (hb hby d_prog_103_method_4_code_4) t
  have k73 : own_G p e below E0 s₁ (mkF m 5 #[vr a, vd f, ss, vi (0 : Int32)] [(.int (3 : Int32)), (.int (0 : Int32))]) := fun t kk => k71 t (st72 _ kk)
  have k74 : own_G p e below E0 s₁ (mkF m 11 #[vr a, vd f, ss, vi (0 : Int32)] [(.int (0 : Int32)), (.ref a), (.int (0 : Int32)), (.ref a)]) := by
    intro t kk
    refine k73 t ?_
    refine XS.icmpNo X0.here hx rfl (hb hby d_prog_103_method_4_code_5) rfl (own_ic_geN (by decide)) ?_
    refine XS.aloadN X0.here hx rfl (hb hby d_prog_103_method_4_code_8) rfl rfl ?_
    refine XS.iloadN X0.here hx rfl (hb hby d_prog_103_method_4_code_9) rfl ?_
    refine XT.dup2 X0.here hx rfl (hb hby d_prog_103_method_4_code_10) rfl rfl rfl ?_
    exact kk
  have st75 := fun t => own_A.dld X0 hx hZ e0 A1 (j := (0 : Int32)) (v := (.double x0)) (by decide) rfl (g := (mkF m 11 #[vr a, vd f, ss, vi (0 : Int32)] [(.int (0 : Int32)), (.ref a), (.int (0 : Int32)), (.ref a)])) rfl rfl (hb hby d_prog_103_method_4_code_11) t
  have k76 : own_G p e below E0 s₁ (mkF m 12 #[vr a, vd f, ss, vi (0 : Int32)] [(.double x0), (.int (0 : Int32)), (.ref a)]) := fun t kk => k74 t (st75 _ kk)
  have k77 : own_G p e below E0 s₁ (mkF m 14 #[vr a, vd f, ss, vi (0 : Int32)] [(.double (FP.dmul x0 f)), (.int (0 : Int32)), (.ref a)]) := by
    intro t kk
    refine k76 t ?_
    refine XS.dloadN X0.here hx rfl (hb hby d_prog_103_method_4_code_12) rfl ?_
    refine XS.dmulS X0.here hx rfl (hb hby d_prog_103_method_4_code_13) rfl nn0 rfl ?_
    exact kk
  obtain ⟨T78, h79, X80, e81, W82, F83, st84⟩ := own_A.dst X0 hx hZ e0 A1 (j := (0 : Int32)) (by decide) rfl (g := (mkF m 14 #[vr a, vd f, ss, vi (0 : Int32)] [(.double (FP.dmul x0 f)), (.int (0 : Int32)), (.ref a)])) rfl rfl (hb hby d_prog_103_method_4_code_14)
  have N85 := Fr.snoc X80 N0 ge_a
  have k86 : own_G p e below E0 T78 (mkF m 15 #[vr a, vd f, ss, vi (0 : Int32)] []) := fun t kk => k77 t (st84 _ kk)
  have Z87 : n0 ≤ h79.size := by rw [W82.size]; exact Z0
  have K88 : Keep h0 h79 [a] := K0.wr W82 (Or.inl (List.mem_of_getElem? (i := 0) rfl))
  have F89 : own_A Z h79 a .double [(.double (FP.dmul x0 f)), (.double x1), (.double x2)] := F83
  have k90 : own_G p e below E0 T78 (mkF m 4 #[vr a, vd f, ss, vi (1 : Int32)] [(.ref a), (.int (1 : Int32))]) := by
    intro t kk
    refine k86 t ?_
    refine XS.iinc X80.here hx rfl (hb hby d_prog_103_method_4_code_15) rfl (l' := #[vr a, vd f, ss, vi (1 : Int32)]) rfl ?_
    refine XS.goto X80.here hx rfl (pc0 := 18) (pc' := 2) rfl (hb hby d_prog_103_method_4_code_18) (by decide) (by decide) ?_
    refine XS.iloadN X80.here hx rfl (hb hby d_prog_103_method_4_code_2) rfl ?_
    refine XS.aloadN X80.here hx rfl (hb hby d_prog_103_method_4_code_3) rfl rfl ?_
    exact kk
  have st91 := fun t => own_A.len X80 hx hZ e81 F89 (g := (mkF m 4 #[vr a, vd f, ss, vi (1 : Int32)] [(.ref a), (.int (1 : Int32))])) rfl rfl (hb hby d_prog_103_method_4_code_4) t
  have k92 : own_G p e below E0 T78 (mkF m 5 #[vr a, vd f, ss, vi (1 : Int32)] [(.int (3 : Int32)), (.int (1 : Int32))]) := fun t kk => k90 t (st91 _ kk)
  have k93 : own_G p e below E0 T78 (mkF m 11 #[vr a, vd f, ss, vi (1 : Int32)] [(.int (1 : Int32)), (.ref a), (.int (1 : Int32)), (.ref a)]) := by
    intro t kk
    refine k92 t ?_
    refine XS.icmpNo X80.here hx rfl (hb hby d_prog_103_method_4_code_5) rfl (own_ic_geN (by decide)) ?_
    refine XS.aloadN X80.here hx rfl (hb hby d_prog_103_method_4_code_8) rfl rfl ?_
    refine XS.iloadN X80.here hx rfl (hb hby d_prog_103_method_4_code_9) rfl ?_
    refine XT.dup2 X80.here hx rfl (hb hby d_prog_103_method_4_code_10) rfl rfl rfl ?_
    exact kk
  have st94 := fun t => own_A.dld X80 hx hZ e81 F89 (j := (1 : Int32)) (v := (.double x1)) (by decide) rfl (g := (mkF m 11 #[vr a, vd f, ss, vi (1 : Int32)] [(.int (1 : Int32)), (.ref a), (.int (1 : Int32)), (.ref a)])) rfl rfl (hb hby d_prog_103_method_4_code_11) t
  have k95 : own_G p e below E0 T78 (mkF m 12 #[vr a, vd f, ss, vi (1 : Int32)] [(.double x1), (.int (1 : Int32)), (.ref a)]) := fun t kk => k93 t (st94 _ kk)
  have k96 : own_G p e below E0 T78 (mkF m 14 #[vr a, vd f, ss, vi (1 : Int32)] [(.double (FP.dmul x1 f)), (.int (1 : Int32)), (.ref a)]) := by
    intro t kk
    refine k95 t ?_
    refine XS.dloadN X80.here hx rfl (hb hby d_prog_103_method_4_code_12) rfl ?_
    refine XS.dmulS X80.here hx rfl (hb hby d_prog_103_method_4_code_13) rfl nn1 rfl ?_
    exact kk
  obtain ⟨T97, h98, X99, e100, W101, F102, st103⟩ := own_A.dst X80 hx hZ e81 F89 (j := (1 : Int32)) (by decide) rfl (g := (mkF m 14 #[vr a, vd f, ss, vi (1 : Int32)] [(.double (FP.dmul x1 f)), (.int (1 : Int32)), (.ref a)])) rfl rfl (hb hby d_prog_103_method_4_code_14)
  have N104 := Fr.snoc X99 N85 ge_a
  have k105 : own_G p e below E0 T97 (mkF m 15 #[vr a, vd f, ss, vi (1 : Int32)] []) := fun t kk => k96 t (st103 _ kk)
  have Z106 : n0 ≤ h98.size := by rw [W101.size]; exact Z87
  have K107 : Keep h0 h98 [a] := K88.wr W101 (Or.inl (List.mem_of_getElem? (i := 0) rfl))
  have F108 : own_A Z h98 a .double [(.double (FP.dmul x0 f)), (.double (FP.dmul x1 f)), (.double x2)] := F102
  have k109 : own_G p e below E0 T97 (mkF m 4 #[vr a, vd f, ss, vi (2 : Int32)] [(.ref a), (.int (2 : Int32))]) := by
    intro t kk
    refine k105 t ?_
    refine XS.iinc X99.here hx rfl (hb hby d_prog_103_method_4_code_15) rfl (l' := #[vr a, vd f, ss, vi (2 : Int32)]) rfl ?_
    refine XS.goto X99.here hx rfl (pc0 := 18) (pc' := 2) rfl (hb hby d_prog_103_method_4_code_18) (by decide) (by decide) ?_
    refine XS.iloadN X99.here hx rfl (hb hby d_prog_103_method_4_code_2) rfl ?_
    refine XS.aloadN X99.here hx rfl (hb hby d_prog_103_method_4_code_3) rfl rfl ?_
    exact kk
  have st110 := fun t => own_A.len X99 hx hZ e100 F108 (g := (mkF m 4 #[vr a, vd f, ss, vi (2 : Int32)] [(.ref a), (.int (2 : Int32))])) rfl rfl (hb hby d_prog_103_method_4_code_4) t
  have k111 : own_G p e below E0 T97 (mkF m 5 #[vr a, vd f, ss, vi (2 : Int32)] [(.int (3 : Int32)), (.int (2 : Int32))]) := fun t kk => k109 t (st110 _ kk)
  have k112 : own_G p e below E0 T97 (mkF m 11 #[vr a, vd f, ss, vi (2 : Int32)] [(.int (2 : Int32)), (.ref a), (.int (2 : Int32)), (.ref a)]) := by
    intro t kk
    refine k111 t ?_
    refine XS.icmpNo X99.here hx rfl (hb hby d_prog_103_method_4_code_5) rfl (own_ic_geN (by decide)) ?_
    refine XS.aloadN X99.here hx rfl (hb hby d_prog_103_method_4_code_8) rfl rfl ?_
    refine XS.iloadN X99.here hx rfl (hb hby d_prog_103_method_4_code_9) rfl ?_
    refine XT.dup2 X99.here hx rfl (hb hby d_prog_103_method_4_code_10) rfl rfl rfl ?_
    exact kk
  have st113 := fun t => own_A.dld X99 hx hZ e100 F108 (j := (2 : Int32)) (v := (.double x2)) (by decide) rfl (g := (mkF m 11 #[vr a, vd f, ss, vi (2 : Int32)] [(.int (2 : Int32)), (.ref a), (.int (2 : Int32)), (.ref a)])) rfl rfl (hb hby d_prog_103_method_4_code_11) t
  have k114 : own_G p e below E0 T97 (mkF m 12 #[vr a, vd f, ss, vi (2 : Int32)] [(.double x2), (.int (2 : Int32)), (.ref a)]) := fun t kk => k112 t (st113 _ kk)
  have k115 : own_G p e below E0 T97 (mkF m 14 #[vr a, vd f, ss, vi (2 : Int32)] [(.double (FP.dmul x2 f)), (.int (2 : Int32)), (.ref a)]) := by
    intro t kk
    refine k114 t ?_
    refine XS.dloadN X99.here hx rfl (hb hby d_prog_103_method_4_code_12) rfl ?_
    refine XS.dmulS X99.here hx rfl (hb hby d_prog_103_method_4_code_13) rfl nn2 rfl ?_
    exact kk
  obtain ⟨T116, h117, X118, e119, W120, F121, st122⟩ := own_A.dst X99 hx hZ e100 F108 (j := (2 : Int32)) (by decide) rfl (g := (mkF m 14 #[vr a, vd f, ss, vi (2 : Int32)] [(.double (FP.dmul x2 f)), (.int (2 : Int32)), (.ref a)])) rfl rfl (hb hby d_prog_103_method_4_code_14)
  have N123 := Fr.snoc X118 N104 ge_a
  have k124 : own_G p e below E0 T116 (mkF m 15 #[vr a, vd f, ss, vi (2 : Int32)] []) := fun t kk => k115 t (st122 _ kk)
  have Z125 : n0 ≤ h117.size := by rw [W120.size]; exact Z106
  have K126 : Keep h0 h117 [a] := K107.wr W120 (Or.inl (List.mem_of_getElem? (i := 0) rfl))
  have F127 : own_A Z h117 a .double [(.double (FP.dmul x0 f)), (.double (FP.dmul x1 f)), (.double (FP.dmul x2 f))] := F121
  have k128 : own_G p e below E0 T116 (mkF m 4 #[vr a, vd f, ss, vi (3 : Int32)] [(.ref a), (.int (3 : Int32))]) := by
    intro t kk
    refine k124 t ?_
    refine XS.iinc X118.here hx rfl (hb hby d_prog_103_method_4_code_15) rfl (l' := #[vr a, vd f, ss, vi (3 : Int32)]) rfl ?_
    refine XS.goto X118.here hx rfl (pc0 := 18) (pc' := 2) rfl (hb hby d_prog_103_method_4_code_18) (by decide) (by decide) ?_
    refine XS.iloadN X118.here hx rfl (hb hby d_prog_103_method_4_code_2) rfl ?_
    refine XS.aloadN X118.here hx rfl (hb hby d_prog_103_method_4_code_3) rfl rfl ?_
    exact kk
  have st129 := fun t => own_A.len X118 hx hZ e119 F127 (g := (mkF m 4 #[vr a, vd f, ss, vi (3 : Int32)] [(.ref a), (.int (3 : Int32))])) rfl rfl (hb hby d_prog_103_method_4_code_4) t
  have k130 : own_G p e below E0 T116 (mkF m 5 #[vr a, vd f, ss, vi (3 : Int32)] [(.int (3 : Int32)), (.int (3 : Int32))]) := fun t kk => k128 t (st129 _ kk)
  have k131 : own_G p e below E0 T116 (mkF m 21 #[vr a, vd f, ss, vi (3 : Int32)] []) := by
    intro t kk
    refine k130 t ?_
    refine XS.icmpYes X118.here hx rfl (pc0 := 5) (pc' := 21) rfl (hb hby d_prog_103_method_4_code_5) rfl (own_ic_geY (by decide)) (by decide) (by decide) ?_
    exact kk
  obtain ⟨fs, hr, hrun, hended, hW, hsame⟩ := X118.leave (v := none) (fun _ => rfl)
  have hrun0 := k131 _ (X118.returnOut hx Bd.returns (hb hby d_prog_103_method_4_code_21) hr)
  subst hE0
  refine ⟨_, _, hrun0, hrun, hended, _, _, rfl, ?_, ⟨_, rfl⟩, hW, hsame.mono (by decide) (by decide)⟩
  show QrmV3 Z a f x0 x1 x2 h0 n0 _ T116.heap _
  rw [e119]
  exact ⟨rfl, N123, K126, F127⟩
def Qrm0 (Z : State) (p0 : Int32) (p1 : Int32) (p2 : Int32) (p3 : Int32) (p4 : Int32) (h0 : Heap) (n0 : Nat) (vQ : Option Value) (hQ : Heap) (LQ : List Loc) : Prop := vQ = some (.int (1 : Int32)) ∧ Fr n0 LQ
theorem ef_rm0 (m : MethodId) (p0 : Int32) (p1 : Int32) (p2 : Int32) (p3 : Int32) (p4 : Int32) : entryFrame m #[(.int p0), (.int p1), (.int p2), (.int p3), (.int p4)] maxLocals = mkF m 0 #[vi p0, vi p1, vi p2, vi p3, vi p4, uu, uu, uu, uu, uu, uu, uu] [] := by first | (simp [entryFrame, mkF, argsToLocals, Value.category, maxLocals]; done) | rfl
def tw0 {Z : State} {a0 : Array Value} (hw : ∀ d ∈ tables_1, d.before a0 Z = true) := hw _ (List.mem_of_getElem? (i := 0) rfl)
def tw3 {Z : State} {a0 : Array Value} (hw : ∀ d ∈ tables_1, d.before a0 Z = true) := hw _ (List.mem_of_getElem? (i := 3) rfl)
def tw2 {Z : State} {a0 : Array Value} (hw : ∀ d ∈ tables_1, d.before a0 Z = true) := hw _ (List.mem_of_getElem? (i := 2) rfl)
theorem pd_2 : parseMethodDescriptor "(I)I" = some ⟨[.int], some .int⟩ := by decide +kernel
def tw1 {Z : State} {a0 : Array Value} (hw : ∀ d ∈ tables_1, d.before a0 Z = true) := hw _ (List.mem_of_getElem? (i := 1) rfl)
def tw4 {Z : State} {a0 : Array Value} (hw : ∀ d ∈ tables_1, d.before a0 Z = true) := hw _ (List.mem_of_getElem? (i := 4) rfl)
def tw5 {Z : State} {a0 : Array Value} (hw : ∀ d ∈ tables_1, d.before a0 Z = true) := hw _ (List.mem_of_getElem? (i := 5) rfl)
def tw8 {Z : State} {a0 : Array Value} (hw : ∀ d ∈ tables_1, d.before a0 Z = true) := hw _ (List.mem_of_getElem? (i := 8) rfl)
def tw7 {Z : State} {a0 : Array Value} (hw : ∀ d ∈ tables_1, d.before a0 Z = true) := hw _ (List.mem_of_getElem? (i := 7) rfl)
theorem pd_3 : parseMethodDescriptor "([DD)V" = some ⟨[(.array .double), .double], none⟩ := by decide +kernel
def tw6 {Z : State} {a0 : Array Value} (hw : ∀ d ∈ tables_1, d.before a0 Z = true) := hw _ (List.mem_of_getElem? (i := 6) rfl)
set_option maxRecDepth 65536 in
set_option maxHeartbeats 40000000 in
theorem rm0 (l : Launch) (Z : State) (a0 : Array Value) (hw : ∀ d ∈ tables_1, d.before a0 Z = true) (ws : List Jvm.Cond) (p0 : Int32) (p1 : Int32) (p2 : Int32) (p3 : Int32) (p4 : Int32) (h0 : Heap) (n0 : Nat) (Z0 : n0 ≤ h0.size)  :
    MetFree l x (head1 (Jvm.Cond.code x code maxLocals ret :: ws) room_1) (fun aA U => aA = #[(.int p0), (.int p1), (.int p2), (.int p3), (.int p4)] ∧ Z.Warmed39 U.vm ∧ U.heap = h0) (fun _ _ _ _ _ => True) (fun _ U o U' => ∃ vR LR, o = .returned vR ∧ Qrm0 Z p0 p1 p2 p3 p4 h0 n0 vR U'.heap LR ∧ FrameEnd U o U' LR 16 128) := by
  refine MetFree.of_bodySF (plainFor_of_name pn_com_example_velvet_postings_velvetpostings_search_VectorsScalePinLaw) hisR ?_
  intro p e s m args below meth c s₁ Bd hml0 hPre hKk
  obtain ⟨rfl, hZ, hh⟩ := hPre
  have hx := Bd.exec
  have hby := Bd.bytes
  have hml : c.maxLocals = 12 := hml0
  have hown : s.vm.findClass "com/example/velvet_postings/velvetpostings/search/VectorsScalePinLaw" = some m.cls := findClass_of_methodNamed Bd.named
  have hnm := (name_of_methodNamed Bd.named Bd.method).1
  have X0 : Stand p l e room_1 s m #[(.int p0), (.int p1), (.int p2), (.int p3), (.int p4)] below meth c s₁ [] 0 0 := Stand.of_body Bd
  have e0 : s₁.heap = h0 := by rw [← hh, Bd.state]; rfl
  have N0 := Fr.nil n0
  obtain ⟨E0, hE0⟩ : ∃ zE : State, zE = s₁.setTop (entryFrame m #[(.int p0), (.int p1), (.int p2), (.int p3), (.int p4)] maxLocals) := ⟨_, rfl⟩
  have k0 : own_G p e below E0 s₁ (mkF m 0 #[vi p0, vi p1, vi p2, vi p3, vi p4, uu, uu, uu, uu, uu, uu, uu] []) := fun tz kz => hE0 ▸ castTop (ef_rm0 m p0 p1 p2 p3 p4) kz
  have k132 : own_G p e below E0 s₁ (mkF m 3 #[vi p0, vi p1, vi p2, vi p3, vi p4, uu, uu, uu, uu, uu, uu, uu] [(.int (p0 &&& (3 : Int32)))]) := by
    intro t kk
    refine k0 t ?_
    refine XS.iloadN X0.here hx rfl (hb hby at_0) rfl ?_
    refine XS.iconst X0.here hx rfl (hb hby at_1) ?_
    refine XS.iand X0.here hx rfl (hb hby at_2) rfl ?_
    exact kk
  obtain ⟨N, hN⟩ : ∃ vA, vA = (p0 &&& (3 : Int32)) := ⟨_, rfl⟩
  have k133 : own_G p e below E0 s₁ (mkF m 3 #[vi p0, vi p1, vi p2, vi p3, vi p4, uu, uu, uu, uu, uu, uu, uu] [(.int N)]) := by rw [hN]; exact k132
  rcases (own_and3 p0 hN) with rfl | rfl | rfl | rfl
  · skip
    have k134 : own_G p e below E0 s₁ (mkF m 6 #[vi p0, vi p1, vi p2, vi p3, vi p4, vi (0 : Int32), uu, uu, uu, uu, uu, uu] [(.int p1)]) := by
      intro t kk
      refine k133 t ?_
      refine XS.istore X0.here hx rfl (hb hby at_3) rfl (l' := #[vi p0, vi p1, vi p2, vi p3, vi p4, vi (0 : Int32), uu, uu, uu, uu, uu, uu]) rfl ?_
      refine XS.iloadN X0.here hx rfl (hb hby at_5) rfl ?_
      exact kk
    obtain ⟨_, _, ⟨T135, L136, kc137, nc138⟩, -, X139, ⟨Lc140, hQ141, l142, y143, z144⟩, st145⟩ := Jvm.LawKit.callS X0 hx (y := mn0) hown (mvT hZ (tw0 hw)) (mvT hZ (tw1 hw)) (mvT hZ (tw2 hw)) (mvT hZ (tw3 hw)) (by decide) (backOf (W := 0) (rmS l Z a0 hw [] p1 h0 n0 Z0 ) hZ (tw3 hw) (tw2 hw) (by decide) (by decide)) (g := (mkF m 6 #[vi p0, vi p1, vi p2, vi p3, vi p4, vi (0 : Int32), uu, uu, uu, uu, uu, uu] [(.int p1)])) rfl (by rw [hml]; rfl) (argsL := [(.int p1)]) (rest := []) (lenOf pd_2 rfl) rfl (by show 2 * 0 + _ ≤ _; exact Nat.le_of_eq rfl) (hb hby at_6) (fun _ _ => ⟨rfl, e0, (by decide : 0 + 0 ≤ _), (by decide : 0 + 0 ≤ _)⟩)
    dsimp only [Pt.U, Pt.locs, Pt.cells, Pt.slots] at X139 l142 y143 z144 st145 hQ141
    subst l142 y143 z144
    obtain ⟨r149, rfl, N146, e147, g150⟩ := hQ141
    have N151 := Fr.app N0 N146
    have k152 : own_G p e below E0 T135 (mkF m 9 #[vi p0, vi p1, vi p2, vi p3, vi p4, vi (0 : Int32), uu, uu, uu, uu, uu, uu] [(.int r149)]) := fun t kk => k134 t (st145 _ kk)
    have k153 : own_G p e below E0 T135 (mkF m 12 #[vi p0, vi p1, vi p2, vi p3, vi p4, vi (0 : Int32), vi r149, uu, uu, uu, uu, uu] [(.int p2)]) := by
      intro t kk
      refine k152 t ?_
      refine XS.istore X139.here hx rfl (hb hby at_9) rfl (l' := #[vi p0, vi p1, vi p2, vi p3, vi p4, vi (0 : Int32), vi r149, uu, uu, uu, uu, uu]) rfl ?_
      refine XS.iloadN X139.here hx rfl (hb hby at_11) rfl ?_
      exact kk
    obtain ⟨_, _, ⟨T154, L155, kc156, nc157⟩, -, X158, ⟨Lc159, hQ160, l161, y162, z163⟩, st164⟩ := Jvm.LawKit.callS X139 hx (y := mn0) hown (mvT hZ (tw0 hw)) (mvT hZ (tw1 hw)) (mvT hZ (tw2 hw)) (mvT hZ (tw3 hw)) (by decide) (backOf (W := 0) (rmS l Z a0 hw [] p2 h0 n0 Z0 ) hZ (tw3 hw) (tw2 hw) (by decide) (by decide)) (g := (mkF m 12 #[vi p0, vi p1, vi p2, vi p3, vi p4, vi (0 : Int32), vi r149, uu, uu, uu, uu, uu] [(.int p2)])) rfl (by rw [hml]; rfl) (argsL := [(.int p2)]) (rest := []) (lenOf pd_2 rfl) rfl (by show 2 * 0 + _ ≤ _; exact Nat.le_of_eq rfl) (hb hby at_12) (fun _ _ => ⟨rfl, e147, (by decide : 0 + 0 ≤ _), (by decide : 0 + 0 ≤ _)⟩)
    dsimp only [Pt.U, Pt.locs, Pt.cells, Pt.slots] at X158 l161 y162 z163 st164 hQ160
    subst l161 y162 z163
    obtain ⟨r168, rfl, N165, e166, g169⟩ := hQ160
    have N170 := Fr.app N151 N165
    have k171 : own_G p e below E0 T154 (mkF m 15 #[vi p0, vi p1, vi p2, vi p3, vi p4, vi (0 : Int32), vi r149, uu, uu, uu, uu, uu] [(.int r168)]) := fun t kk => k153 t (st164 _ kk)
    have k172 : own_G p e below E0 T154 (mkF m 18 #[vi p0, vi p1, vi p2, vi p3, vi p4, vi (0 : Int32), vi r149, vi r168, uu, uu, uu, uu] [(.int p3)]) := by
      intro t kk
      refine k171 t ?_
      refine XS.istore X158.here hx rfl (hb hby at_15) rfl (l' := #[vi p0, vi p1, vi p2, vi p3, vi p4, vi (0 : Int32), vi r149, vi r168, uu, uu, uu, uu]) rfl ?_
      refine XS.iloadN X158.here hx rfl (hb hby at_17) rfl ?_
      exact kk
    obtain ⟨_, _, ⟨T173, L174, kc175, nc176⟩, -, X177, ⟨Lc178, hQ179, l180, y181, z182⟩, st183⟩ := Jvm.LawKit.callS X158 hx (y := mn0) hown (mvT hZ (tw0 hw)) (mvT hZ (tw1 hw)) (mvT hZ (tw2 hw)) (mvT hZ (tw3 hw)) (by decide) (backOf (W := 0) (rmS l Z a0 hw [] p3 h0 n0 Z0 ) hZ (tw3 hw) (tw2 hw) (by decide) (by decide)) (g := (mkF m 18 #[vi p0, vi p1, vi p2, vi p3, vi p4, vi (0 : Int32), vi r149, vi r168, uu, uu, uu, uu] [(.int p3)])) rfl (by rw [hml]; rfl) (argsL := [(.int p3)]) (rest := []) (lenOf pd_2 rfl) rfl (by show 2 * 0 + _ ≤ _; exact Nat.le_of_eq rfl) (hb hby at_18) (fun _ _ => ⟨rfl, e166, (by decide : 0 + 0 ≤ _), (by decide : 0 + 0 ≤ _)⟩)
    dsimp only [Pt.U, Pt.locs, Pt.cells, Pt.slots] at X177 l180 y181 z182 st183 hQ179
    subst l180 y181 z182
    obtain ⟨r187, rfl, N184, e185, g188⟩ := hQ179
    have N189 := Fr.app N170 N184
    have k190 : own_G p e below E0 T173 (mkF m 21 #[vi p0, vi p1, vi p2, vi p3, vi p4, vi (0 : Int32), vi r149, vi r168, uu, uu, uu, uu] [(.int r187)]) := fun t kk => k172 t (st183 _ kk)
    have k191 : own_G p e below E0 T173 (mkF m 25 #[vi p0, vi p1, vi p2, vi p3, vi p4, vi (0 : Int32), vi r149, vi r168, vi r187, uu, uu, uu] [(.int p4)]) := by
      intro t kk
      refine k190 t ?_
      refine XS.istore X177.here hx rfl (hb hby at_21) rfl (l' := #[vi p0, vi p1, vi p2, vi p3, vi p4, vi (0 : Int32), vi r149, vi r168, vi r187, uu, uu, uu]) rfl ?_
      refine XS.iload X177.here hx rfl (hb hby at_23) rfl ?_
      exact kk
    obtain ⟨_, _, ⟨T192, L193, kc194, nc195⟩, -, X196, ⟨Lc197, hQ198, l199, y200, z201⟩, st202⟩ := Jvm.LawKit.callS X177 hx (y := mn0) hown (mvT hZ (tw0 hw)) (mvT hZ (tw1 hw)) (mvT hZ (tw2 hw)) (mvT hZ (tw3 hw)) (by decide) (backOf (W := 0) (rmS l Z a0 hw [] p4 h0 n0 Z0 ) hZ (tw3 hw) (tw2 hw) (by decide) (by decide)) (g := (mkF m 25 #[vi p0, vi p1, vi p2, vi p3, vi p4, vi (0 : Int32), vi r149, vi r168, vi r187, uu, uu, uu] [(.int p4)])) rfl (by rw [hml]; rfl) (argsL := [(.int p4)]) (rest := []) (lenOf pd_2 rfl) rfl (by show 2 * 0 + _ ≤ _; exact Nat.le_of_eq rfl) (hb hby at_25) (fun _ _ => ⟨rfl, e185, (by decide : 0 + 0 ≤ _), (by decide : 0 + 0 ≤ _)⟩)
    dsimp only [Pt.U, Pt.locs, Pt.cells, Pt.slots] at X196 l199 y200 z201 st202 hQ198
    subst l199 y200 z201
    obtain ⟨r206, rfl, N203, e204, g207⟩ := hQ198
    have N208 := Fr.app N189 N203
    have k209 : own_G p e below E0 T192 (mkF m 28 #[vi p0, vi p1, vi p2, vi p3, vi p4, vi (0 : Int32), vi r149, vi r168, vi r187, uu, uu, uu] [(.int r206)]) := fun t kk => k191 t (st202 _ kk)
    have k210 : own_G p e below E0 T192 (mkF m 32 #[vi p0, vi p1, vi p2, vi p3, vi p4, vi (0 : Int32), vi r149, vi r168, vi r187, vi r206, uu, uu] [(.int (0 : Int32))]) := by
      intro t kk
      refine k209 t ?_
      refine XS.istore X196.here hx rfl (hb hby at_28) rfl (l' := #[vi p0, vi p1, vi p2, vi p3, vi p4, vi (0 : Int32), vi r149, vi r168, vi r187, vi r206, uu, uu]) rfl ?_
      refine XS.iload X196.here hx rfl (hb hby at_30) rfl ?_
      exact kk
    obtain ⟨T211, h212, cA213, X214, e215, E216, A217, st218⟩ := newP (aty := .double) X196 hx hZ (tw4 hw) e204 (g := (mkF m 32 #[vi p0, vi p1, vi p2, vi p3, vi p4, vi (0 : Int32), vi r149, vi r168, vi r187, vi r206, uu, uu] [(.int (0 : Int32))])) rfl (hb hby at_32) rfl (by decide) (cap := 0) (by decide) (by decide) (by decide) (by decide)
    obtain ⟨a219, g220⟩ : ∃ zA : Nat, zA = h0.size := ⟨_, rfl⟩
    rw [← g220] at A217 st218
    have ge221 : n0 ≤ a219 := by have := Z0; omega
    have Z222 : n0 ≤ h212.size := Nat.le_trans Z0 E216.1
    have F223 : own_A Z h212 a219 .double [] := own_A.new A217
    have k224 : own_G p e below E0 T211 (mkF m 34 #[vi p0, vi p1, vi p2, vi p3, vi p4, vi (0 : Int32), vi r149, vi r168, vi r187, vi r206, uu, uu] [(.ref a219)]) := fun t kk => k210 t (st218 _ kk)
    have k225 : own_G p e below E0 T211 (mkF m 79 #[vi p0, vi p1, vi p2, vi p3, vi p4, vi (0 : Int32), vi r149, vi r168, vi r187, vi r206, vr a219, uu] [(.double (FP.i2d r206)), (.ref a219)]) := by
      intro t kk
      refine k224 t ?_
      refine XS.astore X214.here hx rfl (hb hby at_34) rfl rfl (l' := #[vi p0, vi p1, vi p2, vi p3, vi p4, vi (0 : Int32), vi r149, vi r168, vi r187, vi r206, vr a219, uu]) rfl ?_
      refine XS.iload X214.here hx rfl (hb hby at_36) rfl ?_
      refine XS.ifYes X214.here hx rfl (pc0 := 38) (pc' := 48) rfl (hb hby at_38) rfl (own_if_leY (by decide)) (by decide) (by decide) ?_
      refine XS.iload X214.here hx rfl (hb hby at_48) rfl ?_
      show Steps p.tables e below (T211.setTop (mkF m 50 #[vi p0, vi p1, vi p2, vi p3, vi p4, vi (0 : Int32), vi r149, vi r168, vi r187, vi r206, vr a219, uu] [(.int (0 : Int32))])) t
      refine XS.iconst X214.here hx rfl (hb hby at_50) ?_
      refine XS.icmpYes X214.here hx rfl (pc0 := 51) (pc' := 61) rfl (hb hby at_51) rfl (own_ic_leY (by decide)) (by decide) (by decide) ?_
      refine XS.iload X214.here hx rfl (hb hby at_61) rfl ?_
      refine XS.iconst X214.here hx rfl (hb hby at_63) ?_
      show Steps p.tables e below (T211.setTop (mkF m 64 #[vi p0, vi p1, vi p2, vi p3, vi p4, vi (0 : Int32), vi r149, vi r168, vi r187, vi r206, vr a219, uu] [(.int (2 : Int32)), (.int (0 : Int32))])) t
      refine XS.icmpYes X214.here hx rfl (pc0 := 64) (pc' := 74) rfl (hb hby at_64) rfl (own_ic_leY (by decide)) (by decide) (by decide) ?_
      refine XS.aload X214.here hx rfl (hb hby at_74) rfl rfl ?_
      refine XS.iload X214.here hx rfl (hb hby at_76) rfl ?_
      refine XS.i2dS X214.here hx rfl (hb hby at_78) rfl rfl ?_
      exact kk
    obtain ⟨_, _, ⟨T226, L227, kc228, nc229⟩, -, X230, ⟨Lc231, hQ232, l233, y234, z235⟩, st236⟩ := Jvm.LawKit.callS X214 hx (y := mn1) hown (mvT hZ (tw5 hw)) (mvT hZ (tw6 hw)) (mvT hZ (tw7 hw)) (mvT hZ (tw8 hw)) (by decide) (backOf (W := 0) (rmV0 l Z a0 hw [] a219 (FP.i2d r206) h212 n0 Z222 F223 ge221) hZ (tw8 hw) (tw7 hw) (by decide) (by decide)) (g := (mkF m 79 #[vi p0, vi p1, vi p2, vi p3, vi p4, vi (0 : Int32), vi r149, vi r168, vi r187, vi r206, vr a219, uu] [(.double (FP.i2d r206)), (.ref a219)])) rfl (by rw [hml]; rfl) (argsL := [(.ref a219), (.double (FP.i2d r206))]) (rest := []) (lenOf pd_3 rfl) rfl (by show 2 * 0 + _ ≤ _; exact Nat.le_of_eq rfl) (hb hby at_79) (fun _ _ => ⟨rfl, e215, (by decide : 1 + 0 ≤ _), (by decide : 0 + 0 ≤ _)⟩)
    dsimp only [Pt.U, Pt.locs, Pt.cells, Pt.slots] at X230 l233 y234 z235 st236 hQ232
    subst l233 y234 z235
    obtain ⟨rfl, N237, K240, g241⟩ := hQ232
    have N242 := Fr.app N208 N237
    have Z243 : n0 ≤ T226.heap.size := Nat.le_trans Z222 K240.1
    have k245 : own_G p e below E0 T226 (mkF m 82 #[vi p0, vi p1, vi p2, vi p3, vi p4, vi (0 : Int32), vi r149, vi r168, vi r187, vi r206, vr a219, uu] []) := fun t kk => k225 t (st236 _ kk)
    have k246 : own_G p e below E0 T226 (mkF m 84 #[vi p0, vi p1, vi p2, vi p3, vi p4, vi (0 : Int32), vi r149, vi r168, vi r187, vi r206, vr a219, uu] [(.ref a219)]) := by
      intro t kk
      refine k245 t ?_
      refine XS.aload X230.here hx rfl (hb hby at_82) rfl rfl ?_
      exact kk
    have st247 := fun t => own_A.len X230 hx hZ rfl g241 (g := (mkF m 84 #[vi p0, vi p1, vi p2, vi p3, vi p4, vi (0 : Int32), vi r149, vi r168, vi r187, vi r206, vr a219, uu] [(.ref a219)])) rfl rfl (hb hby at_84) t
    have k248 : own_G p e below E0 T226 (mkF m 85 #[vi p0, vi p1, vi p2, vi p3, vi p4, vi (0 : Int32), vi r149, vi r168, vi r187, vi r206, vr a219, uu] [(.int (0 : Int32))]) := fun t kk => k246 t (st247 _ kk)
    have k249 : own_G p e below E0 T226 (mkF m 200 #[vi p0, vi p1, vi p2, vi p3, vi p4, vi (0 : Int32), vi r149, vi r168, vi r187, vi r206, vr a219, vi (1 : Int32)] [(.int (1 : Int32))]) := by
      intro t kk
      refine k248 t ?_
      refine XS.iload X230.here hx rfl (hb hby at_85) rfl ?_
      refine XS.icmpNo X230.here hx rfl (hb hby at_87) rfl (own_ic_neN (by decide)) ?_
      refine XS.iconst X230.here hx rfl (hb hby at_90) ?_
      refine XS.goto X230.here hx rfl (pc0 := 91) (pc' := 95) rfl (hb hby at_91) (by decide) (by decide) ?_
      show Steps p.tables e below (T226.setTop (mkF m 95 #[vi p0, vi p1, vi p2, vi p3, vi p4, vi (0 : Int32), vi r149, vi r168, vi r187, vi r206, vr a219, uu] [(.int (1 : Int32))])) t
      refine XS.istore X230.here hx rfl (hb hby at_95) rfl (l' := #[vi p0, vi p1, vi p2, vi p3, vi p4, vi (0 : Int32), vi r149, vi r168, vi r187, vi r206, vr a219, vi (1 : Int32)]) rfl ?_
      refine XS.iload X230.here hx rfl (hb hby at_97) rfl ?_
      refine XS.ifYes X230.here hx rfl (pc0 := 99) (pc' := 130) rfl (hb hby at_99) rfl (own_if_leY (by decide)) (by decide) (by decide) ?_
      refine XS.iload X230.here hx rfl (hb hby at_130) rfl ?_
      show Steps p.tables e below (T226.setTop (mkF m 132 #[vi p0, vi p1, vi p2, vi p3, vi p4, vi (0 : Int32), vi r149, vi r168, vi r187, vi r206, vr a219, vi (1 : Int32)] [(.int (0 : Int32))])) t
      refine XS.iconst X230.here hx rfl (hb hby at_132) ?_
      refine XS.icmpYes X230.here hx rfl (pc0 := 133) (pc' := 164) rfl (hb hby at_133) rfl (own_ic_leY (by decide)) (by decide) (by decide) ?_
      refine XS.iload X230.here hx rfl (hb hby at_164) rfl ?_
      refine XS.iconst X230.here hx rfl (hb hby at_166) ?_
      show Steps p.tables e below (T226.setTop (mkF m 167 #[vi p0, vi p1, vi p2, vi p3, vi p4, vi (0 : Int32), vi r149, vi r168, vi r187, vi r206, vr a219, vi (1 : Int32)] [(.int (2 : Int32)), (.int (0 : Int32))])) t
      refine XS.icmpYes X230.here hx rfl (pc0 := 167) (pc' := 198) rfl (hb hby at_167) rfl (own_ic_leY (by decide)) (by decide) (by decide) ?_
      refine XS.iload X230.here hx rfl (hb hby at_198) rfl ?_
      exact kk
    obtain ⟨fs, hr, hrun, hended, hW, hsame⟩ := X230.leave (v := some (.int (1 : Int32))) (fun h => by rw [Bd.returns] at h; cases h)
    have hrun0 := k249 _ (retOut X230 hx Bd.returns (t := .boolean) rfl (Or.inl ⟨rfl, Or.inr (Or.inl rfl), _, rfl⟩) (hb hby at_200) hr)
    subst hE0
    refine ⟨_, _, hrun0, hrun, hended, _, _, rfl, ?_, ⟨_, rfl⟩, hW, hsame.mono (by decide) (by decide)⟩
    show Qrm0 Z p0 p1 p2 p3 p4 h0 n0 _ T226.heap _
    exact ⟨rfl, N242⟩
  · skip
    have k250 : own_G p e below E0 s₁ (mkF m 6 #[vi p0, vi p1, vi p2, vi p3, vi p4, vi (1 : Int32), uu, uu, uu, uu, uu, uu] [(.int p1)]) := by
      intro t kk
      refine k133 t ?_
      refine XS.istore X0.here hx rfl (hb hby at_3) rfl (l' := #[vi p0, vi p1, vi p2, vi p3, vi p4, vi (1 : Int32), uu, uu, uu, uu, uu, uu]) rfl ?_
      refine XS.iloadN X0.here hx rfl (hb hby at_5) rfl ?_
      exact kk
    obtain ⟨_, _, ⟨T251, L252, kc253, nc254⟩, -, X255, ⟨Lc256, hQ257, l258, y259, z260⟩, st261⟩ := Jvm.LawKit.callS X0 hx (y := mn0) hown (mvT hZ (tw0 hw)) (mvT hZ (tw1 hw)) (mvT hZ (tw2 hw)) (mvT hZ (tw3 hw)) (by decide) (backOf (W := 0) (rmS l Z a0 hw [] p1 h0 n0 Z0 ) hZ (tw3 hw) (tw2 hw) (by decide) (by decide)) (g := (mkF m 6 #[vi p0, vi p1, vi p2, vi p3, vi p4, vi (1 : Int32), uu, uu, uu, uu, uu, uu] [(.int p1)])) rfl (by rw [hml]; rfl) (argsL := [(.int p1)]) (rest := []) (lenOf pd_2 rfl) rfl (by show 2 * 0 + _ ≤ _; exact Nat.le_of_eq rfl) (hb hby at_6) (fun _ _ => ⟨rfl, e0, (by decide : 0 + 0 ≤ _), (by decide : 0 + 0 ≤ _)⟩)
    dsimp only [Pt.U, Pt.locs, Pt.cells, Pt.slots] at X255 l258 y259 z260 st261 hQ257
    subst l258 y259 z260
    obtain ⟨r265, rfl, N262, e263, g266⟩ := hQ257
    have N267 := Fr.app N0 N262
    have k268 : own_G p e below E0 T251 (mkF m 9 #[vi p0, vi p1, vi p2, vi p3, vi p4, vi (1 : Int32), uu, uu, uu, uu, uu, uu] [(.int r265)]) := fun t kk => k250 t (st261 _ kk)
    have k269 : own_G p e below E0 T251 (mkF m 12 #[vi p0, vi p1, vi p2, vi p3, vi p4, vi (1 : Int32), vi r265, uu, uu, uu, uu, uu] [(.int p2)]) := by
      intro t kk
      refine k268 t ?_
      refine XS.istore X255.here hx rfl (hb hby at_9) rfl (l' := #[vi p0, vi p1, vi p2, vi p3, vi p4, vi (1 : Int32), vi r265, uu, uu, uu, uu, uu]) rfl ?_
      refine XS.iloadN X255.here hx rfl (hb hby at_11) rfl ?_
      exact kk
    obtain ⟨_, _, ⟨T270, L271, kc272, nc273⟩, -, X274, ⟨Lc275, hQ276, l277, y278, z279⟩, st280⟩ := Jvm.LawKit.callS X255 hx (y := mn0) hown (mvT hZ (tw0 hw)) (mvT hZ (tw1 hw)) (mvT hZ (tw2 hw)) (mvT hZ (tw3 hw)) (by decide) (backOf (W := 0) (rmS l Z a0 hw [] p2 h0 n0 Z0 ) hZ (tw3 hw) (tw2 hw) (by decide) (by decide)) (g := (mkF m 12 #[vi p0, vi p1, vi p2, vi p3, vi p4, vi (1 : Int32), vi r265, uu, uu, uu, uu, uu] [(.int p2)])) rfl (by rw [hml]; rfl) (argsL := [(.int p2)]) (rest := []) (lenOf pd_2 rfl) rfl (by show 2 * 0 + _ ≤ _; exact Nat.le_of_eq rfl) (hb hby at_12) (fun _ _ => ⟨rfl, e263, (by decide : 0 + 0 ≤ _), (by decide : 0 + 0 ≤ _)⟩)
    dsimp only [Pt.U, Pt.locs, Pt.cells, Pt.slots] at X274 l277 y278 z279 st280 hQ276
    subst l277 y278 z279
    obtain ⟨r284, rfl, N281, e282, g285⟩ := hQ276
    have N286 := Fr.app N267 N281
    have k287 : own_G p e below E0 T270 (mkF m 15 #[vi p0, vi p1, vi p2, vi p3, vi p4, vi (1 : Int32), vi r265, uu, uu, uu, uu, uu] [(.int r284)]) := fun t kk => k269 t (st280 _ kk)
    have k288 : own_G p e below E0 T270 (mkF m 18 #[vi p0, vi p1, vi p2, vi p3, vi p4, vi (1 : Int32), vi r265, vi r284, uu, uu, uu, uu] [(.int p3)]) := by
      intro t kk
      refine k287 t ?_
      refine XS.istore X274.here hx rfl (hb hby at_15) rfl (l' := #[vi p0, vi p1, vi p2, vi p3, vi p4, vi (1 : Int32), vi r265, vi r284, uu, uu, uu, uu]) rfl ?_
      refine XS.iloadN X274.here hx rfl (hb hby at_17) rfl ?_
      exact kk
    obtain ⟨_, _, ⟨T289, L290, kc291, nc292⟩, -, X293, ⟨Lc294, hQ295, l296, y297, z298⟩, st299⟩ := Jvm.LawKit.callS X274 hx (y := mn0) hown (mvT hZ (tw0 hw)) (mvT hZ (tw1 hw)) (mvT hZ (tw2 hw)) (mvT hZ (tw3 hw)) (by decide) (backOf (W := 0) (rmS l Z a0 hw [] p3 h0 n0 Z0 ) hZ (tw3 hw) (tw2 hw) (by decide) (by decide)) (g := (mkF m 18 #[vi p0, vi p1, vi p2, vi p3, vi p4, vi (1 : Int32), vi r265, vi r284, uu, uu, uu, uu] [(.int p3)])) rfl (by rw [hml]; rfl) (argsL := [(.int p3)]) (rest := []) (lenOf pd_2 rfl) rfl (by show 2 * 0 + _ ≤ _; exact Nat.le_of_eq rfl) (hb hby at_18) (fun _ _ => ⟨rfl, e282, (by decide : 0 + 0 ≤ _), (by decide : 0 + 0 ≤ _)⟩)
    dsimp only [Pt.U, Pt.locs, Pt.cells, Pt.slots] at X293 l296 y297 z298 st299 hQ295
    subst l296 y297 z298
    obtain ⟨r303, rfl, N300, e301, g304⟩ := hQ295
    have N305 := Fr.app N286 N300
    have k306 : own_G p e below E0 T289 (mkF m 21 #[vi p0, vi p1, vi p2, vi p3, vi p4, vi (1 : Int32), vi r265, vi r284, uu, uu, uu, uu] [(.int r303)]) := fun t kk => k288 t (st299 _ kk)
    have k307 : own_G p e below E0 T289 (mkF m 25 #[vi p0, vi p1, vi p2, vi p3, vi p4, vi (1 : Int32), vi r265, vi r284, vi r303, uu, uu, uu] [(.int p4)]) := by
      intro t kk
      refine k306 t ?_
      refine XS.istore X293.here hx rfl (hb hby at_21) rfl (l' := #[vi p0, vi p1, vi p2, vi p3, vi p4, vi (1 : Int32), vi r265, vi r284, vi r303, uu, uu, uu]) rfl ?_
      refine XS.iload X293.here hx rfl (hb hby at_23) rfl ?_
      exact kk
    obtain ⟨_, _, ⟨T308, L309, kc310, nc311⟩, -, X312, ⟨Lc313, hQ314, l315, y316, z317⟩, st318⟩ := Jvm.LawKit.callS X293 hx (y := mn0) hown (mvT hZ (tw0 hw)) (mvT hZ (tw1 hw)) (mvT hZ (tw2 hw)) (mvT hZ (tw3 hw)) (by decide) (backOf (W := 0) (rmS l Z a0 hw [] p4 h0 n0 Z0 ) hZ (tw3 hw) (tw2 hw) (by decide) (by decide)) (g := (mkF m 25 #[vi p0, vi p1, vi p2, vi p3, vi p4, vi (1 : Int32), vi r265, vi r284, vi r303, uu, uu, uu] [(.int p4)])) rfl (by rw [hml]; rfl) (argsL := [(.int p4)]) (rest := []) (lenOf pd_2 rfl) rfl (by show 2 * 0 + _ ≤ _; exact Nat.le_of_eq rfl) (hb hby at_25) (fun _ _ => ⟨rfl, e301, (by decide : 0 + 0 ≤ _), (by decide : 0 + 0 ≤ _)⟩)
    dsimp only [Pt.U, Pt.locs, Pt.cells, Pt.slots] at X312 l315 y316 z317 st318 hQ314
    subst l315 y316 z317
    obtain ⟨r322, rfl, N319, e320, g323⟩ := hQ314
    have N324 := Fr.app N305 N319
    have k325 : own_G p e below E0 T308 (mkF m 28 #[vi p0, vi p1, vi p2, vi p3, vi p4, vi (1 : Int32), vi r265, vi r284, vi r303, uu, uu, uu] [(.int r322)]) := fun t kk => k307 t (st318 _ kk)
    have k326 : own_G p e below E0 T308 (mkF m 32 #[vi p0, vi p1, vi p2, vi p3, vi p4, vi (1 : Int32), vi r265, vi r284, vi r303, vi r322, uu, uu] [(.int (1 : Int32))]) := by
      intro t kk
      refine k325 t ?_
      refine XS.istore X312.here hx rfl (hb hby at_28) rfl (l' := #[vi p0, vi p1, vi p2, vi p3, vi p4, vi (1 : Int32), vi r265, vi r284, vi r303, vi r322, uu, uu]) rfl ?_
      refine XS.iload X312.here hx rfl (hb hby at_30) rfl ?_
      exact kk
    obtain ⟨T327, h328, cA329, X330, e331, E332, A333, st334⟩ := newP (aty := .double) X312 hx hZ (tw4 hw) e320 (g := (mkF m 32 #[vi p0, vi p1, vi p2, vi p3, vi p4, vi (1 : Int32), vi r265, vi r284, vi r303, vi r322, uu, uu] [(.int (1 : Int32))])) rfl (hb hby at_32) rfl (by decide) (cap := 1) (by decide) (by decide) (by decide) (by decide)
    obtain ⟨a335, g336⟩ : ∃ zA : Nat, zA = h0.size := ⟨_, rfl⟩
    rw [← g336] at A333 st334
    have ge337 : n0 ≤ a335 := by have := Z0; omega
    have Z338 : n0 ≤ h328.size := Nat.le_trans Z0 E332.1
    have F339 : own_A Z h328 a335 .double [(.double (0 : UInt64))] := own_A.new A333
    have k340 : own_G p e below E0 T327 (mkF m 34 #[vi p0, vi p1, vi p2, vi p3, vi p4, vi (1 : Int32), vi r265, vi r284, vi r303, vi r322, uu, uu] [(.ref a335)]) := fun t kk => k326 t (st334 _ kk)
    have k341 : own_G p e below E0 T327 (mkF m 47 #[vi p0, vi p1, vi p2, vi p3, vi p4, vi (1 : Int32), vi r265, vi r284, vi r303, vi r322, vr a335, uu] [(.double (FP.i2d r265)), (.int (0 : Int32)), (.ref a335)]) := by
      intro t kk
      refine k340 t ?_
      refine XS.astore X330.here hx rfl (hb hby at_34) rfl rfl (l' := #[vi p0, vi p1, vi p2, vi p3, vi p4, vi (1 : Int32), vi r265, vi r284, vi r303, vi r322, vr a335, uu]) rfl ?_
      refine XS.iload X330.here hx rfl (hb hby at_36) rfl ?_
      refine XS.ifNo X330.here hx rfl (hb hby at_38) rfl (own_if_leN (by decide)) ?_
      refine XS.aload X330.here hx rfl (hb hby at_41) rfl rfl ?_
      show Steps p.tables e below (T327.setTop (mkF m 43 #[vi p0, vi p1, vi p2, vi p3, vi p4, vi (1 : Int32), vi r265, vi r284, vi r303, vi r322, vr a335, uu] [(.ref a335)])) t
      refine XS.iconst X330.here hx rfl (hb hby at_43) ?_
      refine XS.iload X330.here hx rfl (hb hby at_44) rfl ?_
      refine XS.i2dS X330.here hx rfl (hb hby at_46) rfl rfl ?_
      exact kk
    obtain ⟨T342, h343, X344, e345, W346, F347, st348⟩ := own_A.dst X330 hx hZ e331 F339 (j := (0 : Int32)) (by decide) rfl (g := (mkF m 47 #[vi p0, vi p1, vi p2, vi p3, vi p4, vi (1 : Int32), vi r265, vi r284, vi r303, vi r322, vr a335, uu] [(.double (FP.i2d r265)), (.int (0 : Int32)), (.ref a335)])) rfl rfl (hb hby at_47)
    have N349 := Fr.snoc X344 N324 ge337
    have k350 : own_G p e below E0 T342 (mkF m 48 #[vi p0, vi p1, vi p2, vi p3, vi p4, vi (1 : Int32), vi r265, vi r284, vi r303, vi r322, vr a335, uu] []) := fun t kk => k341 t (st348 _ kk)
    have Z351 : n0 ≤ h343.size := by rw [W346.size]; exact Z338
    have F352 : own_A Z h343 a335 .double [(.double (FP.i2d r265))] := F347
    have k353 : own_G p e below E0 T342 (mkF m 79 #[vi p0, vi p1, vi p2, vi p3, vi p4, vi (1 : Int32), vi r265, vi r284, vi r303, vi r322, vr a335, uu] [(.double (FP.i2d r322)), (.ref a335)]) := by
      intro t kk
      refine k350 t ?_
      refine XS.iload X344.here hx rfl (hb hby at_48) rfl ?_
      refine XS.iconst X344.here hx rfl (hb hby at_50) ?_
      refine XS.icmpYes X344.here hx rfl (pc0 := 51) (pc' := 61) rfl (hb hby at_51) rfl (own_ic_leY (by decide)) (by decide) (by decide) ?_
      refine XS.iload X344.here hx rfl (hb hby at_61) rfl ?_
      show Steps p.tables e below (T342.setTop (mkF m 63 #[vi p0, vi p1, vi p2, vi p3, vi p4, vi (1 : Int32), vi r265, vi r284, vi r303, vi r322, vr a335, uu] [(.int (1 : Int32))])) t
      refine XS.iconst X344.here hx rfl (hb hby at_63) ?_
      refine XS.icmpYes X344.here hx rfl (pc0 := 64) (pc' := 74) rfl (hb hby at_64) rfl (own_ic_leY (by decide)) (by decide) (by decide) ?_
      refine XS.aload X344.here hx rfl (hb hby at_74) rfl rfl ?_
      refine XS.iload X344.here hx rfl (hb hby at_76) rfl ?_
      show Steps p.tables e below (T342.setTop (mkF m 78 #[vi p0, vi p1, vi p2, vi p3, vi p4, vi (1 : Int32), vi r265, vi r284, vi r303, vi r322, vr a335, uu] [(.int r322), (.ref a335)])) t
      refine XS.i2dS X344.here hx rfl (hb hby at_78) rfl rfl ?_
      exact kk
    obtain ⟨_, _, ⟨T354, L355, kc356, nc357⟩, -, X358, ⟨Lc359, hQ360, l361, y362, z363⟩, st364⟩ := Jvm.LawKit.callS X344 hx (y := mn1) hown (mvT hZ (tw5 hw)) (mvT hZ (tw6 hw)) (mvT hZ (tw7 hw)) (mvT hZ (tw8 hw)) (by decide) (backOf (W := 0) (rmV1 l Z a0 hw [] a335 (FP.i2d r322) (FP.i2d r265) h343 n0 Z351 F352 ge337 (own_nn (FP.Core.dmul_int (FP.Core.i2d_int r265) (FP.Core.i2d_int r322) (own_mb (A := 524288) (B := 524288) g266.1 (Int.le_of_lt g266.2) g323.1 (Int.le_of_lt g323.2) (by decide))))) hZ (tw8 hw) (tw7 hw) (by decide) (by decide)) (g := (mkF m 79 #[vi p0, vi p1, vi p2, vi p3, vi p4, vi (1 : Int32), vi r265, vi r284, vi r303, vi r322, vr a335, uu] [(.double (FP.i2d r322)), (.ref a335)])) rfl (by rw [hml]; rfl) (argsL := [(.ref a335), (.double (FP.i2d r322))]) (rest := []) (lenOf pd_3 rfl) rfl (by show 2 * 0 + _ ≤ _; exact Nat.le_of_eq rfl) (hb hby at_79) (fun _ _ => ⟨rfl, e345, (by decide : 1 + 0 ≤ _), (by decide : 1 + 0 ≤ _)⟩)
    dsimp only [Pt.U, Pt.locs, Pt.cells, Pt.slots] at X358 l361 y362 z363 st364 hQ360
    subst l361 y362 z363
    obtain ⟨rfl, N365, K368, g369⟩ := hQ360
    have N370 := Fr.app N349 N365
    have Z371 : n0 ≤ T354.heap.size := Nat.le_trans Z351 K368.1
    have k373 : own_G p e below E0 T354 (mkF m 82 #[vi p0, vi p1, vi p2, vi p3, vi p4, vi (1 : Int32), vi r265, vi r284, vi r303, vi r322, vr a335, uu] []) := fun t kk => k353 t (st364 _ kk)
    have k374 : own_G p e below E0 T354 (mkF m 84 #[vi p0, vi p1, vi p2, vi p3, vi p4, vi (1 : Int32), vi r265, vi r284, vi r303, vi r322, vr a335, uu] [(.ref a335)]) := by
      intro t kk
      refine k373 t ?_
      refine XS.aload X358.here hx rfl (hb hby at_82) rfl rfl ?_
      exact kk
    have st375 := fun t => own_A.len X358 hx hZ rfl g369 (g := (mkF m 84 #[vi p0, vi p1, vi p2, vi p3, vi p4, vi (1 : Int32), vi r265, vi r284, vi r303, vi r322, vr a335, uu] [(.ref a335)])) rfl rfl (hb hby at_84) t
    have k376 : own_G p e below E0 T354 (mkF m 85 #[vi p0, vi p1, vi p2, vi p3, vi p4, vi (1 : Int32), vi r265, vi r284, vi r303, vi r322, vr a335, uu] [(.int (1 : Int32))]) := fun t kk => k374 t (st375 _ kk)
    have k377 : own_G p e below E0 T354 (mkF m 110 #[vi p0, vi p1, vi p2, vi p3, vi p4, vi (1 : Int32), vi r265, vi r284, vi r303, vi r322, vr a335, vi (1 : Int32)] [(.int (0 : Int32)), (.ref a335)]) := by
      intro t kk
      refine k376 t ?_
      refine XS.iload X358.here hx rfl (hb hby at_85) rfl ?_
      refine XS.icmpNo X358.here hx rfl (hb hby at_87) rfl (own_ic_neN (by decide)) ?_
      refine XS.iconst X358.here hx rfl (hb hby at_90) ?_
      refine XS.goto X358.here hx rfl (pc0 := 91) (pc' := 95) rfl (hb hby at_91) (by decide) (by decide) ?_
      show Steps p.tables e below (T354.setTop (mkF m 95 #[vi p0, vi p1, vi p2, vi p3, vi p4, vi (1 : Int32), vi r265, vi r284, vi r303, vi r322, vr a335, uu] [(.int (1 : Int32))])) t
      refine XS.istore X358.here hx rfl (hb hby at_95) rfl (l' := #[vi p0, vi p1, vi p2, vi p3, vi p4, vi (1 : Int32), vi r265, vi r284, vi r303, vi r322, vr a335, vi (1 : Int32)]) rfl ?_
      refine XS.iload X358.here hx rfl (hb hby at_97) rfl ?_
      refine XS.ifNo X358.here hx rfl (hb hby at_99) rfl (own_if_leN (by decide)) ?_
      refine XS.iload X358.here hx rfl (hb hby at_102) rfl ?_
      show Steps p.tables e below (T354.setTop (mkF m 104 #[vi p0, vi p1, vi p2, vi p3, vi p4, vi (1 : Int32), vi r265, vi r284, vi r303, vi r322, vr a335, vi (1 : Int32)] [(.int (1 : Int32))])) t
      refine XS.ifNo X358.here hx rfl (hb hby at_104) rfl (own_if_eqN (by decide)) ?_
      refine XS.aload X358.here hx rfl (hb hby at_107) rfl rfl ?_
      refine XS.iconst X358.here hx rfl (hb hby at_109) ?_
      exact kk
    have st378 := fun t => own_A.dld X358 hx hZ rfl g369 (j := (0 : Int32)) (v := (.double (FP.dmul (FP.i2d r265) (FP.i2d r322)))) (by decide) rfl (g := (mkF m 110 #[vi p0, vi p1, vi p2, vi p3, vi p4, vi (1 : Int32), vi r265, vi r284, vi r303, vi r322, vr a335, vi (1 : Int32)] [(.int (0 : Int32)), (.ref a335)])) rfl rfl (hb hby at_110) t
    have k379 : own_G p e below E0 T354 (mkF m 111 #[vi p0, vi p1, vi p2, vi p3, vi p4, vi (1 : Int32), vi r265, vi r284, vi r303, vi r322, vr a335, vi (1 : Int32)] [(.double (FP.dmul (FP.i2d r265) (FP.i2d r322)))]) := fun t kk => k377 t (st378 _ kk)
    have k380 : own_G p e below E0 T354 (mkF m 200 #[vi p0, vi p1, vi p2, vi p3, vi p4, vi (1 : Int32), vi r265, vi r284, vi r303, vi r322, vr a335, vi (1 : Int32)] [(.int (1 : Int32))]) := by
      intro t kk
      refine k379 t ?_
      refine XS.iload X358.here hx rfl (hb hby at_111) rfl ?_
      refine XT.i2l X358.here hx rfl (hb hby at_113) rfl ?_
      refine XS.iload X358.here hx rfl (hb hby at_114) rfl ?_
      refine XT.i2l X358.here hx rfl (hb hby at_116) rfl ?_
      show Steps p.tables e below (T354.setTop (mkF m 117 #[vi p0, vi p1, vi p2, vi p3, vi p4, vi (1 : Int32), vi r265, vi r284, vi r303, vi r322, vr a335, vi (1 : Int32)] [(.long (r322.toInt64)), (.long (r265.toInt64)), (.double (FP.dmul (FP.i2d r265) (FP.i2d r322)))])) t
      refine XT.lmul X358.here hx rfl (hb hby at_117) rfl ?_
      refine XS.l2dS X358.here hx rfl (hb hby at_118) rfl rfl ?_
      refine XS.dcmpS (v := (0 : Int32)) X358.here hx rfl (hb hby at_119) rfl (own_eq0 .l (FP.Core.dmul_int (FP.Core.i2d_int r265) (FP.Core.i2d_int r322) (own_mb (A := 524288) (B := 524288) g266.1 (Int.le_of_lt g266.2) g323.1 (Int.le_of_lt g323.2) (by decide))) (own_pl r265 r322 (own_mb (A := 524288) (B := 524288) g266.1 (Int.le_of_lt g266.2) g323.1 (Int.le_of_lt g323.2) (by decide)))) ?_
      refine XS.ifNo X358.here hx rfl (hb hby at_120) rfl (own_if_neN (by decide)) ?_
      show Steps p.tables e below (T354.setTop (mkF m 123 #[vi p0, vi p1, vi p2, vi p3, vi p4, vi (1 : Int32), vi r265, vi r284, vi r303, vi r322, vr a335, vi (1 : Int32)] [])) t
      refine XS.iconst X358.here hx rfl (hb hby at_123) ?_
      refine XS.goto X358.here hx rfl (pc0 := 124) (pc' := 128) rfl (hb hby at_124) (by decide) (by decide) ?_
      refine XS.istore X358.here hx rfl (hb hby at_128) rfl (l' := #[vi p0, vi p1, vi p2, vi p3, vi p4, vi (1 : Int32), vi r265, vi r284, vi r303, vi r322, vr a335, vi (1 : Int32)]) rfl ?_
      refine XS.iload X358.here hx rfl (hb hby at_130) rfl ?_
      show Steps p.tables e below (T354.setTop (mkF m 132 #[vi p0, vi p1, vi p2, vi p3, vi p4, vi (1 : Int32), vi r265, vi r284, vi r303, vi r322, vr a335, vi (1 : Int32)] [(.int (1 : Int32))])) t
      refine XS.iconst X358.here hx rfl (hb hby at_132) ?_
      refine XS.icmpYes X358.here hx rfl (pc0 := 133) (pc' := 164) rfl (hb hby at_133) rfl (own_ic_leY (by decide)) (by decide) (by decide) ?_
      refine XS.iload X358.here hx rfl (hb hby at_164) rfl ?_
      refine XS.iconst X358.here hx rfl (hb hby at_166) ?_
      show Steps p.tables e below (T354.setTop (mkF m 167 #[vi p0, vi p1, vi p2, vi p3, vi p4, vi (1 : Int32), vi r265, vi r284, vi r303, vi r322, vr a335, vi (1 : Int32)] [(.int (2 : Int32)), (.int (1 : Int32))])) t
      refine XS.icmpYes X358.here hx rfl (pc0 := 167) (pc' := 198) rfl (hb hby at_167) rfl (own_ic_leY (by decide)) (by decide) (by decide) ?_
      refine XS.iload X358.here hx rfl (hb hby at_198) rfl ?_
      exact kk
    obtain ⟨fs, hr, hrun, hended, hW, hsame⟩ := X358.leave (v := some (.int (1 : Int32))) (fun h => by rw [Bd.returns] at h; cases h)
    have hrun0 := k380 _ (retOut X358 hx Bd.returns (t := .boolean) rfl (Or.inl ⟨rfl, Or.inr (Or.inl rfl), _, rfl⟩) (hb hby at_200) hr)
    subst hE0
    refine ⟨_, _, hrun0, hrun, hended, _, _, rfl, ?_, ⟨_, rfl⟩, hW, hsame.mono (by decide) (by decide)⟩
    show Qrm0 Z p0 p1 p2 p3 p4 h0 n0 _ T354.heap _
    exact ⟨rfl, N370⟩
  · skip
    have k381 : own_G p e below E0 s₁ (mkF m 6 #[vi p0, vi p1, vi p2, vi p3, vi p4, vi (2 : Int32), uu, uu, uu, uu, uu, uu] [(.int p1)]) := by
      intro t kk
      refine k133 t ?_
      refine XS.istore X0.here hx rfl (hb hby at_3) rfl (l' := #[vi p0, vi p1, vi p2, vi p3, vi p4, vi (2 : Int32), uu, uu, uu, uu, uu, uu]) rfl ?_
      refine XS.iloadN X0.here hx rfl (hb hby at_5) rfl ?_
      exact kk
    obtain ⟨_, _, ⟨T382, L383, kc384, nc385⟩, -, X386, ⟨Lc387, hQ388, l389, y390, z391⟩, st392⟩ := Jvm.LawKit.callS X0 hx (y := mn0) hown (mvT hZ (tw0 hw)) (mvT hZ (tw1 hw)) (mvT hZ (tw2 hw)) (mvT hZ (tw3 hw)) (by decide) (backOf (W := 0) (rmS l Z a0 hw [] p1 h0 n0 Z0 ) hZ (tw3 hw) (tw2 hw) (by decide) (by decide)) (g := (mkF m 6 #[vi p0, vi p1, vi p2, vi p3, vi p4, vi (2 : Int32), uu, uu, uu, uu, uu, uu] [(.int p1)])) rfl (by rw [hml]; rfl) (argsL := [(.int p1)]) (rest := []) (lenOf pd_2 rfl) rfl (by show 2 * 0 + _ ≤ _; exact Nat.le_of_eq rfl) (hb hby at_6) (fun _ _ => ⟨rfl, e0, (by decide : 0 + 0 ≤ _), (by decide : 0 + 0 ≤ _)⟩)
    dsimp only [Pt.U, Pt.locs, Pt.cells, Pt.slots] at X386 l389 y390 z391 st392 hQ388
    subst l389 y390 z391
    obtain ⟨r396, rfl, N393, e394, g397⟩ := hQ388
    have N398 := Fr.app N0 N393
    have k399 : own_G p e below E0 T382 (mkF m 9 #[vi p0, vi p1, vi p2, vi p3, vi p4, vi (2 : Int32), uu, uu, uu, uu, uu, uu] [(.int r396)]) := fun t kk => k381 t (st392 _ kk)
    have k400 : own_G p e below E0 T382 (mkF m 12 #[vi p0, vi p1, vi p2, vi p3, vi p4, vi (2 : Int32), vi r396, uu, uu, uu, uu, uu] [(.int p2)]) := by
      intro t kk
      refine k399 t ?_
      refine XS.istore X386.here hx rfl (hb hby at_9) rfl (l' := #[vi p0, vi p1, vi p2, vi p3, vi p4, vi (2 : Int32), vi r396, uu, uu, uu, uu, uu]) rfl ?_
      refine XS.iloadN X386.here hx rfl (hb hby at_11) rfl ?_
      exact kk
    obtain ⟨_, _, ⟨T401, L402, kc403, nc404⟩, -, X405, ⟨Lc406, hQ407, l408, y409, z410⟩, st411⟩ := Jvm.LawKit.callS X386 hx (y := mn0) hown (mvT hZ (tw0 hw)) (mvT hZ (tw1 hw)) (mvT hZ (tw2 hw)) (mvT hZ (tw3 hw)) (by decide) (backOf (W := 0) (rmS l Z a0 hw [] p2 h0 n0 Z0 ) hZ (tw3 hw) (tw2 hw) (by decide) (by decide)) (g := (mkF m 12 #[vi p0, vi p1, vi p2, vi p3, vi p4, vi (2 : Int32), vi r396, uu, uu, uu, uu, uu] [(.int p2)])) rfl (by rw [hml]; rfl) (argsL := [(.int p2)]) (rest := []) (lenOf pd_2 rfl) rfl (by show 2 * 0 + _ ≤ _; exact Nat.le_of_eq rfl) (hb hby at_12) (fun _ _ => ⟨rfl, e394, (by decide : 0 + 0 ≤ _), (by decide : 0 + 0 ≤ _)⟩)
    dsimp only [Pt.U, Pt.locs, Pt.cells, Pt.slots] at X405 l408 y409 z410 st411 hQ407
    subst l408 y409 z410
    obtain ⟨r415, rfl, N412, e413, g416⟩ := hQ407
    have N417 := Fr.app N398 N412
    have k418 : own_G p e below E0 T401 (mkF m 15 #[vi p0, vi p1, vi p2, vi p3, vi p4, vi (2 : Int32), vi r396, uu, uu, uu, uu, uu] [(.int r415)]) := fun t kk => k400 t (st411 _ kk)
    have k419 : own_G p e below E0 T401 (mkF m 18 #[vi p0, vi p1, vi p2, vi p3, vi p4, vi (2 : Int32), vi r396, vi r415, uu, uu, uu, uu] [(.int p3)]) := by
      intro t kk
      refine k418 t ?_
      refine XS.istore X405.here hx rfl (hb hby at_15) rfl (l' := #[vi p0, vi p1, vi p2, vi p3, vi p4, vi (2 : Int32), vi r396, vi r415, uu, uu, uu, uu]) rfl ?_
      refine XS.iloadN X405.here hx rfl (hb hby at_17) rfl ?_
      exact kk
    obtain ⟨_, _, ⟨T420, L421, kc422, nc423⟩, -, X424, ⟨Lc425, hQ426, l427, y428, z429⟩, st430⟩ := Jvm.LawKit.callS X405 hx (y := mn0) hown (mvT hZ (tw0 hw)) (mvT hZ (tw1 hw)) (mvT hZ (tw2 hw)) (mvT hZ (tw3 hw)) (by decide) (backOf (W := 0) (rmS l Z a0 hw [] p3 h0 n0 Z0 ) hZ (tw3 hw) (tw2 hw) (by decide) (by decide)) (g := (mkF m 18 #[vi p0, vi p1, vi p2, vi p3, vi p4, vi (2 : Int32), vi r396, vi r415, uu, uu, uu, uu] [(.int p3)])) rfl (by rw [hml]; rfl) (argsL := [(.int p3)]) (rest := []) (lenOf pd_2 rfl) rfl (by show 2 * 0 + _ ≤ _; exact Nat.le_of_eq rfl) (hb hby at_18) (fun _ _ => ⟨rfl, e413, (by decide : 0 + 0 ≤ _), (by decide : 0 + 0 ≤ _)⟩)
    dsimp only [Pt.U, Pt.locs, Pt.cells, Pt.slots] at X424 l427 y428 z429 st430 hQ426
    subst l427 y428 z429
    obtain ⟨r434, rfl, N431, e432, g435⟩ := hQ426
    have N436 := Fr.app N417 N431
    have k437 : own_G p e below E0 T420 (mkF m 21 #[vi p0, vi p1, vi p2, vi p3, vi p4, vi (2 : Int32), vi r396, vi r415, uu, uu, uu, uu] [(.int r434)]) := fun t kk => k419 t (st430 _ kk)
    have k438 : own_G p e below E0 T420 (mkF m 25 #[vi p0, vi p1, vi p2, vi p3, vi p4, vi (2 : Int32), vi r396, vi r415, vi r434, uu, uu, uu] [(.int p4)]) := by
      intro t kk
      refine k437 t ?_
      refine XS.istore X424.here hx rfl (hb hby at_21) rfl (l' := #[vi p0, vi p1, vi p2, vi p3, vi p4, vi (2 : Int32), vi r396, vi r415, vi r434, uu, uu, uu]) rfl ?_
      refine XS.iload X424.here hx rfl (hb hby at_23) rfl ?_
      exact kk
    obtain ⟨_, _, ⟨T439, L440, kc441, nc442⟩, -, X443, ⟨Lc444, hQ445, l446, y447, z448⟩, st449⟩ := Jvm.LawKit.callS X424 hx (y := mn0) hown (mvT hZ (tw0 hw)) (mvT hZ (tw1 hw)) (mvT hZ (tw2 hw)) (mvT hZ (tw3 hw)) (by decide) (backOf (W := 0) (rmS l Z a0 hw [] p4 h0 n0 Z0 ) hZ (tw3 hw) (tw2 hw) (by decide) (by decide)) (g := (mkF m 25 #[vi p0, vi p1, vi p2, vi p3, vi p4, vi (2 : Int32), vi r396, vi r415, vi r434, uu, uu, uu] [(.int p4)])) rfl (by rw [hml]; rfl) (argsL := [(.int p4)]) (rest := []) (lenOf pd_2 rfl) rfl (by show 2 * 0 + _ ≤ _; exact Nat.le_of_eq rfl) (hb hby at_25) (fun _ _ => ⟨rfl, e432, (by decide : 0 + 0 ≤ _), (by decide : 0 + 0 ≤ _)⟩)
    dsimp only [Pt.U, Pt.locs, Pt.cells, Pt.slots] at X443 l446 y447 z448 st449 hQ445
    subst l446 y447 z448
    obtain ⟨r453, rfl, N450, e451, g454⟩ := hQ445
    have N455 := Fr.app N436 N450
    have k456 : own_G p e below E0 T439 (mkF m 28 #[vi p0, vi p1, vi p2, vi p3, vi p4, vi (2 : Int32), vi r396, vi r415, vi r434, uu, uu, uu] [(.int r453)]) := fun t kk => k438 t (st449 _ kk)
    have k457 : own_G p e below E0 T439 (mkF m 32 #[vi p0, vi p1, vi p2, vi p3, vi p4, vi (2 : Int32), vi r396, vi r415, vi r434, vi r453, uu, uu] [(.int (2 : Int32))]) := by
      intro t kk
      refine k456 t ?_
      refine XS.istore X443.here hx rfl (hb hby at_28) rfl (l' := #[vi p0, vi p1, vi p2, vi p3, vi p4, vi (2 : Int32), vi r396, vi r415, vi r434, vi r453, uu, uu]) rfl ?_
      refine XS.iload X443.here hx rfl (hb hby at_30) rfl ?_
      exact kk
    obtain ⟨T458, h459, cA460, X461, e462, E463, A464, st465⟩ := newP (aty := .double) X443 hx hZ (tw4 hw) e451 (g := (mkF m 32 #[vi p0, vi p1, vi p2, vi p3, vi p4, vi (2 : Int32), vi r396, vi r415, vi r434, vi r453, uu, uu] [(.int (2 : Int32))])) rfl (hb hby at_32) rfl (by decide) (cap := 2) (by decide) (by decide) (by decide) (by decide)
    obtain ⟨a466, g467⟩ : ∃ zA : Nat, zA = h0.size := ⟨_, rfl⟩
    rw [← g467] at A464 st465
    have ge468 : n0 ≤ a466 := by have := Z0; omega
    have Z469 : n0 ≤ h459.size := Nat.le_trans Z0 E463.1
    have F470 : own_A Z h459 a466 .double [(.double (0 : UInt64)), (.double (0 : UInt64))] := own_A.new A464
    have k471 : own_G p e below E0 T458 (mkF m 34 #[vi p0, vi p1, vi p2, vi p3, vi p4, vi (2 : Int32), vi r396, vi r415, vi r434, vi r453, uu, uu] [(.ref a466)]) := fun t kk => k457 t (st465 _ kk)
    have k472 : own_G p e below E0 T458 (mkF m 47 #[vi p0, vi p1, vi p2, vi p3, vi p4, vi (2 : Int32), vi r396, vi r415, vi r434, vi r453, vr a466, uu] [(.double (FP.i2d r396)), (.int (0 : Int32)), (.ref a466)]) := by
      intro t kk
      refine k471 t ?_
      refine XS.astore X461.here hx rfl (hb hby at_34) rfl rfl (l' := #[vi p0, vi p1, vi p2, vi p3, vi p4, vi (2 : Int32), vi r396, vi r415, vi r434, vi r453, vr a466, uu]) rfl ?_
      refine XS.iload X461.here hx rfl (hb hby at_36) rfl ?_
      refine XS.ifNo X461.here hx rfl (hb hby at_38) rfl (own_if_leN (by decide)) ?_
      refine XS.aload X461.here hx rfl (hb hby at_41) rfl rfl ?_
      show Steps p.tables e below (T458.setTop (mkF m 43 #[vi p0, vi p1, vi p2, vi p3, vi p4, vi (2 : Int32), vi r396, vi r415, vi r434, vi r453, vr a466, uu] [(.ref a466)])) t
      refine XS.iconst X461.here hx rfl (hb hby at_43) ?_
      refine XS.iload X461.here hx rfl (hb hby at_44) rfl ?_
      refine XS.i2dS X461.here hx rfl (hb hby at_46) rfl rfl ?_
      exact kk
    obtain ⟨T473, h474, X475, e476, W477, F478, st479⟩ := own_A.dst X461 hx hZ e462 F470 (j := (0 : Int32)) (by decide) rfl (g := (mkF m 47 #[vi p0, vi p1, vi p2, vi p3, vi p4, vi (2 : Int32), vi r396, vi r415, vi r434, vi r453, vr a466, uu] [(.double (FP.i2d r396)), (.int (0 : Int32)), (.ref a466)])) rfl rfl (hb hby at_47)
    have N480 := Fr.snoc X475 N455 ge468
    have k481 : own_G p e below E0 T473 (mkF m 48 #[vi p0, vi p1, vi p2, vi p3, vi p4, vi (2 : Int32), vi r396, vi r415, vi r434, vi r453, vr a466, uu] []) := fun t kk => k472 t (st479 _ kk)
    have Z482 : n0 ≤ h474.size := by rw [W477.size]; exact Z469
    have F483 : own_A Z h474 a466 .double [(.double (FP.i2d r396)), (.double (0 : UInt64))] := F478
    have k484 : own_G p e below E0 T473 (mkF m 60 #[vi p0, vi p1, vi p2, vi p3, vi p4, vi (2 : Int32), vi r396, vi r415, vi r434, vi r453, vr a466, uu] [(.double (FP.i2d r415)), (.int (1 : Int32)), (.ref a466)]) := by
      intro t kk
      refine k481 t ?_
      refine XS.iload X475.here hx rfl (hb hby at_48) rfl ?_
      refine XS.iconst X475.here hx rfl (hb hby at_50) ?_
      refine XS.icmpNo X475.here hx rfl (hb hby at_51) rfl (own_ic_leN (by decide)) ?_
      refine XS.aload X475.here hx rfl (hb hby at_54) rfl rfl ?_
      show Steps p.tables e below (T473.setTop (mkF m 56 #[vi p0, vi p1, vi p2, vi p3, vi p4, vi (2 : Int32), vi r396, vi r415, vi r434, vi r453, vr a466, uu] [(.ref a466)])) t
      refine XS.iconst X475.here hx rfl (hb hby at_56) ?_
      refine XS.iload X475.here hx rfl (hb hby at_57) rfl ?_
      refine XS.i2dS X475.here hx rfl (hb hby at_59) rfl rfl ?_
      exact kk
    obtain ⟨T485, h486, X487, e488, W489, F490, st491⟩ := own_A.dst X475 hx hZ e476 F483 (j := (1 : Int32)) (by decide) rfl (g := (mkF m 60 #[vi p0, vi p1, vi p2, vi p3, vi p4, vi (2 : Int32), vi r396, vi r415, vi r434, vi r453, vr a466, uu] [(.double (FP.i2d r415)), (.int (1 : Int32)), (.ref a466)])) rfl rfl (hb hby at_60)
    have N492 := Fr.snoc X487 N480 ge468
    have k493 : own_G p e below E0 T485 (mkF m 61 #[vi p0, vi p1, vi p2, vi p3, vi p4, vi (2 : Int32), vi r396, vi r415, vi r434, vi r453, vr a466, uu] []) := fun t kk => k484 t (st491 _ kk)
    have Z494 : n0 ≤ h486.size := by rw [W489.size]; exact Z482
    have F495 : own_A Z h486 a466 .double [(.double (FP.i2d r396)), (.double (FP.i2d r415))] := F490
    have k496 : own_G p e below E0 T485 (mkF m 79 #[vi p0, vi p1, vi p2, vi p3, vi p4, vi (2 : Int32), vi r396, vi r415, vi r434, vi r453, vr a466, uu] [(.double (FP.i2d r453)), (.ref a466)]) := by
      intro t kk
      refine k493 t ?_
      refine XS.iload X487.here hx rfl (hb hby at_61) rfl ?_
      refine XS.iconst X487.here hx rfl (hb hby at_63) ?_
      refine XS.icmpYes X487.here hx rfl (pc0 := 64) (pc' := 74) rfl (hb hby at_64) rfl (own_ic_leY (by decide)) (by decide) (by decide) ?_
      refine XS.aload X487.here hx rfl (hb hby at_74) rfl rfl ?_
      show Steps p.tables e below (T485.setTop (mkF m 76 #[vi p0, vi p1, vi p2, vi p3, vi p4, vi (2 : Int32), vi r396, vi r415, vi r434, vi r453, vr a466, uu] [(.ref a466)])) t
      refine XS.iload X487.here hx rfl (hb hby at_76) rfl ?_
      refine XS.i2dS X487.here hx rfl (hb hby at_78) rfl rfl ?_
      exact kk
    obtain ⟨_, _, ⟨T497, L498, kc499, nc500⟩, -, X501, ⟨Lc502, hQ503, l504, y505, z506⟩, st507⟩ := Jvm.LawKit.callS X487 hx (y := mn1) hown (mvT hZ (tw5 hw)) (mvT hZ (tw6 hw)) (mvT hZ (tw7 hw)) (mvT hZ (tw8 hw)) (by decide) (backOf (W := 0) (rmV2 l Z a0 hw [] a466 (FP.i2d r453) (FP.i2d r396) (FP.i2d r415) h486 n0 Z494 F495 ge468 (own_nn (FP.Core.dmul_int (FP.Core.i2d_int r396) (FP.Core.i2d_int r453) (own_mb (A := 524288) (B := 524288) g397.1 (Int.le_of_lt g397.2) g454.1 (Int.le_of_lt g454.2) (by decide)))) (own_nn (FP.Core.dmul_int (FP.Core.i2d_int r415) (FP.Core.i2d_int r453) (own_mb (A := 524288) (B := 524288) g416.1 (Int.le_of_lt g416.2) g454.1 (Int.le_of_lt g454.2) (by decide))))) hZ (tw8 hw) (tw7 hw) (by decide) (by decide)) (g := (mkF m 79 #[vi p0, vi p1, vi p2, vi p3, vi p4, vi (2 : Int32), vi r396, vi r415, vi r434, vi r453, vr a466, uu] [(.double (FP.i2d r453)), (.ref a466)])) rfl (by rw [hml]; rfl) (argsL := [(.ref a466), (.double (FP.i2d r453))]) (rest := []) (lenOf pd_3 rfl) rfl (by show 2 * 0 + _ ≤ _; exact Nat.le_of_eq rfl) (hb hby at_79) (fun _ _ => ⟨rfl, e488, (by decide : 1 + 0 ≤ _), (by decide : 2 + 0 ≤ _)⟩)
    dsimp only [Pt.U, Pt.locs, Pt.cells, Pt.slots] at X501 l504 y505 z506 st507 hQ503
    subst l504 y505 z506
    obtain ⟨rfl, N508, K511, g512⟩ := hQ503
    have N513 := Fr.app N492 N508
    have Z514 : n0 ≤ T497.heap.size := Nat.le_trans Z494 K511.1
    have k516 : own_G p e below E0 T497 (mkF m 82 #[vi p0, vi p1, vi p2, vi p3, vi p4, vi (2 : Int32), vi r396, vi r415, vi r434, vi r453, vr a466, uu] []) := fun t kk => k496 t (st507 _ kk)
    have k517 : own_G p e below E0 T497 (mkF m 84 #[vi p0, vi p1, vi p2, vi p3, vi p4, vi (2 : Int32), vi r396, vi r415, vi r434, vi r453, vr a466, uu] [(.ref a466)]) := by
      intro t kk
      refine k516 t ?_
      refine XS.aload X501.here hx rfl (hb hby at_82) rfl rfl ?_
      exact kk
    have st518 := fun t => own_A.len X501 hx hZ rfl g512 (g := (mkF m 84 #[vi p0, vi p1, vi p2, vi p3, vi p4, vi (2 : Int32), vi r396, vi r415, vi r434, vi r453, vr a466, uu] [(.ref a466)])) rfl rfl (hb hby at_84) t
    have k519 : own_G p e below E0 T497 (mkF m 85 #[vi p0, vi p1, vi p2, vi p3, vi p4, vi (2 : Int32), vi r396, vi r415, vi r434, vi r453, vr a466, uu] [(.int (2 : Int32))]) := fun t kk => k517 t (st518 _ kk)
    have k520 : own_G p e below E0 T497 (mkF m 110 #[vi p0, vi p1, vi p2, vi p3, vi p4, vi (2 : Int32), vi r396, vi r415, vi r434, vi r453, vr a466, vi (1 : Int32)] [(.int (0 : Int32)), (.ref a466)]) := by
      intro t kk
      refine k519 t ?_
      refine XS.iload X501.here hx rfl (hb hby at_85) rfl ?_
      refine XS.icmpNo X501.here hx rfl (hb hby at_87) rfl (own_ic_neN (by decide)) ?_
      refine XS.iconst X501.here hx rfl (hb hby at_90) ?_
      refine XS.goto X501.here hx rfl (pc0 := 91) (pc' := 95) rfl (hb hby at_91) (by decide) (by decide) ?_
      show Steps p.tables e below (T497.setTop (mkF m 95 #[vi p0, vi p1, vi p2, vi p3, vi p4, vi (2 : Int32), vi r396, vi r415, vi r434, vi r453, vr a466, uu] [(.int (1 : Int32))])) t
      refine XS.istore X501.here hx rfl (hb hby at_95) rfl (l' := #[vi p0, vi p1, vi p2, vi p3, vi p4, vi (2 : Int32), vi r396, vi r415, vi r434, vi r453, vr a466, vi (1 : Int32)]) rfl ?_
      refine XS.iload X501.here hx rfl (hb hby at_97) rfl ?_
      refine XS.ifNo X501.here hx rfl (hb hby at_99) rfl (own_if_leN (by decide)) ?_
      refine XS.iload X501.here hx rfl (hb hby at_102) rfl ?_
      show Steps p.tables e below (T497.setTop (mkF m 104 #[vi p0, vi p1, vi p2, vi p3, vi p4, vi (2 : Int32), vi r396, vi r415, vi r434, vi r453, vr a466, vi (1 : Int32)] [(.int (1 : Int32))])) t
      refine XS.ifNo X501.here hx rfl (hb hby at_104) rfl (own_if_eqN (by decide)) ?_
      refine XS.aload X501.here hx rfl (hb hby at_107) rfl rfl ?_
      refine XS.iconst X501.here hx rfl (hb hby at_109) ?_
      exact kk
    have st521 := fun t => own_A.dld X501 hx hZ rfl g512 (j := (0 : Int32)) (v := (.double (FP.dmul (FP.i2d r396) (FP.i2d r453)))) (by decide) rfl (g := (mkF m 110 #[vi p0, vi p1, vi p2, vi p3, vi p4, vi (2 : Int32), vi r396, vi r415, vi r434, vi r453, vr a466, vi (1 : Int32)] [(.int (0 : Int32)), (.ref a466)])) rfl rfl (hb hby at_110) t
    have k522 : own_G p e below E0 T497 (mkF m 111 #[vi p0, vi p1, vi p2, vi p3, vi p4, vi (2 : Int32), vi r396, vi r415, vi r434, vi r453, vr a466, vi (1 : Int32)] [(.double (FP.dmul (FP.i2d r396) (FP.i2d r453)))]) := fun t kk => k520 t (st521 _ kk)
    have k523 : own_G p e below E0 T497 (mkF m 144 #[vi p0, vi p1, vi p2, vi p3, vi p4, vi (2 : Int32), vi r396, vi r415, vi r434, vi r453, vr a466, vi (1 : Int32)] [(.int (1 : Int32)), (.ref a466)]) := by
      intro t kk
      refine k522 t ?_
      refine XS.iload X501.here hx rfl (hb hby at_111) rfl ?_
      refine XT.i2l X501.here hx rfl (hb hby at_113) rfl ?_
      refine XS.iload X501.here hx rfl (hb hby at_114) rfl ?_
      refine XT.i2l X501.here hx rfl (hb hby at_116) rfl ?_
      show Steps p.tables e below (T497.setTop (mkF m 117 #[vi p0, vi p1, vi p2, vi p3, vi p4, vi (2 : Int32), vi r396, vi r415, vi r434, vi r453, vr a466, vi (1 : Int32)] [(.long (r453.toInt64)), (.long (r396.toInt64)), (.double (FP.dmul (FP.i2d r396) (FP.i2d r453)))])) t
      refine XT.lmul X501.here hx rfl (hb hby at_117) rfl ?_
      refine XS.l2dS X501.here hx rfl (hb hby at_118) rfl rfl ?_
      refine XS.dcmpS (v := (0 : Int32)) X501.here hx rfl (hb hby at_119) rfl (own_eq0 .l (FP.Core.dmul_int (FP.Core.i2d_int r396) (FP.Core.i2d_int r453) (own_mb (A := 524288) (B := 524288) g397.1 (Int.le_of_lt g397.2) g454.1 (Int.le_of_lt g454.2) (by decide))) (own_pl r396 r453 (own_mb (A := 524288) (B := 524288) g397.1 (Int.le_of_lt g397.2) g454.1 (Int.le_of_lt g454.2) (by decide)))) ?_
      refine XS.ifNo X501.here hx rfl (hb hby at_120) rfl (own_if_neN (by decide)) ?_
      show Steps p.tables e below (T497.setTop (mkF m 123 #[vi p0, vi p1, vi p2, vi p3, vi p4, vi (2 : Int32), vi r396, vi r415, vi r434, vi r453, vr a466, vi (1 : Int32)] [])) t
      refine XS.iconst X501.here hx rfl (hb hby at_123) ?_
      refine XS.goto X501.here hx rfl (pc0 := 124) (pc' := 128) rfl (hb hby at_124) (by decide) (by decide) ?_
      refine XS.istore X501.here hx rfl (hb hby at_128) rfl (l' := #[vi p0, vi p1, vi p2, vi p3, vi p4, vi (2 : Int32), vi r396, vi r415, vi r434, vi r453, vr a466, vi (1 : Int32)]) rfl ?_
      refine XS.iload X501.here hx rfl (hb hby at_130) rfl ?_
      show Steps p.tables e below (T497.setTop (mkF m 132 #[vi p0, vi p1, vi p2, vi p3, vi p4, vi (2 : Int32), vi r396, vi r415, vi r434, vi r453, vr a466, vi (1 : Int32)] [(.int (2 : Int32))])) t
      refine XS.iconst X501.here hx rfl (hb hby at_132) ?_
      refine XS.icmpNo X501.here hx rfl (hb hby at_133) rfl (own_ic_leN (by decide)) ?_
      refine XS.iload X501.here hx rfl (hb hby at_136) rfl ?_
      refine XS.ifNo X501.here hx rfl (hb hby at_138) rfl (own_if_eqN (by decide)) ?_
      show Steps p.tables e below (T497.setTop (mkF m 141 #[vi p0, vi p1, vi p2, vi p3, vi p4, vi (2 : Int32), vi r396, vi r415, vi r434, vi r453, vr a466, vi (1 : Int32)] [])) t
      refine XS.aload X501.here hx rfl (hb hby at_141) rfl rfl ?_
      refine XS.iconst X501.here hx rfl (hb hby at_143) ?_
      exact kk
    have st524 := fun t => own_A.dld X501 hx hZ rfl g512 (j := (1 : Int32)) (v := (.double (FP.dmul (FP.i2d r415) (FP.i2d r453)))) (by decide) rfl (g := (mkF m 144 #[vi p0, vi p1, vi p2, vi p3, vi p4, vi (2 : Int32), vi r396, vi r415, vi r434, vi r453, vr a466, vi (1 : Int32)] [(.int (1 : Int32)), (.ref a466)])) rfl rfl (hb hby at_144) t
    have k525 : own_G p e below E0 T497 (mkF m 145 #[vi p0, vi p1, vi p2, vi p3, vi p4, vi (2 : Int32), vi r396, vi r415, vi r434, vi r453, vr a466, vi (1 : Int32)] [(.double (FP.dmul (FP.i2d r415) (FP.i2d r453)))]) := fun t kk => k523 t (st524 _ kk)
    have k526 : own_G p e below E0 T497 (mkF m 200 #[vi p0, vi p1, vi p2, vi p3, vi p4, vi (2 : Int32), vi r396, vi r415, vi r434, vi r453, vr a466, vi (1 : Int32)] [(.int (1 : Int32))]) := by
      intro t kk
      refine k525 t ?_
      refine XS.iload X501.here hx rfl (hb hby at_145) rfl ?_
      refine XT.i2l X501.here hx rfl (hb hby at_147) rfl ?_
      refine XS.iload X501.here hx rfl (hb hby at_148) rfl ?_
      refine XT.i2l X501.here hx rfl (hb hby at_150) rfl ?_
      show Steps p.tables e below (T497.setTop (mkF m 151 #[vi p0, vi p1, vi p2, vi p3, vi p4, vi (2 : Int32), vi r396, vi r415, vi r434, vi r453, vr a466, vi (1 : Int32)] [(.long (r453.toInt64)), (.long (r415.toInt64)), (.double (FP.dmul (FP.i2d r415) (FP.i2d r453)))])) t
      refine XT.lmul X501.here hx rfl (hb hby at_151) rfl ?_
      refine XS.l2dS X501.here hx rfl (hb hby at_152) rfl rfl ?_
      refine XS.dcmpS (v := (0 : Int32)) X501.here hx rfl (hb hby at_153) rfl (own_eq0 .l (FP.Core.dmul_int (FP.Core.i2d_int r415) (FP.Core.i2d_int r453) (own_mb (A := 524288) (B := 524288) g416.1 (Int.le_of_lt g416.2) g454.1 (Int.le_of_lt g454.2) (by decide))) (own_pl r415 r453 (own_mb (A := 524288) (B := 524288) g416.1 (Int.le_of_lt g416.2) g454.1 (Int.le_of_lt g454.2) (by decide)))) ?_
      refine XS.ifNo X501.here hx rfl (hb hby at_154) rfl (own_if_neN (by decide)) ?_
      show Steps p.tables e below (T497.setTop (mkF m 157 #[vi p0, vi p1, vi p2, vi p3, vi p4, vi (2 : Int32), vi r396, vi r415, vi r434, vi r453, vr a466, vi (1 : Int32)] [])) t
      refine XS.iconst X501.here hx rfl (hb hby at_157) ?_
      refine XS.goto X501.here hx rfl (pc0 := 158) (pc' := 162) rfl (hb hby at_158) (by decide) (by decide) ?_
      refine XS.istore X501.here hx rfl (hb hby at_162) rfl (l' := #[vi p0, vi p1, vi p2, vi p3, vi p4, vi (2 : Int32), vi r396, vi r415, vi r434, vi r453, vr a466, vi (1 : Int32)]) rfl ?_
      refine XS.iload X501.here hx rfl (hb hby at_164) rfl ?_
      show Steps p.tables e below (T497.setTop (mkF m 166 #[vi p0, vi p1, vi p2, vi p3, vi p4, vi (2 : Int32), vi r396, vi r415, vi r434, vi r453, vr a466, vi (1 : Int32)] [(.int (2 : Int32))])) t
      refine XS.iconst X501.here hx rfl (hb hby at_166) ?_
      refine XS.icmpYes X501.here hx rfl (pc0 := 167) (pc' := 198) rfl (hb hby at_167) rfl (own_ic_leY (by decide)) (by decide) (by decide) ?_
      refine XS.iload X501.here hx rfl (hb hby at_198) rfl ?_
      exact kk
    obtain ⟨fs, hr, hrun, hended, hW, hsame⟩ := X501.leave (v := some (.int (1 : Int32))) (fun h => by rw [Bd.returns] at h; cases h)
    have hrun0 := k526 _ (retOut X501 hx Bd.returns (t := .boolean) rfl (Or.inl ⟨rfl, Or.inr (Or.inl rfl), _, rfl⟩) (hb hby at_200) hr)
    subst hE0
    refine ⟨_, _, hrun0, hrun, hended, _, _, rfl, ?_, ⟨_, rfl⟩, hW, hsame.mono (by decide) (by decide)⟩
    show Qrm0 Z p0 p1 p2 p3 p4 h0 n0 _ T497.heap _
    exact ⟨rfl, N513⟩
  · skip
    have k527 : own_G p e below E0 s₁ (mkF m 6 #[vi p0, vi p1, vi p2, vi p3, vi p4, vi (3 : Int32), uu, uu, uu, uu, uu, uu] [(.int p1)]) := by
      intro t kk
      refine k133 t ?_
      refine XS.istore X0.here hx rfl (hb hby at_3) rfl (l' := #[vi p0, vi p1, vi p2, vi p3, vi p4, vi (3 : Int32), uu, uu, uu, uu, uu, uu]) rfl ?_
      refine XS.iloadN X0.here hx rfl (hb hby at_5) rfl ?_
      exact kk
    obtain ⟨_, _, ⟨T528, L529, kc530, nc531⟩, -, X532, ⟨Lc533, hQ534, l535, y536, z537⟩, st538⟩ := Jvm.LawKit.callS X0 hx (y := mn0) hown (mvT hZ (tw0 hw)) (mvT hZ (tw1 hw)) (mvT hZ (tw2 hw)) (mvT hZ (tw3 hw)) (by decide) (backOf (W := 0) (rmS l Z a0 hw [] p1 h0 n0 Z0 ) hZ (tw3 hw) (tw2 hw) (by decide) (by decide)) (g := (mkF m 6 #[vi p0, vi p1, vi p2, vi p3, vi p4, vi (3 : Int32), uu, uu, uu, uu, uu, uu] [(.int p1)])) rfl (by rw [hml]; rfl) (argsL := [(.int p1)]) (rest := []) (lenOf pd_2 rfl) rfl (by show 2 * 0 + _ ≤ _; exact Nat.le_of_eq rfl) (hb hby at_6) (fun _ _ => ⟨rfl, e0, (by decide : 0 + 0 ≤ _), (by decide : 0 + 0 ≤ _)⟩)
    dsimp only [Pt.U, Pt.locs, Pt.cells, Pt.slots] at X532 l535 y536 z537 st538 hQ534
    subst l535 y536 z537
    obtain ⟨r542, rfl, N539, e540, g543⟩ := hQ534
    have N544 := Fr.app N0 N539
    have k545 : own_G p e below E0 T528 (mkF m 9 #[vi p0, vi p1, vi p2, vi p3, vi p4, vi (3 : Int32), uu, uu, uu, uu, uu, uu] [(.int r542)]) := fun t kk => k527 t (st538 _ kk)
    have k546 : own_G p e below E0 T528 (mkF m 12 #[vi p0, vi p1, vi p2, vi p3, vi p4, vi (3 : Int32), vi r542, uu, uu, uu, uu, uu] [(.int p2)]) := by
      intro t kk
      refine k545 t ?_
      refine XS.istore X532.here hx rfl (hb hby at_9) rfl (l' := #[vi p0, vi p1, vi p2, vi p3, vi p4, vi (3 : Int32), vi r542, uu, uu, uu, uu, uu]) rfl ?_
      refine XS.iloadN X532.here hx rfl (hb hby at_11) rfl ?_
      exact kk
    obtain ⟨_, _, ⟨T547, L548, kc549, nc550⟩, -, X551, ⟨Lc552, hQ553, l554, y555, z556⟩, st557⟩ := Jvm.LawKit.callS X532 hx (y := mn0) hown (mvT hZ (tw0 hw)) (mvT hZ (tw1 hw)) (mvT hZ (tw2 hw)) (mvT hZ (tw3 hw)) (by decide) (backOf (W := 0) (rmS l Z a0 hw [] p2 h0 n0 Z0 ) hZ (tw3 hw) (tw2 hw) (by decide) (by decide)) (g := (mkF m 12 #[vi p0, vi p1, vi p2, vi p3, vi p4, vi (3 : Int32), vi r542, uu, uu, uu, uu, uu] [(.int p2)])) rfl (by rw [hml]; rfl) (argsL := [(.int p2)]) (rest := []) (lenOf pd_2 rfl) rfl (by show 2 * 0 + _ ≤ _; exact Nat.le_of_eq rfl) (hb hby at_12) (fun _ _ => ⟨rfl, e540, (by decide : 0 + 0 ≤ _), (by decide : 0 + 0 ≤ _)⟩)
    dsimp only [Pt.U, Pt.locs, Pt.cells, Pt.slots] at X551 l554 y555 z556 st557 hQ553
    subst l554 y555 z556
    obtain ⟨r561, rfl, N558, e559, g562⟩ := hQ553
    have N563 := Fr.app N544 N558
    have k564 : own_G p e below E0 T547 (mkF m 15 #[vi p0, vi p1, vi p2, vi p3, vi p4, vi (3 : Int32), vi r542, uu, uu, uu, uu, uu] [(.int r561)]) := fun t kk => k546 t (st557 _ kk)
    have k565 : own_G p e below E0 T547 (mkF m 18 #[vi p0, vi p1, vi p2, vi p3, vi p4, vi (3 : Int32), vi r542, vi r561, uu, uu, uu, uu] [(.int p3)]) := by
      intro t kk
      refine k564 t ?_
      refine XS.istore X551.here hx rfl (hb hby at_15) rfl (l' := #[vi p0, vi p1, vi p2, vi p3, vi p4, vi (3 : Int32), vi r542, vi r561, uu, uu, uu, uu]) rfl ?_
      refine XS.iloadN X551.here hx rfl (hb hby at_17) rfl ?_
      exact kk
    obtain ⟨_, _, ⟨T566, L567, kc568, nc569⟩, -, X570, ⟨Lc571, hQ572, l573, y574, z575⟩, st576⟩ := Jvm.LawKit.callS X551 hx (y := mn0) hown (mvT hZ (tw0 hw)) (mvT hZ (tw1 hw)) (mvT hZ (tw2 hw)) (mvT hZ (tw3 hw)) (by decide) (backOf (W := 0) (rmS l Z a0 hw [] p3 h0 n0 Z0 ) hZ (tw3 hw) (tw2 hw) (by decide) (by decide)) (g := (mkF m 18 #[vi p0, vi p1, vi p2, vi p3, vi p4, vi (3 : Int32), vi r542, vi r561, uu, uu, uu, uu] [(.int p3)])) rfl (by rw [hml]; rfl) (argsL := [(.int p3)]) (rest := []) (lenOf pd_2 rfl) rfl (by show 2 * 0 + _ ≤ _; exact Nat.le_of_eq rfl) (hb hby at_18) (fun _ _ => ⟨rfl, e559, (by decide : 0 + 0 ≤ _), (by decide : 0 + 0 ≤ _)⟩)
    dsimp only [Pt.U, Pt.locs, Pt.cells, Pt.slots] at X570 l573 y574 z575 st576 hQ572
    subst l573 y574 z575
    obtain ⟨r580, rfl, N577, e578, g581⟩ := hQ572
    have N582 := Fr.app N563 N577
    have k583 : own_G p e below E0 T566 (mkF m 21 #[vi p0, vi p1, vi p2, vi p3, vi p4, vi (3 : Int32), vi r542, vi r561, uu, uu, uu, uu] [(.int r580)]) := fun t kk => k565 t (st576 _ kk)
    have k584 : own_G p e below E0 T566 (mkF m 25 #[vi p0, vi p1, vi p2, vi p3, vi p4, vi (3 : Int32), vi r542, vi r561, vi r580, uu, uu, uu] [(.int p4)]) := by
      intro t kk
      refine k583 t ?_
      refine XS.istore X570.here hx rfl (hb hby at_21) rfl (l' := #[vi p0, vi p1, vi p2, vi p3, vi p4, vi (3 : Int32), vi r542, vi r561, vi r580, uu, uu, uu]) rfl ?_
      refine XS.iload X570.here hx rfl (hb hby at_23) rfl ?_
      exact kk
    obtain ⟨_, _, ⟨T585, L586, kc587, nc588⟩, -, X589, ⟨Lc590, hQ591, l592, y593, z594⟩, st595⟩ := Jvm.LawKit.callS X570 hx (y := mn0) hown (mvT hZ (tw0 hw)) (mvT hZ (tw1 hw)) (mvT hZ (tw2 hw)) (mvT hZ (tw3 hw)) (by decide) (backOf (W := 0) (rmS l Z a0 hw [] p4 h0 n0 Z0 ) hZ (tw3 hw) (tw2 hw) (by decide) (by decide)) (g := (mkF m 25 #[vi p0, vi p1, vi p2, vi p3, vi p4, vi (3 : Int32), vi r542, vi r561, vi r580, uu, uu, uu] [(.int p4)])) rfl (by rw [hml]; rfl) (argsL := [(.int p4)]) (rest := []) (lenOf pd_2 rfl) rfl (by show 2 * 0 + _ ≤ _; exact Nat.le_of_eq rfl) (hb hby at_25) (fun _ _ => ⟨rfl, e578, (by decide : 0 + 0 ≤ _), (by decide : 0 + 0 ≤ _)⟩)
    dsimp only [Pt.U, Pt.locs, Pt.cells, Pt.slots] at X589 l592 y593 z594 st595 hQ591
    subst l592 y593 z594
    obtain ⟨r599, rfl, N596, e597, g600⟩ := hQ591
    have N601 := Fr.app N582 N596
    have k602 : own_G p e below E0 T585 (mkF m 28 #[vi p0, vi p1, vi p2, vi p3, vi p4, vi (3 : Int32), vi r542, vi r561, vi r580, uu, uu, uu] [(.int r599)]) := fun t kk => k584 t (st595 _ kk)
    have k603 : own_G p e below E0 T585 (mkF m 32 #[vi p0, vi p1, vi p2, vi p3, vi p4, vi (3 : Int32), vi r542, vi r561, vi r580, vi r599, uu, uu] [(.int (3 : Int32))]) := by
      intro t kk
      refine k602 t ?_
      refine XS.istore X589.here hx rfl (hb hby at_28) rfl (l' := #[vi p0, vi p1, vi p2, vi p3, vi p4, vi (3 : Int32), vi r542, vi r561, vi r580, vi r599, uu, uu]) rfl ?_
      refine XS.iload X589.here hx rfl (hb hby at_30) rfl ?_
      exact kk
    obtain ⟨T604, h605, cA606, X607, e608, E609, A610, st611⟩ := newP (aty := .double) X589 hx hZ (tw4 hw) e597 (g := (mkF m 32 #[vi p0, vi p1, vi p2, vi p3, vi p4, vi (3 : Int32), vi r542, vi r561, vi r580, vi r599, uu, uu] [(.int (3 : Int32))])) rfl (hb hby at_32) rfl (by decide) (cap := 3) (by decide) (by decide) (by decide) (by decide)
    obtain ⟨a612, g613⟩ : ∃ zA : Nat, zA = h0.size := ⟨_, rfl⟩
    rw [← g613] at A610 st611
    have ge614 : n0 ≤ a612 := by have := Z0; omega
    have Z615 : n0 ≤ h605.size := Nat.le_trans Z0 E609.1
    have F616 : own_A Z h605 a612 .double [(.double (0 : UInt64)), (.double (0 : UInt64)), (.double (0 : UInt64))] := own_A.new A610
    have k617 : own_G p e below E0 T604 (mkF m 34 #[vi p0, vi p1, vi p2, vi p3, vi p4, vi (3 : Int32), vi r542, vi r561, vi r580, vi r599, uu, uu] [(.ref a612)]) := fun t kk => k603 t (st611 _ kk)
    have k618 : own_G p e below E0 T604 (mkF m 47 #[vi p0, vi p1, vi p2, vi p3, vi p4, vi (3 : Int32), vi r542, vi r561, vi r580, vi r599, vr a612, uu] [(.double (FP.i2d r542)), (.int (0 : Int32)), (.ref a612)]) := by
      intro t kk
      refine k617 t ?_
      refine XS.astore X607.here hx rfl (hb hby at_34) rfl rfl (l' := #[vi p0, vi p1, vi p2, vi p3, vi p4, vi (3 : Int32), vi r542, vi r561, vi r580, vi r599, vr a612, uu]) rfl ?_
      refine XS.iload X607.here hx rfl (hb hby at_36) rfl ?_
      refine XS.ifNo X607.here hx rfl (hb hby at_38) rfl (own_if_leN (by decide)) ?_
      refine XS.aload X607.here hx rfl (hb hby at_41) rfl rfl ?_
      show Steps p.tables e below (T604.setTop (mkF m 43 #[vi p0, vi p1, vi p2, vi p3, vi p4, vi (3 : Int32), vi r542, vi r561, vi r580, vi r599, vr a612, uu] [(.ref a612)])) t
      refine XS.iconst X607.here hx rfl (hb hby at_43) ?_
      refine XS.iload X607.here hx rfl (hb hby at_44) rfl ?_
      refine XS.i2dS X607.here hx rfl (hb hby at_46) rfl rfl ?_
      exact kk
    obtain ⟨T619, h620, X621, e622, W623, F624, st625⟩ := own_A.dst X607 hx hZ e608 F616 (j := (0 : Int32)) (by decide) rfl (g := (mkF m 47 #[vi p0, vi p1, vi p2, vi p3, vi p4, vi (3 : Int32), vi r542, vi r561, vi r580, vi r599, vr a612, uu] [(.double (FP.i2d r542)), (.int (0 : Int32)), (.ref a612)])) rfl rfl (hb hby at_47)
    have N626 := Fr.snoc X621 N601 ge614
    have k627 : own_G p e below E0 T619 (mkF m 48 #[vi p0, vi p1, vi p2, vi p3, vi p4, vi (3 : Int32), vi r542, vi r561, vi r580, vi r599, vr a612, uu] []) := fun t kk => k618 t (st625 _ kk)
    have Z628 : n0 ≤ h620.size := by rw [W623.size]; exact Z615
    have F629 : own_A Z h620 a612 .double [(.double (FP.i2d r542)), (.double (0 : UInt64)), (.double (0 : UInt64))] := F624
    have k630 : own_G p e below E0 T619 (mkF m 60 #[vi p0, vi p1, vi p2, vi p3, vi p4, vi (3 : Int32), vi r542, vi r561, vi r580, vi r599, vr a612, uu] [(.double (FP.i2d r561)), (.int (1 : Int32)), (.ref a612)]) := by
      intro t kk
      refine k627 t ?_
      refine XS.iload X621.here hx rfl (hb hby at_48) rfl ?_
      refine XS.iconst X621.here hx rfl (hb hby at_50) ?_
      refine XS.icmpNo X621.here hx rfl (hb hby at_51) rfl (own_ic_leN (by decide)) ?_
      refine XS.aload X621.here hx rfl (hb hby at_54) rfl rfl ?_
      show Steps p.tables e below (T619.setTop (mkF m 56 #[vi p0, vi p1, vi p2, vi p3, vi p4, vi (3 : Int32), vi r542, vi r561, vi r580, vi r599, vr a612, uu] [(.ref a612)])) t
      refine XS.iconst X621.here hx rfl (hb hby at_56) ?_
      refine XS.iload X621.here hx rfl (hb hby at_57) rfl ?_
      refine XS.i2dS X621.here hx rfl (hb hby at_59) rfl rfl ?_
      exact kk
    obtain ⟨T631, h632, X633, e634, W635, F636, st637⟩ := own_A.dst X621 hx hZ e622 F629 (j := (1 : Int32)) (by decide) rfl (g := (mkF m 60 #[vi p0, vi p1, vi p2, vi p3, vi p4, vi (3 : Int32), vi r542, vi r561, vi r580, vi r599, vr a612, uu] [(.double (FP.i2d r561)), (.int (1 : Int32)), (.ref a612)])) rfl rfl (hb hby at_60)
    have N638 := Fr.snoc X633 N626 ge614
    have k639 : own_G p e below E0 T631 (mkF m 61 #[vi p0, vi p1, vi p2, vi p3, vi p4, vi (3 : Int32), vi r542, vi r561, vi r580, vi r599, vr a612, uu] []) := fun t kk => k630 t (st637 _ kk)
    have Z640 : n0 ≤ h632.size := by rw [W635.size]; exact Z628
    have F641 : own_A Z h632 a612 .double [(.double (FP.i2d r542)), (.double (FP.i2d r561)), (.double (0 : UInt64))] := F636
    have k642 : own_G p e below E0 T631 (mkF m 73 #[vi p0, vi p1, vi p2, vi p3, vi p4, vi (3 : Int32), vi r542, vi r561, vi r580, vi r599, vr a612, uu] [(.double (FP.i2d r580)), (.int (2 : Int32)), (.ref a612)]) := by
      intro t kk
      refine k639 t ?_
      refine XS.iload X633.here hx rfl (hb hby at_61) rfl ?_
      refine XS.iconst X633.here hx rfl (hb hby at_63) ?_
      refine XS.icmpNo X633.here hx rfl (hb hby at_64) rfl (own_ic_leN (by decide)) ?_
      refine XS.aload X633.here hx rfl (hb hby at_67) rfl rfl ?_
      show Steps p.tables e below (T631.setTop (mkF m 69 #[vi p0, vi p1, vi p2, vi p3, vi p4, vi (3 : Int32), vi r542, vi r561, vi r580, vi r599, vr a612, uu] [(.ref a612)])) t
      refine XS.iconst X633.here hx rfl (hb hby at_69) ?_
      refine XS.iload X633.here hx rfl (hb hby at_70) rfl ?_
      refine XS.i2dS X633.here hx rfl (hb hby at_72) rfl rfl ?_
      exact kk
    obtain ⟨T643, h644, X645, e646, W647, F648, st649⟩ := own_A.dst X633 hx hZ e634 F641 (j := (2 : Int32)) (by decide) rfl (g := (mkF m 73 #[vi p0, vi p1, vi p2, vi p3, vi p4, vi (3 : Int32), vi r542, vi r561, vi r580, vi r599, vr a612, uu] [(.double (FP.i2d r580)), (.int (2 : Int32)), (.ref a612)])) rfl rfl (hb hby at_73)
    have N650 := Fr.snoc X645 N638 ge614
    have k651 : own_G p e below E0 T643 (mkF m 74 #[vi p0, vi p1, vi p2, vi p3, vi p4, vi (3 : Int32), vi r542, vi r561, vi r580, vi r599, vr a612, uu] []) := fun t kk => k642 t (st649 _ kk)
    have Z652 : n0 ≤ h644.size := by rw [W647.size]; exact Z640
    have F653 : own_A Z h644 a612 .double [(.double (FP.i2d r542)), (.double (FP.i2d r561)), (.double (FP.i2d r580))] := F648
    have k654 : own_G p e below E0 T643 (mkF m 79 #[vi p0, vi p1, vi p2, vi p3, vi p4, vi (3 : Int32), vi r542, vi r561, vi r580, vi r599, vr a612, uu] [(.double (FP.i2d r599)), (.ref a612)]) := by
      intro t kk
      refine k651 t ?_
      refine XS.aload X645.here hx rfl (hb hby at_74) rfl rfl ?_
      refine XS.iload X645.here hx rfl (hb hby at_76) rfl ?_
      refine XS.i2dS X645.here hx rfl (hb hby at_78) rfl rfl ?_
      exact kk
    obtain ⟨_, _, ⟨T655, L656, kc657, nc658⟩, -, X659, ⟨Lc660, hQ661, l662, y663, z664⟩, st665⟩ := Jvm.LawKit.callS X645 hx (y := mn1) hown (mvT hZ (tw5 hw)) (mvT hZ (tw6 hw)) (mvT hZ (tw7 hw)) (mvT hZ (tw8 hw)) (by decide) (backOf (W := 0) (rmV3 l Z a0 hw [] a612 (FP.i2d r599) (FP.i2d r542) (FP.i2d r561) (FP.i2d r580) h644 n0 Z652 F653 ge614 (own_nn (FP.Core.dmul_int (FP.Core.i2d_int r542) (FP.Core.i2d_int r599) (own_mb (A := 524288) (B := 524288) g543.1 (Int.le_of_lt g543.2) g600.1 (Int.le_of_lt g600.2) (by decide)))) (own_nn (FP.Core.dmul_int (FP.Core.i2d_int r561) (FP.Core.i2d_int r599) (own_mb (A := 524288) (B := 524288) g562.1 (Int.le_of_lt g562.2) g600.1 (Int.le_of_lt g600.2) (by decide)))) (own_nn (FP.Core.dmul_int (FP.Core.i2d_int r580) (FP.Core.i2d_int r599) (own_mb (A := 524288) (B := 524288) g581.1 (Int.le_of_lt g581.2) g600.1 (Int.le_of_lt g600.2) (by decide))))) hZ (tw8 hw) (tw7 hw) (by decide) (by decide)) (g := (mkF m 79 #[vi p0, vi p1, vi p2, vi p3, vi p4, vi (3 : Int32), vi r542, vi r561, vi r580, vi r599, vr a612, uu] [(.double (FP.i2d r599)), (.ref a612)])) rfl (by rw [hml]; rfl) (argsL := [(.ref a612), (.double (FP.i2d r599))]) (rest := []) (lenOf pd_3 rfl) rfl (by show 2 * 0 + _ ≤ _; exact Nat.le_of_eq rfl) (hb hby at_79) (fun _ _ => ⟨rfl, e646, (by decide : 1 + 0 ≤ _), (by decide : 3 + 0 ≤ _)⟩)
    dsimp only [Pt.U, Pt.locs, Pt.cells, Pt.slots] at X659 l662 y663 z664 st665 hQ661
    subst l662 y663 z664
    obtain ⟨rfl, N666, K669, g670⟩ := hQ661
    have N671 := Fr.app N650 N666
    have Z672 : n0 ≤ T655.heap.size := Nat.le_trans Z652 K669.1
    have k674 : own_G p e below E0 T655 (mkF m 82 #[vi p0, vi p1, vi p2, vi p3, vi p4, vi (3 : Int32), vi r542, vi r561, vi r580, vi r599, vr a612, uu] []) := fun t kk => k654 t (st665 _ kk)
    have k675 : own_G p e below E0 T655 (mkF m 84 #[vi p0, vi p1, vi p2, vi p3, vi p4, vi (3 : Int32), vi r542, vi r561, vi r580, vi r599, vr a612, uu] [(.ref a612)]) := by
      intro t kk
      refine k674 t ?_
      refine XS.aload X659.here hx rfl (hb hby at_82) rfl rfl ?_
      exact kk
    have st676 := fun t => own_A.len X659 hx hZ rfl g670 (g := (mkF m 84 #[vi p0, vi p1, vi p2, vi p3, vi p4, vi (3 : Int32), vi r542, vi r561, vi r580, vi r599, vr a612, uu] [(.ref a612)])) rfl rfl (hb hby at_84) t
    have k677 : own_G p e below E0 T655 (mkF m 85 #[vi p0, vi p1, vi p2, vi p3, vi p4, vi (3 : Int32), vi r542, vi r561, vi r580, vi r599, vr a612, uu] [(.int (3 : Int32))]) := fun t kk => k675 t (st676 _ kk)
    have k678 : own_G p e below E0 T655 (mkF m 110 #[vi p0, vi p1, vi p2, vi p3, vi p4, vi (3 : Int32), vi r542, vi r561, vi r580, vi r599, vr a612, vi (1 : Int32)] [(.int (0 : Int32)), (.ref a612)]) := by
      intro t kk
      refine k677 t ?_
      refine XS.iload X659.here hx rfl (hb hby at_85) rfl ?_
      refine XS.icmpNo X659.here hx rfl (hb hby at_87) rfl (own_ic_neN (by decide)) ?_
      refine XS.iconst X659.here hx rfl (hb hby at_90) ?_
      refine XS.goto X659.here hx rfl (pc0 := 91) (pc' := 95) rfl (hb hby at_91) (by decide) (by decide) ?_
      show Steps p.tables e below (T655.setTop (mkF m 95 #[vi p0, vi p1, vi p2, vi p3, vi p4, vi (3 : Int32), vi r542, vi r561, vi r580, vi r599, vr a612, uu] [(.int (1 : Int32))])) t
      refine XS.istore X659.here hx rfl (hb hby at_95) rfl (l' := #[vi p0, vi p1, vi p2, vi p3, vi p4, vi (3 : Int32), vi r542, vi r561, vi r580, vi r599, vr a612, vi (1 : Int32)]) rfl ?_
      refine XS.iload X659.here hx rfl (hb hby at_97) rfl ?_
      refine XS.ifNo X659.here hx rfl (hb hby at_99) rfl (own_if_leN (by decide)) ?_
      refine XS.iload X659.here hx rfl (hb hby at_102) rfl ?_
      show Steps p.tables e below (T655.setTop (mkF m 104 #[vi p0, vi p1, vi p2, vi p3, vi p4, vi (3 : Int32), vi r542, vi r561, vi r580, vi r599, vr a612, vi (1 : Int32)] [(.int (1 : Int32))])) t
      refine XS.ifNo X659.here hx rfl (hb hby at_104) rfl (own_if_eqN (by decide)) ?_
      refine XS.aload X659.here hx rfl (hb hby at_107) rfl rfl ?_
      refine XS.iconst X659.here hx rfl (hb hby at_109) ?_
      exact kk
    have st679 := fun t => own_A.dld X659 hx hZ rfl g670 (j := (0 : Int32)) (v := (.double (FP.dmul (FP.i2d r542) (FP.i2d r599)))) (by decide) rfl (g := (mkF m 110 #[vi p0, vi p1, vi p2, vi p3, vi p4, vi (3 : Int32), vi r542, vi r561, vi r580, vi r599, vr a612, vi (1 : Int32)] [(.int (0 : Int32)), (.ref a612)])) rfl rfl (hb hby at_110) t
    have k680 : own_G p e below E0 T655 (mkF m 111 #[vi p0, vi p1, vi p2, vi p3, vi p4, vi (3 : Int32), vi r542, vi r561, vi r580, vi r599, vr a612, vi (1 : Int32)] [(.double (FP.dmul (FP.i2d r542) (FP.i2d r599)))]) := fun t kk => k678 t (st679 _ kk)
    have k681 : own_G p e below E0 T655 (mkF m 144 #[vi p0, vi p1, vi p2, vi p3, vi p4, vi (3 : Int32), vi r542, vi r561, vi r580, vi r599, vr a612, vi (1 : Int32)] [(.int (1 : Int32)), (.ref a612)]) := by
      intro t kk
      refine k680 t ?_
      refine XS.iload X659.here hx rfl (hb hby at_111) rfl ?_
      refine XT.i2l X659.here hx rfl (hb hby at_113) rfl ?_
      refine XS.iload X659.here hx rfl (hb hby at_114) rfl ?_
      refine XT.i2l X659.here hx rfl (hb hby at_116) rfl ?_
      show Steps p.tables e below (T655.setTop (mkF m 117 #[vi p0, vi p1, vi p2, vi p3, vi p4, vi (3 : Int32), vi r542, vi r561, vi r580, vi r599, vr a612, vi (1 : Int32)] [(.long (r599.toInt64)), (.long (r542.toInt64)), (.double (FP.dmul (FP.i2d r542) (FP.i2d r599)))])) t
      refine XT.lmul X659.here hx rfl (hb hby at_117) rfl ?_
      refine XS.l2dS X659.here hx rfl (hb hby at_118) rfl rfl ?_
      refine XS.dcmpS (v := (0 : Int32)) X659.here hx rfl (hb hby at_119) rfl (own_eq0 .l (FP.Core.dmul_int (FP.Core.i2d_int r542) (FP.Core.i2d_int r599) (own_mb (A := 524288) (B := 524288) g543.1 (Int.le_of_lt g543.2) g600.1 (Int.le_of_lt g600.2) (by decide))) (own_pl r542 r599 (own_mb (A := 524288) (B := 524288) g543.1 (Int.le_of_lt g543.2) g600.1 (Int.le_of_lt g600.2) (by decide)))) ?_
      refine XS.ifNo X659.here hx rfl (hb hby at_120) rfl (own_if_neN (by decide)) ?_
      show Steps p.tables e below (T655.setTop (mkF m 123 #[vi p0, vi p1, vi p2, vi p3, vi p4, vi (3 : Int32), vi r542, vi r561, vi r580, vi r599, vr a612, vi (1 : Int32)] [])) t
      refine XS.iconst X659.here hx rfl (hb hby at_123) ?_
      refine XS.goto X659.here hx rfl (pc0 := 124) (pc' := 128) rfl (hb hby at_124) (by decide) (by decide) ?_
      refine XS.istore X659.here hx rfl (hb hby at_128) rfl (l' := #[vi p0, vi p1, vi p2, vi p3, vi p4, vi (3 : Int32), vi r542, vi r561, vi r580, vi r599, vr a612, vi (1 : Int32)]) rfl ?_
      refine XS.iload X659.here hx rfl (hb hby at_130) rfl ?_
      show Steps p.tables e below (T655.setTop (mkF m 132 #[vi p0, vi p1, vi p2, vi p3, vi p4, vi (3 : Int32), vi r542, vi r561, vi r580, vi r599, vr a612, vi (1 : Int32)] [(.int (3 : Int32))])) t
      refine XS.iconst X659.here hx rfl (hb hby at_132) ?_
      refine XS.icmpNo X659.here hx rfl (hb hby at_133) rfl (own_ic_leN (by decide)) ?_
      refine XS.iload X659.here hx rfl (hb hby at_136) rfl ?_
      refine XS.ifNo X659.here hx rfl (hb hby at_138) rfl (own_if_eqN (by decide)) ?_
      show Steps p.tables e below (T655.setTop (mkF m 141 #[vi p0, vi p1, vi p2, vi p3, vi p4, vi (3 : Int32), vi r542, vi r561, vi r580, vi r599, vr a612, vi (1 : Int32)] [])) t
      refine XS.aload X659.here hx rfl (hb hby at_141) rfl rfl ?_
      refine XS.iconst X659.here hx rfl (hb hby at_143) ?_
      exact kk
    have st682 := fun t => own_A.dld X659 hx hZ rfl g670 (j := (1 : Int32)) (v := (.double (FP.dmul (FP.i2d r561) (FP.i2d r599)))) (by decide) rfl (g := (mkF m 144 #[vi p0, vi p1, vi p2, vi p3, vi p4, vi (3 : Int32), vi r542, vi r561, vi r580, vi r599, vr a612, vi (1 : Int32)] [(.int (1 : Int32)), (.ref a612)])) rfl rfl (hb hby at_144) t
    have k683 : own_G p e below E0 T655 (mkF m 145 #[vi p0, vi p1, vi p2, vi p3, vi p4, vi (3 : Int32), vi r542, vi r561, vi r580, vi r599, vr a612, vi (1 : Int32)] [(.double (FP.dmul (FP.i2d r561) (FP.i2d r599)))]) := fun t kk => k681 t (st682 _ kk)
    have k684 : own_G p e below E0 T655 (mkF m 178 #[vi p0, vi p1, vi p2, vi p3, vi p4, vi (3 : Int32), vi r542, vi r561, vi r580, vi r599, vr a612, vi (1 : Int32)] [(.int (2 : Int32)), (.ref a612)]) := by
      intro t kk
      refine k683 t ?_
      refine XS.iload X659.here hx rfl (hb hby at_145) rfl ?_
      refine XT.i2l X659.here hx rfl (hb hby at_147) rfl ?_
      refine XS.iload X659.here hx rfl (hb hby at_148) rfl ?_
      refine XT.i2l X659.here hx rfl (hb hby at_150) rfl ?_
      show Steps p.tables e below (T655.setTop (mkF m 151 #[vi p0, vi p1, vi p2, vi p3, vi p4, vi (3 : Int32), vi r542, vi r561, vi r580, vi r599, vr a612, vi (1 : Int32)] [(.long (r599.toInt64)), (.long (r561.toInt64)), (.double (FP.dmul (FP.i2d r561) (FP.i2d r599)))])) t
      refine XT.lmul X659.here hx rfl (hb hby at_151) rfl ?_
      refine XS.l2dS X659.here hx rfl (hb hby at_152) rfl rfl ?_
      refine XS.dcmpS (v := (0 : Int32)) X659.here hx rfl (hb hby at_153) rfl (own_eq0 .l (FP.Core.dmul_int (FP.Core.i2d_int r561) (FP.Core.i2d_int r599) (own_mb (A := 524288) (B := 524288) g562.1 (Int.le_of_lt g562.2) g600.1 (Int.le_of_lt g600.2) (by decide))) (own_pl r561 r599 (own_mb (A := 524288) (B := 524288) g562.1 (Int.le_of_lt g562.2) g600.1 (Int.le_of_lt g600.2) (by decide)))) ?_
      refine XS.ifNo X659.here hx rfl (hb hby at_154) rfl (own_if_neN (by decide)) ?_
      show Steps p.tables e below (T655.setTop (mkF m 157 #[vi p0, vi p1, vi p2, vi p3, vi p4, vi (3 : Int32), vi r542, vi r561, vi r580, vi r599, vr a612, vi (1 : Int32)] [])) t
      refine XS.iconst X659.here hx rfl (hb hby at_157) ?_
      refine XS.goto X659.here hx rfl (pc0 := 158) (pc' := 162) rfl (hb hby at_158) (by decide) (by decide) ?_
      refine XS.istore X659.here hx rfl (hb hby at_162) rfl (l' := #[vi p0, vi p1, vi p2, vi p3, vi p4, vi (3 : Int32), vi r542, vi r561, vi r580, vi r599, vr a612, vi (1 : Int32)]) rfl ?_
      refine XS.iload X659.here hx rfl (hb hby at_164) rfl ?_
      show Steps p.tables e below (T655.setTop (mkF m 166 #[vi p0, vi p1, vi p2, vi p3, vi p4, vi (3 : Int32), vi r542, vi r561, vi r580, vi r599, vr a612, vi (1 : Int32)] [(.int (3 : Int32))])) t
      refine XS.iconst X659.here hx rfl (hb hby at_166) ?_
      refine XS.icmpNo X659.here hx rfl (hb hby at_167) rfl (own_ic_leN (by decide)) ?_
      refine XS.iload X659.here hx rfl (hb hby at_170) rfl ?_
      refine XS.ifNo X659.here hx rfl (hb hby at_172) rfl (own_if_eqN (by decide)) ?_
      show Steps p.tables e below (T655.setTop (mkF m 175 #[vi p0, vi p1, vi p2, vi p3, vi p4, vi (3 : Int32), vi r542, vi r561, vi r580, vi r599, vr a612, vi (1 : Int32)] [])) t
      refine XS.aload X659.here hx rfl (hb hby at_175) rfl rfl ?_
      refine XS.iconst X659.here hx rfl (hb hby at_177) ?_
      exact kk
    have st685 := fun t => own_A.dld X659 hx hZ rfl g670 (j := (2 : Int32)) (v := (.double (FP.dmul (FP.i2d r580) (FP.i2d r599)))) (by decide) rfl (g := (mkF m 178 #[vi p0, vi p1, vi p2, vi p3, vi p4, vi (3 : Int32), vi r542, vi r561, vi r580, vi r599, vr a612, vi (1 : Int32)] [(.int (2 : Int32)), (.ref a612)])) rfl rfl (hb hby at_178) t
    have k686 : own_G p e below E0 T655 (mkF m 179 #[vi p0, vi p1, vi p2, vi p3, vi p4, vi (3 : Int32), vi r542, vi r561, vi r580, vi r599, vr a612, vi (1 : Int32)] [(.double (FP.dmul (FP.i2d r580) (FP.i2d r599)))]) := fun t kk => k684 t (st685 _ kk)
    have k687 : own_G p e below E0 T655 (mkF m 200 #[vi p0, vi p1, vi p2, vi p3, vi p4, vi (3 : Int32), vi r542, vi r561, vi r580, vi r599, vr a612, vi (1 : Int32)] [(.int (1 : Int32))]) := by
      intro t kk
      refine k686 t ?_
      refine XS.iload X659.here hx rfl (hb hby at_179) rfl ?_
      refine XT.i2l X659.here hx rfl (hb hby at_181) rfl ?_
      refine XS.iload X659.here hx rfl (hb hby at_182) rfl ?_
      refine XT.i2l X659.here hx rfl (hb hby at_184) rfl ?_
      show Steps p.tables e below (T655.setTop (mkF m 185 #[vi p0, vi p1, vi p2, vi p3, vi p4, vi (3 : Int32), vi r542, vi r561, vi r580, vi r599, vr a612, vi (1 : Int32)] [(.long (r599.toInt64)), (.long (r580.toInt64)), (.double (FP.dmul (FP.i2d r580) (FP.i2d r599)))])) t
      refine XT.lmul X659.here hx rfl (hb hby at_185) rfl ?_
      refine XS.l2dS X659.here hx rfl (hb hby at_186) rfl rfl ?_
      refine XS.dcmpS (v := (0 : Int32)) X659.here hx rfl (hb hby at_187) rfl (own_eq0 .l (FP.Core.dmul_int (FP.Core.i2d_int r580) (FP.Core.i2d_int r599) (own_mb (A := 524288) (B := 524288) g581.1 (Int.le_of_lt g581.2) g600.1 (Int.le_of_lt g600.2) (by decide))) (own_pl r580 r599 (own_mb (A := 524288) (B := 524288) g581.1 (Int.le_of_lt g581.2) g600.1 (Int.le_of_lt g600.2) (by decide)))) ?_
      refine XS.ifNo X659.here hx rfl (hb hby at_188) rfl (own_if_neN (by decide)) ?_
      show Steps p.tables e below (T655.setTop (mkF m 191 #[vi p0, vi p1, vi p2, vi p3, vi p4, vi (3 : Int32), vi r542, vi r561, vi r580, vi r599, vr a612, vi (1 : Int32)] [])) t
      refine XS.iconst X659.here hx rfl (hb hby at_191) ?_
      refine XS.goto X659.here hx rfl (pc0 := 192) (pc' := 196) rfl (hb hby at_192) (by decide) (by decide) ?_
      refine XS.istore X659.here hx rfl (hb hby at_196) rfl (l' := #[vi p0, vi p1, vi p2, vi p3, vi p4, vi (3 : Int32), vi r542, vi r561, vi r580, vi r599, vr a612, vi (1 : Int32)]) rfl ?_
      refine XS.iload X659.here hx rfl (hb hby at_198) rfl ?_
      exact kk
    obtain ⟨fs, hr, hrun, hended, hW, hsame⟩ := X659.leave (v := some (.int (1 : Int32))) (fun h => by rw [Bd.returns] at h; cases h)
    have hrun0 := k687 _ (retOut X659 hx Bd.returns (t := .boolean) rfl (Or.inl ⟨rfl, Or.inr (Or.inl rfl), _, rfl⟩) (hb hby at_200) hr)
    subst hE0
    refine ⟨_, _, hrun0, hrun, hended, _, _, rfl, ?_, ⟨_, rfl⟩, hW, hsame.mono (by decide) (by decide)⟩
    show Qrm0 Z p0 p1 p2 p3 p4 h0 n0 _ T655.heap _
    exact ⟨rfl, N671⟩
set_option maxRecDepth 65536 in
set_option maxHeartbeats 40000000 in
theorem comes_1 {Post : Tables → Env → Array Value → State → Outcome → State → Prop} (hpost : ∀ tb e args s v u, (limb_1_1.after args s (.returned v) u = true ∧ limb_1_2.after args s (.returned v) u = true ∧ True) → FrameEnd s (.returned v) u (Jvm.fieldLocs frame_1_writes args s ++ Jvm.arrayLocs frame_1_arrays args s ++ Jvm.staticLocs frame_1_statics s) 16 128 → Post tb e args s (.returned v) u) :
    ArmFor flags0 classFile x code maxLocals ret World_1 tables_1 room_1 Calls_1 rest_1 Pre_1 Post := by
  intro l hfl _ _ p e ha hc hk s m args below hf hA hF happ hP
  obtain ⟨hcalls, hrest, hpre⟩ := hP
  obtain ⟨-, -, -, hnamed, -, -, -, hat⟩ := (Spec.applies_iff hf).mp happ
  obtain ⟨hg, hn⟩ := and_e (Cond.before_iff.mp (show (Jvm.Cond.and given_1 narrow_1).before args s = true from hpre))
  obtain ⟨hct, hr0⟩ := and_e hg
  obtain ⟨ha0, hr1⟩ := and_e hr0
  obtain ⟨ha1, hr2⟩ := and_e hr1
  obtain ⟨ha2, hr3⟩ := and_e hr2
  obtain ⟨ha3, hr4⟩ := and_e hr3
  obtain ⟨w0, w1, w2, w3, w4, rfl⟩ : ∃ w0 w1 w2 w3 w4 : Value, args = #[w0, w1, w2, w3, w4] := by
    have hs : args.size = 5 := by simpa [Cond.value, given_1] using hct
    obtain ⟨L⟩ := args
    match L, hs with
    | [w0, w1, w2, w3, w4], _ => exact ⟨w0, w1, w2, w3, w4, rfl⟩
  have hw := fun d (hd : d ∈ tables_1) => atoms_spec (ws := Jvm.Cond.code x code maxLocals ret :: tables_1) hat d (List.mem_cons_of_mem _ hd)
  have hfit : Fit s := fun {y c} hc i hi => by
    obtain ⟨ha, rfl⟩ := Array.getElem?_eq_some_iff.mp hc
    have q := List.all_eq_true.mp ((Array.all_eq_true_iff_forall_mem.mp hF) _ (Array.getElem_mem ha)) i (List.mem_range.mpr hi)
    simpa [Array.getElem?_eq_getElem hi] using q
  obtain ⟨i0, ev0⟩ := is_v ha0
  obtain rfl : w0 = (.int i0) := Option.some.inj ev0
  obtain ⟨i1, ev1⟩ := is_v ha1
  obtain rfl : w1 = (.int i1) := Option.some.inj ev1
  obtain ⟨i2, ev2⟩ := is_v ha2
  obtain rfl : w2 = (.int i2) := Option.some.inj ev2
  obtain ⟨i3, ev3⟩ := is_v ha3
  obtain rfl : w3 = (.int i3) := Option.some.inj ev3
  obtain ⟨i4, ev4⟩ := is_v hr4
  obtain rfl : w4 = (.int i4) := Option.some.inj ev4
  obtain ⟨n, o, h1, h2, h3, _, L, rfl, ⟨rfl, N⟩, hq⟩ := rm0 l s _ hw tables_1 i0 i1 i2 i3 i4 s.heap s.heap.size (Nat.le_refl _) p e ha hc hk s m _ below hf ((Spec.applies_iff_loose hf).mp happ).1 ⟨rfl, State.Warmed39.refl s, rfl⟩ trivial
  refine ⟨n, _, h1, h2, h3, hpost _ _ _ _ _ _ ⟨Cond.after_iff.mpr rfl, Cond.after_iff.mpr (eq_i res_at (Term.int_eval (1)) rfl), trivial⟩ ⟨hq.1, hq.2.1, (hq.2.2.sift fun y hy => Or.inr (N y hy)).mono (by decide) (by decide)⟩⟩
theorem main_1_1 : Claimed_1_1 := comes_1 fun _ _ _ _ _ _ h hF => ⟨h.1, hF⟩
theorem main_1_2 : Claimed_1_2 := comes_1 fun _ _ _ _ _ _ h hF => ⟨h.2.1, hF⟩
end Jvm.Pilot.@@N@@
namespace Jvm.Pilot.@@N@@
open Jvm Jvm.ClassFile Sem Op Lib Jvm.Free Jvm.Stand Jvm.Pilot.@@N@@.Jvm.D
/-! MADE BY PROGRAM (witnessworld.py) out of the Statement's table words and the real class files: 11 classes; the members and pool entries that the words name. The judged class is class 1, her method 2. -/
namespace start1
open Jvm.ClassFile
def u (s : String) : CpInfo := .utf8 (stringToUtf16 s)
/-- a pool by its gaps: so many unusable entries, then the entry; so many at the end -/
def gap : Nat → List CpInfo → List CpInfo
  | 0, r => r
  | n + 1, r => .unusable :: gap n r
def poolList (es : List (Nat × CpInfo)) (last : Nat) : List CpInfo := es.foldr (fun e r => gap e.1 (e.2 :: r)) (gap last [])
def pool (es : List (Nat × CpInfo)) (last : Nat) : Array CpInfo := ⟨poolList es last⟩
def fileOf (pool : Array CpInfo) (this : Nat) (attrs : Array Attribute := #[]) (ms : Array MethodInfo := #[]) (fl : Nat := 33) (sup : Nat := 0) (ifs : Array Nat := #[]) (fds : Array FieldInfo := #[]) : ClassFile where
  minorVersion := 0
  majorVersion := 65
  constantPool := pool
  accessFlags := fl
  thisClass := this
  superClass := sup
  interfaces := ifs
  fields := fds
  methods := ms
  attributes := attrs
def plain (name : String) (sup : Option ClassId) : Class where
  name := name
  kind := .ordinary
  loader := none
  accessFlags := 33
  super := sup
  interfaces := #[]
  cf := none
  fields := #[]
  methods := #[]
  instanceTypes := #[]
  staticTypes := #[]
  resolved := #[]
  callSites := []
  init := .initialized
  statics := none
  mirror := none

def pool0 : Array CpInfo := pool [(5, u "<init>"), (0, u "()V"), (1, .class_ 10), (1, u "java/lang/Object")] 113

def k0m0 : Method := { name := "<init>", desc := "()V", sig := { parameters := [], returnType := none }, accessFlags := 1, code := none }
/-- java/lang/Object -/
def k0 : Class := { plain "java/lang/Object" none with
  accessFlags := 33
  interfaces := #[]
  cf := some (fileOf pool0 8 #[] #[{ accessFlags := 1, nameIndex := 5, descriptorIndex := 6, attributes := #[] }] 33 0 #[] #[])
  fields := #[]
  methods := #[k0m0]
  instanceTypes := #[]
  staticTypes := #[]
  resolved := Array.replicate 124 none
  statics := none }

def pool1 : Array CpInfo := pool [(2, .class_ 4), (1, u "java/lang/Object"), (0, u "<init>"), (0, u "()V"), (0, .methodref 8 9), (0, .class_ 10), (0, .nameAndType 11 12), (0, u "com/example/velvet_postings/velvetpostings/search/VectorsScalePinLaw"), (0, u "s20"), (0, u "(I)I"), (0, .methodref 14 15), (0, .class_ 16), (0, .nameAndType 17 18), (0, u "com/example/velvet_postings/velvetpostings/search/Vectors"), (0, u "scale"), (0, u "([DD)V"), (2, u "law"), (0, u "(IIIII)Z")] 5

def k1m0 : Method := { name := "<init>", desc := "()V", sig := { parameters := [], returnType := none }, accessFlags := 2, code := none }
def k1c1 : Code := { maxStack := 2, maxLocals := 1, code := method_2_code, exceptionTable := #[], attributes := #[] }
def k1m1 : Method := { name := "s20", desc := "(I)I", sig := { parameters := [.int], returnType := some .int }, accessFlags := 10, code := some k1c1 }
def k1c2 : Code := { maxStack := 6, maxLocals := 12, code := code, exceptionTable := #[], attributes := #[] }
def k1m2 : Method := { name := "law", desc := "(IIIII)Z", sig := { parameters := [.int, .int, .int, .int, .int], returnType := some .boolean }, accessFlags := 9, code := some k1c2 }
/-- com/example/velvet_postings/velvetpostings/search/VectorsScalePinLaw -/
def k1 : Class := { plain "com/example/velvet_postings/velvetpostings/search/VectorsScalePinLaw" (some 0) with
  accessFlags := 49
  interfaces := #[]
  cf := some (fileOf pool1 8 #[] #[{ accessFlags := 2, nameIndex := 5, descriptorIndex := 6, attributes := #[] }, { accessFlags := 10, nameIndex := 11, descriptorIndex := 12, attributes := #[] }, { accessFlags := 9, nameIndex := 21, descriptorIndex := 22, attributes := #[] }] 49 2 #[] #[])
  fields := #[]
  methods := #[k1m0, k1m1, k1m2]
  instanceTypes := #[]
  staticTypes := #[]
  resolved := Array.replicate 28 none
  statics := none }

def pool2 : Array CpInfo := pool [(2, .class_ 4), (1, u "java/lang/Object"), (0, u "<init>"), (0, u "()V"), (1, .class_ 10), (1, u "com/example/velvet_postings/velvetpostings/search/Vectors"), (56, u "scale"), (0, u "([DD)V")] 75

def k2m0 : Method := { name := "<init>", desc := "()V", sig := { parameters := [], returnType := none }, accessFlags := 2, code := none }
def k2c1 : Code := { maxStack := 6, maxLocals := 4, code := prog_103_method_4_code, exceptionTable := #[], attributes := #[] }
def k2m1 : Method := { name := "scale", desc := "([DD)V", sig := { parameters := [(.array .double), .double], returnType := none }, accessFlags := 8, code := some k2c1 }
/-- com/example/velvet_postings/velvetpostings/search/Vectors -/
def k2 : Class := { plain "com/example/velvet_postings/velvetpostings/search/Vectors" (some 0) with
  accessFlags := 48
  interfaces := #[]
  cf := some (fileOf pool2 8 #[] #[{ accessFlags := 2, nameIndex := 5, descriptorIndex := 6, attributes := #[] }, { accessFlags := 8, nameIndex := 67, descriptorIndex := 68, attributes := #[] }] 48 2 #[] #[])
  fields := #[]
  methods := #[k2m0, k2m1]
  instanceTypes := #[]
  staticTypes := #[]
  resolved := Array.replicate 144 none
  statics := none }

def pool3 : Array CpInfo := pool [(1, u "java/lang/Cloneable"), (0, .class_ 1), (0, u "java/lang/Object"), (0, .class_ 3)] 3

/-- java/lang/Cloneable -/
def k3 : Class := { plain "java/lang/Cloneable" (some 0) with
  accessFlags := 1537
  interfaces := #[]
  cf := some (fileOf pool3 2 #[] #[] 1537 4 #[] #[])
  fields := #[]
  methods := #[]
  instanceTypes := #[]
  staticTypes := #[]
  resolved := Array.replicate 8 none
  statics := none }

def pool4 : Array CpInfo := pool [(1, u "java/io/Serializable"), (0, .class_ 1), (0, u "java/lang/Object"), (0, .class_ 3)] 3

/-- java/io/Serializable -/
def k4 : Class := { plain "java/io/Serializable" (some 0) with
  accessFlags := 1537
  interfaces := #[]
  cf := some (fileOf pool4 2 #[] #[] 1537 4 #[] #[])
  fields := #[]
  methods := #[]
  instanceTypes := #[]
  staticTypes := #[]
  resolved := Array.replicate 8 none
  statics := none }

/-- the primitive byte -/
def k5 : Class := { plain "byte" none with kind := .primitive 'B', accessFlags := 0x411 }
/-- [B -/
def k6 : Class := { plain "[B" (some 0) with kind := .array 5 .byte, interfaces := #[3, 4], accessFlags := 1041 }

/-- the primitive double -/
def k7 : Class := { plain "double" none with kind := .primitive 'D', accessFlags := 0x411 }
/-- [D -/
def k8 : Class := { plain "[D" (some 0) with kind := .array 7 .double, interfaces := #[3, 4], accessFlags := 1041 }

/-- the primitive int -/
def k9 : Class := { plain "int" none with kind := .primitive 'I', accessFlags := 0x411 }
/-- [I -/
def k10 : Class := { plain "[I" (some 0) with kind := .array 9 .int, interfaces := #[3, 4], accessFlags := 1041 }

def heap : Heap := #[]
def classes : Array Class := #[k0, k1, k2, k3, k4, k5, k6, k7, k8, k9, k10]
def interned : List (Array UInt16 × Addr) := []
def slotsUsed : Nat := 0
def theMethod : MethodId := ⟨1, 2⟩
def args0 : Array Value := #[.int 3, .int 4, .int 5, .int 6, .int 7]
def aboutOver (below : List Frame) : State where
  vm := { classes := classes, interned := interned.toArray }
  heap := heap
  slotsUsed := slotsUsed
  threads := #[{ frames := .invoking theMethod args0 :: below }]
def below0 : List Frame := [.native { method := ⟨0, 0⟩, args := #[] }]
def about1 : State := aboutOver below0
def p0 : Program := .bare "" "" ""
def e0 : Env := launch0.env 0 0 0
theorem w_frames : about1.frames = Frame.invoking theMethod args0 :: below0 := rfl
set_option maxRecDepth 65536 in
theorem w_args : argsFit about1.vm theMethod args0 = true := by decide +kernel
set_option maxRecDepth 65536 in
theorem w_heap : heapFits about1 = true := by decide +kernel
set_option maxRecDepth 65536 in
theorem w_runnable : about1.curStatus? = some .runnable := by decide +kernel
set_option maxRecDepth 65536 in
theorem w_alone : about1.alone = true := by decide +kernel
set_option maxRecDepth 65536 in
theorem w_named : about1.methodNamed? x = some theMethod := by decide +kernel
set_option maxRecDepth 65536 in
theorem w_hears : about1.hears theMethod below0 = true := by decide +kernel
set_option maxRecDepth 65536 in
theorem w_ripe : about1.ripe theMethod args0 below0 = true := by decide +kernel
theorem w_running : about1.status = .running := rfl
set_option maxRecDepth 65536 in
theorem w_room : about1.hasRoom e0.platform room_1 = true :=
  launch0.hasRoom_least _ room_1 (by decide +kernel) (by decide +kernel) (by decide +kernel) (by decide +kernel) (by decide +kernel) (by decide +kernel)
theorem allAtoms_all (ts : List Jvm.Cond) (a : Array Jvm.Value) (st : Jvm.State) : (allAtoms ts).before a st = ts.all (fun c => c.before a st) := by
  induction ts with
  | nil => rfl
  | cons c t ih =>
    show (Jvm.Cond.and c (allAtoms t)).before a st = _
    rw [Jvm.Cond.before_and, ih, List.all_cons]
def words1 : List Jvm.Cond := Jvm.Cond.code x code maxLocals ret :: tables_1
/-- a 'code' word, met by the world's own term for the bytes: nothing is compared byte by byte -/
theorem code_word {y : MethodName} {bytes : ByteArray} {mx : Nat} {rt : Option FieldType} {a : Array Value} {s : State} {m : MethodId} {meth : Method} {c : Code} (h1 : s.methodNamed? y = some m) (h2 : s.vm.method? m = some meth) (h3 : meth.code = some c) (h4 : c.code = bytes)
    (h5 : (c.maxLocals == mx && c.exceptionTable.isEmpty && decide (c.maxStack ≤ mostOperands) && decide (meth.sig.returnType = rt) && !meth.locks && decide (parseMethodDescriptor y.desc = some meth.sig)) = true) : (Jvm.Cond.code y bytes mx rt).before a s = true := by
  simp only [Bool.and_eq_true, beq_iff_eq, Bool.not_eq_true', decide_eq_true_eq] at h5
  obtain ⟨⟨⟨⟨⟨g1, g2⟩, g3⟩, g4⟩, g5⟩, g6⟩ := h5
  simp [Cond.before, Cond.holds, Cond.value, h1, h2, h3, h4, g1, g2, g3, g4, g5, g6]
def isCode : Jvm.Cond → Bool
  | .code _ _ _ _ => true
  | _ => false
theorem all_split {L : List Jvm.Cond} {P : Jvm.Cond → Bool} (h1 : L.all (fun c => isCode c || P c) = true) (h2 : ∀ c ∈ L.filter isCode, P c = true) : L.all P = true := by
  refine List.all_eq_true.mpr fun c hc => ?_
  have h := List.all_eq_true.mp h1 c hc
  rcases Bool.eq_false_or_eq_true (isCode c) with hi | hi
  · exact h2 c (List.mem_filter.mpr ⟨hc, hi⟩)
  · simpa [hi] using h
set_option maxRecDepth 65536 in
theorem w_c0 : (Jvm.Cond.code x code maxLocals ret).before args0 about1 = true := code_word (m := ⟨1, 2⟩) (meth := k1m2) (c := k1c2) (by decide +kernel) rfl rfl rfl (by decide +kernel)
set_option maxRecDepth 65536 in
theorem w_c1 : (Jvm.Cond.code ({ cls := "com/example/velvet_postings/velvetpostings/search/VectorsScalePinLaw", name := "s20", desc := "(I)I" } : Jvm.MethodName) method_2_code (1 : Nat) (Option.some Jvm.ClassFile.FieldType.int)).before args0 about1 = true := code_word (m := ⟨1, 1⟩) (meth := k1m1) (c := k1c1) (by decide +kernel) rfl rfl rfl (by decide +kernel)
set_option maxRecDepth 65536 in
theorem w_c2 : (Jvm.Cond.code ({ cls := "com/example/velvet_postings/velvetpostings/search/Vectors", name := "scale", desc := "([DD)V" } : Jvm.MethodName) prog_103_method_4_code (4 : Nat) (Option.none : Option Jvm.ClassFile.FieldType)).before args0 about1 = true := code_word (m := ⟨2, 1⟩) (meth := k2m1) (c := k2c1) (by decide +kernel) rfl rfl rfl (by decide +kernel)
def codes1 : List Jvm.Cond := [Jvm.Cond.code x code maxLocals ret, Jvm.Cond.code ({ cls := "com/example/velvet_postings/velvetpostings/search/VectorsScalePinLaw", name := "s20", desc := "(I)I" } : Jvm.MethodName) method_2_code (1 : Nat) (Option.some Jvm.ClassFile.FieldType.int), Jvm.Cond.code ({ cls := "com/example/velvet_postings/velvetpostings/search/Vectors", name := "scale", desc := "([DD)V" } : Jvm.MethodName) prog_103_method_4_code (4 : Nat) (Option.none : Option Jvm.ClassFile.FieldType)]
set_option maxRecDepth 65536 in
theorem codes_eq : words1.filter isCode = codes1 := rfl
theorem w_codes : ∀ c ∈ words1.filter isCode, c.before args0 about1 = true := by
  rw [codes_eq]
  intro c hc
  simp only [codes1, List.mem_cons, List.not_mem_nil, or_false] at hc
  rcases hc with rfl | rfl | rfl
  · exact w_c0
  · exact w_c1
  · exact w_c2
set_option maxRecDepth 65536 in
theorem w_t1 : words1.all (fun c => isCode c || c.before args0 about1) = true := by decide +kernel
theorem w_tables : (allAtoms (Jvm.Cond.code x code maxLocals ret :: tables_1)).before args0 about1 = true := by
  rw [allAtoms_all]
  show words1.all (fun c => c.before args0 about1) = true
  refine all_split ?_ w_codes
  rw [w_t1]
set_option maxRecDepth 65536 in
theorem w_case : (Jvm.Cond.and given_1 narrow_1).before args0 about1 = true := by decide +kernel
theorem w_applies : (headSpec (Jvm.Cond.code x code maxLocals ret :: tables_1) room_1).applies x e0.platform about1 = true :=
  (Spec.applies_iff w_frames).mpr ⟨w_running, w_runnable, w_alone, w_named, w_hears, w_ripe, w_room, w_tables⟩
theorem atStart : AtStart classFile x code maxLocals ret World_1 tables_1 room_1 Calls_1 rest_1 Pre_1 launch0 p0 e0 about1 theMethod args0 below0 :=
  ⟨lists_1, trivial, launch0.admits_env _ _ _, launch0.least_env, fairChoices_fair.cas, fairChoices_fair.clock, w_frames, w_args, w_heap, w_applies, trivial, trivial, w_case⟩
end start1
theorem witness_1 : WitnessClaimed_1 := ⟨start1.p0, start1.e0, start1.about1, start1.theMethod, start1.args0, start1.below0, start1.atStart⟩
end Jvm.Pilot.@@N@@
