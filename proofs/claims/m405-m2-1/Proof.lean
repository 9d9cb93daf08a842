import JvmDerived
import JvmDerived.Pilot.@@N@@Statement
import JvmDerived.Pilot.@@N@@Code
set_option linter.unusedVariables false
set_option linter.unusedSimpArgs false
@@BLOCK:NumsL.lean.txt@@
namespace Jvm.Pilot.@@N@@
open Jvm Jvm.ClassFile Sem Op Lib Jvm.Free Jvm.Stand Jvm.LawKit Jvm.RoadKit Bundle Jvm.Pilot.@@N@@.Jvm.D
open Jvm.Free.Fl (NoNaN64 Fin64 Nz64)
abbrev uu : Slot := .unset
abbrev ss : Slot := .second
abbrev vi (x : Int32) : Slot := .val (.int x)
abbrev vj (x : Int64) : Slot := .val (.long x)
abbrev vd (x : UInt64) : Slot := .val (.double x)
abbrev vr (x : Addr) : Slot := .val (.ref x)
/-- whatever is reached from here is reached from E -/
abbrev own_G (p : Program) (e : Env) (below : List Frame) (E T : State) (g : JFrame) : Prop := ∀ t, Steps p.tables e below (T.setTop g) t → Steps p.tables e below E t
theorem own_if_eqY {x : Int32} (h : x = 0) : ifCond.holds .eq x = true := by subst h; rfl
theorem own_if_eqN {x : Int32} (h : ¬ x = 0) : ifCond.holds .eq x = false := beq_false_of_ne h
theorem own_if_neY {x : Int32} (h : ¬ x = 0) : ifCond.holds .ne x = true := bne_iff_ne.mpr h
theorem own_if_neN {x : Int32} (h : x = 0) : ifCond.holds .ne x = false := by subst h; rfl
theorem own_if_ltY {x : Int32} (h : x < 0) : ifCond.holds .lt x = true := decide_eq_true h
theorem own_if_ltN {x : Int32} (h : ¬ x < 0) : ifCond.holds .lt x = false := decide_eq_false h
theorem own_if_geY {x : Int32} (h : ¬ x < 0) : ifCond.holds .ge x = true := decide_eq_true (Int32.not_lt.mp h)
theorem own_if_geN {x : Int32} (h : x < 0) : ifCond.holds .ge x = false := decide_eq_false (fun q => Int32.not_le.mpr h q)
theorem own_if_gtY {x : Int32} (h : 0 < x) : ifCond.holds .gt x = true := decide_eq_true h
theorem own_if_gtN {x : Int32} (h : ¬ 0 < x) : ifCond.holds .gt x = false := decide_eq_false h
theorem own_if_leY {x : Int32} (h : ¬ 0 < x) : ifCond.holds .le x = true := decide_eq_true (Int32.not_lt.mp h)
theorem own_if_leN {x : Int32} (h : 0 < x) : ifCond.holds .le x = false := decide_eq_false (fun q => Int32.not_le.mpr h q)
theorem own_ic_eqY {x y : Int32} (h : x = y) : if_icmp.holds .eq x y = true := beq_iff_eq.mpr h
theorem own_ic_eqN {x y : Int32} (h : ¬ x = y) : if_icmp.holds .eq x y = false := beq_false_of_ne h
theorem own_ic_neY {x y : Int32} (h : ¬ x = y) : if_icmp.holds .ne x y = true := bne_iff_ne.mpr h
theorem own_ic_neN {x y : Int32} (h : x = y) : if_icmp.holds .ne x y = false := by subst h; exact bne_self_eq_false x
theorem own_ic_ltY {x y : Int32} (h : x < y) : if_icmp.holds .lt x y = true := decide_eq_true h
theorem own_ic_ltN {x y : Int32} (h : ¬ x < y) : if_icmp.holds .lt x y = false := decide_eq_false h
theorem own_ic_geY {x y : Int32} (h : ¬ x < y) : if_icmp.holds .ge x y = true := decide_eq_true (Int32.not_lt.mp h)
theorem own_ic_geN {x y : Int32} (h : x < y) : if_icmp.holds .ge x y = false := decide_eq_false (fun q => Int32.not_le.mpr h q)
theorem own_ic_gtY {x y : Int32} (h : y < x) : if_icmp.holds .gt x y = true := decide_eq_true h
theorem own_ic_gtN {x y : Int32} (h : ¬ y < x) : if_icmp.holds .gt x y = false := decide_eq_false h
theorem own_ic_leY {x y : Int32} (h : ¬ y < x) : if_icmp.holds .le x y = true := decide_eq_true (Int32.not_lt.mp h)
theorem own_ic_leN {x y : Int32} (h : y < x) : if_icmp.holds .le x y = false := decide_eq_false (fun q => Int32.not_le.mpr h q)
/-- what a comparison of two whole or scaled values pushes -/
def own_c (i j : Int) : Int32 := if i < j then -1 else if i = j then 0 else 1
theorem own_cE (o : CmpOp) {x y : UInt64} {i j : Int} (h : FP.dcmp x y = some (compare i j)) : cmpValue (FP.dcmp x y) o = own_c i j := by
  rw [h, FP.Core.compare_ite, own_c]
  by_cases h1 : i < j
  · rw [if_pos h1, if_pos h1]; cases o <;> rfl
  · rw [if_neg h1, if_neg h1]
    by_cases h2 : i = j
    · rw [if_pos h2, if_pos h2]; cases o <;> rfl
    · rw [if_neg h2, if_neg h2]; cases o <;> rfl
theorem own_c_lt {i j : Int} (h : i < j) : own_c i j = -1 := by rw [own_c, if_pos h]
theorem own_c_eq {i j : Int} (h : i = j) : own_c i j = 0 := by rw [own_c, if_neg (by omega), if_pos h]
theorem own_c_gt {i j : Int} (h : j < i) : own_c i j = 1 := by rw [own_c, if_neg (by omega), if_neg (by omega)]
theorem own_c_cases (i j : Int) : (i < j ∧ own_c i j = -1) ∨ (i = j ∧ own_c i j = 0) ∨ (j < i ∧ own_c i j = 1) := by
  rcases Int.lt_trichotomy i j with h | h | h
  · exact Or.inl ⟨h, own_c_lt h⟩
  · exact Or.inr (Or.inl ⟨h, own_c_eq h⟩)
  · exact Or.inr (Or.inr ⟨h, own_c_gt h⟩)
theorem own_c_ltY {i j : Int} (h : i < j) : ifCond.holds .lt (own_c i j) = true := by rw [own_c_lt h]; rfl
theorem own_c_ltN {i j : Int} (h : ¬ i < j) : ifCond.holds .lt (own_c i j) = false := by rcases own_c_cases i j with q | q | q <;> first | exact absurd q.1 h | (rw [q.2]; rfl)
theorem own_c_geY {i j : Int} (h : ¬ i < j) : ifCond.holds .ge (own_c i j) = true := by rcases own_c_cases i j with q | q | q <;> first | exact absurd q.1 h | (rw [q.2]; rfl)
theorem own_c_geN {i j : Int} (h : i < j) : ifCond.holds .ge (own_c i j) = false := by rw [own_c_lt h]; rfl
theorem own_c_gtY {i j : Int} (h : j < i) : ifCond.holds .gt (own_c i j) = true := by rw [own_c_gt h]; rfl
theorem own_c_gtN {i j : Int} (h : ¬ j < i) : ifCond.holds .gt (own_c i j) = false := by rcases own_c_cases i j with q | q | q <;> first | exact absurd q.1 h | (rw [q.2]; rfl)
theorem own_c_leY {i j : Int} (h : ¬ j < i) : ifCond.holds .le (own_c i j) = true := by rcases own_c_cases i j with q | q | q <;> first | exact absurd q.1 h | (rw [q.2]; rfl)
theorem own_c_leN {i j : Int} (h : j < i) : ifCond.holds .le (own_c i j) = false := by rw [own_c_gt h]; rfl
theorem own_c_eqY {i j : Int} (h : i = j) : ifCond.holds .eq (own_c i j) = true := by rw [own_c_eq h]; rfl
theorem own_c_eqN {i j : Int} (h : ¬ i = j) : ifCond.holds .eq (own_c i j) = false := by rcases own_c_cases i j with q | q | q <;> first | exact absurd q.1 h | (rw [q.2]; rfl)
theorem own_c_neY {i j : Int} (h : ¬ i = j) : ifCond.holds .ne (own_c i j) = true := by rcases own_c_cases i j with q | q | q <;> first | exact absurd q.1 h | (rw [q.2]; rfl)
theorem own_c_neN {i j : Int} (h : i = j) : ifCond.holds .ne (own_c i j) = false := by rw [own_c_eq h]; rfl
theorem own_l_lt {i j : Int64} (h : i < j) : XT.cmpL i j = -1 := by
  rw [XT.cmpL, if_neg (fun q => Int64.lt_irrefl (Int64.lt_trans h q)), if_neg (fun q => Int64.lt_irrefl (q ▸ h))]
theorem own_l_eq {i j : Int64} (h : i = j) : XT.cmpL i j = 0 := by subst h; rw [XT.cmpL, if_neg Int64.lt_irrefl, if_pos rfl]
theorem own_l_gt {i j : Int64} (h : j < i) : XT.cmpL i j = 1 := by rw [XT.cmpL, if_pos h]
theorem own_l_cases (i j : Int64) : (i < j ∧ XT.cmpL i j = -1) ∨ (i = j ∧ XT.cmpL i j = 0) ∨ (j < i ∧ XT.cmpL i j = 1) := by
  by_cases h : i < j
  · exact Or.inl ⟨h, own_l_lt h⟩
  · by_cases h2 : i = j
    · exact Or.inr (Or.inl ⟨h2, own_l_eq h2⟩)
    · have h3 : j < i := by
        rw [Int64.lt_iff_toInt_lt] at h ⊢
        have h4 : i.toInt ≠ j.toInt := fun q => h2 (Int64.toInt_inj.mp q)
        omega
      exact Or.inr (Or.inr ⟨h3, own_l_gt h3⟩)
theorem own_l_ltY {i j : Int64} (h : i < j) : ifCond.holds .lt (XT.cmpL i j) = true := by rw [own_l_lt h]; rfl
theorem own_l_ltN {i j : Int64} (h : ¬ i < j) : ifCond.holds .lt (XT.cmpL i j) = false := by rcases own_l_cases i j with q | q | q <;> first | exact absurd q.1 h | (rw [q.2]; rfl)
theorem own_l_geY {i j : Int64} (h : ¬ i < j) : ifCond.holds .ge (XT.cmpL i j) = true := by rcases own_l_cases i j with q | q | q <;> first | exact absurd q.1 h | (rw [q.2]; rfl)
theorem own_l_geN {i j : Int64} (h : i < j) : ifCond.holds .ge (XT.cmpL i j) = false := by rw [own_l_lt h]; rfl
theorem own_l_gtY {i j : Int64} (h : j < i) : ifCond.holds .gt (XT.cmpL i j) = true := by rw [own_l_gt h]; rfl
theorem own_l_gtN {i j : Int64} (h : ¬ j < i) : ifCond.holds .gt (XT.cmpL i j) = false := by rcases own_l_cases i j with q | q | q <;> first | exact absurd q.1 h | (rw [q.2]; rfl)
theorem own_l_leY {i j : Int64} (h : ¬ j < i) : ifCond.holds .le (XT.cmpL i j) = true := by rcases own_l_cases i j with q | q | q <;> first | exact absurd q.1 h | (rw [q.2]; rfl)
theorem own_l_leN {i j : Int64} (h : j < i) : ifCond.holds .le (XT.cmpL i j) = false := by rw [own_l_gt h]; rfl
theorem own_l_eqY {i j : Int64} (h : i = j) : ifCond.holds .eq (XT.cmpL i j) = true := by rw [own_l_eq h]; rfl
theorem own_l_eqN {i j : Int64} (h : ¬ i = j) : ifCond.holds .eq (XT.cmpL i j) = false := by rcases own_l_cases i j with q | q | q <;> first | exact absurd q.1 h | (rw [q.2]; rfl)
theorem own_l_neY {i j : Int64} (h : ¬ i = j) : ifCond.holds .ne (XT.cmpL i j) = true := by rcases own_l_cases i j with q | q | q <;> first | exact absurd q.1 h | (rw [q.2]; rfl)
theorem own_l_neN {i j : Int64} (h : i = j) : ifCond.holds .ne (XT.cmpL i j) = false := by rw [own_l_eq h]; rfl
theorem own_ac_eq_Y {x y : Value} (h : x = y) : XT.acmp .eq x y = true := decide_eq_true h
theorem own_ac_eq_N {x y : Value} (h : ¬ x = y) : XT.acmp .eq x y = false := decide_eq_false h
theorem own_ac_ne_Y {x y : Value} (h : ¬ x = y) : XT.acmp .ne x y = true := decide_eq_true h
theorem own_ac_ne_N {x y : Value} (h : x = y) : XT.acmp .ne x y = false := decide_eq_false (fun q => q h)
theorem own_ar_eq_Y {x y : Addr} (h : x = y) : XT.acmp .eq (.ref x) (.ref y) = true := own_ac_eq_Y (congrArg Value.ref h)
theorem own_ar_eq_N {x y : Addr} (h : ¬ x = y) : XT.acmp .eq (.ref x) (.ref y) = false := own_ac_eq_N (fun q => h (Value.ref.inj q))
theorem own_ar_ne_Y {x y : Addr} (h : ¬ x = y) : XT.acmp .ne (.ref x) (.ref y) = true := own_ac_ne_Y (fun q => h (Value.ref.inj q))
theorem own_ar_ne_N {x y : Addr} (h : x = y) : XT.acmp .ne (.ref x) (.ref y) = false := own_ac_ne_N (congrArg Value.ref h)
/-- a static's object's field that the case names by a number -/
theorem own_ord {args : Array Value} {s : State} {t : Term} {C n d : String} {k : Int32} {x : Addr} (ev : t.eval args s none [] s = some (.ref x))
    (h : (Jvm.Cond.eq (Term.field t C n d) (Term.int k)).value args s none s [] = some true) : s.fieldOf? x C n d = some (.int k) := by
  obtain ⟨v, u, e1, e2, k1, k2⟩ := cmp_v (Or.inl h)
  have e3 : u = .int k := by have := (Term.int_eval (args := args) (first := s) (o := none) (idx := []) (s := s) k).symm.trans e2; exact (Option.some.inj this).symm
  subst e3
  obtain ⟨z, rfl⟩ := k2
  have q := gotT (Cond.eq_ints e1 e2) h
  rw [← fld_at ev, e1, q]
/-! doubles: exact values in units of the least double -/
def own_z (x : UInt64) : Int := FP.Core.zval FP.Core.b64 (FP.Core.val64 x)
theorem own_nn {i : Int} {x : UInt64} (h : FP.Core.DInt i x) : NoNaN64 x := Fl.val64_no.mpr (FP.Core.DInt_ne_nan h)
theorem own_cmpz {x y : UInt64} (hx : NoNaN64 x) (hy : NoNaN64 y) : FP.dcmp x y = some (compare (own_z x) (own_z y)) := FP.Core.dcmp_zval (Fl.val64_no.mp hx) (Fl.val64_no.mp hy)
theorem own_d0 : FP.Core.DInt 0 FP.dconst0 := by
  have h := FP.Core.l2d_int (a := 0) (by decide)
  rw [FP.Core.l2d_zero] at h; exact h
theorem own_d1 : FP.Core.DInt 1 FP.dconst1 := FP.Core.dint_one
theorem own_zi {i : Int} {x : UInt64} (h : FP.Core.DInt i x) : own_z x = i * (FP.Core.one64 : Int) := FP.Core.DInt_zval h
theorem own_fini {i : Int} {x : UInt64} (h : FP.Core.DInt i x) : Fin64 x := by
  have h' : FP.Core.Whole i (FP.Core.val64 x) := h
  cases hv : FP.Core.val64 x with
  | nan => rw [hv] at h'; exact h'.elim
  | inf s => rw [hv] at h'; exact h'.elim
  | fin s c q => exact Fl.fin64_core.mpr ⟨s, c, q, hv⟩
theorem own_one : (0 : Int) < (FP.Core.one64 : Int) := by have := FP.Core.one64_pos; omega
theorem own_nz {x : UInt64} (h : own_z x ≠ 0) : Nz64 x := Fl.nz64_core.mpr fun ⟨s, q, e⟩ => h (by
  show FP.Core.zval FP.Core.b64 (FP.Core.val64 x) = 0
  rw [e]; show FP.Core.signed s (0 * _) = 0; rw [Nat.zero_mul]; cases s <;> rfl)
theorem own_nzi {i : Int} {x : UInt64} (h : FP.Core.DInt i x) (hi : i ≠ 0) : Nz64 x := own_nz (by
  rw [own_zi h]; intro q; rcases Int.mul_eq_zero.mp q with r | r
  · exact hi r
  · have := own_one; omega)
theorem own_zn (x : UInt64) : (own_z x).natAbs = FP.Core.zmag FP.Core.b64 (FP.Core.val64 x) := FP.Core.natAbs_signed _ _
/-- the quotient, by the two values alone -/
theorem own_quot {x y : UInt64} (hx : Fin64 x) (hy : Fin64 y) (hz : own_z y ≠ 0) :
    FP.Core.val64 (FP.ddiv x y) = FP.Core.roundRatio FP.Core.b64 (FP.Core.sgn (FP.Core.val64 x) != FP.Core.sgn (FP.Core.val64 y)) (own_z x).natAbs (own_z y).natAbs 0 := by
  obtain ⟨s, c, q, ex⟩ := Fl.fin64_core.mp hx
  obtain ⟨t, d, r, ey⟩ := Fl.fin64_core.mp hy
  have fx : FP.Core.fits FP.Core.b64 (.fin s c q) := ex ▸ FP.Core.val64_fits x
  have fy : FP.Core.fits FP.Core.b64 (.fin t d r) := ey ▸ FP.Core.val64_fits y
  have hd : d ≠ 0 := fun h => hz (by
    show FP.Core.zval FP.Core.b64 (FP.Core.val64 y) = 0
    rw [ey, h]; show FP.Core.signed t (0 * _) = 0; rw [Nat.zero_mul]; cases t <;> rfl)
  rw [own_zn, own_zn, show FP.ddiv x y = FP.Core.ddiv x y from rfl, FP.Core.val64_ddiv, ex, ey]
  show (if d = 0 then _ else FP.Core.roundRatio FP.Core.b64 (s != t) c d (q - r)) = FP.Core.roundRatio FP.Core.b64 (s != t) (c * 2 ^ (q - FP.Core.b64.qmin).toNat) (d * 2 ^ (r - FP.Core.b64.qmin).toNat) 0
  rw [if_neg hd]
  refine FP.Core.roundRatio_congr (Nat.pos_of_ne_zero hd) (Nat.mul_pos (Nat.pos_of_ne_zero hd) (Nat.two_pow_pos _)) ?_
  have h1 := fx.2.1
  have h2 := fy.2.1
  have e1 : (r - FP.Core.b64.qmin).toNat + (q - r - 0).toNat = (q - FP.Core.b64.qmin).toNat + (0 - (q - r)).toNat := by omega
  calc c * (d * 2 ^ (r - FP.Core.b64.qmin).toNat) * 2 ^ (q - r - 0).toNat = c * d * (2 ^ (r - FP.Core.b64.qmin).toNat * 2 ^ (q - r - 0).toNat) := by
        rw [Nat.mul_assoc, Nat.mul_assoc, Nat.mul_assoc]
    _ = c * d * (2 ^ (q - FP.Core.b64.qmin).toNat * 2 ^ (0 - (q - r)).toNat) := by rw [← Nat.pow_add, ← Nat.pow_add, e1]
    _ = c * 2 ^ (q - FP.Core.b64.qmin).toNat * d * 2 ^ (0 - (q - r)).toNat := by
        rw [Nat.mul_right_comm c _ d, Nat.mul_assoc (c * d)]
theorem own_noNaN_of {x : UInt64} {s : Bool} {A B : Nat} {e : Int} (h : FP.Core.val64 x = FP.Core.roundRatio FP.Core.b64 s A B e) : NoNaN64 x :=
  Fl.val64_no.mpr (h ▸ FP.Core.roundRatio_ne_nan _ _ _ _ _)
theorem own_div_nn {x y : UInt64} (hx : Fin64 x) (hy : Fin64 y) (hz : own_z y ≠ 0) : NoNaN64 (FP.ddiv x y) := Fl.ddiv_out hx.noNaN hy (own_nz hz)
/-- what is rounded below (above) a double stays there -/
theorem own_rr_le {s : Bool} {A B : Nat} {V : UInt64} (hB : 0 < B) (hV : NoNaN64 V) (h : A * FP.Core.one64 ≤ (own_z V).natAbs * B) :
    FP.Core.zmag FP.Core.b64 (FP.Core.roundRatio FP.Core.b64 s A B 0) ≤ (own_z V).natAbs := by
  rw [own_zn] at h ⊢
  refine FP.Core.zmag_roundRatio_le FP.Core.good_b64 hB (FP.Core.val64_fits V) (Fl.val64_no.mp hV) (e0 := FP.Core.b64.qmin) (Int.le_refl _) (by decide +kernel) ?_
  rw [Int.sub_self]
  show A * 2 ^ (0 - FP.Core.b64.qmin).toNat ≤ _ * 1 * B
  rw [Nat.mul_one, Int.zero_sub, FP.Core.pow_qmin64]; exact h
theorem own_rr_ge {s : Bool} {A B : Nat} {V : UInt64} (hB : 0 < B) (h : (own_z V).natAbs * B ≤ A * FP.Core.one64) :
    (own_z V).natAbs ≤ FP.Core.zmag FP.Core.b64 (FP.Core.roundRatio FP.Core.b64 s A B 0) := by
  rw [own_zn] at h ⊢
  refine FP.Core.zmag_roundRatio_ge FP.Core.good_b64 hB (FP.Core.val64_fits V) (e0 := FP.Core.b64.qmin) (Int.le_refl _) (by decide +kernel) ?_
  rw [Int.sub_self]
  show _ * 1 * B ≤ A * 2 ^ (0 - FP.Core.b64.qmin).toNat
  rw [Nat.mul_one, Int.zero_sub, FP.Core.pow_qmin64]; exact h
theorem own_z_signed {x : UInt64} {s : Bool} {A B : Nat} (h : FP.Core.val64 x = FP.Core.roundRatio FP.Core.b64 s A B 0) :
    own_z x = FP.Core.signed s (FP.Core.zmag FP.Core.b64 (FP.Core.roundRatio FP.Core.b64 s A B 0)) := by
  show FP.Core.signed _ _ = _
  rw [h, FP.Core.sgn_roundRatio]
/-- a quotient of two that are not below nought -/
theorem own_div_ge0 {x y : UInt64} (hx : Fin64 x) (hy : Fin64 y) (hz : own_z y ≠ 0) (h0 : 0 ≤ own_z x) (h1 : 0 ≤ own_z y) : 0 ≤ own_z (FP.ddiv x y) := by
  have hq := own_quot hx hy hz
  rw [own_z_signed hq]
  cases hs : (FP.Core.sgn (FP.Core.val64 x) != FP.Core.sgn (FP.Core.val64 y)) with
  | false => exact Int.natCast_nonneg _
  | true =>
    have hy2 : FP.Core.sgn (FP.Core.val64 y) = false := by
      cases hs2 : FP.Core.sgn (FP.Core.val64 y) with
      | false => rfl
      | true =>
        exfalso; have : own_z y = -(FP.Core.zmag FP.Core.b64 (FP.Core.val64 y) : Int) := by show FP.Core.signed _ _ = _; rw [hs2]; rfl
        omega
    have hx2 : FP.Core.sgn (FP.Core.val64 x) = true := by rw [hy2] at hs; simpa using hs
    have hx3 : own_z x = -(FP.Core.zmag FP.Core.b64 (FP.Core.val64 x) : Int) := by show FP.Core.signed _ _ = _; rw [hx2]; rfl
    have hx4 : (own_z x).natAbs = 0 := by omega
    rw [hx4, FP.Core.roundRatio, if_pos rfl]
    show 0 ≤ FP.Core.signed true (0 * _); rw [Nat.zero_mul]; decide
theorem own_div_le {x y V : UInt64} (hx : Fin64 x) (hy : Fin64 y) (hz : own_z y ≠ 0) (hV : NoNaN64 V) (h0 : 0 ≤ own_z x) (h1 : 0 ≤ own_z y) (h2 : 0 ≤ own_z V)
    (h : own_z x * (FP.Core.one64 : Int) ≤ own_z V * own_z y) : own_z (FP.ddiv x y) ≤ own_z V := by
  have hq := own_quot hx hy hz
  have hge := own_div_ge0 hx hy hz h0 h1
  have hB : 0 < (own_z y).natAbs := by omega
  have h3 : (own_z x).natAbs * FP.Core.one64 ≤ (own_z V).natAbs * (own_z y).natAbs := by
    have e1 : ((own_z x).natAbs : Int) = own_z x := by omega
    have e2 : ((own_z y).natAbs : Int) = own_z y := by omega
    have e3 : ((own_z V).natAbs : Int) = own_z V := by omega
    have : (((own_z x).natAbs * FP.Core.one64 : Nat) : Int) ≤ (((own_z V).natAbs * (own_z y).natAbs : Nat) : Int) := by
      rw [Int.natCast_mul, Int.natCast_mul, e1, e2, e3]; exact h
    exact Int.ofNat_le.mp this
  have := own_rr_le (s := FP.Core.sgn (FP.Core.val64 x) != FP.Core.sgn (FP.Core.val64 y)) hB hV h3
  have h4 : (own_z (FP.ddiv x y)).natAbs ≤ (own_z V).natAbs := by rw [own_zn, hq]; exact this
  omega
/-- two doubles of the same whole value compare as equal -/
theorem own_eq0 {x y : UInt64} {i : Int} (o : CmpOp) (hx : FP.Core.DInt i x) (hy : FP.Core.DInt i y) : cmpValue (FP.dcmp x y) o = 0 := by
  rw [own_cE o (FP.Core.dcmp_int hx hy), own_c_eq rfl]
theorem own_mb {a b A B : Int} (h1 : -A ≤ a) (h2 : a ≤ A) (h3 : -B ≤ b) (h4 : b ≤ B) (h : A * B ≤ 9007199254740992) : (a * b).natAbs ≤ 2 ^ 53 := by
  rw [Int.natAbs_mul]
  have e1 : a.natAbs ≤ A.toNat := by omega
  have e2 : b.natAbs ≤ B.toNat := by omega
  have e3 : a.natAbs * b.natAbs ≤ A.toNat * B.toNat := Nat.mul_le_mul e1 e2
  have e4 : ((A.toNat * B.toNat : Nat) : Int) = A * B := by rw [Int.natCast_mul, Int.toNat_of_nonneg (by omega), Int.toNat_of_nonneg (by omega)]
  have e5 : (2 : Nat) ^ 53 = 9007199254740992 := by decide
  omega
theorem own_dl (a : Int64) {i : Int} (h : a.toInt = i) (hb : i.natAbs ≤ 2 ^ 53) : FP.Core.DInt i (FP.l2d a) := by subst h; exact FP.Core.l2d_int hb
theorem own_lm {a b : Int64} (h : (a.toInt * b.toInt).natAbs ≤ 2 ^ 53) : (a * b).toInt = a.toInt * b.toInt := by
  have e5 : (2 : Nat) ^ 53 = 9007199254740992 := by decide
  exact Jvm.Kit.i64_mul (by omega) (by omega)
theorem own_sgn_mul {s t : Bool} {b : Nat} {k : Int} (hb : 0 < b) (h : FP.Core.signed s (k.natAbs * b) = k * FP.Core.signed t b) : FP.Core.signed (s != t) k.natAbs = k := by
  have hb' : (0 : Int) < (b : Int) := by omega
  have e : ((k.natAbs * b : Nat) : Int) = (k.natAbs : Int) * (b : Int) := Int.natCast_mul _ _
  have key : ∀ z : Int, (k.natAbs : Int) * (b : Int) = z * (b : Int) → (k.natAbs : Int) = z := fun z q => Int.eq_of_mul_eq_mul_right (by omega) q
  cases s <;> cases t
  · show (k.natAbs : Int) = k
    apply key; rw [← e]; exact h
  · show -(k.natAbs : Int) = k
    have h' : ((k.natAbs * b : Nat) : Int) = k * -(b : Int) := h
    have := key (-k) (by rw [← e, h', Int.mul_neg, Int.neg_mul]); omega
  · show -(k.natAbs : Int) = k
    have h' : -((k.natAbs * b : Nat) : Int) = k * (b : Int) := h
    have := key (-k) (by rw [← e, Int.neg_mul, ← h', Int.neg_neg]); omega
  · show (k.natAbs : Int) = k
    have h' : -((k.natAbs * b : Nat) : Int) = k * -(b : Int) := h
    apply key; rw [← e]
    have : -((k.natAbs * b : Nat) : Int) = -(k * (b : Int)) := by rw [h', Int.mul_neg]
    omega
/-- a quotient of whole values that comes out even -/
theorem own_ddiv_int {k j : Int} {x y : UInt64} (hx : FP.Core.DInt (k * j) x) (hy : FP.Core.DInt j y) (hj : j ≠ 0) (hk : k.natAbs ≤ 2 ^ 53) : FP.Core.DInt k (FP.ddiv x y) := by
  have zx := own_zi hx
  have zy := own_zi hy
  have hz : own_z y ≠ 0 := by rw [zy]; exact Int.mul_ne_zero hj (by have := own_one; omega)
  have hq := own_quot (own_fini hx) (own_fini hy) hz
  have ha : (own_z x).natAbs = k.natAbs * (own_z y).natAbs := by rw [zx, zy, Int.mul_assoc, Int.natAbs_mul]
  have hb : 0 < (own_z y).natAbs := by omega
  show FP.Core.Whole k (FP.Core.val64 (FP.ddiv x y))
  rw [hq, ha, FP.Core.roundRatio_congr (A' := k.natAbs) (B' := 1) (e' := 0) hb (by decide) (by rw [Nat.mul_one])]
  refine FP.Core.whole_round FP.Core.good_b64 FP.Core.wide_b64 hk (d := .fin (FP.Core.sgn (FP.Core.val64 x) != FP.Core.sgn (FP.Core.val64 y)) k.natAbs 0) ?_
  show FP.Core.signed _ (k.natAbs * 1) = k * ((1 : Nat) : Int)
  rw [Nat.mul_one, show ((1 : Nat) : Int) = 1 from rfl, Int.mul_one]
  refine own_sgn_mul hb ?_
  have e1 : FP.Core.signed (FP.Core.sgn (FP.Core.val64 x)) (own_z x).natAbs = own_z x := by rw [own_zn]; rfl
  have e2 : FP.Core.signed (FP.Core.sgn (FP.Core.val64 y)) (own_z y).natAbs = own_z y := by rw [own_zn]; rfl
  rw [← ha, e1, e2, zx, zy, Int.mul_assoc]
theorem own_zmag_s (s : Bool) (A B : Nat) (e : Int) : FP.Core.zmag FP.Core.b64 (FP.Core.roundRatio FP.Core.b64 s A B e) = FP.Core.zmag FP.Core.b64 (FP.Core.roundRatio FP.Core.b64 false A B e) := by
  cases s with
  | false => rfl
  | true =>
    rw [show FP.Core.roundRatio FP.Core.b64 true A B e = FP.Core.negate (FP.Core.roundRatio FP.Core.b64 false A B e) from (FP.Core.negate_roundRatio FP.Core.b64 false A B e).symm]
    cases FP.Core.roundRatio FP.Core.b64 false A B e <;> rfl
theorem own_div_n {x y : UInt64} (hx : Fin64 x) (hy : Fin64 y) (hz : own_z y ≠ 0) : (own_z (FP.ddiv x y)).natAbs = FP.Core.zmag FP.Core.b64 (FP.Core.roundRatio FP.Core.b64 false (own_z x).natAbs (own_z y).natAbs 0) := by
  rw [own_zn, own_quot hx hy hz, own_zmag_s]
/-- two quotients of the same ratio, none below nought -/
theorem own_div_congr {x y x' y' : UInt64} (hx : Fin64 x) (hy : Fin64 y) (hz : own_z y ≠ 0) (hx' : Fin64 x') (hy' : Fin64 y') (hz' : own_z y' ≠ 0)
    (g1 : 0 ≤ own_z x) (g2 : 0 ≤ own_z y) (g3 : 0 ≤ own_z x') (g4 : 0 ≤ own_z y') (h : own_z x * own_z y' = own_z x' * own_z y) : own_z (FP.ddiv x y) = own_z (FP.ddiv x' y') := by
  have e1 := own_div_n hx hy hz
  have e2 := own_div_n hx' hy' hz'
  have k1 := own_div_ge0 hx hy hz g1 g2
  have k2 := own_div_ge0 hx' hy' hz' g3 g4
  have h' : (own_z x).natAbs * (own_z y').natAbs = (own_z x').natAbs * (own_z y).natAbs := by rw [← Int.natAbs_mul, ← Int.natAbs_mul, h]
  rw [FP.Core.roundRatio_congr (A' := (own_z x').natAbs) (B' := (own_z y').natAbs) (e' := 0) (by omega) (by omega) (by rw [h'])] at e1
  omega
/-- m * 2^k units is a double -/
theorem own_rep (m k : Nat) (hm : m < 2 ^ 53) (hk : k ≤ 2045) : ∃ V : UInt64, Fin64 V ∧ own_z V = ((m * 2 ^ k : Nat) : Int) := by
  have hq : FP.Core.b64.qmin = -1074 := FP.Core.qmin_b64
  have hq2 : FP.Core.b64.qmax = 971 := by decide
  obtain ⟨c, q, e1, e2⟩ := FP.Core.round_exact FP.Core.good_b64 false (c := m) (q := (k : Int) - 1074) hm (by rw [hq]; omega) (by rw [hq2]; omega)
  have hv : FP.Core.val64 (FP.Core.of64 (FP.Core.round FP.Core.b64 (.fin false m ((k : Int) - 1074)))) = .fin false c q := by
    rw [FP.Core.val64_of64 (FP.Core.round_fits FP.Core.good_b64 _), e1]
  refine ⟨_, Fl.fin64_core.mpr ⟨_, _, _, hv⟩, ?_⟩
  show FP.Core.zval FP.Core.b64 _ = _
  rw [hv]
  show ((FP.Core.inUnits c q FP.Core.b64.qmin : Nat) : Int) = _
  rw [e2, FP.Core.inUnits, hq, show ((k : Int) - 1074 - -1074).toNat = k by omega]
/-- a quotient that comes out even in some binary place -/
theorem own_div_exact {x y : UInt64} (hx : Fin64 x) (hy : Fin64 y) (hz : own_z y ≠ 0) (g1 : 0 ≤ own_z x) (g2 : 0 ≤ own_z y) (m k : Nat) (hm : m < 2 ^ 53) (hk : k ≤ 2045)
    (h : own_z x * (FP.Core.one64 : Int) = ((m * 2 ^ k : Nat) : Int) * own_z y) : own_z (FP.ddiv x y) = ((m * 2 ^ k : Nat) : Int) := by
  obtain ⟨V, fV, zV⟩ := own_rep m k hm hk
  have k1 := own_div_ge0 hx hy hz g1 g2
  have e1 := own_div_n hx hy hz
  have h3 : (own_z x).natAbs * FP.Core.one64 = (own_z V).natAbs * (own_z y).natAbs := by
    have := congrArg Int.natAbs h
    rw [Int.natAbs_mul, Int.natAbs_mul, ← zV] at this
    exact this
  have l1 := own_rr_le (s := false) (A := (own_z x).natAbs) (B := (own_z y).natAbs) (V := V) (by omega) fV.noNaN (Nat.le_of_eq h3)
  have l2 := own_rr_ge (s := false) (A := (own_z x).natAbs) (B := (own_z y).natAbs) (V := V) (by omega) (Nat.le_of_eq h3.symm)
  omega
theorem own_eqz {x y : UInt64} (o : CmpOp) (hx : NoNaN64 x) (hy : NoNaN64 y) (h : own_z x = own_z y) : cmpValue (FP.dcmp x y) o = 0 := by
  rw [own_cE o (own_cmpz hx hy), own_c_eq h]
theorem own_ge0 {x : UInt64} (h : 0 ≤ own_z x) : ¬ own_z x < own_z FP.dconst0 := by rw [own_zi own_d0, Int.zero_mul]; exact Int.not_lt.mpr h
theorem own_le1 {x : UInt64} (h : own_z x ≤ own_z FP.dconst1) : ¬ own_z FP.dconst1 < own_z x := Int.not_lt.mpr h
theorem own_M (p : Int32) : 1 ≤ ((p &&& (1023 : Int32)) + (1 : Int32)).toInt ∧ ((p &&& (1023 : Int32)) + (1 : Int32)).toInt ≤ 1024 := by
  have h := Jvm.Kit.i32_mask p 1023 (k := 10) (by decide) (by decide)
  have h2 : ((p &&& (1023 : Int32)) + (1 : Int32)).toInt = (p &&& (1023 : Int32)).toInt + 1 := Jvm.Kit.i32_add (q := 1) (by rw [h]; show _ ≤ _ + (1 : Int); omega) (by rw [h]; show _ + (1 : Int) < _; omega)
  omega
theorem own_M2 {M : Int32} (h : 1 ≤ M.toInt ∧ M.toInt ≤ 1024) : (M + (1 : Int32)).toInt = M.toInt + 1 := Jvm.Kit.i32_add (q := 1) (by show _ ≤ _ + (1 : Int); omega) (by show _ + (1 : Int) < _; omega)
theorem own_M1 {M : Int32} (h : 1 ≤ M.toInt ∧ M.toInt ≤ 1024) : M + (1 : Int32) ≠ 0 := fun q => by
  have := own_M2 h; rw [q] at this; have e : (0 : Int32).toInt = 0 := rfl; omega
theorem own_K {M : Int32} (p : Int32) (h : 1 ≤ M.toInt ∧ M.toInt ≤ 1024) : 0 ≤ ((p &&& (2147483647 : Int32)) % (M + (1 : Int32))).toInt ∧ ((p &&& (2147483647 : Int32)) % (M + (1 : Int32))).toInt ≤ M.toInt := by
  have h1 := Jvm.Kit.i32_mask p 2147483647 (k := 31) (by decide) (by decide)
  rw [Jvm.Kit.i32_rem_nonneg (by omega), own_M2 h]
  have h2 := Int.emod_lt_of_pos (p &&& (2147483647 : Int32)).toInt (show 0 < M.toInt + 1 by omega)
  exact ⟨Int.emod_nonneg _ (by omega), by omega⟩
theorem own_pl (a b : Int32) (h : (a.toInt * b.toInt).natAbs ≤ 2 ^ 53) : FP.Core.DInt (a.toInt * b.toInt) (FP.l2d (a.toInt64 * b.toInt64)) := by
  have h1 := own_lm (a := a.toInt64) (b := b.toInt64) (by rw [Jvm.Kit.i64_of_i32, Jvm.Kit.i64_of_i32]; exact h)
  rw [Jvm.Kit.i64_of_i32, Jvm.Kit.i64_of_i32] at h1
  exact own_dl _ h1 h

theorem own_i32b (p : Int32) : -2147483648 ≤ p.toInt ∧ p.toInt ≤ 2147483648 := by
  have h1 := Int32.le_toInt p; have h2 := Int32.toInt_lt p; omega
theorem own_b51 {k y z : Int} (hk : -2147483648 ≤ k ∧ k ≤ 2147483648) (hy : 1 ≤ y ∧ y ≤ 1024) (hz : 0 ≤ z ∧ z ≤ y) : (k * y * (y - z)).natAbs ≤ 2 ^ 53 := by
  rw [Int.natAbs_mul, Int.natAbs_mul]
  have e : k.natAbs * y.natAbs * (y - z).natAbs ≤ 2147483648 * 1024 * 1024 := Nat.mul_le_mul (Nat.mul_le_mul (by omega) (by omega)) (by omega)
  have e5 : (2 : Nat) ^ 53 = 9007199254740992 := by decide
  omega
theorem own_b41 {k y z : Int} (hk : -2147483648 ≤ k ∧ k ≤ 2147483648) (hy : 1 ≤ y ∧ y ≤ 1024) (hz : 0 ≤ z ∧ z ≤ y) : (k * (y - z)).natAbs ≤ 2 ^ 53 := by
  rw [Int.natAbs_mul]
  have e : k.natAbs * (y - z).natAbs ≤ 2147483648 * 1024 := Nat.mul_le_mul (by omega) (by omega)
  have e5 : (2 : Nat) ^ 53 = 9007199254740992 := by decide
  omega
theorem own_b41b (p : Int32) {Y : Int32} (hy : 1 ≤ Y.toInt ∧ Y.toInt ≤ 1024) : (p.toInt * Y.toInt).natAbs ≤ 2 ^ 53 := by
  have := own_b41 (own_i32b p) hy (z := 0) ⟨Int.le_refl _, by omega⟩
  rwa [Int.sub_zero] at this
theorem own_pl2 (p : Int32) {Y P : Int32} (hy : 1 ≤ Y.toInt ∧ Y.toInt ≤ 1024) (hp : 0 ≤ P.toInt ∧ P.toInt ≤ Y.toInt) : FP.Core.DInt (p.toInt * (Y.toInt - P.toInt)) (FP.l2d (p.toInt64 * (Y - P).toInt64)) := by
  have yz : (Y - P).toInt = Y.toInt - P.toInt := Jvm.Kit.i32_sub (by omega) (by omega)
  have := own_pl p (Y - P) (by rw [yz]; exact own_b41 (own_i32b p) hy hp)
  rwa [yz] at this

def Qrm1 (Z : State) (a : Addr) (v : UInt64) (y : Int32) (z : Int32) (q : Addr) (k : Int) (h0 : Heap) (n0 : Nat) (vQ : Option Value) (hQ : Heap) (LQ : List Loc) : Prop := ∃ (r : UInt64), vQ = some (.double r) ∧ Fr n0 LQ ∧ hQ = h0 ∧ ((a = q → FP.Core.DInt (k * (y.toInt - z.toInt)) r) ∧ (¬ a = q → r = v))
theorem ef_rm1 (m : MethodId) (a : Addr) (v : UInt64) (y : Int32) (z : Int32) (q : Addr) (k : Int) : entryFrame m #[(.ref a), (.double v), (.int y), (.int z)] 7 = mkF m 0 #[vr a, vd v, ss, vi y, vi z, uu, uu] [] := by first | (simp [entryFrame, mkF, argsToLocals, Value.category]; done) | rfl
abbrev mn0 : MethodName := ⟨"com/example/capwright/capwright/residual/RecaptureMethod", "capitalLeft", "(DII)D"⟩
theorem pn_com_example_capwright_capwright_residual_RecaptureMethod : plainName "com/example/capwright/capwright/residual/RecaptureMethod" = true := by first | (simp [plainName, overriddenIn]; done) | decide +kernel
theorem d_prog_92_method_6_code_0 : decode prog_92_method_6_code 0 = .ok (.aload_n 0, 1) := by decide +kernel
theorem d_prog_92_method_6_code_1 : decode prog_92_method_6_code 1 = .ok (.getstatic 3, 3) := by decide +kernel
def tw9 {Z : State} {a0 : Array Value} (hw : ∀ d ∈ tables_1, d.before a0 Z = true) := hw _ (List.mem_of_getElem? (i := 9) rfl)
theorem d_prog_92_method_6_code_4 : decode prog_92_method_6_code 4 = .ok (.if_acmp .ne 18, 3) := by decide +kernel
theorem d_prog_92_method_6_code_7 : decode prog_92_method_6_code 7 = .ok (.dload_n 1, 1) := by decide +kernel
theorem d_prog_92_method_6_code_8 : decode prog_92_method_6_code 8 = .ok (.iload_n 3, 1) := by decide +kernel
theorem d_prog_92_method_6_code_9 : decode prog_92_method_6_code 9 = .ok (.iload 4, 2) := by decide +kernel
theorem d_prog_92_method_6_code_11 : decode prog_92_method_6_code 11 = .ok (.isub, 1) := by decide +kernel
theorem d_prog_92_method_6_code_12 : decode prog_92_method_6_code 12 = .ok (.i2d, 1) := by decide +kernel
theorem d_prog_92_method_6_code_13 : decode prog_92_method_6_code 13 = .ok (.dmul, 1) := by decide +kernel
theorem d_prog_92_method_6_code_14 : decode prog_92_method_6_code 14 = .ok (.iload_n 3, 1) := by decide +kernel
theorem d_prog_92_method_6_code_15 : decode prog_92_method_6_code 15 = .ok (.i2d, 1) := by decide +kernel
theorem d_prog_92_method_6_code_16 : decode prog_92_method_6_code 16 = .ok (.ddiv, 1) := by decide +kernel
theorem d_prog_92_method_6_code_17 : decode prog_92_method_6_code 17 = .ok (.dstore 5, 2) := by decide +kernel
theorem d_prog_92_method_6_code_19 : decode prog_92_method_6_code 19 = .ok (.goto 6, 3) := by decide +kernel
theorem d_prog_92_method_6_code_25 : decode prog_92_method_6_code 25 = .ok (.dload 5, 2) := by decide +kernel
theorem d_prog_92_method_6_code_27 : decode prog_92_method_6_code 27 = .ok (.dreturn, 1) := by decide +kernel
theorem d_prog_92_method_6_code_22 : decode prog_92_method_6_code 22 = .ok (.dload_n 1, 1) := by decide +kernel
theorem d_prog_92_method_6_code_23 : decode prog_92_method_6_code 23 = .ok (.dstore 5, 2) := by decide +kernel
set_option maxRecDepth 65536 in
set_option maxHeartbeats 40000000 in
theorem rm1 (l : Launch) (Z : State) (a0 : Array Value) (hw : ∀ d ∈ tables_1, d.before a0 Z = true) (ws : List Jvm.Cond) (a : Addr) (v : UInt64) (y : Int32) (z : Int32) (q : Addr) (k : Int) (h0 : Heap) (n0 : Nat) (Z0 : n0 ≤ h0.size) (S1 : Sta Z h0 "com/example/capwright/capwright/residual/RecaptureMethod" "STRAIGHT_LINE" "Lcom/example/capwright/capwright/residual/RecaptureMethod;" (.ref q)) (Dv : FP.Core.DInt (k * y.toInt) v) (bk : -2147483648 ≤ k ∧ k ≤ 2147483648) (by1 : 1 ≤ y.toInt ∧ y.toInt ≤ 1024) (bz : 0 ≤ z.toInt ∧ z.toInt ≤ y.toInt) :
    MetFree l mn0 (head1 (Jvm.Cond.code mn0 prog_92_method_6_code 7 (some .double) :: ws) ({ frames := 0, cells := 0, slots := 0, locals := 0 } : Room)) (fun aA U => aA = #[(.ref a), (.double v), (.int y), (.int z)] ∧ Z.Warmed39 U.vm ∧ U.heap = h0) (fun _ _ _ _ _ => True) (fun _ U o U' => ∃ vR LR, o = .returned vR ∧ Qrm1 Z a v y z q k h0 n0 vR U'.heap LR ∧ FrameEnd U o U' LR ({ frames := 0, cells := 0, slots := 0, locals := 0 } : Room).cells ({ frames := 0, cells := 0, slots := 0, locals := 0 } : Room).slots) := by
  refine MetFree.of_bodySF (plainFor_of_name pn_com_example_capwright_capwright_residual_RecaptureMethod) hisR ?_
  intro p e s m args below meth c s₁ Bd hml0 hPre hKk
  obtain ⟨rfl, hZ, hh⟩ := hPre
  have hx := Bd.exec
  have hby := Bd.bytes
  have hml : c.maxLocals = 7 := hml0
  have hown : s.vm.findClass "com/example/capwright/capwright/residual/RecaptureMethod" = some m.cls := findClass_of_methodNamed Bd.named
  have hnm := (name_of_methodNamed Bd.named Bd.method).1
  have X0 : Stand p l e ({ frames := 0, cells := 0, slots := 0, locals := 0 } : Room) s m #[(.ref a), (.double v), (.int y), (.int z)] below meth c s₁ [] 0 0 := Stand.of_body Bd
  have e0 : s₁.heap = h0 := by rw [← hh, Bd.state]; rfl
  have N0 := Fr.nil n0
  obtain ⟨E0, hE0⟩ : ∃ zE : State, zE = s₁.setTop (entryFrame m #[(.ref a), (.double v), (.int y), (.int z)] 7) := ⟨_, rfl⟩
  have k0 : own_G p e below E0 s₁ (mkF m 0 #[vr a, vd v, ss, vi y, vi z, uu, uu] []) := fun tz kz => hE0 ▸ castTop (ef_rm1 m a v y z q k) kz
  have k1 : own_G p e below E0 s₁ (mkF m 1 #[vr a, vd v, ss, vi y, vi z, uu, uu] [(.ref a)]) := by
    intro t kk
    refine k0 t ?_
    refine XS.aloadN X0.here hx rfl (hb hby d_prog_92_method_6_code_0) rfl rfl ?_
    exact kk
  obtain ⟨T2, X3, e4, st5⟩ := getS X0 hx hZ hown (host := "") (tw9 hw) Via.refl e0 S1 (g := (mkF m 1 #[vr a, vd v, ss, vi y, vi z, uu, uu] [(.ref a)])) rfl (hb hby d_prog_92_method_6_code_1)
  have k6 : own_G p e below E0 T2 (mkF m 4 #[vr a, vd v, ss, vi y, vi z, uu, uu] [(.ref q), (.ref a)]) := fun t kk => k1 t (st5 _ kk)
  by_cases cq : a = q
  · skip
    have yz : (y - z).toInt = y.toInt - z.toInt := Jvm.Kit.i32_sub (by omega) (by omega)
    have D1 := FP.Core.i2d_int (y - z)
    rw [yz] at D1
    have D2 : FP.Core.DInt (k * y.toInt * (y.toInt - z.toInt)) (FP.dmul v (FP.i2d (y - z))) := FP.Core.dmul_int Dv D1 (own_b51 bk by1 bz)
    have D3 : FP.Core.DInt (k * (y.toInt - z.toInt)) (FP.ddiv (FP.dmul v (FP.i2d (y - z))) (FP.i2d y)) := own_ddiv_int (by rw [show k * (y.toInt - z.toInt) * y.toInt = k * y.toInt * (y.toInt - z.toInt) by rw [Int.mul_right_comm]]; exact D2) (FP.Core.i2d_int y) (by omega) (own_b41 bk by1 bz)
    have k8 : own_G p e below E0 T2 (mkF m 27 #[vr a, vd v, ss, vi y, vi z, vd (FP.ddiv (FP.dmul v (FP.i2d (y - z))) (FP.i2d y)), ss] [(.double (FP.ddiv (FP.dmul v (FP.i2d (y - z))) (FP.i2d y)))]) := by
      intro t kk
      refine k6 t ?_
      refine XT.acmpNo X3.here hx rfl (hb hby d_prog_92_method_6_code_4) rfl rfl rfl (own_ar_ne_N cq) ?_
      refine XS.dloadN X3.here hx rfl (hb hby d_prog_92_method_6_code_7) rfl ?_
      refine XS.iloadN X3.here hx rfl (hb hby d_prog_92_method_6_code_8) rfl ?_
      refine XS.iload X3.here hx rfl (hb hby d_prog_92_method_6_code_9) rfl ?_
      show Steps p.tables e below (T2.setTop (mkF m 11 #[vr a, vd v, ss, vi y, vi z, uu, uu] [(.int z), (.int y), (.double v)])) t
      refine XS.isub X3.here hx rfl (hb hby d_prog_92_method_6_code_11) rfl ?_
      refine XS.i2dS X3.here hx rfl (hb hby d_prog_92_method_6_code_12) rfl rfl ?_
      refine XS.dmulS X3.here hx rfl (hb hby d_prog_92_method_6_code_13) rfl (own_nn D2) rfl ?_
      refine XS.iloadN X3.here hx rfl (hb hby d_prog_92_method_6_code_14) rfl ?_
      show Steps p.tables e below (T2.setTop (mkF m 15 #[vr a, vd v, ss, vi y, vi z, uu, uu] [(.int y), (.double (FP.dmul v (FP.i2d (y - z))))])) t
      refine XS.i2dS X3.here hx rfl (hb hby d_prog_92_method_6_code_15) rfl rfl ?_
      refine XS.ddivS X3.here hx rfl (hb hby d_prog_92_method_6_code_16) rfl (own_nn D3) rfl ?_
      refine XS.dstore X3.here hx rfl (hb hby d_prog_92_method_6_code_17) rfl (l' := #[vr a, vd v, ss, vi y, vi z, vd (FP.ddiv (FP.dmul v (FP.i2d (y - z))) (FP.i2d y)), ss]) rfl ?_
      refine XS.goto X3.here hx rfl (pc0 := 19) (pc' := 25) rfl (hb hby d_prog_92_method_6_code_19) (by decide) (by decide) ?_
      show Steps p.tables e below (T2.setTop (mkF m 25 #[vr a, vd v, ss, vi y, vi z, vd (FP.ddiv (FP.dmul v (FP.i2d (y - z))) (FP.i2d y)), ss] [])) t
      refine XS.dload X3.here hx rfl (hb hby d_prog_92_method_6_code_25) rfl ?_
      exact kk
    obtain ⟨fs, hr, hrun, hended, hW, hsame⟩ := X3.leave (v := some (.double (FP.ddiv (FP.dmul v (FP.i2d (y - z))) (FP.i2d y)))) (fun h => by rw [Bd.returns] at h; cases h)
    have hrun0 := k8 _ (retOut X3 hx Bd.returns (t := .double) rfl (Or.inr (Or.inr (Or.inl ⟨rfl, rfl, _, rfl⟩))) (hb hby d_prog_92_method_6_code_27) hr)
    subst hE0
    refine ⟨_, _, hrun0, hrun, hended, _, _, rfl, ?_, ⟨_, rfl⟩, hW, hsame.mono (by decide) (by decide)⟩
    show Qrm1 Z a v y z q k h0 n0 _ T2.heap _
    rw [e4]
    exact ⟨(FP.ddiv (FP.dmul v (FP.i2d (y - z))) (FP.i2d y)), rfl, N0, rfl, ⟨fun _ => D3, fun z => absurd cq z⟩⟩
  · skip
    have k9 : own_G p e below E0 T2 (mkF m 27 #[vr a, vd v, ss, vi y, vi z, vd v, ss] [(.double v)]) := by
      intro t kk
      refine k6 t ?_
      refine XT.acmpYes X3.here hx rfl (pc0 := 4) (pc' := 22) rfl (hb hby d_prog_92_method_6_code_4) rfl rfl rfl (own_ar_ne_Y cq) (by decide) (by decide) ?_
      refine XS.dloadN X3.here hx rfl (hb hby d_prog_92_method_6_code_22) rfl ?_
      refine XS.dstore X3.here hx rfl (hb hby d_prog_92_method_6_code_23) rfl (l' := #[vr a, vd v, ss, vi y, vi z, vd v, ss]) rfl ?_
      refine XS.dload X3.here hx rfl (hb hby d_prog_92_method_6_code_25) rfl ?_
      exact kk
    obtain ⟨fs, hr, hrun, hended, hW, hsame⟩ := X3.leave (v := some (.double v)) (fun h => by rw [Bd.returns] at h; cases h)
    have hrun0 := k9 _ (retOut X3 hx Bd.returns (t := .double) rfl (Or.inr (Or.inr (Or.inl ⟨rfl, rfl, _, rfl⟩))) (hb hby d_prog_92_method_6_code_27) hr)
    subst hE0
    refine ⟨_, _, hrun0, hrun, hended, _, _, rfl, ?_, ⟨_, rfl⟩, hW, hsame.mono (by decide) (by decide)⟩
    show Qrm1 Z a v y z q k h0 n0 _ T2.heap _
    rw [e4]
    exact ⟨v, rfl, N0, rfl, ⟨fun z => absurd z cq, fun _ => rfl⟩⟩
def Qrm0 (Z : State) (p0 : Int32) (p1 : Int32) (p2 : Int32) (p3 : Int32) (qs : Addr) (qa : Addr) (h0 : Heap) (n0 : Nat) (vQ : Option Value) (hQ : Heap) (LQ : List Loc) : Prop := vQ = some (.int (1 : Int32)) ∧ Fr n0 LQ
theorem ef_rm0 (m : MethodId) (p0 : Int32) (p1 : Int32) (p2 : Int32) (p3 : Int32) (qs : Addr) (qa : Addr) : entryFrame m #[(.int p0), (.int p1), (.int p2), (.int p3)] maxLocals = mkF m 0 #[vi p0, vi p1, vi p2, vi p3, uu, uu, uu, uu, uu, uu, uu, uu, uu] [] := by first | (simp [entryFrame, mkF, argsToLocals, Value.category, maxLocals]; done) | rfl
abbrev xa1 (Z : State) (h : Heap) (a : Addr) : Prop := Exa Z h a "com/example/capwright/capwright/residual/RecaptureMethod"
theorem pn_com_example_capwright_capwright_residual_RecaptureMethodCapitalLeftPinLaw : plainName "com/example/capwright/capwright/residual/RecaptureMethodCapitalLeftPinLaw" = true := by first | (simp [plainName, overriddenIn]; done) | decide +kernel
def tw0 {Z : State} {a0 : Array Value} (hw : ∀ d ∈ tables_1, d.before a0 Z = true) := hw _ (List.mem_of_getElem? (i := 0) rfl)
def tw3 {Z : State} {a0 : Array Value} (hw : ∀ d ∈ tables_1, d.before a0 Z = true) := hw _ (List.mem_of_getElem? (i := 3) rfl)
def tw4 {Z : State} {a0 : Array Value} (hw : ∀ d ∈ tables_1, d.before a0 Z = true) := hw _ (List.mem_of_getElem? (i := 4) rfl)
def tw7 {Z : State} {a0 : Array Value} (hw : ∀ d ∈ tables_1, d.before a0 Z = true) := hw _ (List.mem_of_getElem? (i := 7) rfl)
def tw8 {Z : State} {a0 : Array Value} (hw : ∀ d ∈ tables_1, d.before a0 Z = true) := hw _ (List.mem_of_getElem? (i := 8) rfl)
def tw1 {Z : State} {a0 : Array Value} (hw : ∀ d ∈ tables_1, d.before a0 Z = true) := hw _ (List.mem_of_getElem? (i := 1) rfl)
theorem pd_2 : parseMethodDescriptor "(DII)D" = some ⟨[.double, .int, .int], some .double⟩ := by decide +kernel
def tw5 {Z : State} {a0 : Array Value} (hw : ∀ d ∈ tables_1, d.before a0 Z = true) := hw _ (List.mem_of_getElem? (i := 5) rfl)
def tw6 {Z : State} {a0 : Array Value} (hw : ∀ d ∈ tables_1, d.before a0 Z = true) := hw _ (List.mem_of_getElem? (i := 6) rfl)
def tw10 {Z : State} {a0 : Array Value} (hw : ∀ d ∈ tables_1, d.before a0 Z = true) := hw _ (List.mem_of_getElem? (i := 10) rfl)
set_option maxRecDepth 65536 in
set_option maxHeartbeats 40000000 in
theorem rm0 (l : Launch) (Z : State) (a0 : Array Value) (hw : ∀ d ∈ tables_1, d.before a0 Z = true) (ws : List Jvm.Cond) (p0 : Int32) (p1 : Int32) (p2 : Int32) (p3 : Int32) (qs : Addr) (qa : Addr) (h0 : Heap) (n0 : Nat) (Z0 : n0 ≤ h0.size) (S1 : Sta Z h0 "com/example/capwright/capwright/residual/RecaptureMethod" "STRAIGHT_LINE" "Lcom/example/capwright/capwright/residual/RecaptureMethod;" (.ref qs)) (S2 : Sta Z h0 "com/example/capwright/capwright/residual/RecaptureMethod" "ANNUITY" "Lcom/example/capwright/capwright/residual/RecaptureMethod;" (.ref qa)) (E1 : xa1 Z h0 qs) (E2 : xa1 Z h0 qa) (ne1 : qa ≠ qs) :
    MetFree l x (head1 (Jvm.Cond.code x code maxLocals ret :: ws) room_1) (fun aA U => aA = #[(.int p0), (.int p1), (.int p2), (.int p3)] ∧ Z.Warmed39 U.vm ∧ U.heap = h0) (fun _ _ _ _ _ => True) (fun _ U o U' => ∃ vR LR, o = .returned vR ∧ Qrm0 Z p0 p1 p2 p3 qs qa h0 n0 vR U'.heap LR ∧ FrameEnd U o U' LR 0 0) := by
  refine MetFree.of_bodySF (plainFor_of_name pn_com_example_capwright_capwright_residual_RecaptureMethodCapitalLeftPinLaw) hisR ?_
  intro p e s m args below meth c s₁ Bd hml0 hPre hKk
  obtain ⟨rfl, hZ, hh⟩ := hPre
  have hx := Bd.exec
  have hby := Bd.bytes
  have hml : c.maxLocals = 13 := hml0
  have hown : s.vm.findClass "com/example/capwright/capwright/residual/RecaptureMethodCapitalLeftPinLaw" = some m.cls := findClass_of_methodNamed Bd.named
  have hnm := (name_of_methodNamed Bd.named Bd.method).1
  have X0 : Stand p l e room_1 s m #[(.int p0), (.int p1), (.int p2), (.int p3)] below meth c s₁ [] 0 0 := Stand.of_body Bd
  have e0 : s₁.heap = h0 := by rw [← hh, Bd.state]; rfl
  have N0 := Fr.nil n0
  obtain ⟨E0, hE0⟩ : ∃ zE : State, zE = s₁.setTop (entryFrame m #[(.int p0), (.int p1), (.int p2), (.int p3)] maxLocals) := ⟨_, rfl⟩
  have k0 : own_G p e below E0 s₁ (mkF m 0 #[vi p0, vi p1, vi p2, vi p3, uu, uu, uu, uu, uu, uu, uu, uu, uu] []) := fun tz kz => hE0 ▸ castTop (ef_rm0 m p0 p1 p2 p3 qs qa) kz
  have k10 : own_G p e below E0 s₁ (mkF m 3 #[vi p0, vi p1, vi p2, vi p3, uu, uu, uu, uu, uu, uu, uu, uu, uu] [(.int (p0 &&& (1 : Int32)))]) := by
    intro t kk
    refine k0 t ?_
    refine XS.iloadN X0.here hx rfl (hb hby at_0) rfl ?_
    refine XS.iconst X0.here hx rfl (hb hby at_1) ?_
    refine XS.iand X0.here hx rfl (hb hby at_2) rfl ?_
    exact kk
  by_cases c11 : (p0 &&& (1 : Int32)) = 0
  · skip
    have k12 : own_G p e below E0 s₁ (mkF m 6 #[vi p0, vi p1, vi p2, vi p3, uu, uu, uu, uu, uu, uu, uu, uu, uu] []) := by
      intro t kk
      refine k10 t ?_
      refine XS.ifNo X0.here hx rfl (hb hby at_3) rfl (own_if_neN c11) ?_
      exact kk
    obtain ⟨T13, X14, e15, st16⟩ := getS X0 hx hZ hown (host := "") (tw0 hw) Via.refl e0 S1 (g := (mkF m 6 #[vi p0, vi p1, vi p2, vi p3, uu, uu, uu, uu, uu, uu, uu, uu, uu] [])) rfl (hb hby at_6)
    have k17 : own_G p e below E0 T13 (mkF m 9 #[vi p0, vi p1, vi p2, vi p3, uu, uu, uu, uu, uu, uu, uu, uu, uu] [(.ref qs)]) := fun t kk => k12 t (st16 _ kk)
    have k18 : own_G p e below E0 T13 (mkF m 24 #[vi p0, vi p1, vi p2, vi p3, vr qs, uu, uu, uu, uu, uu, uu, uu, uu] [(.int ((p2 &&& (1023 : Int32)) + (1 : Int32)))]) := by
      intro t kk
      refine k17 t ?_
      refine XS.goto X14.here hx rfl (pc0 := 9) (pc' := 15) rfl (hb hby at_9) (by decide) (by decide) ?_
      refine XS.astore X14.here hx rfl (hb hby at_15) rfl rfl (l' := #[vi p0, vi p1, vi p2, vi p3, vr qs, uu, uu, uu, uu, uu, uu, uu, uu]) rfl ?_
      refine XS.iloadN X14.here hx rfl (hb hby at_17) rfl ?_
      refine XS.sipush X14.here hx rfl (hb hby at_18) ?_
      show Steps p.tables e below (T13.setTop (mkF m 21 #[vi p0, vi p1, vi p2, vi p3, vr qs, uu, uu, uu, uu, uu, uu, uu, uu] [(.int (1023 : Int32)), (.int p2)])) t
      refine XS.iand X14.here hx rfl (hb hby at_21) rfl ?_
      refine XS.iconst X14.here hx rfl (hb hby at_22) ?_
      refine XS.iadd X14.here hx rfl (hb hby at_23) rfl ?_
      exact kk
    obtain ⟨Y, hY⟩ : ∃ vA, vA = ((p2 &&& (1023 : Int32)) + (1 : Int32)) := ⟨_, rfl⟩
    have k19 : own_G p e below E0 T13 (mkF m 24 #[vi p0, vi p1, vi p2, vi p3, vr qs, uu, uu, uu, uu, uu, uu, uu, uu] [(.int Y)]) := by rw [hY]; exact k18
    have bY := own_M p2
    rw [← hY] at bY
    have k20 : own_G p e below E0 T13 (mkF m 27 #[vi p0, vi p1, vi p2, vi p3, vr qs, vi Y, uu, uu, uu, uu, uu, uu, uu] [(.int p3)]) := by
      intro t kk
      refine k19 t ?_
      refine XS.istore X14.here hx rfl (hb hby at_24) rfl (l' := #[vi p0, vi p1, vi p2, vi p3, vr qs, vi Y, uu, uu, uu, uu, uu, uu, uu]) rfl ?_
      refine XS.iloadN X14.here hx rfl (hb hby at_26) rfl ?_
      exact kk
    have st21 := X14.ldcInt hx hown (mvT hZ (tw3 hw)) (g := (mkF m 27 #[vi p0, vi p1, vi p2, vi p3, vr qs, vi Y, uu, uu, uu, uu, uu, uu, uu] [(.int p3)])) rfl (hb hby at_27)
    have k22 : own_G p e below E0 T13 (mkF m 29 #[vi p0, vi p1, vi p2, vi p3, vr qs, vi Y, uu, uu, uu, uu, uu, uu, uu] [(.int (2147483647 : Int32)), (.int p3)]) := fun t kk => k20 t (st21 _ kk)
    have k23 : own_G p e below E0 T13 (mkF m 35 #[vi p0, vi p1, vi p2, vi p3, vr qs, vi Y, uu, uu, uu, uu, uu, uu, uu] [(.int ((p3 &&& (2147483647 : Int32)) % (Y + (1 : Int32))))]) := by
      intro t kk
      refine k22 t ?_
      refine XS.iand X14.here hx rfl (hb hby at_29) rfl ?_
      refine XS.iload X14.here hx rfl (hb hby at_30) rfl ?_
      refine XS.iconst X14.here hx rfl (hb hby at_32) ?_
      refine XS.iadd X14.here hx rfl (hb hby at_33) rfl ?_
      show Steps p.tables e below (T13.setTop (mkF m 34 #[vi p0, vi p1, vi p2, vi p3, vr qs, vi Y, uu, uu, uu, uu, uu, uu, uu] [(.int (Y + (1 : Int32))), (.int (p3 &&& (2147483647 : Int32)))])) t
      refine iremM X14 hx rfl (hb hby at_34) rfl (own_M1 bY) ?_
      exact kk
    obtain ⟨P, hP⟩ : ∃ vA, vA = ((p3 &&& (2147483647 : Int32)) % (Y + (1 : Int32))) := ⟨_, rfl⟩
    have k24 : own_G p e below E0 T13 (mkF m 35 #[vi p0, vi p1, vi p2, vi p3, vr qs, vi Y, uu, uu, uu, uu, uu, uu, uu] [(.int P)]) := by rw [hP]; exact k23
    have bP := own_K p3 bY
    rw [← hP] at bP
    have DV : FP.Core.DInt (p1.toInt * Y.toInt) (FP.l2d (p1.toInt64 * Y.toInt64)) := own_pl p1 Y (own_b41b p1 bY)
    have k25 : own_G p e below E0 T13 (mkF m 54 #[vi p0, vi p1, vi p2, vi p3, vr qs, vi Y, vi P, vd (FP.l2d ((p1.toInt64) * (Y.toInt64))), ss, uu, uu, uu, uu] [(.int P), (.int Y), (.double (FP.l2d ((p1.toInt64) * (Y.toInt64)))), (.ref qs)]) := by
      intro t kk
      refine k24 t ?_
      refine XS.istore X14.here hx rfl (hb hby at_35) rfl (l' := #[vi p0, vi p1, vi p2, vi p3, vr qs, vi Y, vi P, uu, uu, uu, uu, uu, uu]) rfl ?_
      refine XS.iloadN X14.here hx rfl (hb hby at_37) rfl ?_
      refine XT.i2l X14.here hx rfl (hb hby at_38) rfl ?_
      refine XS.iload X14.here hx rfl (hb hby at_39) rfl ?_
      show Steps p.tables e below (T13.setTop (mkF m 41 #[vi p0, vi p1, vi p2, vi p3, vr qs, vi Y, vi P, uu, uu, uu, uu, uu, uu] [(.int Y), (.long (p1.toInt64))])) t
      refine XT.i2l X14.here hx rfl (hb hby at_41) rfl ?_
      refine XT.lmul X14.here hx rfl (hb hby at_42) rfl ?_
      refine XS.l2dS X14.here hx rfl (hb hby at_43) rfl rfl ?_
      refine XS.dstore X14.here hx rfl (hb hby at_44) rfl (l' := #[vi p0, vi p1, vi p2, vi p3, vr qs, vi Y, vi P, vd (FP.l2d ((p1.toInt64) * (Y.toInt64))), ss, uu, uu, uu, uu]) rfl ?_
      show Steps p.tables e below (T13.setTop (mkF m 46 #[vi p0, vi p1, vi p2, vi p3, vr qs, vi Y, vi P, vd (FP.l2d ((p1.toInt64) * (Y.toInt64))), ss, uu, uu, uu, uu] [])) t
      refine XS.aload X14.here hx rfl (hb hby at_46) rfl rfl ?_
      refine XS.dload X14.here hx rfl (hb hby at_48) rfl ?_
      refine XS.iload X14.here hx rfl (hb hby at_50) rfl ?_
      refine XS.iload X14.here hx rfl (hb hby at_52) rfl ?_
      exact kk
    obtain ⟨cq37, kq38, qa39, qb40, qc41⟩ := isOf hZ e15 E1
    obtain ⟨_, _, ⟨T26, L27, kc28, nc29⟩, -, X30, ⟨Lc31, hQ32, l33, y34, z35⟩, st36⟩ := X14.virtualBack hx (y := mn0) (z := mn0) hown (mvT hZ (tw4 hw)) (mvT hZ (tw5 hw)) (notFace_of_selects (args := #[]) (mvT hZ (tw7 hw))) (mvT hZ (tw7 hw)) (mvT hZ (tw6 hw)) (by decide) (backOf (W := 0) (rm1 l Z a0 hw [] qs (FP.l2d ((p1.toInt64) * (Y.toInt64))) Y P qs p1.toInt h0 n0 Z0 S1 DV (own_i32b p1) bY bP) hZ (tw8 hw) (tw1 hw) (by decide) (by decide)) qa39 qc41 (g := (mkF m 54 #[vi p0, vi p1, vi p2, vi p3, vr qs, vi Y, vi P, vd (FP.l2d ((p1.toInt64) * (Y.toInt64))), ss, uu, uu, uu, uu] [(.int P), (.int Y), (.double (FP.l2d ((p1.toInt64) * (Y.toInt64)))), (.ref qs)])) rfl (by rw [hml]; rfl) (Steps.refl _) (argsL := [(.double (FP.l2d ((p1.toInt64) * (Y.toInt64)))), (.int Y), (.int P)]) (rest := []) (lenOf pd_2 rfl) rfl (by show 2 * 0 + _ ≤ _; exact Nat.le_of_eq rfl) (hb hby at_54) (fun _ _ => ⟨rfl, e15, (by decide : 0 + 0 ≤ _), (by decide : 0 + 0 ≤ _)⟩)
    dsimp only [Pt.U, Pt.locs, Pt.cells, Pt.slots] at X30 l33 y34 z35 st36 hQ32
    subst l33 y34 z35
    obtain ⟨r45, rfl, N42, e43, g46⟩ := hQ32
    have N47 := Fr.app N0 N42
    have k48 : own_G p e below E0 T26 (mkF m 57 #[vi p0, vi p1, vi p2, vi p3, vr qs, vi Y, vi P, vd (FP.l2d ((p1.toInt64) * (Y.toInt64))), ss, uu, uu, uu, uu] [(.double r45)]) := fun t kk => k25 t (st36.trans kk)
    have k49 : own_G p e below E0 T26 (mkF m 61 #[vi p0, vi p1, vi p2, vi p3, vr qs, vi Y, vi P, vd (FP.l2d ((p1.toInt64) * (Y.toInt64))), ss, vd r45, ss, uu, uu] [(.ref qs)]) := by
      intro t kk
      refine k48 t ?_
      refine XS.dstore X30.here hx rfl (hb hby at_57) rfl (l' := #[vi p0, vi p1, vi p2, vi p3, vr qs, vi Y, vi P, vd (FP.l2d ((p1.toInt64) * (Y.toInt64))), ss, vd r45, ss, uu, uu]) rfl ?_
      refine XS.aload X30.here hx rfl (hb hby at_59) rfl rfl ?_
      exact kk
    obtain ⟨T50, X51, e52, st53⟩ := getS X30 hx hZ hown (host := "") (tw10 hw) Via.refl e43 S2 (g := (mkF m 61 #[vi p0, vi p1, vi p2, vi p3, vr qs, vi Y, vi P, vd (FP.l2d ((p1.toInt64) * (Y.toInt64))), ss, vd r45, ss, uu, uu] [(.ref qs)])) rfl (hb hby at_61)
    have k54 : own_G p e below E0 T50 (mkF m 64 #[vi p0, vi p1, vi p2, vi p3, vr qs, vi Y, vi P, vd (FP.l2d ((p1.toInt64) * (Y.toInt64))), ss, vd r45, ss, uu, uu] [(.ref qa), (.ref qs)]) := fun t kk => k49 t (st53 _ kk)
    have k55 : own_G p e below E0 T50 (mkF m 106 #[vi p0, vi p1, vi p2, vi p3, vr qs, vi Y, vi P, vd (FP.l2d ((p1.toInt64) * (Y.toInt64))), ss, vd r45, ss, vd (FP.l2d ((p1.toInt64) * ((Y - P).toInt64))), ss] [(.int (1 : Int32))]) := by
      intro t kk
      refine k54 t ?_
      refine XT.acmpYes X51.here hx rfl (pc0 := 64) (pc' := 81) rfl (hb hby at_64) rfl rfl rfl (own_ar_ne_Y (fun q => ne1 q.symm)) (by decide) (by decide) ?_
      refine XS.iloadN X51.here hx rfl (hb hby at_81) rfl ?_
      refine XT.i2l X51.here hx rfl (hb hby at_82) rfl ?_
      refine XS.iload X51.here hx rfl (hb hby at_83) rfl ?_
      show Steps p.tables e below (T50.setTop (mkF m 85 #[vi p0, vi p1, vi p2, vi p3, vr qs, vi Y, vi P, vd (FP.l2d ((p1.toInt64) * (Y.toInt64))), ss, vd r45, ss, uu, uu] [(.int Y), (.long (p1.toInt64))])) t
      refine XS.iload X51.here hx rfl (hb hby at_85) rfl ?_
      refine XS.isub X51.here hx rfl (hb hby at_87) rfl ?_
      refine XT.i2l X51.here hx rfl (hb hby at_88) rfl ?_
      refine XT.lmul X51.here hx rfl (hb hby at_89) rfl ?_
      show Steps p.tables e below (T50.setTop (mkF m 90 #[vi p0, vi p1, vi p2, vi p3, vr qs, vi Y, vi P, vd (FP.l2d ((p1.toInt64) * (Y.toInt64))), ss, vd r45, ss, uu, uu] [(.long ((p1.toInt64) * ((Y - P).toInt64)))])) t
      refine XS.l2dS X51.here hx rfl (hb hby at_90) rfl rfl ?_
      refine XS.dstore X51.here hx rfl (hb hby at_91) rfl (l' := #[vi p0, vi p1, vi p2, vi p3, vr qs, vi Y, vi P, vd (FP.l2d ((p1.toInt64) * (Y.toInt64))), ss, vd r45, ss, vd (FP.l2d ((p1.toInt64) * ((Y - P).toInt64))), ss]) rfl ?_
      refine XS.dload X51.here hx rfl (hb hby at_93) rfl ?_
      refine XS.dload X51.here hx rfl (hb hby at_95) rfl ?_
      show Steps p.tables e below (T50.setTop (mkF m 97 #[vi p0, vi p1, vi p2, vi p3, vr qs, vi Y, vi P, vd (FP.l2d ((p1.toInt64) * (Y.toInt64))), ss, vd r45, ss, vd (FP.l2d ((p1.toInt64) * ((Y - P).toInt64))), ss] [(.double (FP.l2d ((p1.toInt64) * ((Y - P).toInt64)))), (.double r45)])) t
      refine XS.dcmpS X51.here hx rfl (hb hby at_97) rfl (own_eq0 .l (g46.1 rfl) (own_pl2 p1 bY bP)) ?_
      refine XS.ifNo X51.here hx rfl (hb hby at_98) rfl (own_if_neN (by decide)) ?_
      refine XS.iconst X51.here hx rfl (hb hby at_101) ?_
      refine XS.goto X51.here hx rfl (pc0 := 102) (pc' := 106) rfl (hb hby at_102) (by decide) (by decide) ?_
      exact kk
    obtain ⟨fs, hr, hrun, hended, hW, hsame⟩ := X51.leave (v := some (.int (1 : Int32))) (fun h => by rw [Bd.returns] at h; cases h)
    have hrun0 := k55 _ (retOut X51 hx Bd.returns (t := .boolean) rfl (Or.inl ⟨rfl, Or.inr (Or.inl rfl), _, rfl⟩) (hb hby at_106) hr)
    subst hE0
    refine ⟨_, _, hrun0, hrun, hended, _, _, rfl, ?_, ⟨_, rfl⟩, hW, hsame.mono (by decide) (by decide)⟩
    show Qrm0 Z p0 p1 p2 p3 qs qa h0 n0 _ T50.heap _
    rw [e52]
    exact ⟨rfl, N47⟩
  · skip
    have k56 : own_G p e below E0 s₁ (mkF m 12 #[vi p0, vi p1, vi p2, vi p3, uu, uu, uu, uu, uu, uu, uu, uu, uu] []) := by
      intro t kk
      refine k10 t ?_
      refine XS.ifYes X0.here hx rfl (pc0 := 3) (pc' := 12) rfl (hb hby at_3) rfl (own_if_neY c11) (by decide) (by decide) ?_
      exact kk
    obtain ⟨T57, X58, e59, st60⟩ := getS X0 hx hZ hown (host := "") (tw10 hw) Via.refl e0 S2 (g := (mkF m 12 #[vi p0, vi p1, vi p2, vi p3, uu, uu, uu, uu, uu, uu, uu, uu, uu] [])) rfl (hb hby at_12)
    have k61 : own_G p e below E0 T57 (mkF m 15 #[vi p0, vi p1, vi p2, vi p3, uu, uu, uu, uu, uu, uu, uu, uu, uu] [(.ref qa)]) := fun t kk => k56 t (st60 _ kk)
    have k62 : own_G p e below E0 T57 (mkF m 24 #[vi p0, vi p1, vi p2, vi p3, vr qa, uu, uu, uu, uu, uu, uu, uu, uu] [(.int ((p2 &&& (1023 : Int32)) + (1 : Int32)))]) := by
      intro t kk
      refine k61 t ?_
      refine XS.astore X58.here hx rfl (hb hby at_15) rfl rfl (l' := #[vi p0, vi p1, vi p2, vi p3, vr qa, uu, uu, uu, uu, uu, uu, uu, uu]) rfl ?_
      refine XS.iloadN X58.here hx rfl (hb hby at_17) rfl ?_
      refine XS.sipush X58.here hx rfl (hb hby at_18) ?_
      refine XS.iand X58.here hx rfl (hb hby at_21) rfl ?_
      show Steps p.tables e below (T57.setTop (mkF m 22 #[vi p0, vi p1, vi p2, vi p3, vr qa, uu, uu, uu, uu, uu, uu, uu, uu] [(.int (p2 &&& (1023 : Int32)))])) t
      refine XS.iconst X58.here hx rfl (hb hby at_22) ?_
      refine XS.iadd X58.here hx rfl (hb hby at_23) rfl ?_
      exact kk
    obtain ⟨Y, hY⟩ : ∃ vA, vA = ((p2 &&& (1023 : Int32)) + (1 : Int32)) := ⟨_, rfl⟩
    have k63 : own_G p e below E0 T57 (mkF m 24 #[vi p0, vi p1, vi p2, vi p3, vr qa, uu, uu, uu, uu, uu, uu, uu, uu] [(.int Y)]) := by rw [hY]; exact k62
    have bY := own_M p2
    rw [← hY] at bY
    have k64 : own_G p e below E0 T57 (mkF m 27 #[vi p0, vi p1, vi p2, vi p3, vr qa, vi Y, uu, uu, uu, uu, uu, uu, uu] [(.int p3)]) := by
      intro t kk
      refine k63 t ?_
      refine XS.istore X58.here hx rfl (hb hby at_24) rfl (l' := #[vi p0, vi p1, vi p2, vi p3, vr qa, vi Y, uu, uu, uu, uu, uu, uu, uu]) rfl ?_
      refine XS.iloadN X58.here hx rfl (hb hby at_26) rfl ?_
      exact kk
    have st65 := X58.ldcInt hx hown (mvT hZ (tw3 hw)) (g := (mkF m 27 #[vi p0, vi p1, vi p2, vi p3, vr qa, vi Y, uu, uu, uu, uu, uu, uu, uu] [(.int p3)])) rfl (hb hby at_27)
    have k66 : own_G p e below E0 T57 (mkF m 29 #[vi p0, vi p1, vi p2, vi p3, vr qa, vi Y, uu, uu, uu, uu, uu, uu, uu] [(.int (2147483647 : Int32)), (.int p3)]) := fun t kk => k64 t (st65 _ kk)
    have k67 : own_G p e below E0 T57 (mkF m 35 #[vi p0, vi p1, vi p2, vi p3, vr qa, vi Y, uu, uu, uu, uu, uu, uu, uu] [(.int ((p3 &&& (2147483647 : Int32)) % (Y + (1 : Int32))))]) := by
      intro t kk
      refine k66 t ?_
      refine XS.iand X58.here hx rfl (hb hby at_29) rfl ?_
      refine XS.iload X58.here hx rfl (hb hby at_30) rfl ?_
      refine XS.iconst X58.here hx rfl (hb hby at_32) ?_
      refine XS.iadd X58.here hx rfl (hb hby at_33) rfl ?_
      show Steps p.tables e below (T57.setTop (mkF m 34 #[vi p0, vi p1, vi p2, vi p3, vr qa, vi Y, uu, uu, uu, uu, uu, uu, uu] [(.int (Y + (1 : Int32))), (.int (p3 &&& (2147483647 : Int32)))])) t
      refine iremM X58 hx rfl (hb hby at_34) rfl (own_M1 bY) ?_
      exact kk
    obtain ⟨P, hP⟩ : ∃ vA, vA = ((p3 &&& (2147483647 : Int32)) % (Y + (1 : Int32))) := ⟨_, rfl⟩
    have k68 : own_G p e below E0 T57 (mkF m 35 #[vi p0, vi p1, vi p2, vi p3, vr qa, vi Y, uu, uu, uu, uu, uu, uu, uu] [(.int P)]) := by rw [hP]; exact k67
    have bP := own_K p3 bY
    rw [← hP] at bP
    have DV : FP.Core.DInt (p1.toInt * Y.toInt) (FP.l2d (p1.toInt64 * Y.toInt64)) := own_pl p1 Y (own_b41b p1 bY)
    have k69 : own_G p e below E0 T57 (mkF m 54 #[vi p0, vi p1, vi p2, vi p3, vr qa, vi Y, vi P, vd (FP.l2d ((p1.toInt64) * (Y.toInt64))), ss, uu, uu, uu, uu] [(.int P), (.int Y), (.double (FP.l2d ((p1.toInt64) * (Y.toInt64)))), (.ref qa)]) := by
      intro t kk
      refine k68 t ?_
      refine XS.istore X58.here hx rfl (hb hby at_35) rfl (l' := #[vi p0, vi p1, vi p2, vi p3, vr qa, vi Y, vi P, uu, uu, uu, uu, uu, uu]) rfl ?_
      refine XS.iloadN X58.here hx rfl (hb hby at_37) rfl ?_
      refine XT.i2l X58.here hx rfl (hb hby at_38) rfl ?_
      refine XS.iload X58.here hx rfl (hb hby at_39) rfl ?_
      show Steps p.tables e below (T57.setTop (mkF m 41 #[vi p0, vi p1, vi p2, vi p3, vr qa, vi Y, vi P, uu, uu, uu, uu, uu, uu] [(.int Y), (.long (p1.toInt64))])) t
      refine XT.i2l X58.here hx rfl (hb hby at_41) rfl ?_
      refine XT.lmul X58.here hx rfl (hb hby at_42) rfl ?_
      refine XS.l2dS X58.here hx rfl (hb hby at_43) rfl rfl ?_
      refine XS.dstore X58.here hx rfl (hb hby at_44) rfl (l' := #[vi p0, vi p1, vi p2, vi p3, vr qa, vi Y, vi P, vd (FP.l2d ((p1.toInt64) * (Y.toInt64))), ss, uu, uu, uu, uu]) rfl ?_
      show Steps p.tables e below (T57.setTop (mkF m 46 #[vi p0, vi p1, vi p2, vi p3, vr qa, vi Y, vi P, vd (FP.l2d ((p1.toInt64) * (Y.toInt64))), ss, uu, uu, uu, uu] [])) t
      refine XS.aload X58.here hx rfl (hb hby at_46) rfl rfl ?_
      refine XS.dload X58.here hx rfl (hb hby at_48) rfl ?_
      refine XS.iload X58.here hx rfl (hb hby at_50) rfl ?_
      refine XS.iload X58.here hx rfl (hb hby at_52) rfl ?_
      exact kk
    obtain ⟨cq81, kq82, qa83, qb84, qc85⟩ := isOf hZ e59 E2
    obtain ⟨_, _, ⟨T70, L71, kc72, nc73⟩, -, X74, ⟨Lc75, hQ76, l77, y78, z79⟩, st80⟩ := X58.virtualBack hx (y := mn0) (z := mn0) hown (mvT hZ (tw4 hw)) (mvT hZ (tw5 hw)) (notFace_of_selects (args := #[]) (mvT hZ (tw7 hw))) (mvT hZ (tw7 hw)) (mvT hZ (tw6 hw)) (by decide) (backOf (W := 0) (rm1 l Z a0 hw [] qa (FP.l2d ((p1.toInt64) * (Y.toInt64))) Y P qs p1.toInt h0 n0 Z0 S1 DV (own_i32b p1) bY bP) hZ (tw8 hw) (tw1 hw) (by decide) (by decide)) qa83 qc85 (g := (mkF m 54 #[vi p0, vi p1, vi p2, vi p3, vr qa, vi Y, vi P, vd (FP.l2d ((p1.toInt64) * (Y.toInt64))), ss, uu, uu, uu, uu] [(.int P), (.int Y), (.double (FP.l2d ((p1.toInt64) * (Y.toInt64)))), (.ref qa)])) rfl (by rw [hml]; rfl) (Steps.refl _) (argsL := [(.double (FP.l2d ((p1.toInt64) * (Y.toInt64)))), (.int Y), (.int P)]) (rest := []) (lenOf pd_2 rfl) rfl (by show 2 * 0 + _ ≤ _; exact Nat.le_of_eq rfl) (hb hby at_54) (fun _ _ => ⟨rfl, e59, (by decide : 0 + 0 ≤ _), (by decide : 0 + 0 ≤ _)⟩)
    dsimp only [Pt.U, Pt.locs, Pt.cells, Pt.slots] at X74 l77 y78 z79 st80 hQ76
    subst l77 y78 z79
    obtain ⟨r89, rfl, N86, e87, g90⟩ := hQ76
    have N91 := Fr.app N0 N86
    have k92 : own_G p e below E0 T70 (mkF m 57 #[vi p0, vi p1, vi p2, vi p3, vr qa, vi Y, vi P, vd (FP.l2d ((p1.toInt64) * (Y.toInt64))), ss, uu, uu, uu, uu] [(.double r89)]) := fun t kk => k69 t (st80.trans kk)
    have k93 : own_G p e below E0 T70 (mkF m 61 #[vi p0, vi p1, vi p2, vi p3, vr qa, vi Y, vi P, vd (FP.l2d ((p1.toInt64) * (Y.toInt64))), ss, vd r89, ss, uu, uu] [(.ref qa)]) := by
      intro t kk
      refine k92 t ?_
      refine XS.dstore X74.here hx rfl (hb hby at_57) rfl (l' := #[vi p0, vi p1, vi p2, vi p3, vr qa, vi Y, vi P, vd (FP.l2d ((p1.toInt64) * (Y.toInt64))), ss, vd r89, ss, uu, uu]) rfl ?_
      refine XS.aload X74.here hx rfl (hb hby at_59) rfl rfl ?_
      exact kk
    obtain ⟨T94, X95, e96, st97⟩ := getS X74 hx hZ hown (host := "") (tw10 hw) Via.refl e87 S2 (g := (mkF m 61 #[vi p0, vi p1, vi p2, vi p3, vr qa, vi Y, vi P, vd (FP.l2d ((p1.toInt64) * (Y.toInt64))), ss, vd r89, ss, uu, uu] [(.ref qa)])) rfl (hb hby at_61)
    have k98 : own_G p e below E0 T94 (mkF m 64 #[vi p0, vi p1, vi p2, vi p3, vr qa, vi Y, vi P, vd (FP.l2d ((p1.toInt64) * (Y.toInt64))), ss, vd r89, ss, uu, uu] [(.ref qa), (.ref qa)]) := fun t kk => k93 t (st97 _ kk)
    have k99 : own_G p e below E0 T94 (mkF m 80 #[vi p0, vi p1, vi p2, vi p3, vr qa, vi Y, vi P, vd (FP.l2d ((p1.toInt64) * (Y.toInt64))), ss, vd r89, ss, uu, uu] [(.int (1 : Int32))]) := by
      intro t kk
      refine k98 t ?_
      refine XT.acmpNo X95.here hx rfl (hb hby at_64) rfl rfl rfl (own_ar_ne_N rfl) ?_
      refine XS.dload X95.here hx rfl (hb hby at_67) rfl ?_
      refine XS.dload X95.here hx rfl (hb hby at_69) rfl ?_
      refine XS.dcmpS X95.here hx rfl (hb hby at_71) rfl (dcmpV_eq (g90.2 ne1) (g90.2 ne1 ▸ own_nn DV) .l) ?_
      show Steps p.tables e below (T94.setTop (mkF m 72 #[vi p0, vi p1, vi p2, vi p3, vr qa, vi Y, vi P, vd (FP.l2d ((p1.toInt64) * (Y.toInt64))), ss, vd r89, ss, uu, uu] [(.int (0 : Int32))])) t
      refine XS.ifNo X95.here hx rfl (hb hby at_72) rfl (own_if_neN (by decide)) ?_
      refine XS.iconst X95.here hx rfl (hb hby at_75) ?_
      refine XS.goto X95.here hx rfl (pc0 := 76) (pc' := 80) rfl (hb hby at_76) (by decide) (by decide) ?_
      exact kk
    obtain ⟨fs, hr, hrun, hended, hW, hsame⟩ := X95.leave (v := some (.int (1 : Int32))) (fun h => by rw [Bd.returns] at h; cases h)
    have hrun0 := k99 _ (retOut X95 hx Bd.returns (t := .boolean) rfl (Or.inl ⟨rfl, Or.inr (Or.inl rfl), _, rfl⟩) (hb hby at_80) hr)
    subst hE0
    refine ⟨_, _, hrun0, hrun, hended, _, _, rfl, ?_, ⟨_, rfl⟩, hW, hsame.mono (by decide) (by decide)⟩
    show Qrm0 Z p0 p1 p2 p3 qs qa h0 n0 _ T94.heap _
    rw [e96]
    exact ⟨rfl, N91⟩
def tw2 {Z : State} {a0 : Array Value} (hw : ∀ d ∈ tables_1, d.before a0 Z = true) := hw _ (List.mem_of_getElem? (i := 2) rfl)
def tw11 {Z : State} {a0 : Array Value} (hw : ∀ d ∈ tables_1, d.before a0 Z = true) := hw _ (List.mem_of_getElem? (i := 11) rfl)
set_option maxRecDepth 65536 in
set_option maxHeartbeats 40000000 in
theorem comes_1 {Post : Tables → Env → Array Value → State → Outcome → State → Prop} (hpost : ∀ tb e args s v u, (limb_1_1.after args s (.returned v) u = true ∧ limb_1_2.after args s (.returned v) u = true ∧ True) → FrameEnd s (.returned v) u (Jvm.fieldLocs frame_1_writes args s ++ Jvm.arrayLocs frame_1_arrays args s ++ Jvm.staticLocs frame_1_statics s) 0 0 → Post tb e args s (.returned v) u) :
    ArmFor flags0 classFile x code maxLocals ret World_1 tables_1 room_1 Calls_1 rest_1 Pre_1 Post := by
  intro l hfl _ _ p e ha hc hk s m args below hf hA hF happ hP
  obtain ⟨hcalls, hrest, hpre⟩ := hP
  obtain ⟨-, -, -, hnamed, -, -, -, hat⟩ := (Spec.applies_iff hf).mp happ
  obtain ⟨hg, hn⟩ := and_e (Cond.before_iff.mp (show (Jvm.Cond.and given_1 narrow_1).before args s = true from hpre))
  obtain ⟨hct, hr0⟩ := and_e hg
  obtain ⟨ha0, hr1⟩ := and_e hr0
  obtain ⟨ha1, hr2⟩ := and_e hr1
  obtain ⟨ha2, hr3⟩ := and_e hr2
  obtain ⟨w0, w1, w2, w3, rfl⟩ : ∃ w0 w1 w2 w3 : Value, args = #[w0, w1, w2, w3] := by
    have hs : args.size = 4 := by simpa [Cond.value, given_1] using hct
    obtain ⟨L⟩ := args
    match L, hs with
    | [w0, w1, w2, w3], _ => exact ⟨w0, w1, w2, w3, rfl⟩
  have hw := fun d (hd : d ∈ tables_1) => atoms_spec (ws := Jvm.Cond.code x code maxLocals ret :: tables_1) hat d (List.mem_cons_of_mem _ hd)
  have hfit : Fit s := fun {y c} hc i hi => by
    obtain ⟨ha, rfl⟩ := Array.getElem?_eq_some_iff.mp hc
    have q := List.all_eq_true.mp ((Array.all_eq_true_iff_forall_mem.mp hF) _ (Array.getElem_mem ha)) i (List.mem_range.mpr hi)
    simpa [Array.getElem?_eq_getElem hi] using q
  obtain ⟨i0, ev0⟩ := is_v ha0
  obtain rfl : w0 = (.int i0) := Option.some.inj ev0
  obtain ⟨i1, ev1⟩ := is_v ha1
  obtain rfl : w1 = (.int i1) := Option.some.inj ev1
  obtain ⟨i2, ev2⟩ := is_v ha2
  obtain rfl : w2 = (.int i2) := Option.some.inj ev2
  obtain ⟨i3, ev3⟩ := is_v hr3
  obtain rfl : w3 = (.int i3) := Option.some.inj ev3
  obtain ⟨n1, n2⟩ := and_e hn
  obtain ⟨n3, n4⟩ := and_e n2
  obtain ⟨n5, n6⟩ := and_e n4
  obtain ⟨qs, es⟩ := exa_v n1
  obtain ⟨qa, ea⟩ := exa_v n3
  have hne : qa ≠ qs := fun q => by
    have r := (own_ord ea n6).symm.trans (q ▸ own_ord es n5)
    exact absurd (Value.int.inj (Option.some.inj r)) (by decide)
  obtain ⟨n, o, h1, h2, h3, _, L, rfl, ⟨rfl, N⟩, hq⟩ := rm0 l s _ hw tables_1 i0 i1 i2 i3 qs qa s.heap s.heap.size (Nat.le_refl _) (Sta.start es (Or.inr ⟨(tw1 hw), (tw2 hw)⟩)) (Sta.start ea (Or.inr ⟨(tw1 hw), (tw11 hw)⟩)) (Exa.start es n1) (Exa.start ea n3) hne p e ha hc hk s m _ below hf ((Spec.applies_iff_loose hf).mp happ).1 ⟨rfl, State.Warmed39.refl s, rfl⟩ trivial
  refine ⟨n, _, h1, h2, h3, hpost _ _ _ _ _ _ ⟨Cond.after_iff.mpr rfl, Cond.after_iff.mpr (eq_i res_at (Term.int_eval (1)) rfl), trivial⟩ ⟨hq.1, hq.2.1, (hq.2.2.sift fun y hy => Or.inr (N y hy)).mono (by decide) (by decide)⟩⟩
theorem main_1_1 : Claimed_1_1 := comes_1 fun _ _ _ _ _ _ h hF => ⟨h.1, hF⟩
theorem main_1_2 : Claimed_1_2 := comes_1 fun _ _ _ _ _ _ h hF => ⟨h.2.1, hF⟩
end Jvm.Pilot.@@N@@
namespace Jvm.Pilot.@@N@@
open Jvm Jvm.ClassFile Sem Op Lib Jvm.Free Jvm.Stand Jvm.Pilot.@@N@@.Jvm.D
/-! MADE BY PROGRAM (witnessworld.py) out of the Statement's table words and the real class files: 12 classes; the members and pool entries that the words name. The judged class is class 1, her method 1. -/
namespace start1
open Jvm.ClassFile
def u (s : String) : CpInfo := .utf8 (stringToUtf16 s)
/-- a pool by its gaps: so many unusable entries, then the entry; so many at the end -/
def gap : Nat → List CpInfo → List CpInfo
  | 0, r => r
  | n + 1, r => .unusable :: gap n r
def poolList (es : List (Nat × CpInfo)) (last : Nat) : List CpInfo := es.foldr (fun e r => gap e.1 (e.2 :: r)) (gap last [])
def pool (es : List (Nat × CpInfo)) (last : Nat) : Array CpInfo := ⟨poolList es last⟩
def fileOf (pool : Array CpInfo) (this : Nat) (attrs : Array Attribute := #[]) (ms : Array MethodInfo := #[]) (fl : Nat := 33) (sup : Nat := 0) (ifs : Array Nat := #[]) (fds : Array FieldInfo := #[]) : ClassFile where
  minorVersion := 0
  majorVersion := 65
  constantPool := pool
  accessFlags := fl
  thisClass := this
  superClass := sup
  interfaces := ifs
  fields := fds
  methods := ms
  attributes := attrs
def plain (name : String) (sup : Option ClassId) : Class where
  name := name
  kind := .ordinary
  loader := none
  accessFlags := 33
  super := sup
  interfaces := #[]
  cf := none
  fields := #[]
  methods := #[]
  instanceTypes := #[]
  staticTypes := #[]
  resolved := #[]
  callSites := []
  init := .initialized
  statics := none
  mirror := none

def pool0 : Array CpInfo := pool [(5, u "<init>"), (0, u "()V"), (1, .class_ 10), (1, u "java/lang/Object")] 113

def k0m0 : Method := { name := "<init>", desc := "()V", sig := { parameters := [], returnType := none }, accessFlags := 1, code := none }
/-- java/lang/Object -/
def k0 : Class := { plain "java/lang/Object" none with
  accessFlags := 33
  interfaces := #[]
  cf := some (fileOf pool0 8 #[] #[{ accessFlags := 1, nameIndex := 5, descriptorIndex := 6, attributes := #[] }] 33 0 #[] #[])
  fields := #[]
  methods := #[k0m0]
  instanceTypes := #[]
  staticTypes := #[]
  resolved := Array.replicate 124 none
  statics := none }

def pool1 : Array CpInfo := pool [(2, .class_ 4), (1, u "java/lang/Object"), (0, u "<init>"), (0, u "()V"), (0, .fieldref 8 9), (0, .class_ 10), (0, .nameAndType 11 12), (0, u "com/example/capwright/capwright/residual/RecaptureMethod"), (0, u "STRAIGHT_LINE"), (0, u "Lcom/example/capwright/capwright/residual/RecaptureMethod;"), (0, .fieldref 8 14), (0, .nameAndType 15 12), (0, u "ANNUITY"), (0, .integer 2147483647), (0, .methodref 8 18), (0, .nameAndType 19 20), (0, u "capitalLeft"), (0, u "(DII)D"), (0, .class_ 22), (0, u "com/example/capwright/capwright/residual/RecaptureMethodCapitalLeftPinLaw"), (2, u "law"), (0, u "(IIII)Z")] 3

def k1m0 : Method := { name := "<init>", desc := "()V", sig := { parameters := [], returnType := none }, accessFlags := 2, code := none }
def k1c1 : Code := { maxStack := 5, maxLocals := 13, code := code, exceptionTable := #[], attributes := #[] }
def k1m1 : Method := { name := "law", desc := "(IIII)Z", sig := { parameters := [.int, .int, .int, .int], returnType := some .boolean }, accessFlags := 9, code := some k1c1 }
/-- com/example/capwright/capwright/residual/RecaptureMethodCapitalLeftPinLaw -/
def k1 : Class := { plain "com/example/capwright/capwright/residual/RecaptureMethodCapitalLeftPinLaw" (some 0) with
  accessFlags := 49
  interfaces := #[]
  cf := some (fileOf pool1 21 #[] #[{ accessFlags := 2, nameIndex := 5, descriptorIndex := 6, attributes := #[] }, { accessFlags := 9, nameIndex := 25, descriptorIndex := 26, attributes := #[] }] 49 2 #[] #[])
  fields := #[]
  methods := #[k1m0, k1m1]
  instanceTypes := #[]
  staticTypes := #[]
  resolved := Array.replicate 30 none
  statics := none }

def pool2 : Array CpInfo := pool [(1, .class_ 2), (0, u "java/lang/constant/Constable"), (0, .class_ 4), (0, u "java/lang/Object")] 6

/-- java/lang/constant/Constable -/
def k2 : Class := { plain "java/lang/constant/Constable" (some 0) with
  accessFlags := 1537
  interfaces := #[]
  cf := some (fileOf pool2 1 #[] #[] 1537 3 #[] #[])
  fields := #[]
  methods := #[]
  instanceTypes := #[]
  staticTypes := #[]
  resolved := Array.replicate 11 none
  statics := none }

def pool3 : Array CpInfo := pool [(1, .class_ 2), (0, u "java/lang/Comparable"), (0, .class_ 4), (0, u "java/lang/Object")] 7

/-- java/lang/Comparable -/
def k3 : Class := { plain "java/lang/Comparable" (some 0) with
  accessFlags := 1537
  interfaces := #[]
  cf := some (fileOf pool3 1 #[] #[] 1537 3 #[] #[])
  fields := #[]
  methods := #[]
  instanceTypes := #[]
  staticTypes := #[]
  resolved := Array.replicate 12 none
  statics := none }

def pool4 : Array CpInfo := pool [(1, .class_ 2), (0, u "java/io/Serializable"), (0, .class_ 4), (0, u "java/lang/Object")] 2

/-- java/io/Serializable -/
def k4 : Class := { plain "java/io/Serializable" (some 0) with
  accessFlags := 1537
  interfaces := #[]
  cf := some (fileOf pool4 1 #[] #[] 1537 3 #[] #[])
  fields := #[]
  methods := #[]
  instanceTypes := #[]
  staticTypes := #[]
  resolved := Array.replicate 7 none
  statics := none }

def pool5 : Array CpInfo := pool [(2, .class_ 4), (1, u "java/lang/Enum"), (0, u "name"), (0, u "Ljava/lang/String;"), (2, u "ordinal"), (0, u "I"), (1, .class_ 14), (1, u "java/lang/Object"), (4, u "hash"), (86, .class_ 108), (1, u "java/lang/Enum$EnumDesc"), (2, .class_ 112), (0, u "java/lang/constant/Constable"), (0, .class_ 114), (0, u "java/lang/Comparable"), (0, .class_ 116), (0, u "java/io/Serializable")] 87

/-- java/lang/Enum -/
def k5 : Class := { plain "java/lang/Enum" (some 0) with
  accessFlags := 1057
  interfaces := #[2, 3, 4]
  cf := some (fileOf pool5 2 #[.nestMembers #[106]] #[] 1057 12 #[111, 113, 115] #[{ accessFlags := 18, nameIndex := 5, descriptorIndex := 6, attributes := #[] }, { accessFlags := 18, nameIndex := 9, descriptorIndex := 10, attributes := #[] }, { accessFlags := 2, nameIndex := 19, descriptorIndex := 10, attributes := #[] }])
  fields := #[{ name := "name", type := (.object "java/lang/String"), accessFlags := 18, slot := 0, constantValue := 0 }, { name := "ordinal", type := .int, accessFlags := 18, slot := 1, constantValue := 0 }, { name := "hash", type := .int, accessFlags := 2, slot := 2, constantValue := 0 }]
  methods := #[]
  instanceTypes := #[(.object "java/lang/String"), .int, .int]
  staticTypes := #[]
  resolved := Array.replicate 204 none
  statics := none }

def pool6 : Array CpInfo := pool [(1, .class_ 2), (0, u "com/example/capwright/capwright/residual/RecaptureMethod"), (0, .fieldref 1 4), (0, .nameAndType 5 6), (0, u "STRAIGHT_LINE"), (0, u "Lcom/example/capwright/capwright/residual/RecaptureMethod;"), (2, u "ANNUITY"), (2, u "$VALUES"), (0, u "[Lcom/example/capwright/capwright/residual/RecaptureMethod;"), (6, .class_ 22), (1, u "java/lang/Enum"), (8, u "word"), (0, u "Ljava/lang/String;"), (38, u "capitalLeft"), (0, u "(DII)D")] 5

def k6c0 : Code := { maxStack := 4, maxLocals := 7, code := prog_92_method_6_code, exceptionTable := #[], attributes := #[] }
def k6m0 : Method := { name := "capitalLeft", desc := "(DII)D", sig := { parameters := [.double, .int, .int], returnType := some .double }, accessFlags := 0, code := some k6c0 }
/-- com/example/capwright/capwright/residual/RecaptureMethod -/
def k6 : Class := { plain "com/example/capwright/capwright/residual/RecaptureMethod" (some 5) with
  accessFlags := 16433
  interfaces := #[]
  cf := some (fileOf pool6 1 #[] #[{ accessFlags := 0, nameIndex := 71, descriptorIndex := 72, attributes := #[] }] 16433 20 #[] #[{ accessFlags := 16409, nameIndex := 5, descriptorIndex := 6, attributes := #[] }, { accessFlags := 16409, nameIndex := 9, descriptorIndex := 6, attributes := #[] }, { accessFlags := 18, nameIndex := 31, descriptorIndex := 32, attributes := #[] }, { accessFlags := 4122, nameIndex := 12, descriptorIndex := 13, attributes := #[] }])
  fields := #[{ name := "STRAIGHT_LINE", type := (.object "com/example/capwright/capwright/residual/RecaptureMethod"), accessFlags := 16409, slot := 0, constantValue := 0 }, { name := "ANNUITY", type := (.object "com/example/capwright/capwright/residual/RecaptureMethod"), accessFlags := 16409, slot := 1, constantValue := 0 }, { name := "word", type := (.object "java/lang/String"), accessFlags := 18, slot := 3, constantValue := 0 }, { name := "$VALUES", type := (.array (.object "com/example/capwright/capwright/residual/RecaptureMethod")), accessFlags := 4122, slot := 2, constantValue := 0 }]
  methods := #[k6m0]
  instanceTypes := #[(.object "java/lang/String"), .int, .int, (.object "java/lang/String")]
  staticTypes := #[(.object "com/example/capwright/capwright/residual/RecaptureMethod"), (.object "com/example/capwright/capwright/residual/RecaptureMethod"), (.array (.object "com/example/capwright/capwright/residual/RecaptureMethod"))]
  resolved := Array.replicate 78 none
  statics := some 0 }

def pool7 : Array CpInfo := pool [(1, u "java/lang/Cloneable"), (0, .class_ 1), (0, u "java/lang/Object"), (0, .class_ 3)] 3

/-- java/lang/Cloneable -/
def k7 : Class := { plain "java/lang/Cloneable" (some 0) with
  accessFlags := 1537
  interfaces := #[]
  cf := some (fileOf pool7 2 #[] #[] 1537 4 #[] #[])
  fields := #[]
  methods := #[]
  instanceTypes := #[]
  staticTypes := #[]
  resolved := Array.replicate 8 none
  statics := none }

/-- the primitive byte -/
def k8 : Class := { plain "byte" none with kind := .primitive 'B', accessFlags := 0x411 }
/-- [B -/
def k9 : Class := { plain "[B" (some 0) with kind := .array 8 .byte, interfaces := #[7, 4], accessFlags := 1041 }

/-- the primitive int -/
def k10 : Class := { plain "int" none with kind := .primitive 'I', accessFlags := 0x411 }
/-- [I -/
def k11 : Class := { plain "[I" (some 0) with kind := .array 10 .int, interfaces := #[7, 4], accessFlags := 1041 }

def heap : Heap := #[{ cls := 6, slots := #[.ref 1, .ref 2, .null], vm := .statics 6 },
  { cls := 6, slots := #[.null, .int 0, .int 0, .null], vm := .none },
  { cls := 6, slots := #[.null, .int 1, .int 0, .null], vm := .none }]
def classes : Array Class := #[k0, k1, k2, k3, k4, k5, k6, k7, k8, k9, k10, k11]
def interned : List (Array UInt16 × Addr) := []
def slotsUsed : Nat := 11
def theMethod : MethodId := ⟨1, 1⟩
def args0 : Array Value := #[.int 5, .int 7, .int 8, .int 9]
def aboutOver (below : List Frame) : State where
  vm := { classes := classes, interned := interned.toArray }
  heap := heap
  slotsUsed := slotsUsed
  threads := #[{ frames := .invoking theMethod args0 :: below }]
def below0 : List Frame := [.native { method := ⟨0, 0⟩, args := #[] }]
def about1 : State := aboutOver below0
def p0 : Program := .bare "" "" ""
def e0 : Env := launch0.env 0 0 0
theorem w_frames : about1.frames = Frame.invoking theMethod args0 :: below0 := rfl
set_option maxRecDepth 65536 in
theorem w_args : argsFit about1.vm theMethod args0 = true := by decide +kernel
set_option maxRecDepth 65536 in
theorem w_heap : heapFits about1 = true := by decide +kernel
set_option maxRecDepth 65536 in
theorem w_runnable : about1.curStatus? = some .runnable := by decide +kernel
set_option maxRecDepth 65536 in
theorem w_alone : about1.alone = true := by decide +kernel
set_option maxRecDepth 65536 in
theorem w_named : about1.methodNamed? x = some theMethod := by decide +kernel
set_option maxRecDepth 65536 in
theorem w_hears : about1.hears theMethod below0 = true := by decide +kernel
set_option maxRecDepth 65536 in
theorem w_ripe : about1.ripe theMethod args0 below0 = true := by decide +kernel
theorem w_running : about1.status = .running := rfl
set_option maxRecDepth 65536 in
theorem w_room : about1.hasRoom e0.platform room_1 = true :=
  launch0.hasRoom_least _ room_1 (by decide +kernel) (by decide +kernel) (by decide +kernel) (by decide +kernel) (by decide +kernel) (by decide +kernel)
theorem allAtoms_all (ts : List Jvm.Cond) (a : Array Jvm.Value) (st : Jvm.State) : (allAtoms ts).before a st = ts.all (fun c => c.before a st) := by
  induction ts with
  | nil => rfl
  | cons c t ih =>
    show (Jvm.Cond.and c (allAtoms t)).before a st = _
    rw [Jvm.Cond.before_and, ih, List.all_cons]
def words1 : List Jvm.Cond := Jvm.Cond.code x code maxLocals ret :: tables_1
/-- a 'code' word, met by the world's own term for the bytes: nothing is compared byte by byte -/
theorem code_word {y : MethodName} {bytes : ByteArray} {mx : Nat} {rt : Option FieldType} {a : Array Value} {s : State} {m : MethodId} {meth : Method} {c : Code} (h1 : s.methodNamed? y = some m) (h2 : s.vm.method? m = some meth) (h3 : meth.code = some c) (h4 : c.code = bytes)
    (h5 : (c.maxLocals == mx && c.exceptionTable.isEmpty && decide (c.maxStack ≤ mostOperands) && decide (meth.sig.returnType = rt) && !meth.locks && decide (parseMethodDescriptor y.desc = some meth.sig)) = true) : (Jvm.Cond.code y bytes mx rt).before a s = true := by
  simp only [Bool.and_eq_true, beq_iff_eq, Bool.not_eq_true', decide_eq_true_eq] at h5
  obtain ⟨⟨⟨⟨⟨g1, g2⟩, g3⟩, g4⟩, g5⟩, g6⟩ := h5
  simp [Cond.before, Cond.holds, Cond.value, h1, h2, h3, h4, g1, g2, g3, g4, g5, g6]
def isCode : Jvm.Cond → Bool
  | .code _ _ _ _ => true
  | _ => false
theorem all_split {L : List Jvm.Cond} {P : Jvm.Cond → Bool} (h1 : L.all (fun c => isCode c || P c) = true) (h2 : ∀ c ∈ L.filter isCode, P c = true) : L.all P = true := by
  refine List.all_eq_true.mpr fun c hc => ?_
  have h := List.all_eq_true.mp h1 c hc
  rcases Bool.eq_false_or_eq_true (isCode c) with hi | hi
  · exact h2 c (List.mem_filter.mpr ⟨hc, hi⟩)
  · simpa [hi] using h
set_option maxRecDepth 65536 in
theorem w_c0 : (Jvm.Cond.code x code maxLocals ret).before args0 about1 = true := code_word (m := ⟨1, 1⟩) (meth := k1m1) (c := k1c1) (by decide +kernel) rfl rfl rfl (by decide +kernel)
set_option maxRecDepth 65536 in
theorem w_c1 : (Jvm.Cond.code ({ cls := "com/example/capwright/capwright/residual/RecaptureMethod", name := "capitalLeft", desc := "(DII)D" } : Jvm.MethodName) prog_92_method_6_code (7 : Nat) (Option.some Jvm.ClassFile.FieldType.double)).before args0 about1 = true := code_word (m := ⟨6, 0⟩) (meth := k6m0) (c := k6c0) (by decide +kernel) rfl rfl rfl (by decide +kernel)
def codes1 : List Jvm.Cond := [Jvm.Cond.code x code maxLocals ret, Jvm.Cond.code ({ cls := "com/example/capwright/capwright/residual/RecaptureMethod", name := "capitalLeft", desc := "(DII)D" } : Jvm.MethodName) prog_92_method_6_code (7 : Nat) (Option.some Jvm.ClassFile.FieldType.double)]
set_option maxRecDepth 65536 in
theorem codes_eq : words1.filter isCode = codes1 := rfl
theorem w_codes : ∀ c ∈ words1.filter isCode, c.before args0 about1 = true := by
  rw [codes_eq]
  intro c hc
  simp only [codes1, List.mem_cons, List.not_mem_nil, or_false] at hc
  rcases hc with rfl | rfl
  · exact w_c0
  · exact w_c1
set_option maxRecDepth 65536 in
theorem w_t1 : words1.all (fun c => isCode c || c.before args0 about1) = true := by decide +kernel
theorem w_tables : (allAtoms (Jvm.Cond.code x code maxLocals ret :: tables_1)).before args0 about1 = true := by
  rw [allAtoms_all]
  show words1.all (fun c => c.before args0 about1) = true
  refine all_split ?_ w_codes
  rw [w_t1]
set_option maxRecDepth 65536 in
theorem w_case : (Jvm.Cond.and given_1 narrow_1).before args0 about1 = true := by decide +kernel
theorem w_applies : (headSpec (Jvm.Cond.code x code maxLocals ret :: tables_1) room_1).applies x e0.platform about1 = true :=
  (Spec.applies_iff w_frames).mpr ⟨w_running, w_runnable, w_alone, w_named, w_hears, w_ripe, w_room, w_tables⟩
theorem atStart : AtStart classFile x code maxLocals ret World_1 tables_1 room_1 Calls_1 rest_1 Pre_1 launch0 p0 e0 about1 theMethod args0 below0 :=
  ⟨lists_1, trivial, launch0.admits_env _ _ _, launch0.least_env, fairChoices_fair.cas, fairChoices_fair.clock, w_frames, w_args, w_heap, w_applies, trivial, trivial, w_case⟩
end start1
theorem witness_1 : WitnessClaimed_1 := ⟨start1.p0, start1.e0, start1.about1, start1.theMethod, start1.args0, start1.below0, start1.atStart⟩
end Jvm.Pilot.@@N@@
