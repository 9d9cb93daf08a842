import JvmDerived
import JvmDerived.Pilot.@@N@@Statement
import JvmDerived.Pilot.@@N@@Code
set_option linter.unusedVariables false
set_option linter.unusedSimpArgs false
@@BLOCK:NumsL.lean.txt@@
namespace Jvm.Pilot.@@N@@
open Jvm Jvm.ClassFile Sem Op Lib Jvm.Free Jvm.Stand Jvm.LawKit Jvm.RoadKit Bundle Jvm.Pilot.@@N@@.Jvm.D
open Jvm.Free.Fl (NoNaN64 Fin64 Nz64)
abbrev uu : Slot := .unset
abbrev ss : Slot := .second
abbrev vi (x : Int32) : Slot := .val (.int x)
abbrev vj (x : Int64) : Slot := .val (.long x)
abbrev vd (x : UInt64) : Slot := .val (.double x)
abbrev vr (x : Addr) : Slot := .val (.ref x)
/-- whatever is reached from here is reached from E -/
abbrev own_G (p : Program) (e : Env) (below : List Frame) (E T : State) (g : JFrame) : Prop := ∀ t, Steps p.tables e below (T.setTop g) t → Steps p.tables e below E t
theorem own_if_eqY {x : Int32} (h : x = 0) : ifCond.holds .eq x = true := by subst h; rfl
theorem own_if_eqN {x : Int32} (h : ¬ x = 0) : ifCond.holds .eq x = false := beq_false_of_ne h
theorem own_if_neY {x : Int32} (h : ¬ x = 0) : ifCond.holds .ne x = true := bne_iff_ne.mpr h
theorem own_if_neN {x : Int32} (h : x = 0) : ifCond.holds .ne x = false := by subst h; rfl
theorem own_if_ltY {x : Int32} (h : x < 0) : ifCond.holds .lt x = true := decide_eq_true h
theorem own_if_ltN {x : Int32} (h : ¬ x < 0) : ifCond.holds .lt x = false := decide_eq_false h
theorem own_if_geY {x : Int32} (h : ¬ x < 0) : ifCond.holds .ge x = true := decide_eq_true (Int32.not_lt.mp h)
theorem own_if_geN {x : Int32} (h : x < 0) : ifCond.holds .ge x = false := decide_eq_false (fun q => Int32.not_le.mpr h q)
theorem own_if_gtY {x : Int32} (h : 0 < x) : ifCond.holds .gt x = true := decide_eq_true h
theorem own_if_gtN {x : Int32} (h : ¬ 0 < x) : ifCond.holds .gt x = false := decide_eq_false h
theorem own_if_leY {x : Int32} (h : ¬ 0 < x) : ifCond.holds .le x = true := decide_eq_true (Int32.not_lt.mp h)
theorem own_if_leN {x : Int32} (h : 0 < x) : ifCond.holds .le x = false := decide_eq_false (fun q => Int32.not_le.mpr h q)
theorem own_ic_eqY {x y : Int32} (h : x = y) : if_icmp.holds .eq x y = true := beq_iff_eq.mpr h
theorem own_ic_eqN {x y : Int32} (h : ¬ x = y) : if_icmp.holds .eq x y = false := beq_false_of_ne h
theorem own_ic_neY {x y : Int32} (h : ¬ x = y) : if_icmp.holds .ne x y = true := bne_iff_ne.mpr h
theorem own_ic_neN {x y : Int32} (h : x = y) : if_icmp.holds .ne x y = false := by subst h; exact bne_self_eq_false x
theorem own_ic_ltY {x y : Int32} (h : x < y) : if_icmp.holds .lt x y = true := decide_eq_true h
theorem own_ic_ltN {x y : Int32} (h : ¬ x < y) : if_icmp.holds .lt x y = false := decide_eq_false h
theorem own_ic_geY {x y : Int32} (h : ¬ x < y) : if_icmp.holds .ge x y = true := decide_eq_true (Int32.not_lt.mp h)
theorem own_ic_geN {x y : Int32} (h : x < y) : if_icmp.holds .ge x y = false := decide_eq_false (fun q => Int32.not_le.mpr h q)
theorem own_ic_gtY {x y : Int32} (h : y < x) : if_icmp.holds .gt x y = true := decide_eq_true h
theorem own_ic_gtN {x y : Int32} (h : ¬ y < x) : if_icmp.holds .gt x y = false := decide_eq_false h
theorem own_ic_leY {x y : Int32} (h : ¬ y < x) : if_icmp.holds .le x y = true := decide_eq_true (Int32.not_lt.mp h)
theorem own_ic_leN {x y : Int32} (h : y < x) : if_icmp.holds .le x y = false := decide_eq_false (fun q => Int32.not_le.mpr h q)
/-- what a comparison of two whole or scaled values pushes -/
def own_c (i j : Int) : Int32 := if i < j then -1 else if i = j then 0 else 1
theorem own_cE (o : CmpOp) {x y : UInt64} {i j : Int} (h : FP.dcmp x y = some (compare i j)) : cmpValue (FP.dcmp x y) o = own_c i j := by
  rw [h, FP.Core.compare_ite, own_c]
  by_cases h1 : i < j
  · rw [if_pos h1, if_pos h1]; cases o <;> rfl
  · rw [if_neg h1, if_neg h1]
    by_cases h2 : i = j
    · rw [if_pos h2, if_pos h2]; cases o <;> rfl
    · rw [if_neg h2, if_neg h2]; cases o <;> rfl
theorem own_c_lt {i j : Int} (h : i < j) : own_c i j = -1 := by rw [own_c, if_pos h]
theorem own_c_eq {i j : Int} (h : i = j) : own_c i j = 0 := by rw [own_c, if_neg (by omega), if_pos h]
theorem own_c_gt {i j : Int} (h : j < i) : own_c i j = 1 := by rw [own_c, if_neg (by omega), if_neg (by omega)]
theorem own_c_cases (i j : Int) : (i < j ∧ own_c i j = -1) ∨ (i = j ∧ own_c i j = 0) ∨ (j < i ∧ own_c i j = 1) := by
  rcases Int.lt_trichotomy i j with h | h | h
  · exact Or.inl ⟨h, own_c_lt h⟩
  · exact Or.inr (Or.inl ⟨h, own_c_eq h⟩)
  · exact Or.inr (Or.inr ⟨h, own_c_gt h⟩)
theorem own_c_ltY {i j : Int} (h : i < j) : ifCond.holds .lt (own_c i j) = true := by rw [own_c_lt h]; rfl
theorem own_c_ltN {i j : Int} (h : ¬ i < j) : ifCond.holds .lt (own_c i j) = false := by rcases own_c_cases i j with q | q | q <;> first | exact absurd q.1 h | (rw [q.2]; rfl)
theorem own_c_geY {i j : Int} (h : ¬ i < j) : ifCond.holds .ge (own_c i j) = true := by rcases own_c_cases i j with q | q | q <;> first | exact absurd q.1 h | (rw [q.2]; rfl)
theorem own_c_geN {i j : Int} (h : i < j) : ifCond.holds .ge (own_c i j) = false := by rw [own_c_lt h]; rfl
theorem own_c_gtY {i j : Int} (h : j < i) : ifCond.holds .gt (own_c i j) = true := by rw [own_c_gt h]; rfl
theorem own_c_gtN {i j : Int} (h : ¬ j < i) : ifCond.holds .gt (own_c i j) = false := by rcases own_c_cases i j with q | q | q <;> first | exact absurd q.1 h | (rw [q.2]; rfl)
theorem own_c_leY {i j : Int} (h : ¬ j < i) : ifCond.holds .le (own_c i j) = true := by rcases own_c_cases i j with q | q | q <;> first | exact absurd q.1 h | (rw [q.2]; rfl)
theorem own_c_leN {i j : Int} (h : j < i) : ifCond.holds .le (own_c i j) = false := by rw [own_c_gt h]; rfl
theorem own_c_eqY {i j : Int} (h : i = j) : ifCond.holds .eq (own_c i j) = true := by rw [own_c_eq h]; rfl
theorem own_c_eqN {i j : Int} (h : ¬ i = j) : ifCond.holds .eq (own_c i j) = false := by rcases own_c_cases i j with q | q | q <;> first | exact absurd q.1 h | (rw [q.2]; rfl)
theorem own_c_neY {i j : Int} (h : ¬ i = j) : ifCond.holds .ne (own_c i j) = true := by rcases own_c_cases i j with q | q | q <;> first | exact absurd q.1 h | (rw [q.2]; rfl)
theorem own_c_neN {i j : Int} (h : i = j) : ifCond.holds .ne (own_c i j) = false := by rw [own_c_eq h]; rfl
theorem own_l_lt {i j : Int64} (h : i < j) : XT.cmpL i j = -1 := by
  rw [XT.cmpL, if_neg (fun q => Int64.lt_irrefl (Int64.lt_trans h q)), if_neg (fun q => Int64.lt_irrefl (q ▸ h))]
theorem own_l_eq {i j : Int64} (h : i = j) : XT.cmpL i j = 0 := by subst h; rw [XT.cmpL, if_neg Int64.lt_irrefl, if_pos rfl]
theorem own_l_gt {i j : Int64} (h : j < i) : XT.cmpL i j = 1 := by rw [XT.cmpL, if_pos h]
theorem own_l_cases (i j : Int64) : (i < j ∧ XT.cmpL i j = -1) ∨ (i = j ∧ XT.cmpL i j = 0) ∨ (j < i ∧ XT.cmpL i j = 1) := by
  by_cases h : i < j
  · exact Or.inl ⟨h, own_l_lt h⟩
  · by_cases h2 : i = j
    · exact Or.inr (Or.inl ⟨h2, own_l_eq h2⟩)
    · have h3 : j < i := by
        rw [Int64.lt_iff_toInt_lt] at h ⊢
        have h4 : i.toInt ≠ j.toInt := fun q => h2 (Int64.toInt_inj.mp q)
        omega
      exact Or.inr (Or.inr ⟨h3, own_l_gt h3⟩)
theorem own_l_ltY {i j : Int64} (h : i < j) : ifCond.holds .lt (XT.cmpL i j) = true := by rw [own_l_lt h]; rfl
theorem own_l_ltN {i j : Int64} (h : ¬ i < j) : ifCond.holds .lt (XT.cmpL i j) = false := by rcases own_l_cases i j with q | q | q <;> first | exact absurd q.1 h | (rw [q.2]; rfl)
theorem own_l_geY {i j : Int64} (h : ¬ i < j) : ifCond.holds .ge (XT.cmpL i j) = true := by rcases own_l_cases i j with q | q | q <;> first | exact absurd q.1 h | (rw [q.2]; rfl)
theorem own_l_geN {i j : Int64} (h : i < j) : ifCond.holds .ge (XT.cmpL i j) = false := by rw [own_l_lt h]; rfl
theorem own_l_gtY {i j : Int64} (h : j < i) : ifCond.holds .gt (XT.cmpL i j) = true := by rw [own_l_gt h]; rfl
theorem own_l_gtN {i j : Int64} (h : ¬ j < i) : ifCond.holds .gt (XT.cmpL i j) = false := by rcases own_l_cases i j with q | q | q <;> first | exact absurd q.1 h | (rw [q.2]; rfl)
theorem own_l_leY {i j : Int64} (h : ¬ j < i) : ifCond.holds .le (XT.cmpL i j) = true := by rcases own_l_cases i j with q | q | q <;> first | exact absurd q.1 h | (rw [q.2]; rfl)
theorem own_l_leN {i j : Int64} (h : j < i) : ifCond.holds .le (XT.cmpL i j) = false := by rw [own_l_gt h]; rfl
theorem own_l_eqY {i j : Int64} (h : i = j) : ifCond.holds .eq (XT.cmpL i j) = true := by rw [own_l_eq h]; rfl
theorem own_l_eqN {i j : Int64} (h : ¬ i = j) : ifCond.holds .eq (XT.cmpL i j) = false := by rcases own_l_cases i j with q | q | q <;> first | exact absurd q.1 h | (rw [q.2]; rfl)
theorem own_l_neY {i j : Int64} (h : ¬ i = j) : ifCond.holds .ne (XT.cmpL i j) = true := by rcases own_l_cases i j with q | q | q <;> first | exact absurd q.1 h | (rw [q.2]; rfl)
theorem own_l_neN {i j : Int64} (h : i = j) : ifCond.holds .ne (XT.cmpL i j) = false := by rw [own_l_eq h]; rfl
theorem own_ac_eq_Y {x y : Value} (h : x = y) : XT.acmp .eq x y = true := decide_eq_true h
theorem own_ac_eq_N {x y : Value} (h : ¬ x = y) : XT.acmp .eq x y = false := decide_eq_false h
theorem own_ac_ne_Y {x y : Value} (h : ¬ x = y) : XT.acmp .ne x y = true := decide_eq_true h
theorem own_ac_ne_N {x y : Value} (h : x = y) : XT.acmp .ne x y = false := decide_eq_false (fun q => q h)
theorem own_ar_eq_Y {x y : Addr} (h : x = y) : XT.acmp .eq (.ref x) (.ref y) = true := own_ac_eq_Y (congrArg Value.ref h)
theorem own_ar_eq_N {x y : Addr} (h : ¬ x = y) : XT.acmp .eq (.ref x) (.ref y) = false := own_ac_eq_N (fun q => h (Value.ref.inj q))
theorem own_ar_ne_Y {x y : Addr} (h : ¬ x = y) : XT.acmp .ne (.ref x) (.ref y) = true := own_ac_ne_Y (fun q => h (Value.ref.inj q))
theorem own_ar_ne_N {x y : Addr} (h : x = y) : XT.acmp .ne (.ref x) (.ref y) = false := own_ac_ne_N (congrArg Value.ref h)
/-- a static's object's field that the case names by a number -/
theorem own_ord {args : Array Value} {s : State} {t : Term} {C n d : String} {k : Int32} {x : Addr} (ev : t.eval args s none [] s = some (.ref x))
    (h : (Jvm.Cond.eq (Term.field t C n d) (Term.int k)).value args s none s [] = some true) : s.fieldOf? x C n d = some (.int k) := by
  obtain ⟨v, u, e1, e2, k1, k2⟩ := cmp_v (Or.inl h)
  have e3 : u = .int k := by have := (Term.int_eval (args := args) (first := s) (o := none) (idx := []) (s := s) k).symm.trans e2; exact (Option.some.inj this).symm
  subst e3
  obtain ⟨z, rfl⟩ := k2
  have q := gotT (Cond.eq_ints e1 e2) h
  rw [← fld_at ev, e1, q]
/-! doubles: exact values in units of the least double -/
def own_z (x : UInt64) : Int := FP.Core.zval FP.Core.b64 (FP.Core.val64 x)
theorem own_nn {i : Int} {x : UInt64} (h : FP.Core.DInt i x) : NoNaN64 x := Fl.val64_no.mpr (FP.Core.DInt_ne_nan h)
theorem own_cmpz {x y : UInt64} (hx : NoNaN64 x) (hy : NoNaN64 y) : FP.dcmp x y = some (compare (own_z x) (own_z y)) := FP.Core.dcmp_zval (Fl.val64_no.mp hx) (Fl.val64_no.mp hy)
theorem own_d0 : FP.Core.DInt 0 FP.dconst0 := by
  have h := FP.Core.l2d_int (a := 0) (by decide)
  rw [FP.Core.l2d_zero] at h; exact h
theorem own_d1 : FP.Core.DInt 1 FP.dconst1 := FP.Core.dint_one
theorem own_zi {i : Int} {x : UInt64} (h : FP.Core.DInt i x) : own_z x = i * (FP.Core.one64 : Int) := FP.Core.DInt_zval h
theorem own_fini {i : Int} {x : UInt64} (h : FP.Core.DInt i x) : Fin64 x := by
  have h' : FP.Core.Whole i (FP.Core.val64 x) := h
  cases hv : FP.Core.val64 x with
  | nan => rw [hv] at h'; exact h'.elim
  | inf s => rw [hv] at h'; exact h'.elim
  | fin s c q => exact Fl.fin64_core.mpr ⟨s, c, q, hv⟩
theorem own_one : (0 : Int) < (FP.Core.one64 : Int) := by have := FP.Core.one64_pos; omega
theorem own_nz {x : UInt64} (h : own_z x ≠ 0) : Nz64 x := Fl.nz64_core.mpr fun ⟨s, q, e⟩ => h (by
  show FP.Core.zval FP.Core.b64 (FP.Core.val64 x) = 0
  rw [e]; show FP.Core.signed s (0 * _) = 0; rw [Nat.zero_mul]; cases s <;> rfl)
theorem own_nzi {i : Int} {x : UInt64} (h : FP.Core.DInt i x) (hi : i ≠ 0) : Nz64 x := own_nz (by
  rw [own_zi h]; intro q; rcases Int.mul_eq_zero.mp q with r | r
  · exact hi r
  · have := own_one; omega)
theorem own_zn (x : UInt64) : (own_z x).natAbs = FP.Core.zmag FP.Core.b64 (FP.Core.val64 x) := FP.Core.natAbs_signed _ _
/-- the quotient, by the two values alone -/
theorem own_quot {x y : UInt64} (hx : Fin64 x) (hy : Fin64 y) (hz : own_z y ≠ 0) :
    FP.Core.val64 (FP.ddiv x y) = FP.Core.roundRatio FP.Core.b64 (FP.Core.sgn (FP.Core.val64 x) != FP.Core.sgn (FP.Core.val64 y)) (own_z x).natAbs (own_z y).natAbs 0 := by
  obtain ⟨s, c, q, ex⟩ := Fl.fin64_core.mp hx
  obtain ⟨t, d, r, ey⟩ := Fl.fin64_core.mp hy
  have fx : FP.Core.fits FP.Core.b64 (.fin s c q) := ex ▸ FP.Core.val64_fits x
  have fy : FP.Core.fits FP.Core.b64 (.fin t d r) := ey ▸ FP.Core.val64_fits y
  have hd : d ≠ 0 := fun h => hz (by
    show FP.Core.zval FP.Core.b64 (FP.Core.val64 y) = 0
    rw [ey, h]; show FP.Core.signed t (0 * _) = 0; rw [Nat.zero_mul]; cases t <;> rfl)
  rw [own_zn, own_zn, show FP.ddiv x y = FP.Core.ddiv x y from rfl, FP.Core.val64_ddiv, ex, ey]
  show (if d = 0 then _ else FP.Core.roundRatio FP.Core.b64 (s != t) c d (q - r)) = FP.Core.roundRatio FP.Core.b64 (s != t) (c * 2 ^ (q - FP.Core.b64.qmin).toNat) (d * 2 ^ (r - FP.Core.b64.qmin).toNat) 0
  rw [if_neg hd]
  refine FP.Core.roundRatio_congr (Nat.pos_of_ne_zero hd) (Nat.mul_pos (Nat.pos_of_ne_zero hd) (Nat.two_pow_pos _)) ?_
  have h1 := fx.2.1
  have h2 := fy.2.1
  have e1 : (r - FP.Core.b64.qmin).toNat + (q - r - 0).toNat = (q - FP.Core.b64.qmin).toNat + (0 - (q - r)).toNat := by omega
  calc c * (d * 2 ^ (r - FP.Core.b64.qmin).toNat) * 2 ^ (q - r - 0).toNat = c * d * (2 ^ (r - FP.Core.b64.qmin).toNat * 2 ^ (q - r - 0).toNat) := by
        rw [Nat.mul_assoc, Nat.mul_assoc, Nat.mul_assoc]
    _ = c * d * (2 ^ (q - FP.Core.b64.qmin).toNat * 2 ^ (0 - (q - r)).toNat) := by rw [← Nat.pow_add, ← Nat.pow_add, e1]
    _ = c * 2 ^ (q - FP.Core.b64.qmin).toNat * d * 2 ^ (0 - (q - r)).toNat := by
        rw [Nat.mul_right_comm c _ d, Nat.mul_assoc (c * d)]
theorem own_noNaN_of {x : UInt64} {s : Bool} {A B : Nat} {e : Int} (h : FP.Core.val64 x = FP.Core.roundRatio FP.Core.b64 s A B e) : NoNaN64 x :=
  Fl.val64_no.mpr (h ▸ FP.Core.roundRatio_ne_nan _ _ _ _ _)
theorem own_div_nn {x y : UInt64} (hx : Fin64 x) (hy : Fin64 y) (hz : own_z y ≠ 0) : NoNaN64 (FP.ddiv x y) := Fl.ddiv_out hx.noNaN hy (own_nz hz)
/-- what is rounded below (above) a double stays there -/
theorem own_rr_le {s : Bool} {A B : Nat} {V : UInt64} (hB : 0 < B) (hV : NoNaN64 V) (h : A * FP.Core.one64 ≤ (own_z V).natAbs * B) :
    FP.Core.zmag FP.Core.b64 (FP.Core.roundRatio FP.Core.b64 s A B 0) ≤ (own_z V).natAbs := by
  rw [own_zn] at h ⊢
  refine FP.Core.zmag_roundRatio_le FP.Core.good_b64 hB (FP.Core.val64_fits V) (Fl.val64_no.mp hV) (e0 := FP.Core.b64.qmin) (Int.le_refl _) (by decide +kernel) ?_
  rw [Int.sub_self]
  show A * 2 ^ (0 - FP.Core.b64.qmin).toNat ≤ _ * 1 * B
  rw [Nat.mul_one, Int.zero_sub, FP.Core.pow_qmin64]; exact h
theorem own_rr_ge {s : Bool} {A B : Nat} {V : UInt64} (hB : 0 < B) (h : (own_z V).natAbs * B ≤ A * FP.Core.one64) :
    (own_z V).natAbs ≤ FP.Core.zmag FP.Core.b64 (FP.Core.roundRatio FP.Core.b64 s A B 0) := by
  rw [own_zn] at h ⊢
  refine FP.Core.zmag_roundRatio_ge FP.Core.good_b64 hB (FP.Core.val64_fits V) (e0 := FP.Core.b64.qmin) (Int.le_refl _) (by decide +kernel) ?_
  rw [Int.sub_self]
  show _ * 1 * B ≤ A * 2 ^ (0 - FP.Core.b64.qmin).toNat
  rw [Nat.mul_one, Int.zero_sub, FP.Core.pow_qmin64]; exact h
theorem own_z_signed {x : UInt64} {s : Bool} {A B : Nat} (h : FP.Core.val64 x = FP.Core.roundRatio FP.Core.b64 s A B 0) :
    own_z x = FP.Core.signed s (FP.Core.zmag FP.Core.b64 (FP.Core.roundRatio FP.Core.b64 s A B 0)) := by
  show FP.Core.signed _ _ = _
  rw [h, FP.Core.sgn_roundRatio]
/-- a quotient of two that are not below nought -/
theorem own_div_ge0 {x y : UInt64} (hx : Fin64 x) (hy : Fin64 y) (hz : own_z y ≠ 0) (h0 : 0 ≤ own_z x) (h1 : 0 ≤ own_z y) : 0 ≤ own_z (FP.ddiv x y) := by
  have hq := own_quot hx hy hz
  rw [own_z_signed hq]
  cases hs : (FP.Core.sgn (FP.Core.val64 x) != FP.Core.sgn (FP.Core.val64 y)) with
  | false => exact Int.natCast_nonneg _
  | true =>
    have hy2 : FP.Core.sgn (FP.Core.val64 y) = false := by
      cases hs2 : FP.Core.sgn (FP.Core.val64 y) with
      | false => rfl
      | true =>
        exfalso; have : own_z y = -(FP.Core.zmag FP.Core.b64 (FP.Core.val64 y) : Int) := by show FP.Core.signed _ _ = _; rw [hs2]; rfl
        omega
    have hx2 : FP.Core.sgn (FP.Core.val64 x) = true := by rw [hy2] at hs; simpa using hs
    have hx3 : own_z x = -(FP.Core.zmag FP.Core.b64 (FP.Core.val64 x) : Int) := by show FP.Core.signed _ _ = _; rw [hx2]; rfl
    have hx4 : (own_z x).natAbs = 0 := by omega
    rw [hx4, FP.Core.roundRatio, if_pos rfl]
    show 0 ≤ FP.Core.signed true (0 * _); rw [Nat.zero_mul]; decide
theorem own_div_le {x y V : UInt64} (hx : Fin64 x) (hy : Fin64 y) (hz : own_z y ≠ 0) (hV : NoNaN64 V) (h0 : 0 ≤ own_z x) (h1 : 0 ≤ own_z y) (h2 : 0 ≤ own_z V)
    (h : own_z x * (FP.Core.one64 : Int) ≤ own_z V * own_z y) : own_z (FP.ddiv x y) ≤ own_z V := by
  have hq := own_quot hx hy hz
  have hge := own_div_ge0 hx hy hz h0 h1
  have hB : 0 < (own_z y).natAbs := by omega
  have h3 : (own_z x).natAbs * FP.Core.one64 ≤ (own_z V).natAbs * (own_z y).natAbs := by
    have e1 : ((own_z x).natAbs : Int) = own_z x := by omega
    have e2 : ((own_z y).natAbs : Int) = own_z y := by omega
    have e3 : ((own_z V).natAbs : Int) = own_z V := by omega
    have : (((own_z x).natAbs * FP.Core.one64 : Nat) : Int) ≤ (((own_z V).natAbs * (own_z y).natAbs : Nat) : Int) := by
      rw [Int.natCast_mul, Int.natCast_mul, e1, e2, e3]; exact h
    exact Int.ofNat_le.mp this
  have := own_rr_le (s := FP.Core.sgn (FP.Core.val64 x) != FP.Core.sgn (FP.Core.val64 y)) hB hV h3
  have h4 : (own_z (FP.ddiv x y)).natAbs ≤ (own_z V).natAbs := by rw [own_zn, hq]; exact this
  omega
/-- two doubles of the same whole value compare as equal -/
theorem own_eq0 {x y : UInt64} {i : Int} (o : CmpOp) (hx : FP.Core.DInt i x) (hy : FP.Core.DInt i y) : cmpValue (FP.dcmp x y) o = 0 := by
  rw [own_cE o (FP.Core.dcmp_int hx hy), own_c_eq rfl]
theorem own_mb {a b A B : Int} (h1 : -A ≤ a) (h2 : a ≤ A) (h3 : -B ≤ b) (h4 : b ≤ B) (h : A * B ≤ 9007199254740992) : (a * b).natAbs ≤ 2 ^ 53 := by
  rw [Int.natAbs_mul]
  have e1 : a.natAbs ≤ A.toNat := by omega
  have e2 : b.natAbs ≤ B.toNat := by omega
  have e3 : a.natAbs * b.natAbs ≤ A.toNat * B.toNat := Nat.mul_le_mul e1 e2
  have e4 : ((A.toNat * B.toNat : Nat) : Int) = A * B := by rw [Int.natCast_mul, Int.toNat_of_nonneg (by omega), Int.toNat_of_nonneg (by omega)]
  have e5 : (2 : Nat) ^ 53 = 9007199254740992 := by decide
  omega
theorem own_dl (a : Int64) {i : Int} (h : a.toInt = i) (hb : i.natAbs ≤ 2 ^ 53) : FP.Core.DInt i (FP.l2d a) := by subst h; exact FP.Core.l2d_int hb
theorem own_lm {a b : Int64} (h : (a.toInt * b.toInt).natAbs ≤ 2 ^ 53) : (a * b).toInt = a.toInt * b.toInt := by
  have e5 : (2 : Nat) ^ 53 = 9007199254740992 := by decide
  exact Jvm.Kit.i64_mul (by omega) (by omega)
theorem own_sgn_mul {s t : Bool} {b : Nat} {k : Int} (hb : 0 < b) (h : FP.Core.signed s (k.natAbs * b) = k * FP.Core.signed t b) : FP.Core.signed (s != t) k.natAbs = k := by
  have hb' : (0 : Int) < (b : Int) := by omega
  have e : ((k.natAbs * b : Nat) : Int) = (k.natAbs : Int) * (b : Int) := Int.natCast_mul _ _
  have key : ∀ z : Int, (k.natAbs : Int) * (b : Int) = z * (b : Int) → (k.natAbs : Int) = z := fun z q => Int.eq_of_mul_eq_mul_right (by omega) q
  cases s <;> cases t
  · show (k.natAbs : Int) = k
    apply key; rw [← e]; exact h
  · show -(k.natAbs : Int) = k
    have h' : ((k.natAbs * b : Nat) : Int) = k * -(b : Int) := h
    have := key (-k) (by rw [← e, h', Int.mul_neg, Int.neg_mul]); omega
  · show -(k.natAbs : Int) = k
    have h' : -((k.natAbs * b : Nat) : Int) = k * (b : Int) := h
    have := key (-k) (by rw [← e, Int.neg_mul, ← h', Int.neg_neg]); omega
  · show (k.natAbs : Int) = k
    have h' : -((k.natAbs * b : Nat) : Int) = k * -(b : Int) := h
    apply key; rw [← e]
    have : -((k.natAbs * b : Nat) : Int) = -(k * (b : Int)) := by rw [h', Int.mul_neg]
    omega
/-- a quotient of whole values that comes out even -/
theorem own_ddiv_int {k j : Int} {x y : UInt64} (hx : FP.Core.DInt (k * j) x) (hy : FP.Core.DInt j y) (hj : j ≠ 0) (hk : k.natAbs ≤ 2 ^ 53) : FP.Core.DInt k (FP.ddiv x y) := by
  have zx := own_zi hx
  have zy := own_zi hy
  have hz : own_z y ≠ 0 := by rw [zy]; exact Int.mul_ne_zero hj (by have := own_one; omega)
  have hq := own_quot (own_fini hx) (own_fini hy) hz
  have ha : (own_z x).natAbs = k.natAbs * (own_z y).natAbs := by rw [zx, zy, Int.mul_assoc, Int.natAbs_mul]
  have hb : 0 < (own_z y).natAbs := by omega
  show FP.Core.Whole k (FP.Core.val64 (FP.ddiv x y))
  rw [hq, ha, FP.Core.roundRatio_congr (A' := k.natAbs) (B' := 1) (e' := 0) hb (by decide) (by rw [Nat.mul_one])]
  refine FP.Core.whole_round FP.Core.good_b64 FP.Core.wide_b64 hk (d := .fin (FP.Core.sgn (FP.Core.val64 x) != FP.Core.sgn (FP.Core.val64 y)) k.natAbs 0) ?_
  show FP.Core.signed _ (k.natAbs * 1) = k * ((1 : Nat) : Int)
  rw [Nat.mul_one, show ((1 : Nat) : Int) = 1 from rfl, Int.mul_one]
  refine own_sgn_mul hb ?_
  have e1 : FP.Core.signed (FP.Core.sgn (FP.Core.val64 x)) (own_z x).natAbs = own_z x := by rw [own_zn]; rfl
  have e2 : FP.Core.signed (FP.Core.sgn (FP.Core.val64 y)) (own_z y).natAbs = own_z y := by rw [own_zn]; rfl
  rw [← ha, e1, e2, zx, zy, Int.mul_assoc]
theorem own_zmag_s (s : Bool) (A B : Nat) (e : Int) : FP.Core.zmag FP.Core.b64 (FP.Core.roundRatio FP.Core.b64 s A B e) = FP.Core.zmag FP.Core.b64 (FP.Core.roundRatio FP.Core.b64 false A B e) := by
  cases s with
  | false => rfl
  | true =>
    rw [show FP.Core.roundRatio FP.Core.b64 true A B e = FP.Core.negate (FP.Core.roundRatio FP.Core.b64 false A B e) from (FP.Core.negate_roundRatio FP.Core.b64 false A B e).symm]
    cases FP.Core.roundRatio FP.Core.b64 false A B e <;> rfl
theorem own_div_n {x y : UInt64} (hx : Fin64 x) (hy : Fin64 y) (hz : own_z y ≠ 0) : (own_z (FP.ddiv x y)).natAbs = FP.Core.zmag FP.Core.b64 (FP.Core.roundRatio FP.Core.b64 false (own_z x).natAbs (own_z y).natAbs 0) := by
  rw [own_zn, own_quot hx hy hz, own_zmag_s]
/-- two quotients of the same ratio, none below nought -/
theorem own_div_congr {x y x' y' : UInt64} (hx : Fin64 x) (hy : Fin64 y) (hz : own_z y ≠ 0) (hx' : Fin64 x') (hy' : Fin64 y') (hz' : own_z y' ≠ 0)
    (g1 : 0 ≤ own_z x) (g2 : 0 ≤ own_z y) (g3 : 0 ≤ own_z x') (g4 : 0 ≤ own_z y') (h : own_z x * own_z y' = own_z x' * own_z y) : own_z (FP.ddiv x y) = own_z (FP.ddiv x' y') := by
  have e1 := own_div_n hx hy hz
  have e2 := own_div_n hx' hy' hz'
  have k1 := own_div_ge0 hx hy hz g1 g2
  have k2 := own_div_ge0 hx' hy' hz' g3 g4
  have h' : (own_z x).natAbs * (own_z y').natAbs = (own_z x').natAbs * (own_z y).natAbs := by rw [← Int.natAbs_mul, ← Int.natAbs_mul, h]
  rw [FP.Core.roundRatio_congr (A' := (own_z x').natAbs) (B' := (own_z y').natAbs) (e' := 0) (by omega) (by omega) (by rw [h'])] at e1
  omega
/-- m * 2^k units is a double -/
theorem own_rep (m k : Nat) (hm : m < 2 ^ 53) (hk : k ≤ 2045) : ∃ V : UInt64, Fin64 V ∧ own_z V = ((m * 2 ^ k : Nat) : Int) := by
  have hq : FP.Core.b64.qmin = -1074 := FP.Core.qmin_b64
  have hq2 : FP.Core.b64.qmax = 971 := by decide
  obtain ⟨c, q, e1, e2⟩ := FP.Core.round_exact FP.Core.good_b64 false (c := m) (q := (k : Int) - 1074) hm (by rw [hq]; omega) (by rw [hq2]; omega)
  have hv : FP.Core.val64 (FP.Core.of64 (FP.Core.round FP.Core.b64 (.fin false m ((k : Int) - 1074)))) = .fin false c q := by
    rw [FP.Core.val64_of64 (FP.Core.round_fits FP.Core.good_b64 _), e1]
  refine ⟨_, Fl.fin64_core.mpr ⟨_, _, _, hv⟩, ?_⟩
  show FP.Core.zval FP.Core.b64 _ = _
  rw [hv]
  show ((FP.Core.inUnits c q FP.Core.b64.qmin : Nat) : Int) = _
  rw [e2, FP.Core.inUnits, hq, show ((k : Int) - 1074 - -1074).toNat = k by omega]
/-- a quotient that comes out even in some binary place -/
theorem own_div_exact {x y : UInt64} (hx : Fin64 x) (hy : Fin64 y) (hz : own_z y ≠ 0) (g1 : 0 ≤ own_z x) (g2 : 0 ≤ own_z y) (m k : Nat) (hm : m < 2 ^ 53) (hk : k ≤ 2045)
    (h : own_z x * (FP.Core.one64 : Int) = ((m * 2 ^ k : Nat) : Int) * own_z y) : own_z (FP.ddiv x y) = ((m * 2 ^ k : Nat) : Int) := by
  obtain ⟨V, fV, zV⟩ := own_rep m k hm hk
  have k1 := own_div_ge0 hx hy hz g1 g2
  have e1 := own_div_n hx hy hz
  have h3 : (own_z x).natAbs * FP.Core.one64 = (own_z V).natAbs * (own_z y).natAbs := by
    have := congrArg Int.natAbs h
    rw [Int.natAbs_mul, Int.natAbs_mul, ← zV] at this
    exact this
  have l1 := own_rr_le (s := false) (A := (own_z x).natAbs) (B := (own_z y).natAbs) (V := V) (by omega) fV.noNaN (Nat.le_of_eq h3)
  have l2 := own_rr_ge (s := false) (A := (own_z x).natAbs) (B := (own_z y).natAbs) (V := V) (by omega) (Nat.le_of_eq h3.symm)
  omega
theorem own_eqz {x y : UInt64} (o : CmpOp) (hx : NoNaN64 x) (hy : NoNaN64 y) (h : own_z x = own_z y) : cmpValue (FP.dcmp x y) o = 0 := by
  rw [own_cE o (own_cmpz hx hy), own_c_eq h]
theorem own_ge0 {x : UInt64} (h : 0 ≤ own_z x) : ¬ own_z x < own_z FP.dconst0 := by rw [own_zi own_d0, Int.zero_mul]; exact Int.not_lt.mpr h
theorem own_le1 {x : UInt64} (h : own_z x ≤ own_z FP.dconst1) : ¬ own_z FP.dconst1 < own_z x := Int.not_lt.mpr h

def own_sh (p : Int32) : Int64 := ((p.toInt16.toInt32).toInt64)
theorem own_shb (p : Int32) : -32768 ≤ (own_sh p).toInt ∧ (own_sh p).toInt ≤ 32768 := by
  have e : (own_sh p).toInt = p.toInt16.toInt := by rw [own_sh, Jvm.Kit.i64_of_i32, Int16.toInt_toInt32]
  have h1 := Int16.le_toInt p.toInt16; have h2 := Int16.toInt_lt p.toInt16
  rw [e]; omega
theorem own_shD (p : Int32) : FP.Core.DInt (own_sh p).toInt (FP.l2d ((p.toInt16.toInt32).toInt64)) := own_dl _ rfl (by
  have h := own_shb p; have e5 : (2 : Nat) ^ 53 = 9007199254740992 := by decide
  omega)
theorem own_shm (p q : Int32) : ((own_sh p).toInt * (own_sh q).toInt).natAbs ≤ 2 ^ 53 := own_mb (A := 32768) (B := 32768) (own_shb p).1 (own_shb p).2 (own_shb q).1 (own_shb q).2 (by decide)
theorem own_lt (a b : Int64) : (a < b) = (a.toInt < b.toInt) := propext Int64.lt_iff_toInt_lt
theorem own_min (p1 p2 p3 : Int32) {qm : Addr} : (if qm = qm then (if (own_sh p2).toInt < (own_sh p1).toInt then (if (own_sh p2).toInt < 0 then (0 : Int32) else if ((own_sh p2).toInt * (own_sh p3).toInt) < (own_sh p1).toInt then 0 else 1) else 1) else (if (own_sh p1).toInt < (own_sh p2).toInt then (if (own_sh p1).toInt < 0 then 0 else if ((own_sh p1).toInt * (own_sh p3).toInt) < (own_sh p2).toInt then 0 else 1) else 1)) =
    (if (1 : Int32) = 0 then (if own_sh p1 < own_sh p2 then (if own_sh p1 < (0 : Int64) then 0 else if (own_sh p1 * own_sh p3) < own_sh p2 then 0 else 1) else 1) else (if own_sh p2 < own_sh p1 then (if own_sh p2 < (0 : Int64) then (0 : Int32) else if (own_sh p2 * own_sh p3) < own_sh p1 then 0 else 1) else 1)) := by
  rw [if_pos rfl, if_neg (show ¬ (1 : Int32) = 0 by decide)]
  simp only [own_lt, own_lm (own_shm p2 p3), show (0 : Int64).toInt = 0 from rfl]
theorem own_max (p1 p2 p3 : Int32) {qm qM : Addr} (ne : qM ≠ qm) : (if qM = qm then (if (own_sh p2).toInt < (own_sh p1).toInt then (if (own_sh p2).toInt < 0 then (0 : Int32) else if ((own_sh p2).toInt * (own_sh p3).toInt) < (own_sh p1).toInt then 0 else 1) else 1) else (if (own_sh p1).toInt < (own_sh p2).toInt then (if (own_sh p1).toInt < 0 then 0 else if ((own_sh p1).toInt * (own_sh p3).toInt) < (own_sh p2).toInt then 0 else 1) else 1)) =
    (if (0 : Int32) = 0 then (if own_sh p1 < own_sh p2 then (if own_sh p1 < (0 : Int64) then 0 else if (own_sh p1 * own_sh p3) < own_sh p2 then 0 else 1) else 1) else (if own_sh p2 < own_sh p1 then (if own_sh p2 < (0 : Int64) then (0 : Int32) else if (own_sh p2 * own_sh p3) < own_sh p1 then 0 else 1) else 1)) := by
  rw [if_neg ne, if_pos (show (0 : Int32) = 0 from rfl)]
  simp only [own_lt, own_lm (own_shm p1 p3), show (0 : Int64).toInt = 0 from rfl]

def Qrm1 (Z : State) (a : Addr) (x : UInt64) (y : UInt64) (z : UInt64) (q : Addr) (f : Int) (cc : Int) (k : Int) (h0 : Heap) (n0 : Nat) (vQ : Option Value) (hQ : Heap) (LQ : List Loc) : Prop := vQ = some (.int (if a = q then (if cc < f then (if cc < 0 then (0 : Int32) else if (cc * k) < f then 0 else 1) else 1) else (if f < cc then (if f < 0 then 0 else if (f * k) < cc then 0 else 1) else 1))) ∧ Fr n0 LQ ∧ hQ = h0
theorem ef_rm1 (m : MethodId) (a : Addr) (x : UInt64) (y : UInt64) (z : UInt64) (q : Addr) (f : Int) (cc : Int) (k : Int) : entryFrame m #[(.ref a), (.double x), (.double y), (.double z)] 7 = mkF m 0 #[vr a, vd x, ss, vd y, ss, vd z, ss] [] := by first | (simp [entryFrame, mkF, argsToLocals, Value.category]; done) | rfl
abbrev mn0 : MethodName := ⟨"com/example/sumbound/sumbound/algebra/Extremum", "covers", "(DDD)Z"⟩
theorem pn_com_example_sumbound_sumbound_algebra_Extremum : plainName "com/example/sumbound/sumbound/algebra/Extremum" = true := by first | (simp [plainName, overriddenIn]; done) | decide +kernel
theorem d_prog_2_method_4_code_0 : decode prog_2_method_4_code 0 = .ok (.aload_n 0, 1) := by decide +kernel
theorem d_prog_2_method_4_code_1 : decode prog_2_method_4_code 1 = .ok (.getstatic 3, 3) := by decide +kernel
def tw8 {Z : State} {a0 : Array Value} (hw : ∀ d ∈ tables_1, d.before a0 Z = true) := hw _ (List.mem_of_getElem? (i := 8) rfl)
theorem d_prog_2_method_4_code_4 : decode prog_2_method_4_code 4 = .ok (.if_acmp .ne 32, 3) := by decide +kernel
theorem d_prog_2_method_4_code_7 : decode prog_2_method_4_code 7 = .ok (.dload_n 3, 1) := by decide +kernel
theorem d_prog_2_method_4_code_8 : decode prog_2_method_4_code 8 = .ok (.dload_n 1, 1) := by decide +kernel
theorem d_prog_2_method_4_code_9 : decode prog_2_method_4_code 9 = .ok (.dcmp .l, 1) := by decide +kernel
theorem d_prog_2_method_4_code_10 : decode prog_2_method_4_code 10 = .ok (.ifCond .ge 18, 3) := by decide +kernel
theorem d_prog_2_method_4_code_13 : decode prog_2_method_4_code 13 = .ok (.dload_n 3, 1) := by decide +kernel
theorem d_prog_2_method_4_code_14 : decode prog_2_method_4_code 14 = .ok (.dconst 0, 1) := by decide +kernel
theorem d_prog_2_method_4_code_15 : decode prog_2_method_4_code 15 = .ok (.dcmp .l, 1) := by decide +kernel
theorem d_prog_2_method_4_code_16 : decode prog_2_method_4_code 16 = .ok (.ifCond .lt 16, 3) := by decide +kernel
theorem d_prog_2_method_4_code_32 : decode prog_2_method_4_code 32 = .ok (.iconst 0, 1) := by decide +kernel
theorem d_prog_2_method_4_code_33 : decode prog_2_method_4_code 33 = .ok (.goto 29, 3) := by decide +kernel
theorem d_prog_2_method_4_code_62 : decode prog_2_method_4_code 62 = .ok (.ireturn, 1) := by decide +kernel
theorem d_prog_2_method_4_code_19 : decode prog_2_method_4_code 19 = .ok (.dload_n 3, 1) := by decide +kernel
theorem d_prog_2_method_4_code_20 : decode prog_2_method_4_code 20 = .ok (.dload 5, 2) := by decide +kernel
theorem d_prog_2_method_4_code_22 : decode prog_2_method_4_code 22 = .ok (.dmul, 1) := by decide +kernel
theorem d_prog_2_method_4_code_23 : decode prog_2_method_4_code 23 = .ok (.dload_n 1, 1) := by decide +kernel
theorem d_prog_2_method_4_code_24 : decode prog_2_method_4_code 24 = .ok (.dcmp .l, 1) := by decide +kernel
theorem d_prog_2_method_4_code_25 : decode prog_2_method_4_code 25 = .ok (.ifCond .lt 7, 3) := by decide +kernel
theorem d_prog_2_method_4_code_28 : decode prog_2_method_4_code 28 = .ok (.iconst 1, 1) := by decide +kernel
theorem d_prog_2_method_4_code_29 : decode prog_2_method_4_code 29 = .ok (.goto 33, 3) := by decide +kernel
theorem d_prog_2_method_4_code_36 : decode prog_2_method_4_code 36 = .ok (.dload_n 3, 1) := by decide +kernel
theorem d_prog_2_method_4_code_37 : decode prog_2_method_4_code 37 = .ok (.dload_n 1, 1) := by decide +kernel
theorem d_prog_2_method_4_code_38 : decode prog_2_method_4_code 38 = .ok (.dcmp .g, 1) := by decide +kernel
theorem d_prog_2_method_4_code_39 : decode prog_2_method_4_code 39 = .ok (.ifCond .le 18, 3) := by decide +kernel
theorem d_prog_2_method_4_code_42 : decode prog_2_method_4_code 42 = .ok (.dload_n 1, 1) := by decide +kernel
theorem d_prog_2_method_4_code_43 : decode prog_2_method_4_code 43 = .ok (.dconst 0, 1) := by decide +kernel
theorem d_prog_2_method_4_code_44 : decode prog_2_method_4_code 44 = .ok (.dcmp .l, 1) := by decide +kernel
theorem d_prog_2_method_4_code_45 : decode prog_2_method_4_code 45 = .ok (.ifCond .lt 16, 3) := by decide +kernel
theorem d_prog_2_method_4_code_61 : decode prog_2_method_4_code 61 = .ok (.iconst 0, 1) := by decide +kernel
theorem d_prog_2_method_4_code_48 : decode prog_2_method_4_code 48 = .ok (.dload_n 3, 1) := by decide +kernel
theorem d_prog_2_method_4_code_49 : decode prog_2_method_4_code 49 = .ok (.dload_n 1, 1) := by decide +kernel
theorem d_prog_2_method_4_code_50 : decode prog_2_method_4_code 50 = .ok (.dload 5, 2) := by decide +kernel
theorem d_prog_2_method_4_code_52 : decode prog_2_method_4_code 52 = .ok (.dmul, 1) := by decide +kernel
theorem d_prog_2_method_4_code_53 : decode prog_2_method_4_code 53 = .ok (.dcmp .g, 1) := by decide +kernel
theorem d_prog_2_method_4_code_54 : decode prog_2_method_4_code 54 = .ok (.ifCond .gt 7, 3) := by decide +kernel
theorem d_prog_2_method_4_code_57 : decode prog_2_method_4_code 57 = .ok (.iconst 1, 1) := by decide +kernel
theorem d_prog_2_method_4_code_58 : decode prog_2_method_4_code 58 = .ok (.goto 4, 3) := by decide +kernel
set_option maxRecDepth 65536 in
set_option maxHeartbeats 40000000 in
theorem rm1 (l : Launch) (Z : State) (a0 : Array Value) (hw : ∀ d ∈ tables_1, d.before a0 Z = true) (ws : List Jvm.Cond) (a : Addr) (x : UInt64) (y : UInt64) (z : UInt64) (q : Addr) (f : Int) (cc : Int) (k : Int) (h0 : Heap) (n0 : Nat) (Z0 : n0 ≤ h0.size) (S1 : Sta Z h0 "com/example/sumbound/sumbound/algebra/Extremum" "MIN" "Lcom/example/sumbound/sumbound/algebra/Extremum;" (.ref q)) (Dx : FP.Core.DInt f x) (Dy : FP.Core.DInt cc y) (Dz : FP.Core.DInt k z) (hck : (cc * k).natAbs ≤ 2 ^ 53) (hfk : (f * k).natAbs ≤ 2 ^ 53) :
    MetFree l mn0 (head1 (Jvm.Cond.code mn0 prog_2_method_4_code 7 (some .boolean) :: ws) ({ frames := 0, cells := 0, slots := 0, locals := 0 } : Room)) (fun aA U => aA = #[(.ref a), (.double x), (.double y), (.double z)] ∧ Z.Warmed39 U.vm ∧ U.heap = h0) (fun _ _ _ _ _ => True) (fun _ U o U' => ∃ vR LR, o = .returned vR ∧ Qrm1 Z a x y z q f cc k h0 n0 vR U'.heap LR ∧ FrameEnd U o U' LR ({ frames := 0, cells := 0, slots := 0, locals := 0 } : Room).cells ({ frames := 0, cells := 0, slots := 0, locals := 0 } : Room).slots) := by
  refine MetFree.of_bodySF (plainFor_of_name pn_com_example_sumbound_sumbound_algebra_Extremum) hisR ?_
  intro p e s m args below meth c s₁ Bd hml0 hPre hKk
  obtain ⟨rfl, hZ, hh⟩ := hPre
  have hx := Bd.exec
  have hby := Bd.bytes
  have hml : c.maxLocals = 7 := hml0
  have hown : s.vm.findClass "com/example/sumbound/sumbound/algebra/Extremum" = some m.cls := findClass_of_methodNamed Bd.named
  have hnm := (name_of_methodNamed Bd.named Bd.method).1
  have X0 : Stand p l e ({ frames := 0, cells := 0, slots := 0, locals := 0 } : Room) s m #[(.ref a), (.double x), (.double y), (.double z)] below meth c s₁ [] 0 0 := Stand.of_body Bd
  have e0 : s₁.heap = h0 := by rw [← hh, Bd.state]; rfl
  have N0 := Fr.nil n0
  obtain ⟨E0, hE0⟩ : ∃ zE : State, zE = s₁.setTop (entryFrame m #[(.ref a), (.double x), (.double y), (.double z)] 7) := ⟨_, rfl⟩
  have k0 : own_G p e below E0 s₁ (mkF m 0 #[vr a, vd x, ss, vd y, ss, vd z, ss] []) := fun tz kz => hE0 ▸ castTop (ef_rm1 m a x y z q f cc k) kz
  have k1 : own_G p e below E0 s₁ (mkF m 1 #[vr a, vd x, ss, vd y, ss, vd z, ss] [(.ref a)]) := by
    intro t kk
    refine k0 t ?_
    refine XS.aloadN X0.here hx rfl (hb hby d_prog_2_method_4_code_0) rfl rfl ?_
    exact kk
  obtain ⟨T2, X3, e4, st5⟩ := getS X0 hx hZ hown (host := "") (tw8 hw) Via.refl e0 S1 (g := (mkF m 1 #[vr a, vd x, ss, vd y, ss, vd z, ss] [(.ref a)])) rfl (hb hby d_prog_2_method_4_code_1)
  have k6 : own_G p e below E0 T2 (mkF m 4 #[vr a, vd x, ss, vd y, ss, vd z, ss] [(.ref q), (.ref a)]) := fun t kk => k1 t (st5 _ kk)
  by_cases c7 : a = q
  · skip
    have k8 : own_G p e below E0 T2 (mkF m 10 #[vr a, vd x, ss, vd y, ss, vd z, ss] [(.int (own_c cc f))]) := by
      intro t kk
      refine k6 t ?_
      refine XT.acmpNo X3.here hx rfl (hb hby d_prog_2_method_4_code_4) rfl rfl rfl (own_ar_ne_N c7) ?_
      refine XS.dloadN X3.here hx rfl (hb hby d_prog_2_method_4_code_7) rfl ?_
      refine XS.dloadN X3.here hx rfl (hb hby d_prog_2_method_4_code_8) rfl ?_
      refine XS.dcmpS X3.here hx rfl (hb hby d_prog_2_method_4_code_9) rfl (own_cE .l (FP.Core.dcmp_int Dy Dx)) ?_
      exact kk
    by_cases c9 : cc < f
    · skip
      have k10 : own_G p e below E0 T2 (mkF m 16 #[vr a, vd x, ss, vd y, ss, vd z, ss] [(.int (own_c cc 0))]) := by
        intro t kk
        refine k8 t ?_
        refine XS.ifNo X3.here hx rfl (hb hby d_prog_2_method_4_code_10) rfl (own_c_geN c9) ?_
        refine XS.dloadN X3.here hx rfl (hb hby d_prog_2_method_4_code_13) rfl ?_
        refine XS.dconst0 X3.here hx rfl (hb hby d_prog_2_method_4_code_14) rfl ?_
        refine XS.dcmpS X3.here hx rfl (hb hby d_prog_2_method_4_code_15) rfl (own_cE .l (FP.Core.dcmp_int Dy own_d0)) ?_
        exact kk
      by_cases c11 : cc < 0
      · skip
        have k12 : own_G p e below E0 T2 (mkF m 62 #[vr a, vd x, ss, vd y, ss, vd z, ss] [(.int (0 : Int32))]) := by
          intro t kk
          refine k10 t ?_
          refine XS.ifYes X3.here hx rfl (pc0 := 16) (pc' := 32) rfl (hb hby d_prog_2_method_4_code_16) rfl (own_c_ltY c11) (by decide) (by decide) ?_
          refine XS.iconst X3.here hx rfl (hb hby d_prog_2_method_4_code_32) ?_
          refine XS.goto X3.here hx rfl (pc0 := 33) (pc' := 62) rfl (hb hby d_prog_2_method_4_code_33) (by decide) (by decide) ?_
          exact kk
        obtain ⟨fs, hr, hrun, hended, hW, hsame⟩ := X3.leave (v := some (.int (0 : Int32))) (fun h => by rw [Bd.returns] at h; cases h)
        have hrun0 := k12 _ (retOut X3 hx Bd.returns (t := .boolean) rfl (Or.inl ⟨rfl, Or.inr (Or.inl rfl), _, rfl⟩) (hb hby d_prog_2_method_4_code_62) hr)
        subst hE0
        refine ⟨_, _, hrun0, hrun, hended, _, _, rfl, ?_, ⟨_, rfl⟩, hW, hsame.mono (by decide) (by decide)⟩
        show Qrm1 Z a x y z q f cc k h0 n0 _ T2.heap _
        rw [e4]
        exact ⟨by rw [if_pos c7, if_pos c9, if_pos c11], N0, rfl⟩
      · skip
        have k13 : own_G p e below E0 T2 (mkF m 25 #[vr a, vd x, ss, vd y, ss, vd z, ss] [(.int (own_c (cc * k) f))]) := by
          intro t kk
          refine k10 t ?_
          refine XS.ifNo X3.here hx rfl (hb hby d_prog_2_method_4_code_16) rfl (own_c_ltN c11) ?_
          refine XS.dloadN X3.here hx rfl (hb hby d_prog_2_method_4_code_19) rfl ?_
          refine XS.dload X3.here hx rfl (hb hby d_prog_2_method_4_code_20) rfl ?_
          refine XS.dmulS X3.here hx rfl (hb hby d_prog_2_method_4_code_22) rfl (own_nn (FP.Core.dmul_int Dy Dz hck)) rfl ?_
          show Steps p.tables e below (T2.setTop (mkF m 23 #[vr a, vd x, ss, vd y, ss, vd z, ss] [(.double (FP.dmul y z))])) t
          refine XS.dloadN X3.here hx rfl (hb hby d_prog_2_method_4_code_23) rfl ?_
          refine XS.dcmpS X3.here hx rfl (hb hby d_prog_2_method_4_code_24) rfl (own_cE .l (FP.Core.dcmp_int (FP.Core.dmul_int Dy Dz hck) Dx)) ?_
          exact kk
        by_cases c14 : (cc * k) < f
        · skip
          have k15 : own_G p e below E0 T2 (mkF m 62 #[vr a, vd x, ss, vd y, ss, vd z, ss] [(.int (0 : Int32))]) := by
            intro t kk
            refine k13 t ?_
            refine XS.ifYes X3.here hx rfl (pc0 := 25) (pc' := 32) rfl (hb hby d_prog_2_method_4_code_25) rfl (own_c_ltY c14) (by decide) (by decide) ?_
            refine XS.iconst X3.here hx rfl (hb hby d_prog_2_method_4_code_32) ?_
            refine XS.goto X3.here hx rfl (pc0 := 33) (pc' := 62) rfl (hb hby d_prog_2_method_4_code_33) (by decide) (by decide) ?_
            exact kk
          obtain ⟨fs, hr, hrun, hended, hW, hsame⟩ := X3.leave (v := some (.int (0 : Int32))) (fun h => by rw [Bd.returns] at h; cases h)
          have hrun0 := k15 _ (retOut X3 hx Bd.returns (t := .boolean) rfl (Or.inl ⟨rfl, Or.inr (Or.inl rfl), _, rfl⟩) (hb hby d_prog_2_method_4_code_62) hr)
          subst hE0
          refine ⟨_, _, hrun0, hrun, hended, _, _, rfl, ?_, ⟨_, rfl⟩, hW, hsame.mono (by decide) (by decide)⟩
          show Qrm1 Z a x y z q f cc k h0 n0 _ T2.heap _
          rw [e4]
          exact ⟨by rw [if_pos c7, if_pos c9, if_neg c11, if_pos c14], N0, rfl⟩
        · skip
          have k16 : own_G p e below E0 T2 (mkF m 62 #[vr a, vd x, ss, vd y, ss, vd z, ss] [(.int (1 : Int32))]) := by
            intro t kk
            refine k13 t ?_
            refine XS.ifNo X3.here hx rfl (hb hby d_prog_2_method_4_code_25) rfl (own_c_ltN c14) ?_
            refine XS.iconst X3.here hx rfl (hb hby d_prog_2_method_4_code_28) ?_
            refine XS.goto X3.here hx rfl (pc0 := 29) (pc' := 62) rfl (hb hby d_prog_2_method_4_code_29) (by decide) (by decide) ?_
            exact kk
          obtain ⟨fs, hr, hrun, hended, hW, hsame⟩ := X3.leave (v := some (.int (1 : Int32))) (fun h => by rw [Bd.returns] at h; cases h)
          have hrun0 := k16 _ (retOut X3 hx Bd.returns (t := .boolean) rfl (Or.inl ⟨rfl, Or.inr (Or.inl rfl), _, rfl⟩) (hb hby d_prog_2_method_4_code_62) hr)
          subst hE0
          refine ⟨_, _, hrun0, hrun, hended, _, _, rfl, ?_, ⟨_, rfl⟩, hW, hsame.mono (by decide) (by decide)⟩
          show Qrm1 Z a x y z q f cc k h0 n0 _ T2.heap _
          rw [e4]
          exact ⟨by rw [if_pos c7, if_pos c9, if_neg c11, if_neg c14], N0, rfl⟩
    · skip
      have k17 : own_G p e below E0 T2 (mkF m 62 #[vr a, vd x, ss, vd y, ss, vd z, ss] [(.int (1 : Int32))]) := by
        intro t kk
        refine k8 t ?_
        refine XS.ifYes X3.here hx rfl (pc0 := 10) (pc' := 28) rfl (hb hby d_prog_2_method_4_code_10) rfl (own_c_geY c9) (by decide) (by decide) ?_
        refine XS.iconst X3.here hx rfl (hb hby d_prog_2_method_4_code_28) ?_
        refine XS.goto X3.here hx rfl (pc0 := 29) (pc' := 62) rfl (hb hby d_prog_2_method_4_code_29) (by decide) (by decide) ?_
        exact kk
      obtain ⟨fs, hr, hrun, hended, hW, hsame⟩ := X3.leave (v := some (.int (1 : Int32))) (fun h => by rw [Bd.returns] at h; cases h)
      have hrun0 := k17 _ (retOut X3 hx Bd.returns (t := .boolean) rfl (Or.inl ⟨rfl, Or.inr (Or.inl rfl), _, rfl⟩) (hb hby d_prog_2_method_4_code_62) hr)
      subst hE0
      refine ⟨_, _, hrun0, hrun, hended, _, _, rfl, ?_, ⟨_, rfl⟩, hW, hsame.mono (by decide) (by decide)⟩
      show Qrm1 Z a x y z q f cc k h0 n0 _ T2.heap _
      rw [e4]
      exact ⟨by rw [if_pos c7, if_neg c9], N0, rfl⟩
  · skip
    have k18 : own_G p e below E0 T2 (mkF m 39 #[vr a, vd x, ss, vd y, ss, vd z, ss] [(.int (own_c cc f))]) := by
      intro t kk
      refine k6 t ?_
      refine XT.acmpYes X3.here hx rfl (pc0 := 4) (pc' := 36) rfl (hb hby d_prog_2_method_4_code_4) rfl rfl rfl (own_ar_ne_Y c7) (by decide) (by decide) ?_
      refine XS.dloadN X3.here hx rfl (hb hby d_prog_2_method_4_code_36) rfl ?_
      refine XS.dloadN X3.here hx rfl (hb hby d_prog_2_method_4_code_37) rfl ?_
      refine XS.dcmpS X3.here hx rfl (hb hby d_prog_2_method_4_code_38) rfl (own_cE .g (FP.Core.dcmp_int Dy Dx)) ?_
      exact kk
    by_cases c19 : f < cc
    · skip
      have k20 : own_G p e below E0 T2 (mkF m 45 #[vr a, vd x, ss, vd y, ss, vd z, ss] [(.int (own_c f 0))]) := by
        intro t kk
        refine k18 t ?_
        refine XS.ifNo X3.here hx rfl (hb hby d_prog_2_method_4_code_39) rfl (own_c_leN c19) ?_
        refine XS.dloadN X3.here hx rfl (hb hby d_prog_2_method_4_code_42) rfl ?_
        refine XS.dconst0 X3.here hx rfl (hb hby d_prog_2_method_4_code_43) rfl ?_
        refine XS.dcmpS X3.here hx rfl (hb hby d_prog_2_method_4_code_44) rfl (own_cE .l (FP.Core.dcmp_int Dx own_d0)) ?_
        exact kk
      by_cases c21 : f < 0
      · skip
        have k22 : own_G p e below E0 T2 (mkF m 62 #[vr a, vd x, ss, vd y, ss, vd z, ss] [(.int (0 : Int32))]) := by
          intro t kk
          refine k20 t ?_
          refine XS.ifYes X3.here hx rfl (pc0 := 45) (pc' := 61) rfl (hb hby d_prog_2_method_4_code_45) rfl (own_c_ltY c21) (by decide) (by decide) ?_
          refine XS.iconst X3.here hx rfl (hb hby d_prog_2_method_4_code_61) ?_
          exact kk
        obtain ⟨fs, hr, hrun, hended, hW, hsame⟩ := X3.leave (v := some (.int (0 : Int32))) (fun h => by rw [Bd.returns] at h; cases h)
        have hrun0 := k22 _ (retOut X3 hx Bd.returns (t := .boolean) rfl (Or.inl ⟨rfl, Or.inr (Or.inl rfl), _, rfl⟩) (hb hby d_prog_2_method_4_code_62) hr)
        subst hE0
        refine ⟨_, _, hrun0, hrun, hended, _, _, rfl, ?_, ⟨_, rfl⟩, hW, hsame.mono (by decide) (by decide)⟩
        show Qrm1 Z a x y z q f cc k h0 n0 _ T2.heap _
        rw [e4]
        exact ⟨by rw [if_neg c7, if_pos c19, if_pos c21], N0, rfl⟩
      · skip
        have k23 : own_G p e below E0 T2 (mkF m 54 #[vr a, vd x, ss, vd y, ss, vd z, ss] [(.int (own_c cc (f * k)))]) := by
          intro t kk
          refine k20 t ?_
          refine XS.ifNo X3.here hx rfl (hb hby d_prog_2_method_4_code_45) rfl (own_c_ltN c21) ?_
          refine XS.dloadN X3.here hx rfl (hb hby d_prog_2_method_4_code_48) rfl ?_
          refine XS.dloadN X3.here hx rfl (hb hby d_prog_2_method_4_code_49) rfl ?_
          refine XS.dload X3.here hx rfl (hb hby d_prog_2_method_4_code_50) rfl ?_
          show Steps p.tables e below (T2.setTop (mkF m 52 #[vr a, vd x, ss, vd y, ss, vd z, ss] [(.double z), (.double x), (.double y)])) t
          refine XS.dmulS X3.here hx rfl (hb hby d_prog_2_method_4_code_52) rfl (own_nn (FP.Core.dmul_int Dx Dz hfk)) rfl ?_
          refine XS.dcmpS X3.here hx rfl (hb hby d_prog_2_method_4_code_53) rfl (own_cE .g (FP.Core.dcmp_int Dy (FP.Core.dmul_int Dx Dz hfk))) ?_
          exact kk
        by_cases c24 : (f * k) < cc
        · skip
          have k25 : own_G p e below E0 T2 (mkF m 62 #[vr a, vd x, ss, vd y, ss, vd z, ss] [(.int (0 : Int32))]) := by
            intro t kk
            refine k23 t ?_
            refine XS.ifYes X3.here hx rfl (pc0 := 54) (pc' := 61) rfl (hb hby d_prog_2_method_4_code_54) rfl (own_c_gtY c24) (by decide) (by decide) ?_
            refine XS.iconst X3.here hx rfl (hb hby d_prog_2_method_4_code_61) ?_
            exact kk
          obtain ⟨fs, hr, hrun, hended, hW, hsame⟩ := X3.leave (v := some (.int (0 : Int32))) (fun h => by rw [Bd.returns] at h; cases h)
          have hrun0 := k25 _ (retOut X3 hx Bd.returns (t := .boolean) rfl (Or.inl ⟨rfl, Or.inr (Or.inl rfl), _, rfl⟩) (hb hby d_prog_2_method_4_code_62) hr)
          subst hE0
          refine ⟨_, _, hrun0, hrun, hended, _, _, rfl, ?_, ⟨_, rfl⟩, hW, hsame.mono (by decide) (by decide)⟩
          show Qrm1 Z a x y z q f cc k h0 n0 _ T2.heap _
          rw [e4]
          exact ⟨by rw [if_neg c7, if_pos c19, if_neg c21, if_pos c24], N0, rfl⟩
        · skip
          have k26 : own_G p e below E0 T2 (mkF m 62 #[vr a, vd x, ss, vd y, ss, vd z, ss] [(.int (1 : Int32))]) := by
            intro t kk
            refine k23 t ?_
            refine XS.ifNo X3.here hx rfl (hb hby d_prog_2_method_4_code_54) rfl (own_c_gtN c24) ?_
            refine XS.iconst X3.here hx rfl (hb hby d_prog_2_method_4_code_57) ?_
            refine XS.goto X3.here hx rfl (pc0 := 58) (pc' := 62) rfl (hb hby d_prog_2_method_4_code_58) (by decide) (by decide) ?_
            exact kk
          obtain ⟨fs, hr, hrun, hended, hW, hsame⟩ := X3.leave (v := some (.int (1 : Int32))) (fun h => by rw [Bd.returns] at h; cases h)
          have hrun0 := k26 _ (retOut X3 hx Bd.returns (t := .boolean) rfl (Or.inl ⟨rfl, Or.inr (Or.inl rfl), _, rfl⟩) (hb hby d_prog_2_method_4_code_62) hr)
          subst hE0
          refine ⟨_, _, hrun0, hrun, hended, _, _, rfl, ?_, ⟨_, rfl⟩, hW, hsame.mono (by decide) (by decide)⟩
          show Qrm1 Z a x y z q f cc k h0 n0 _ T2.heap _
          rw [e4]
          exact ⟨by rw [if_neg c7, if_pos c19, if_neg c21, if_neg c24], N0, rfl⟩
    · skip
      have k27 : own_G p e below E0 T2 (mkF m 62 #[vr a, vd x, ss, vd y, ss, vd z, ss] [(.int (1 : Int32))]) := by
        intro t kk
        refine k18 t ?_
        refine XS.ifYes X3.here hx rfl (pc0 := 39) (pc' := 57) rfl (hb hby d_prog_2_method_4_code_39) rfl (own_c_leY c19) (by decide) (by decide) ?_
        refine XS.iconst X3.here hx rfl (hb hby d_prog_2_method_4_code_57) ?_
        refine XS.goto X3.here hx rfl (pc0 := 58) (pc' := 62) rfl (hb hby d_prog_2_method_4_code_58) (by decide) (by decide) ?_
        exact kk
      obtain ⟨fs, hr, hrun, hended, hW, hsame⟩ := X3.leave (v := some (.int (1 : Int32))) (fun h => by rw [Bd.returns] at h; cases h)
      have hrun0 := k27 _ (retOut X3 hx Bd.returns (t := .boolean) rfl (Or.inl ⟨rfl, Or.inr (Or.inl rfl), _, rfl⟩) (hb hby d_prog_2_method_4_code_62) hr)
      subst hE0
      refine ⟨_, _, hrun0, hrun, hended, _, _, rfl, ?_, ⟨_, rfl⟩, hW, hsame.mono (by decide) (by decide)⟩
      show Qrm1 Z a x y z q f cc k h0 n0 _ T2.heap _
      rw [e4]
      exact ⟨by rw [if_neg c7, if_neg c19], N0, rfl⟩
def Qrm2 (Z : State) (b : Int32) (f : Int64) (cc : Int64) (k : Int64) (h0 : Heap) (n0 : Nat) (vQ : Option Value) (hQ : Heap) (LQ : List Loc) : Prop := vQ = some (.int (if b = 0 then (if f < cc then (if f < (0 : Int64) then 0 else if (f * k) < cc then 0 else 1) else 1) else (if cc < f then (if cc < (0 : Int64) then (0 : Int32) else if (cc * k) < f then 0 else 1) else 1))) ∧ Fr n0 LQ ∧ hQ = h0
theorem ef_rm2 (m : MethodId) (b : Int32) (f : Int64) (cc : Int64) (k : Int64) : entryFrame m #[(.int b), (.long f), (.long cc), (.long k)] 7 = mkF m 0 #[vi b, vj f, ss, vj cc, ss, vj k, ss] [] := by first | (simp [entryFrame, mkF, argsToLocals, Value.category]; done) | rfl
abbrev mn1 : MethodName := ⟨"com/example/sumbound/sumbound/algebra/ExtremumCoversPinLaw", "expected", "(ZJJJ)Z"⟩
theorem pn_com_example_sumbound_sumbound_algebra_ExtremumCoversPinLaw : plainName "com/example/sumbound/sumbound/algebra/ExtremumCoversPinLaw" = true := by first | (simp [plainName, overriddenIn]; done) | decide +kernel
theorem d_method_3_code_0 : decode method_3_code 0 = .ok (.iload_n 0, 1) := by decide +kernel
theorem d_method_3_code_1 : decode method_3_code 1 = .ok (.ifCond .eq 34, 3) := by decide +kernel
theorem d_method_3_code_35 : decode method_3_code 35 = .ok (.lload_n 3, 1) := by decide +kernel
theorem d_method_3_code_36 : decode method_3_code 36 = .ok (.lload_n 1, 1) := by decide +kernel
theorem d_method_3_code_37 : decode method_3_code 37 = .ok (.lcmp, 1) := by decide +kernel
theorem d_method_3_code_38 : decode method_3_code 38 = .ok (.ifCond .gt 5, 3) := by decide +kernel
theorem d_method_3_code_43 : decode method_3_code 43 = .ok (.lload_n 1, 1) := by decide +kernel
theorem d_method_3_code_44 : decode method_3_code 44 = .ok (.lconst 0, 1) := by decide +kernel
theorem d_method_3_code_45 : decode method_3_code 45 = .ok (.lcmp, 1) := by decide +kernel
theorem d_method_3_code_46 : decode method_3_code 46 = .ok (.ifCond .ge 5, 3) := by decide +kernel
theorem d_method_3_code_49 : decode method_3_code 49 = .ok (.iconst 0, 1) := by decide +kernel
theorem d_method_3_code_50 : decode method_3_code 50 = .ok (.ireturn, 1) := by decide +kernel
theorem d_method_3_code_51 : decode method_3_code 51 = .ok (.lload_n 3, 1) := by decide +kernel
theorem d_method_3_code_52 : decode method_3_code 52 = .ok (.lload_n 1, 1) := by decide +kernel
theorem d_method_3_code_53 : decode method_3_code 53 = .ok (.lload 5, 2) := by decide +kernel
theorem d_method_3_code_55 : decode method_3_code 55 = .ok (.lmul, 1) := by decide +kernel
theorem d_method_3_code_56 : decode method_3_code 56 = .ok (.lcmp, 1) := by decide +kernel
theorem d_method_3_code_57 : decode method_3_code 57 = .ok (.ifCond .gt 7, 3) := by decide +kernel
theorem d_method_3_code_64 : decode method_3_code 64 = .ok (.iconst 0, 1) := by decide +kernel
theorem d_method_3_code_65 : decode method_3_code 65 = .ok (.ireturn, 1) := by decide +kernel
theorem d_method_3_code_60 : decode method_3_code 60 = .ok (.iconst 1, 1) := by decide +kernel
theorem d_method_3_code_61 : decode method_3_code 61 = .ok (.goto 4, 3) := by decide +kernel
theorem d_method_3_code_41 : decode method_3_code 41 = .ok (.iconst 1, 1) := by decide +kernel
theorem d_method_3_code_42 : decode method_3_code 42 = .ok (.ireturn, 1) := by decide +kernel
theorem d_method_3_code_4 : decode method_3_code 4 = .ok (.lload_n 3, 1) := by decide +kernel
theorem d_method_3_code_5 : decode method_3_code 5 = .ok (.lload_n 1, 1) := by decide +kernel
theorem d_method_3_code_6 : decode method_3_code 6 = .ok (.lcmp, 1) := by decide +kernel
theorem d_method_3_code_7 : decode method_3_code 7 = .ok (.ifCond .lt 5, 3) := by decide +kernel
theorem d_method_3_code_12 : decode method_3_code 12 = .ok (.lload_n 3, 1) := by decide +kernel
theorem d_method_3_code_13 : decode method_3_code 13 = .ok (.lconst 0, 1) := by decide +kernel
theorem d_method_3_code_14 : decode method_3_code 14 = .ok (.lcmp, 1) := by decide +kernel
theorem d_method_3_code_15 : decode method_3_code 15 = .ok (.ifCond .ge 5, 3) := by decide +kernel
theorem d_method_3_code_18 : decode method_3_code 18 = .ok (.iconst 0, 1) := by decide +kernel
theorem d_method_3_code_19 : decode method_3_code 19 = .ok (.ireturn, 1) := by decide +kernel
theorem d_method_3_code_20 : decode method_3_code 20 = .ok (.lload_n 3, 1) := by decide +kernel
theorem d_method_3_code_21 : decode method_3_code 21 = .ok (.lload 5, 2) := by decide +kernel
theorem d_method_3_code_23 : decode method_3_code 23 = .ok (.lmul, 1) := by decide +kernel
theorem d_method_3_code_24 : decode method_3_code 24 = .ok (.lload_n 1, 1) := by decide +kernel
theorem d_method_3_code_25 : decode method_3_code 25 = .ok (.lcmp, 1) := by decide +kernel
theorem d_method_3_code_26 : decode method_3_code 26 = .ok (.ifCond .lt 7, 3) := by decide +kernel
theorem d_method_3_code_33 : decode method_3_code 33 = .ok (.iconst 0, 1) := by decide +kernel
theorem d_method_3_code_34 : decode method_3_code 34 = .ok (.ireturn, 1) := by decide +kernel
theorem d_method_3_code_29 : decode method_3_code 29 = .ok (.iconst 1, 1) := by decide +kernel
theorem d_method_3_code_30 : decode method_3_code 30 = .ok (.goto 4, 3) := by decide +kernel
theorem d_method_3_code_10 : decode method_3_code 10 = .ok (.iconst 1, 1) := by decide +kernel
theorem d_method_3_code_11 : decode method_3_code 11 = .ok (.ireturn, 1) := by decide +kernel
set_option maxRecDepth 65536 in
set_option maxHeartbeats 40000000 in
theorem rm2 (l : Launch) (Z : State) (a0 : Array Value) (hw : ∀ d ∈ tables_1, d.before a0 Z = true) (ws : List Jvm.Cond) (b : Int32) (f : Int64) (cc : Int64) (k : Int64) (h0 : Heap) (n0 : Nat) (Z0 : n0 ≤ h0.size)  :
    MetFree l mn1 (head1 (Jvm.Cond.code mn1 method_3_code 7 (some .boolean) :: ws) ({ frames := 0, cells := 0, slots := 0, locals := 0 } : Room)) (fun aA U => aA = #[(.int b), (.long f), (.long cc), (.long k)] ∧ Z.Warmed39 U.vm ∧ U.heap = h0) (fun _ _ _ _ _ => True) (fun _ U o U' => ∃ vR LR, o = .returned vR ∧ Qrm2 Z b f cc k h0 n0 vR U'.heap LR ∧ FrameEnd U o U' LR ({ frames := 0, cells := 0, slots := 0, locals := 0 } : Room).cells ({ frames := 0, cells := 0, slots := 0, locals := 0 } : Room).slots) := by
  refine MetFree.of_bodySF (plainFor_of_name pn_com_example_sumbound_sumbound_algebra_ExtremumCoversPinLaw) hisR ?_
  intro p e s m args below meth c s₁ Bd hml0 hPre hKk
  obtain ⟨rfl, hZ, hh⟩ := hPre
  have hx := Bd.exec
  have hby := Bd.bytes
  have hml : c.maxLocals = 7 := hml0
  have hown : s.vm.findClass "com/example/sumbound/sumbound/algebra/ExtremumCoversPinLaw" = some m.cls := findClass_of_methodNamed Bd.named
  have hnm := (name_of_methodNamed Bd.named Bd.method).1
  have X0 : Stand p l e ({ frames := 0, cells := 0, slots := 0, locals := 0 } : Room) s m #[(.int b), (.long f), (.long cc), (.long k)] below meth c s₁ [] 0 0 := Stand.of_body Bd
  have e0 : s₁.heap = h0 := by rw [← hh, Bd.state]; rfl
  have N0 := Fr.nil n0
  obtain ⟨E0, hE0⟩ : ∃ zE : State, zE = s₁.setTop (entryFrame m #[(.int b), (.long f), (.long cc), (.long k)] 7) := ⟨_, rfl⟩
  have k0 : own_G p e below E0 s₁ (mkF m 0 #[vi b, vj f, ss, vj cc, ss, vj k, ss] []) := fun tz kz => hE0 ▸ castTop (ef_rm2 m b f cc k) kz
  have k28 : own_G p e below E0 s₁ (mkF m 1 #[vi b, vj f, ss, vj cc, ss, vj k, ss] [(.int b)]) := by
    intro t kk
    refine k0 t ?_
    refine XS.iloadN X0.here hx rfl (hb hby d_method_3_code_0) rfl ?_
    exact kk
  by_cases c29 : b = 0
  · skip
    have k30 : own_G p e below E0 s₁ (mkF m 38 #[vi b, vj f, ss, vj cc, ss, vj k, ss] [(.int (XT.cmpL cc f))]) := by
      intro t kk
      refine k28 t ?_
      refine XS.ifYes X0.here hx rfl (pc0 := 1) (pc' := 35) rfl (hb hby d_method_3_code_1) rfl (own_if_eqY c29) (by decide) (by decide) ?_
      refine XT.lloadN X0.here hx rfl (hb hby d_method_3_code_35) rfl ?_
      refine XT.lloadN X0.here hx rfl (hb hby d_method_3_code_36) rfl ?_
      refine XT.lcmp X0.here hx rfl (hb hby d_method_3_code_37) rfl ?_
      exact kk
    by_cases c31 : f < cc
    · skip
      have k32 : own_G p e below E0 s₁ (mkF m 46 #[vi b, vj f, ss, vj cc, ss, vj k, ss] [(.int (XT.cmpL f (0 : Int64)))]) := by
        intro t kk
        refine k30 t ?_
        refine XS.ifYes X0.here hx rfl (pc0 := 38) (pc' := 43) rfl (hb hby d_method_3_code_38) rfl (own_l_gtY c31) (by decide) (by decide) ?_
        refine XT.lloadN X0.here hx rfl (hb hby d_method_3_code_43) rfl ?_
        refine XT.lconst X0.here hx rfl (hb hby d_method_3_code_44) ?_
        refine XT.lcmp X0.here hx rfl (hb hby d_method_3_code_45) rfl ?_
        exact kk
      by_cases c33 : f < (0 : Int64)
      · skip
        have k34 : own_G p e below E0 s₁ (mkF m 50 #[vi b, vj f, ss, vj cc, ss, vj k, ss] [(.int (0 : Int32))]) := by
          intro t kk
          refine k32 t ?_
          refine XS.ifNo X0.here hx rfl (hb hby d_method_3_code_46) rfl (own_l_geN c33) ?_
          refine XS.iconst X0.here hx rfl (hb hby d_method_3_code_49) ?_
          exact kk
        obtain ⟨fs, hr, hrun, hended, hW, hsame⟩ := X0.leave (v := some (.int (0 : Int32))) (fun h => by rw [Bd.returns] at h; cases h)
        have hrun0 := k34 _ (retOut X0 hx Bd.returns (t := .boolean) rfl (Or.inl ⟨rfl, Or.inr (Or.inl rfl), _, rfl⟩) (hb hby d_method_3_code_50) hr)
        subst hE0
        refine ⟨_, _, hrun0, hrun, hended, _, _, rfl, ?_, ⟨_, rfl⟩, hW, hsame.mono (by decide) (by decide)⟩
        show Qrm2 Z b f cc k h0 n0 _ s₁.heap _
        rw [e0]
        exact ⟨by rw [if_pos c29, if_pos c31, if_pos c33], N0, rfl⟩
      · skip
        have k35 : own_G p e below E0 s₁ (mkF m 57 #[vi b, vj f, ss, vj cc, ss, vj k, ss] [(.int (XT.cmpL cc (f * k)))]) := by
          intro t kk
          refine k32 t ?_
          refine XS.ifYes X0.here hx rfl (pc0 := 46) (pc' := 51) rfl (hb hby d_method_3_code_46) rfl (own_l_geY c33) (by decide) (by decide) ?_
          refine XT.lloadN X0.here hx rfl (hb hby d_method_3_code_51) rfl ?_
          refine XT.lloadN X0.here hx rfl (hb hby d_method_3_code_52) rfl ?_
          refine XT.lload X0.here hx rfl (hb hby d_method_3_code_53) rfl ?_
          show Steps p.tables e below (s₁.setTop (mkF m 55 #[vi b, vj f, ss, vj cc, ss, vj k, ss] [(.long k), (.long f), (.long cc)])) t
          refine XT.lmul X0.here hx rfl (hb hby d_method_3_code_55) rfl ?_
          refine XT.lcmp X0.here hx rfl (hb hby d_method_3_code_56) rfl ?_
          exact kk
        by_cases c36 : (f * k) < cc
        · skip
          have k37 : own_G p e below E0 s₁ (mkF m 65 #[vi b, vj f, ss, vj cc, ss, vj k, ss] [(.int (0 : Int32))]) := by
            intro t kk
            refine k35 t ?_
            refine XS.ifYes X0.here hx rfl (pc0 := 57) (pc' := 64) rfl (hb hby d_method_3_code_57) rfl (own_l_gtY c36) (by decide) (by decide) ?_
            refine XS.iconst X0.here hx rfl (hb hby d_method_3_code_64) ?_
            exact kk
          obtain ⟨fs, hr, hrun, hended, hW, hsame⟩ := X0.leave (v := some (.int (0 : Int32))) (fun h => by rw [Bd.returns] at h; cases h)
          have hrun0 := k37 _ (retOut X0 hx Bd.returns (t := .boolean) rfl (Or.inl ⟨rfl, Or.inr (Or.inl rfl), _, rfl⟩) (hb hby d_method_3_code_65) hr)
          subst hE0
          refine ⟨_, _, hrun0, hrun, hended, _, _, rfl, ?_, ⟨_, rfl⟩, hW, hsame.mono (by decide) (by decide)⟩
          show Qrm2 Z b f cc k h0 n0 _ s₁.heap _
          rw [e0]
          exact ⟨by rw [if_pos c29, if_pos c31, if_neg c33, if_pos c36], N0, rfl⟩
        · skip
          have k38 : own_G p e below E0 s₁ (mkF m 65 #[vi b, vj f, ss, vj cc, ss, vj k, ss] [(.int (1 : Int32))]) := by
            intro t kk
            refine k35 t ?_
            refine XS.ifNo X0.here hx rfl (hb hby d_method_3_code_57) rfl (own_l_gtN c36) ?_
            refine XS.iconst X0.here hx rfl (hb hby d_method_3_code_60) ?_
            refine XS.goto X0.here hx rfl (pc0 := 61) (pc' := 65) rfl (hb hby d_method_3_code_61) (by decide) (by decide) ?_
            exact kk
          obtain ⟨fs, hr, hrun, hended, hW, hsame⟩ := X0.leave (v := some (.int (1 : Int32))) (fun h => by rw [Bd.returns] at h; cases h)
          have hrun0 := k38 _ (retOut X0 hx Bd.returns (t := .boolean) rfl (Or.inl ⟨rfl, Or.inr (Or.inl rfl), _, rfl⟩) (hb hby d_method_3_code_65) hr)
          subst hE0
          refine ⟨_, _, hrun0, hrun, hended, _, _, rfl, ?_, ⟨_, rfl⟩, hW, hsame.mono (by decide) (by decide)⟩
          show Qrm2 Z b f cc k h0 n0 _ s₁.heap _
          rw [e0]
          exact ⟨by rw [if_pos c29, if_pos c31, if_neg c33, if_neg c36], N0, rfl⟩
    · skip
      have k39 : own_G p e below E0 s₁ (mkF m 42 #[vi b, vj f, ss, vj cc, ss, vj k, ss] [(.int (1 : Int32))]) := by
        intro t kk
        refine k30 t ?_
        refine XS.ifNo X0.here hx rfl (hb hby d_method_3_code_38) rfl (own_l_gtN c31) ?_
        refine XS.iconst X0.here hx rfl (hb hby d_method_3_code_41) ?_
        exact kk
      obtain ⟨fs, hr, hrun, hended, hW, hsame⟩ := X0.leave (v := some (.int (1 : Int32))) (fun h => by rw [Bd.returns] at h; cases h)
      have hrun0 := k39 _ (retOut X0 hx Bd.returns (t := .boolean) rfl (Or.inl ⟨rfl, Or.inr (Or.inl rfl), _, rfl⟩) (hb hby d_method_3_code_42) hr)
      subst hE0
      refine ⟨_, _, hrun0, hrun, hended, _, _, rfl, ?_, ⟨_, rfl⟩, hW, hsame.mono (by decide) (by decide)⟩
      show Qrm2 Z b f cc k h0 n0 _ s₁.heap _
      rw [e0]
      exact ⟨by rw [if_pos c29, if_neg c31], N0, rfl⟩
  · skip
    have k40 : own_G p e below E0 s₁ (mkF m 7 #[vi b, vj f, ss, vj cc, ss, vj k, ss] [(.int (XT.cmpL cc f))]) := by
      intro t kk
      refine k28 t ?_
      refine XS.ifNo X0.here hx rfl (hb hby d_method_3_code_1) rfl (own_if_eqN c29) ?_
      refine XT.lloadN X0.here hx rfl (hb hby d_method_3_code_4) rfl ?_
      refine XT.lloadN X0.here hx rfl (hb hby d_method_3_code_5) rfl ?_
      refine XT.lcmp X0.here hx rfl (hb hby d_method_3_code_6) rfl ?_
      exact kk
    by_cases c41 : cc < f
    · skip
      have k42 : own_G p e below E0 s₁ (mkF m 15 #[vi b, vj f, ss, vj cc, ss, vj k, ss] [(.int (XT.cmpL cc (0 : Int64)))]) := by
        intro t kk
        refine k40 t ?_
        refine XS.ifYes X0.here hx rfl (pc0 := 7) (pc' := 12) rfl (hb hby d_method_3_code_7) rfl (own_l_ltY c41) (by decide) (by decide) ?_
        refine XT.lloadN X0.here hx rfl (hb hby d_method_3_code_12) rfl ?_
        refine XT.lconst X0.here hx rfl (hb hby d_method_3_code_13) ?_
        refine XT.lcmp X0.here hx rfl (hb hby d_method_3_code_14) rfl ?_
        exact kk
      by_cases c43 : cc < (0 : Int64)
      · skip
        have k44 : own_G p e below E0 s₁ (mkF m 19 #[vi b, vj f, ss, vj cc, ss, vj k, ss] [(.int (0 : Int32))]) := by
          intro t kk
          refine k42 t ?_
          refine XS.ifNo X0.here hx rfl (hb hby d_method_3_code_15) rfl (own_l_geN c43) ?_
          refine XS.iconst X0.here hx rfl (hb hby d_method_3_code_18) ?_
          exact kk
        obtain ⟨fs, hr, hrun, hended, hW, hsame⟩ := X0.leave (v := some (.int (0 : Int32))) (fun h => by rw [Bd.returns] at h; cases h)
        have hrun0 := k44 _ (retOut X0 hx Bd.returns (t := .boolean) rfl (Or.inl ⟨rfl, Or.inr (Or.inl rfl), _, rfl⟩) (hb hby d_method_3_code_19) hr)
        subst hE0
        refine ⟨_, _, hrun0, hrun, hended, _, _, rfl, ?_, ⟨_, rfl⟩, hW, hsame.mono (by decide) (by decide)⟩
        show Qrm2 Z b f cc k h0 n0 _ s₁.heap _
        rw [e0]
        exact ⟨by rw [if_neg c29, if_pos c41, if_pos c43], N0, rfl⟩
      · skip
        have k45 : own_G p e below E0 s₁ (mkF m 26 #[vi b, vj f, ss, vj cc, ss, vj k, ss] [(.int (XT.cmpL (cc * k) f))]) := by
          intro t kk
          refine k42 t ?_
          refine XS.ifYes X0.here hx rfl (pc0 := 15) (pc' := 20) rfl (hb hby d_method_3_code_15) rfl (own_l_geY c43) (by decide) (by decide) ?_
          refine XT.lloadN X0.here hx rfl (hb hby d_method_3_code_20) rfl ?_
          refine XT.lload X0.here hx rfl (hb hby d_method_3_code_21) rfl ?_
          refine XT.lmul X0.here hx rfl (hb hby d_method_3_code_23) rfl ?_
          show Steps p.tables e below (s₁.setTop (mkF m 24 #[vi b, vj f, ss, vj cc, ss, vj k, ss] [(.long (cc * k))])) t
          refine XT.lloadN X0.here hx rfl (hb hby d_method_3_code_24) rfl ?_
          refine XT.lcmp X0.here hx rfl (hb hby d_method_3_code_25) rfl ?_
          exact kk
        by_cases c46 : (cc * k) < f
        · skip
          have k47 : own_G p e below E0 s₁ (mkF m 34 #[vi b, vj f, ss, vj cc, ss, vj k, ss] [(.int (0 : Int32))]) := by
            intro t kk
            refine k45 t ?_
            refine XS.ifYes X0.here hx rfl (pc0 := 26) (pc' := 33) rfl (hb hby d_method_3_code_26) rfl (own_l_ltY c46) (by decide) (by decide) ?_
            refine XS.iconst X0.here hx rfl (hb hby d_method_3_code_33) ?_
            exact kk
          obtain ⟨fs, hr, hrun, hended, hW, hsame⟩ := X0.leave (v := some (.int (0 : Int32))) (fun h => by rw [Bd.returns] at h; cases h)
          have hrun0 := k47 _ (retOut X0 hx Bd.returns (t := .boolean) rfl (Or.inl ⟨rfl, Or.inr (Or.inl rfl), _, rfl⟩) (hb hby d_method_3_code_34) hr)
          subst hE0
          refine ⟨_, _, hrun0, hrun, hended, _, _, rfl, ?_, ⟨_, rfl⟩, hW, hsame.mono (by decide) (by decide)⟩
          show Qrm2 Z b f cc k h0 n0 _ s₁.heap _
          rw [e0]
          exact ⟨by rw [if_neg c29, if_pos c41, if_neg c43, if_pos c46], N0, rfl⟩
        · skip
          have k48 : own_G p e below E0 s₁ (mkF m 34 #[vi b, vj f, ss, vj cc, ss, vj k, ss] [(.int (1 : Int32))]) := by
            intro t kk
            refine k45 t ?_
            refine XS.ifNo X0.here hx rfl (hb hby d_method_3_code_26) rfl (own_l_ltN c46) ?_
            refine XS.iconst X0.here hx rfl (hb hby d_method_3_code_29) ?_
            refine XS.goto X0.here hx rfl (pc0 := 30) (pc' := 34) rfl (hb hby d_method_3_code_30) (by decide) (by decide) ?_
            exact kk
          obtain ⟨fs, hr, hrun, hended, hW, hsame⟩ := X0.leave (v := some (.int (1 : Int32))) (fun h => by rw [Bd.returns] at h; cases h)
          have hrun0 := k48 _ (retOut X0 hx Bd.returns (t := .boolean) rfl (Or.inl ⟨rfl, Or.inr (Or.inl rfl), _, rfl⟩) (hb hby d_method_3_code_34) hr)
          subst hE0
          refine ⟨_, _, hrun0, hrun, hended, _, _, rfl, ?_, ⟨_, rfl⟩, hW, hsame.mono (by decide) (by decide)⟩
          show Qrm2 Z b f cc k h0 n0 _ s₁.heap _
          rw [e0]
          exact ⟨by rw [if_neg c29, if_pos c41, if_neg c43, if_neg c46], N0, rfl⟩
    · skip
      have k49 : own_G p e below E0 s₁ (mkF m 11 #[vi b, vj f, ss, vj cc, ss, vj k, ss] [(.int (1 : Int32))]) := by
        intro t kk
        refine k40 t ?_
        refine XS.ifNo X0.here hx rfl (hb hby d_method_3_code_7) rfl (own_l_ltN c41) ?_
        refine XS.iconst X0.here hx rfl (hb hby d_method_3_code_10) ?_
        exact kk
      obtain ⟨fs, hr, hrun, hended, hW, hsame⟩ := X0.leave (v := some (.int (1 : Int32))) (fun h => by rw [Bd.returns] at h; cases h)
      have hrun0 := k49 _ (retOut X0 hx Bd.returns (t := .boolean) rfl (Or.inl ⟨rfl, Or.inr (Or.inl rfl), _, rfl⟩) (hb hby d_method_3_code_11) hr)
      subst hE0
      refine ⟨_, _, hrun0, hrun, hended, _, _, rfl, ?_, ⟨_, rfl⟩, hW, hsame.mono (by decide) (by decide)⟩
      show Qrm2 Z b f cc k h0 n0 _ s₁.heap _
      rw [e0]
      exact ⟨by rw [if_neg c29, if_neg c41], N0, rfl⟩
def Qrm0 (Z : State) (p0 : Int32) (p1 : Int32) (p2 : Int32) (p3 : Int32) (qm : Addr) (qM : Addr) (h0 : Heap) (n0 : Nat) (vQ : Option Value) (hQ : Heap) (LQ : List Loc) : Prop := vQ = some (.int (1 : Int32)) ∧ Fr n0 LQ
theorem ef_rm0 (m : MethodId) (p0 : Int32) (p1 : Int32) (p2 : Int32) (p3 : Int32) (qm : Addr) (qM : Addr) : entryFrame m #[(.int p0), (.int p1), (.int p2), (.int p3)] maxLocals = mkF m 0 #[vi p0, vi p1, vi p2, vi p3, uu, uu, uu, uu, uu, uu, uu, uu, uu] [] := by first | (simp [entryFrame, mkF, argsToLocals, Value.category, maxLocals]; done) | rfl
abbrev xa2 (Z : State) (h : Heap) (a : Addr) : Prop := Exa Z h a "com/example/sumbound/sumbound/algebra/Extremum"
def tw0 {Z : State} {a0 : Array Value} (hw : ∀ d ∈ tables_1, d.before a0 Z = true) := hw _ (List.mem_of_getElem? (i := 0) rfl)
def tw3 {Z : State} {a0 : Array Value} (hw : ∀ d ∈ tables_1, d.before a0 Z = true) := hw _ (List.mem_of_getElem? (i := 3) rfl)
def tw6 {Z : State} {a0 : Array Value} (hw : ∀ d ∈ tables_1, d.before a0 Z = true) := hw _ (List.mem_of_getElem? (i := 6) rfl)
def tw7 {Z : State} {a0 : Array Value} (hw : ∀ d ∈ tables_1, d.before a0 Z = true) := hw _ (List.mem_of_getElem? (i := 7) rfl)
def tw1 {Z : State} {a0 : Array Value} (hw : ∀ d ∈ tables_1, d.before a0 Z = true) := hw _ (List.mem_of_getElem? (i := 1) rfl)
theorem pd_3 : parseMethodDescriptor "(DDD)Z" = some ⟨[.double, .double, .double], some .boolean⟩ := by decide +kernel
def tw4 {Z : State} {a0 : Array Value} (hw : ∀ d ∈ tables_1, d.before a0 Z = true) := hw _ (List.mem_of_getElem? (i := 4) rfl)
def tw5 {Z : State} {a0 : Array Value} (hw : ∀ d ∈ tables_1, d.before a0 Z = true) := hw _ (List.mem_of_getElem? (i := 5) rfl)
def tw9 {Z : State} {a0 : Array Value} (hw : ∀ d ∈ tables_1, d.before a0 Z = true) := hw _ (List.mem_of_getElem? (i := 9) rfl)
def tw12 {Z : State} {a0 : Array Value} (hw : ∀ d ∈ tables_1, d.before a0 Z = true) := hw _ (List.mem_of_getElem? (i := 12) rfl)
def tw11 {Z : State} {a0 : Array Value} (hw : ∀ d ∈ tables_1, d.before a0 Z = true) := hw _ (List.mem_of_getElem? (i := 11) rfl)
theorem pd_4 : parseMethodDescriptor "(ZJJJ)Z" = some ⟨[.boolean, .long, .long, .long], some .boolean⟩ := by decide +kernel
def tw10 {Z : State} {a0 : Array Value} (hw : ∀ d ∈ tables_1, d.before a0 Z = true) := hw _ (List.mem_of_getElem? (i := 10) rfl)
def tw13 {Z : State} {a0 : Array Value} (hw : ∀ d ∈ tables_1, d.before a0 Z = true) := hw _ (List.mem_of_getElem? (i := 13) rfl)
set_option maxRecDepth 65536 in
set_option maxHeartbeats 40000000 in
theorem rm0 (l : Launch) (Z : State) (a0 : Array Value) (hw : ∀ d ∈ tables_1, d.before a0 Z = true) (ws : List Jvm.Cond) (p0 : Int32) (p1 : Int32) (p2 : Int32) (p3 : Int32) (qm : Addr) (qM : Addr) (h0 : Heap) (n0 : Nat) (Z0 : n0 ≤ h0.size) (S1 : Sta Z h0 "com/example/sumbound/sumbound/algebra/Extremum" "MIN" "Lcom/example/sumbound/sumbound/algebra/Extremum;" (.ref qm)) (S2 : Sta Z h0 "com/example/sumbound/sumbound/algebra/Extremum" "MAX" "Lcom/example/sumbound/sumbound/algebra/Extremum;" (.ref qM)) (E1 : xa2 Z h0 qm) (E2 : xa2 Z h0 qM) (ne1 : qM ≠ qm) :
    MetFree l x (head1 (Jvm.Cond.code x code maxLocals ret :: ws) room_1) (fun aA U => aA = #[(.int p0), (.int p1), (.int p2), (.int p3)] ∧ Z.Warmed39 U.vm ∧ U.heap = h0) (fun _ _ _ _ _ => True) (fun _ U o U' => ∃ vR LR, o = .returned vR ∧ Qrm0 Z p0 p1 p2 p3 qm qM h0 n0 vR U'.heap LR ∧ FrameEnd U o U' LR 0 0) := by
  refine MetFree.of_bodySF (plainFor_of_name pn_com_example_sumbound_sumbound_algebra_ExtremumCoversPinLaw) hisR ?_
  intro p e s m args below meth c s₁ Bd hml0 hPre hKk
  obtain ⟨rfl, hZ, hh⟩ := hPre
  have hx := Bd.exec
  have hby := Bd.bytes
  have hml : c.maxLocals = 13 := hml0
  have hown : s.vm.findClass "com/example/sumbound/sumbound/algebra/ExtremumCoversPinLaw" = some m.cls := findClass_of_methodNamed Bd.named
  have hnm := (name_of_methodNamed Bd.named Bd.method).1
  have X0 : Stand p l e room_1 s m #[(.int p0), (.int p1), (.int p2), (.int p3)] below meth c s₁ [] 0 0 := Stand.of_body Bd
  have e0 : s₁.heap = h0 := by rw [← hh, Bd.state]; rfl
  have N0 := Fr.nil n0
  obtain ⟨E0, hE0⟩ : ∃ zE : State, zE = s₁.setTop (entryFrame m #[(.int p0), (.int p1), (.int p2), (.int p3)] maxLocals) := ⟨_, rfl⟩
  have k0 : own_G p e below E0 s₁ (mkF m 0 #[vi p0, vi p1, vi p2, vi p3, uu, uu, uu, uu, uu, uu, uu, uu, uu] []) := fun tz kz => hE0 ▸ castTop (ef_rm0 m p0 p1 p2 p3 qm qM) kz
  have k50 : own_G p e below E0 s₁ (mkF m 3 #[vi p0, vi p1, vi p2, vi p3, uu, uu, uu, uu, uu, uu, uu, uu, uu] [(.int (p0 &&& (1 : Int32)))]) := by
    intro t kk
    refine k0 t ?_
    refine XS.iloadN X0.here hx rfl (hb hby at_0) rfl ?_
    refine XS.iconst X0.here hx rfl (hb hby at_1) ?_
    refine XS.iand X0.here hx rfl (hb hby at_2) rfl ?_
    exact kk
  by_cases c51 : (p0 &&& (1 : Int32)) = 0
  · skip
    have k52 : own_G p e below E0 s₁ (mkF m 33 #[vi p0, vi p1, vi p2, vi p3, vi (1 : Int32), vj ((p1.toInt16.toInt32).toInt64), ss, vj ((p2.toInt16.toInt32).toInt64), ss, vj ((p3.toInt16.toInt32).toInt64), ss, uu, uu] []) := by
      intro t kk
      refine k50 t ?_
      refine XS.ifNo X0.here hx rfl (hb hby at_3) rfl (own_if_neN c51) ?_
      refine XS.iconst X0.here hx rfl (hb hby at_6) ?_
      refine XS.goto X0.here hx rfl (pc0 := 7) (pc' := 11) rfl (hb hby at_7) (by decide) (by decide) ?_
      refine XS.istore X0.here hx rfl (hb hby at_11) rfl (l' := #[vi p0, vi p1, vi p2, vi p3, vi (1 : Int32), uu, uu, uu, uu, uu, uu, uu, uu]) rfl ?_
      show Steps p.tables e below (s₁.setTop (mkF m 13 #[vi p0, vi p1, vi p2, vi p3, vi (1 : Int32), uu, uu, uu, uu, uu, uu, uu, uu] [])) t
      refine XS.iloadN X0.here hx rfl (hb hby at_13) rfl ?_
      refine XT.i2s X0.here hx rfl (hb hby at_14) rfl ?_
      refine XT.i2l X0.here hx rfl (hb hby at_15) rfl ?_
      refine XT.lstore X0.here hx rfl (hb hby at_16) rfl (l' := #[vi p0, vi p1, vi p2, vi p3, vi (1 : Int32), vj ((p1.toInt16.toInt32).toInt64), ss, uu, uu, uu, uu, uu, uu]) rfl ?_
      show Steps p.tables e below (s₁.setTop (mkF m 18 #[vi p0, vi p1, vi p2, vi p3, vi (1 : Int32), vj ((p1.toInt16.toInt32).toInt64), ss, uu, uu, uu, uu, uu, uu] [])) t
      refine XS.iloadN X0.here hx rfl (hb hby at_18) rfl ?_
      refine XT.i2s X0.here hx rfl (hb hby at_19) rfl ?_
      refine XT.i2l X0.here hx rfl (hb hby at_20) rfl ?_
      refine XT.lstore X0.here hx rfl (hb hby at_21) rfl (l' := #[vi p0, vi p1, vi p2, vi p3, vi (1 : Int32), vj ((p1.toInt16.toInt32).toInt64), ss, vj ((p2.toInt16.toInt32).toInt64), ss, uu, uu, uu, uu]) rfl ?_
      show Steps p.tables e below (s₁.setTop (mkF m 23 #[vi p0, vi p1, vi p2, vi p3, vi (1 : Int32), vj ((p1.toInt16.toInt32).toInt64), ss, vj ((p2.toInt16.toInt32).toInt64), ss, uu, uu, uu, uu] [])) t
      refine XS.iloadN X0.here hx rfl (hb hby at_23) rfl ?_
      refine XT.i2s X0.here hx rfl (hb hby at_24) rfl ?_
      refine XT.i2l X0.here hx rfl (hb hby at_25) rfl ?_
      refine XT.lstore X0.here hx rfl (hb hby at_26) rfl (l' := #[vi p0, vi p1, vi p2, vi p3, vi (1 : Int32), vj ((p1.toInt16.toInt32).toInt64), ss, vj ((p2.toInt16.toInt32).toInt64), ss, vj ((p3.toInt16.toInt32).toInt64), ss, uu, uu]) rfl ?_
      show Steps p.tables e below (s₁.setTop (mkF m 28 #[vi p0, vi p1, vi p2, vi p3, vi (1 : Int32), vj ((p1.toInt16.toInt32).toInt64), ss, vj ((p2.toInt16.toInt32).toInt64), ss, vj ((p3.toInt16.toInt32).toInt64), ss, uu, uu] [])) t
      refine XS.iload X0.here hx rfl (hb hby at_28) rfl ?_
      refine XS.ifNo X0.here hx rfl (hb hby at_30) rfl (own_if_eqN (by decide)) ?_
      exact kk
    obtain ⟨T53, X54, e55, st56⟩ := getS X0 hx hZ hown (host := "") (tw0 hw) Via.refl e0 S1 (g := (mkF m 33 #[vi p0, vi p1, vi p2, vi p3, vi (1 : Int32), vj ((p1.toInt16.toInt32).toInt64), ss, vj ((p2.toInt16.toInt32).toInt64), ss, vj ((p3.toInt16.toInt32).toInt64), ss, uu, uu] [])) rfl (hb hby at_33)
    have k57 : own_G p e below E0 T53 (mkF m 36 #[vi p0, vi p1, vi p2, vi p3, vi (1 : Int32), vj ((p1.toInt16.toInt32).toInt64), ss, vj ((p2.toInt16.toInt32).toInt64), ss, vj ((p3.toInt16.toInt32).toInt64), ss, uu, uu] [(.ref qm)]) := fun t kk => k52 t (st56 _ kk)
    have k58 : own_G p e below E0 T53 (mkF m 55 #[vi p0, vi p1, vi p2, vi p3, vi (1 : Int32), vj ((p1.toInt16.toInt32).toInt64), ss, vj ((p2.toInt16.toInt32).toInt64), ss, vj ((p3.toInt16.toInt32).toInt64), ss, vr qm, uu] [(.double (FP.l2d ((p3.toInt16.toInt32).toInt64))), (.double (FP.l2d ((p2.toInt16.toInt32).toInt64))), (.double (FP.l2d ((p1.toInt16.toInt32).toInt64))), (.ref qm)]) := by
      intro t kk
      refine k57 t ?_
      refine XS.goto X54.here hx rfl (pc0 := 36) (pc' := 42) rfl (hb hby at_36) (by decide) (by decide) ?_
      refine XS.astore X54.here hx rfl (hb hby at_42) rfl rfl (l' := #[vi p0, vi p1, vi p2, vi p3, vi (1 : Int32), vj ((p1.toInt16.toInt32).toInt64), ss, vj ((p2.toInt16.toInt32).toInt64), ss, vj ((p3.toInt16.toInt32).toInt64), ss, vr qm, uu]) rfl ?_
      refine XS.aload X54.here hx rfl (hb hby at_44) rfl rfl ?_
      refine XT.lload X54.here hx rfl (hb hby at_46) rfl ?_
      show Steps p.tables e below (T53.setTop (mkF m 48 #[vi p0, vi p1, vi p2, vi p3, vi (1 : Int32), vj ((p1.toInt16.toInt32).toInt64), ss, vj ((p2.toInt16.toInt32).toInt64), ss, vj ((p3.toInt16.toInt32).toInt64), ss, vr qm, uu] [(.long ((p1.toInt16.toInt32).toInt64)), (.ref qm)])) t
      refine XS.l2dS X54.here hx rfl (hb hby at_48) rfl rfl ?_
      refine XT.lload X54.here hx rfl (hb hby at_49) rfl ?_
      refine XS.l2dS X54.here hx rfl (hb hby at_51) rfl rfl ?_
      refine XT.lload X54.here hx rfl (hb hby at_52) rfl ?_
      show Steps p.tables e below (T53.setTop (mkF m 54 #[vi p0, vi p1, vi p2, vi p3, vi (1 : Int32), vj ((p1.toInt16.toInt32).toInt64), ss, vj ((p2.toInt16.toInt32).toInt64), ss, vj ((p3.toInt16.toInt32).toInt64), ss, vr qm, uu] [(.long ((p3.toInt16.toInt32).toInt64)), (.double (FP.l2d ((p2.toInt16.toInt32).toInt64))), (.double (FP.l2d ((p1.toInt16.toInt32).toInt64))), (.ref qm)])) t
      refine XS.l2dS X54.here hx rfl (hb hby at_54) rfl rfl ?_
      exact kk
    obtain ⟨cq70, kq71, qa72, qb73, qc74⟩ := isOf hZ e55 E1
    obtain ⟨_, _, ⟨T59, L60, kc61, nc62⟩, -, X63, ⟨Lc64, hQ65, l66, y67, z68⟩, st69⟩ := X54.virtualBack hx (y := mn0) (z := mn0) hown (mvT hZ (tw3 hw)) (mvT hZ (tw4 hw)) (notFace_of_selects (args := #[]) (mvT hZ (tw6 hw))) (mvT hZ (tw6 hw)) (mvT hZ (tw5 hw)) (by decide) (backOf (W := 0) (rm1 l Z a0 hw [] qm (FP.l2d ((p1.toInt16.toInt32).toInt64)) (FP.l2d ((p2.toInt16.toInt32).toInt64)) (FP.l2d ((p3.toInt16.toInt32).toInt64)) qm (own_sh p1).toInt (own_sh p2).toInt (own_sh p3).toInt h0 n0 Z0 S1 (own_shD p1) (own_shD p2) (own_shD p3) (own_shm p2 p3) (own_shm p1 p3)) hZ (tw7 hw) (tw1 hw) (by decide) (by decide)) qa72 qc74 (g := (mkF m 55 #[vi p0, vi p1, vi p2, vi p3, vi (1 : Int32), vj ((p1.toInt16.toInt32).toInt64), ss, vj ((p2.toInt16.toInt32).toInt64), ss, vj ((p3.toInt16.toInt32).toInt64), ss, vr qm, uu] [(.double (FP.l2d ((p3.toInt16.toInt32).toInt64))), (.double (FP.l2d ((p2.toInt16.toInt32).toInt64))), (.double (FP.l2d ((p1.toInt16.toInt32).toInt64))), (.ref qm)])) rfl (by rw [hml]; rfl) (Steps.refl _) (argsL := [(.double (FP.l2d ((p1.toInt16.toInt32).toInt64))), (.double (FP.l2d ((p2.toInt16.toInt32).toInt64))), (.double (FP.l2d ((p3.toInt16.toInt32).toInt64)))]) (rest := []) (lenOf pd_3 rfl) rfl (by show 2 * 0 + _ ≤ _; exact Nat.le_of_eq rfl) (hb hby at_55) (fun _ _ => ⟨rfl, e55, (by decide : 0 + 0 ≤ _), (by decide : 0 + 0 ≤ _)⟩)
    dsimp only [Pt.U, Pt.locs, Pt.cells, Pt.slots] at X63 l66 y67 z68 st69 hQ65
    subst l66 y67 z68
    obtain ⟨rfl, N75, e76⟩ := hQ65
    have N78 := Fr.app N0 N75
    have k79 : own_G p e below E0 T59 (mkF m 58 #[vi p0, vi p1, vi p2, vi p3, vi (1 : Int32), vj ((p1.toInt16.toInt32).toInt64), ss, vj ((p2.toInt16.toInt32).toInt64), ss, vj ((p3.toInt16.toInt32).toInt64), ss, vr qm, uu] [(.int (if qm = qm then (if (own_sh p2).toInt < (own_sh p1).toInt then (if (own_sh p2).toInt < 0 then (0 : Int32) else if ((own_sh p2).toInt * (own_sh p3).toInt) < (own_sh p1).toInt then 0 else 1) else 1) else (if (own_sh p1).toInt < (own_sh p2).toInt then (if (own_sh p1).toInt < 0 then 0 else if ((own_sh p1).toInt * (own_sh p3).toInt) < (own_sh p2).toInt then 0 else 1) else 1)))]) := fun t kk => k58 t (st69.trans kk)
    have k80 : own_G p e below E0 T59 (mkF m 70 #[vi p0, vi p1, vi p2, vi p3, vi (1 : Int32), vj ((p1.toInt16.toInt32).toInt64), ss, vj ((p2.toInt16.toInt32).toInt64), ss, vj ((p3.toInt16.toInt32).toInt64), ss, vr qm, vi (if qm = qm then (if (own_sh p2).toInt < (own_sh p1).toInt then (if (own_sh p2).toInt < 0 then (0 : Int32) else if ((own_sh p2).toInt * (own_sh p3).toInt) < (own_sh p1).toInt then 0 else 1) else 1) else (if (own_sh p1).toInt < (own_sh p2).toInt then (if (own_sh p1).toInt < 0 then 0 else if ((own_sh p1).toInt * (own_sh p3).toInt) < (own_sh p2).toInt then 0 else 1) else 1))] [(.long ((p3.toInt16.toInt32).toInt64)), (.long ((p2.toInt16.toInt32).toInt64)), (.long ((p1.toInt16.toInt32).toInt64)), (.int (1 : Int32)), (.int (if qm = qm then (if (own_sh p2).toInt < (own_sh p1).toInt then (if (own_sh p2).toInt < 0 then (0 : Int32) else if ((own_sh p2).toInt * (own_sh p3).toInt) < (own_sh p1).toInt then 0 else 1) else 1) else (if (own_sh p1).toInt < (own_sh p2).toInt then (if (own_sh p1).toInt < 0 then 0 else if ((own_sh p1).toInt * (own_sh p3).toInt) < (own_sh p2).toInt then 0 else 1) else 1)))]) := by
      intro t kk
      refine k79 t ?_
      refine XS.istore X63.here hx rfl (hb hby at_58) rfl (l' := #[vi p0, vi p1, vi p2, vi p3, vi (1 : Int32), vj ((p1.toInt16.toInt32).toInt64), ss, vj ((p2.toInt16.toInt32).toInt64), ss, vj ((p3.toInt16.toInt32).toInt64), ss, vr qm, vi (if qm = qm then (if (own_sh p2).toInt < (own_sh p1).toInt then (if (own_sh p2).toInt < 0 then (0 : Int32) else if ((own_sh p2).toInt * (own_sh p3).toInt) < (own_sh p1).toInt then 0 else 1) else 1) else (if (own_sh p1).toInt < (own_sh p2).toInt then (if (own_sh p1).toInt < 0 then 0 else if ((own_sh p1).toInt * (own_sh p3).toInt) < (own_sh p2).toInt then 0 else 1) else 1))]) rfl ?_
      refine XS.iload X63.here hx rfl (hb hby at_60) rfl ?_
      refine XS.iload X63.here hx rfl (hb hby at_62) rfl ?_
      refine XT.lload X63.here hx rfl (hb hby at_64) rfl ?_
      show Steps p.tables e below (T59.setTop (mkF m 66 #[vi p0, vi p1, vi p2, vi p3, vi (1 : Int32), vj ((p1.toInt16.toInt32).toInt64), ss, vj ((p2.toInt16.toInt32).toInt64), ss, vj ((p3.toInt16.toInt32).toInt64), ss, vr qm, vi (if qm = qm then (if (own_sh p2).toInt < (own_sh p1).toInt then (if (own_sh p2).toInt < 0 then (0 : Int32) else if ((own_sh p2).toInt * (own_sh p3).toInt) < (own_sh p1).toInt then 0 else 1) else 1) else (if (own_sh p1).toInt < (own_sh p2).toInt then (if (own_sh p1).toInt < 0 then 0 else if ((own_sh p1).toInt * (own_sh p3).toInt) < (own_sh p2).toInt then 0 else 1) else 1))] [(.long ((p1.toInt16.toInt32).toInt64)), (.int (1 : Int32)), (.int (if qm = qm then (if (own_sh p2).toInt < (own_sh p1).toInt then (if (own_sh p2).toInt < 0 then (0 : Int32) else if ((own_sh p2).toInt * (own_sh p3).toInt) < (own_sh p1).toInt then 0 else 1) else 1) else (if (own_sh p1).toInt < (own_sh p2).toInt then (if (own_sh p1).toInt < 0 then 0 else if ((own_sh p1).toInt * (own_sh p3).toInt) < (own_sh p2).toInt then 0 else 1) else 1)))])) t
      refine XT.lload X63.here hx rfl (hb hby at_66) rfl ?_
      refine XT.lload X63.here hx rfl (hb hby at_68) rfl ?_
      exact kk
    obtain ⟨_, _, ⟨T81, L82, kc83, nc84⟩, -, X85, ⟨Lc86, hQ87, l88, y89, z90⟩, st91⟩ := Jvm.LawKit.callS X63 hx (y := mn1) hown (mvT hZ (tw9 hw)) (mvT hZ (tw10 hw)) (mvT hZ (tw11 hw)) (mvT hZ (tw12 hw)) (by decide) (backOf (W := 1) (rm2 l Z a0 hw [] (1 : Int32) ((p1.toInt16.toInt32).toInt64) ((p2.toInt16.toInt32).toInt64) ((p3.toInt16.toInt32).toInt64) h0 n0 Z0 ) hZ (tw12 hw) (tw11 hw) (by decide) (by decide)) (g := (mkF m 70 #[vi p0, vi p1, vi p2, vi p3, vi (1 : Int32), vj ((p1.toInt16.toInt32).toInt64), ss, vj ((p2.toInt16.toInt32).toInt64), ss, vj ((p3.toInt16.toInt32).toInt64), ss, vr qm, vi (if qm = qm then (if (own_sh p2).toInt < (own_sh p1).toInt then (if (own_sh p2).toInt < 0 then (0 : Int32) else if ((own_sh p2).toInt * (own_sh p3).toInt) < (own_sh p1).toInt then 0 else 1) else 1) else (if (own_sh p1).toInt < (own_sh p2).toInt then (if (own_sh p1).toInt < 0 then 0 else if ((own_sh p1).toInt * (own_sh p3).toInt) < (own_sh p2).toInt then 0 else 1) else 1))] [(.long ((p3.toInt16.toInt32).toInt64)), (.long ((p2.toInt16.toInt32).toInt64)), (.long ((p1.toInt16.toInt32).toInt64)), (.int (1 : Int32)), (.int (if qm = qm then (if (own_sh p2).toInt < (own_sh p1).toInt then (if (own_sh p2).toInt < 0 then (0 : Int32) else if ((own_sh p2).toInt * (own_sh p3).toInt) < (own_sh p1).toInt then 0 else 1) else 1) else (if (own_sh p1).toInt < (own_sh p2).toInt then (if (own_sh p1).toInt < 0 then 0 else if ((own_sh p1).toInt * (own_sh p3).toInt) < (own_sh p2).toInt then 0 else 1) else 1)))])) rfl (by rw [hml]; rfl) (argsL := [(.int (1 : Int32)), (.long ((p1.toInt16.toInt32).toInt64)), (.long ((p2.toInt16.toInt32).toInt64)), (.long ((p3.toInt16.toInt32).toInt64))]) (rest := [(.int (if qm = qm then (if (own_sh p2).toInt < (own_sh p1).toInt then (if (own_sh p2).toInt < 0 then (0 : Int32) else if ((own_sh p2).toInt * (own_sh p3).toInt) < (own_sh p1).toInt then 0 else 1) else 1) else (if (own_sh p1).toInt < (own_sh p2).toInt then (if (own_sh p1).toInt < 0 then 0 else if ((own_sh p1).toInt * (own_sh p3).toInt) < (own_sh p2).toInt then 0 else 1) else 1)))]) (lenOf pd_4 rfl) rfl (by show 2 * 0 + _ ≤ _; exact Nat.le_of_eq rfl) (hb hby at_70) (fun _ _ => ⟨rfl, e76, (by decide : 0 + 0 ≤ _), (by decide : 0 + 0 ≤ _)⟩)
    dsimp only [Pt.U, Pt.locs, Pt.cells, Pt.slots] at X85 l88 y89 z90 st91 hQ87
    subst l88 y89 z90
    obtain ⟨rfl, N92, e93⟩ := hQ87
    have N95 := Fr.app N78 N92
    have k96 : own_G p e below E0 T81 (mkF m 73 #[vi p0, vi p1, vi p2, vi p3, vi (1 : Int32), vj ((p1.toInt16.toInt32).toInt64), ss, vj ((p2.toInt16.toInt32).toInt64), ss, vj ((p3.toInt16.toInt32).toInt64), ss, vr qm, vi (if qm = qm then (if (own_sh p2).toInt < (own_sh p1).toInt then (if (own_sh p2).toInt < 0 then (0 : Int32) else if ((own_sh p2).toInt * (own_sh p3).toInt) < (own_sh p1).toInt then 0 else 1) else 1) else (if (own_sh p1).toInt < (own_sh p2).toInt then (if (own_sh p1).toInt < 0 then 0 else if ((own_sh p1).toInt * (own_sh p3).toInt) < (own_sh p2).toInt then 0 else 1) else 1))] [(.int (if (1 : Int32) = 0 then (if ((p1.toInt16.toInt32).toInt64) < ((p2.toInt16.toInt32).toInt64) then (if ((p1.toInt16.toInt32).toInt64) < (0 : Int64) then 0 else if (((p1.toInt16.toInt32).toInt64) * ((p3.toInt16.toInt32).toInt64)) < ((p2.toInt16.toInt32).toInt64) then 0 else 1) else 1) else (if ((p2.toInt16.toInt32).toInt64) < ((p1.toInt16.toInt32).toInt64) then (if ((p2.toInt16.toInt32).toInt64) < (0 : Int64) then (0 : Int32) else if (((p2.toInt16.toInt32).toInt64) * ((p3.toInt16.toInt32).toInt64)) < ((p1.toInt16.toInt32).toInt64) then 0 else 1) else 1))), (.int (if qm = qm then (if (own_sh p2).toInt < (own_sh p1).toInt then (if (own_sh p2).toInt < 0 then (0 : Int32) else if ((own_sh p2).toInt * (own_sh p3).toInt) < (own_sh p1).toInt then 0 else 1) else 1) else (if (own_sh p1).toInt < (own_sh p2).toInt then (if (own_sh p1).toInt < 0 then 0 else if ((own_sh p1).toInt * (own_sh p3).toInt) < (own_sh p2).toInt then 0 else 1) else 1)))]) := fun t kk => k80 t (st91 _ kk)
    have k97 : own_G p e below E0 T81 (mkF m 81 #[vi p0, vi p1, vi p2, vi p3, vi (1 : Int32), vj ((p1.toInt16.toInt32).toInt64), ss, vj ((p2.toInt16.toInt32).toInt64), ss, vj ((p3.toInt16.toInt32).toInt64), ss, vr qm, vi (if qm = qm then (if (own_sh p2).toInt < (own_sh p1).toInt then (if (own_sh p2).toInt < 0 then (0 : Int32) else if ((own_sh p2).toInt * (own_sh p3).toInt) < (own_sh p1).toInt then 0 else 1) else 1) else (if (own_sh p1).toInt < (own_sh p2).toInt then (if (own_sh p1).toInt < 0 then 0 else if ((own_sh p1).toInt * (own_sh p3).toInt) < (own_sh p2).toInt then 0 else 1) else 1))] [(.int (1 : Int32))]) := by
      intro t kk
      refine k96 t ?_
      refine XS.icmpNo X85.here hx rfl (hb hby at_73) rfl (own_ic_neN (own_min p1 p2 p3)) ?_
      refine XS.iconst X85.here hx rfl (hb hby at_76) ?_
      refine XS.goto X85.here hx rfl (pc0 := 77) (pc' := 81) rfl (hb hby at_77) (by decide) (by decide) ?_
      exact kk
    obtain ⟨fs, hr, hrun, hended, hW, hsame⟩ := X85.leave (v := some (.int (1 : Int32))) (fun h => by rw [Bd.returns] at h; cases h)
    have hrun0 := k97 _ (retOut X85 hx Bd.returns (t := .boolean) rfl (Or.inl ⟨rfl, Or.inr (Or.inl rfl), _, rfl⟩) (hb hby at_81) hr)
    subst hE0
    refine ⟨_, _, hrun0, hrun, hended, _, _, rfl, ?_, ⟨_, rfl⟩, hW, hsame.mono (by decide) (by decide)⟩
    show Qrm0 Z p0 p1 p2 p3 qm qM h0 n0 _ T81.heap _
    rw [e93]
    exact ⟨rfl, N95⟩
  · skip
    have k98 : own_G p e below E0 s₁ (mkF m 39 #[vi p0, vi p1, vi p2, vi p3, vi (0 : Int32), vj ((p1.toInt16.toInt32).toInt64), ss, vj ((p2.toInt16.toInt32).toInt64), ss, vj ((p3.toInt16.toInt32).toInt64), ss, uu, uu] []) := by
      intro t kk
      refine k50 t ?_
      refine XS.ifYes X0.here hx rfl (pc0 := 3) (pc' := 10) rfl (hb hby at_3) rfl (own_if_neY c51) (by decide) (by decide) ?_
      refine XS.iconst X0.here hx rfl (hb hby at_10) ?_
      refine XS.istore X0.here hx rfl (hb hby at_11) rfl (l' := #[vi p0, vi p1, vi p2, vi p3, vi (0 : Int32), uu, uu, uu, uu, uu, uu, uu, uu]) rfl ?_
      refine XS.iloadN X0.here hx rfl (hb hby at_13) rfl ?_
      show Steps p.tables e below (s₁.setTop (mkF m 14 #[vi p0, vi p1, vi p2, vi p3, vi (0 : Int32), uu, uu, uu, uu, uu, uu, uu, uu] [(.int p1)])) t
      refine XT.i2s X0.here hx rfl (hb hby at_14) rfl ?_
      refine XT.i2l X0.here hx rfl (hb hby at_15) rfl ?_
      refine XT.lstore X0.here hx rfl (hb hby at_16) rfl (l' := #[vi p0, vi p1, vi p2, vi p3, vi (0 : Int32), vj ((p1.toInt16.toInt32).toInt64), ss, uu, uu, uu, uu, uu, uu]) rfl ?_
      refine XS.iloadN X0.here hx rfl (hb hby at_18) rfl ?_
      show Steps p.tables e below (s₁.setTop (mkF m 19 #[vi p0, vi p1, vi p2, vi p3, vi (0 : Int32), vj ((p1.toInt16.toInt32).toInt64), ss, uu, uu, uu, uu, uu, uu] [(.int p2)])) t
      refine XT.i2s X0.here hx rfl (hb hby at_19) rfl ?_
      refine XT.i2l X0.here hx rfl (hb hby at_20) rfl ?_
      refine XT.lstore X0.here hx rfl (hb hby at_21) rfl (l' := #[vi p0, vi p1, vi p2, vi p3, vi (0 : Int32), vj ((p1.toInt16.toInt32).toInt64), ss, vj ((p2.toInt16.toInt32).toInt64), ss, uu, uu, uu, uu]) rfl ?_
      refine XS.iloadN X0.here hx rfl (hb hby at_23) rfl ?_
      show Steps p.tables e below (s₁.setTop (mkF m 24 #[vi p0, vi p1, vi p2, vi p3, vi (0 : Int32), vj ((p1.toInt16.toInt32).toInt64), ss, vj ((p2.toInt16.toInt32).toInt64), ss, uu, uu, uu, uu] [(.int p3)])) t
      refine XT.i2s X0.here hx rfl (hb hby at_24) rfl ?_
      refine XT.i2l X0.here hx rfl (hb hby at_25) rfl ?_
      refine XT.lstore X0.here hx rfl (hb hby at_26) rfl (l' := #[vi p0, vi p1, vi p2, vi p3, vi (0 : Int32), vj ((p1.toInt16.toInt32).toInt64), ss, vj ((p2.toInt16.toInt32).toInt64), ss, vj ((p3.toInt16.toInt32).toInt64), ss, uu, uu]) rfl ?_
      refine XS.iload X0.here hx rfl (hb hby at_28) rfl ?_
      show Steps p.tables e below (s₁.setTop (mkF m 30 #[vi p0, vi p1, vi p2, vi p3, vi (0 : Int32), vj ((p1.toInt16.toInt32).toInt64), ss, vj ((p2.toInt16.toInt32).toInt64), ss, vj ((p3.toInt16.toInt32).toInt64), ss, uu, uu] [(.int (0 : Int32))])) t
      refine XS.ifYes X0.here hx rfl (pc0 := 30) (pc' := 39) rfl (hb hby at_30) rfl (own_if_eqY (by decide)) (by decide) (by decide) ?_
      exact kk
    obtain ⟨T99, X100, e101, st102⟩ := getS X0 hx hZ hown (host := "") (tw13 hw) Via.refl e0 S2 (g := (mkF m 39 #[vi p0, vi p1, vi p2, vi p3, vi (0 : Int32), vj ((p1.toInt16.toInt32).toInt64), ss, vj ((p2.toInt16.toInt32).toInt64), ss, vj ((p3.toInt16.toInt32).toInt64), ss, uu, uu] [])) rfl (hb hby at_39)
    have k103 : own_G p e below E0 T99 (mkF m 42 #[vi p0, vi p1, vi p2, vi p3, vi (0 : Int32), vj ((p1.toInt16.toInt32).toInt64), ss, vj ((p2.toInt16.toInt32).toInt64), ss, vj ((p3.toInt16.toInt32).toInt64), ss, uu, uu] [(.ref qM)]) := fun t kk => k98 t (st102 _ kk)
    have k104 : own_G p e below E0 T99 (mkF m 55 #[vi p0, vi p1, vi p2, vi p3, vi (0 : Int32), vj ((p1.toInt16.toInt32).toInt64), ss, vj ((p2.toInt16.toInt32).toInt64), ss, vj ((p3.toInt16.toInt32).toInt64), ss, vr qM, uu] [(.double (FP.l2d ((p3.toInt16.toInt32).toInt64))), (.double (FP.l2d ((p2.toInt16.toInt32).toInt64))), (.double (FP.l2d ((p1.toInt16.toInt32).toInt64))), (.ref qM)]) := by
      intro t kk
      refine k103 t ?_
      refine XS.astore X100.here hx rfl (hb hby at_42) rfl rfl (l' := #[vi p0, vi p1, vi p2, vi p3, vi (0 : Int32), vj ((p1.toInt16.toInt32).toInt64), ss, vj ((p2.toInt16.toInt32).toInt64), ss, vj ((p3.toInt16.toInt32).toInt64), ss, vr qM, uu]) rfl ?_
      refine XS.aload X100.here hx rfl (hb hby at_44) rfl rfl ?_
      refine XT.lload X100.here hx rfl (hb hby at_46) rfl ?_
      refine XS.l2dS X100.here hx rfl (hb hby at_48) rfl rfl ?_
      show Steps p.tables e below (T99.setTop (mkF m 49 #[vi p0, vi p1, vi p2, vi p3, vi (0 : Int32), vj ((p1.toInt16.toInt32).toInt64), ss, vj ((p2.toInt16.toInt32).toInt64), ss, vj ((p3.toInt16.toInt32).toInt64), ss, vr qM, uu] [(.double (FP.l2d ((p1.toInt16.toInt32).toInt64))), (.ref qM)])) t
      refine XT.lload X100.here hx rfl (hb hby at_49) rfl ?_
      refine XS.l2dS X100.here hx rfl (hb hby at_51) rfl rfl ?_
      refine XT.lload X100.here hx rfl (hb hby at_52) rfl ?_
      refine XS.l2dS X100.here hx rfl (hb hby at_54) rfl rfl ?_
      exact kk
    obtain ⟨cq116, kq117, qa118, qb119, qc120⟩ := isOf hZ e101 E2
    obtain ⟨_, _, ⟨T105, L106, kc107, nc108⟩, -, X109, ⟨Lc110, hQ111, l112, y113, z114⟩, st115⟩ := X100.virtualBack hx (y := mn0) (z := mn0) hown (mvT hZ (tw3 hw)) (mvT hZ (tw4 hw)) (notFace_of_selects (args := #[]) (mvT hZ (tw6 hw))) (mvT hZ (tw6 hw)) (mvT hZ (tw5 hw)) (by decide) (backOf (W := 0) (rm1 l Z a0 hw [] qM (FP.l2d ((p1.toInt16.toInt32).toInt64)) (FP.l2d ((p2.toInt16.toInt32).toInt64)) (FP.l2d ((p3.toInt16.toInt32).toInt64)) qm (own_sh p1).toInt (own_sh p2).toInt (own_sh p3).toInt h0 n0 Z0 S1 (own_shD p1) (own_shD p2) (own_shD p3) (own_shm p2 p3) (own_shm p1 p3)) hZ (tw7 hw) (tw1 hw) (by decide) (by decide)) qa118 qc120 (g := (mkF m 55 #[vi p0, vi p1, vi p2, vi p3, vi (0 : Int32), vj ((p1.toInt16.toInt32).toInt64), ss, vj ((p2.toInt16.toInt32).toInt64), ss, vj ((p3.toInt16.toInt32).toInt64), ss, vr qM, uu] [(.double (FP.l2d ((p3.toInt16.toInt32).toInt64))), (.double (FP.l2d ((p2.toInt16.toInt32).toInt64))), (.double (FP.l2d ((p1.toInt16.toInt32).toInt64))), (.ref qM)])) rfl (by rw [hml]; rfl) (Steps.refl _) (argsL := [(.double (FP.l2d ((p1.toInt16.toInt32).toInt64))), (.double (FP.l2d ((p2.toInt16.toInt32).toInt64))), (.double (FP.l2d ((p3.toInt16.toInt32).toInt64)))]) (rest := []) (lenOf pd_3 rfl) rfl (by show 2 * 0 + _ ≤ _; exact Nat.le_of_eq rfl) (hb hby at_55) (fun _ _ => ⟨rfl, e101, (by decide : 0 + 0 ≤ _), (by decide : 0 + 0 ≤ _)⟩)
    dsimp only [Pt.U, Pt.locs, Pt.cells, Pt.slots] at X109 l112 y113 z114 st115 hQ111
    subst l112 y113 z114
    obtain ⟨rfl, N121, e122⟩ := hQ111
    have N124 := Fr.app N0 N121
    have k125 : own_G p e below E0 T105 (mkF m 58 #[vi p0, vi p1, vi p2, vi p3, vi (0 : Int32), vj ((p1.toInt16.toInt32).toInt64), ss, vj ((p2.toInt16.toInt32).toInt64), ss, vj ((p3.toInt16.toInt32).toInt64), ss, vr qM, uu] [(.int (if qM = qm then (if (own_sh p2).toInt < (own_sh p1).toInt then (if (own_sh p2).toInt < 0 then (0 : Int32) else if ((own_sh p2).toInt * (own_sh p3).toInt) < (own_sh p1).toInt then 0 else 1) else 1) else (if (own_sh p1).toInt < (own_sh p2).toInt then (if (own_sh p1).toInt < 0 then 0 else if ((own_sh p1).toInt * (own_sh p3).toInt) < (own_sh p2).toInt then 0 else 1) else 1)))]) := fun t kk => k104 t (st115.trans kk)
    have k126 : own_G p e below E0 T105 (mkF m 70 #[vi p0, vi p1, vi p2, vi p3, vi (0 : Int32), vj ((p1.toInt16.toInt32).toInt64), ss, vj ((p2.toInt16.toInt32).toInt64), ss, vj ((p3.toInt16.toInt32).toInt64), ss, vr qM, vi (if qM = qm then (if (own_sh p2).toInt < (own_sh p1).toInt then (if (own_sh p2).toInt < 0 then (0 : Int32) else if ((own_sh p2).toInt * (own_sh p3).toInt) < (own_sh p1).toInt then 0 else 1) else 1) else (if (own_sh p1).toInt < (own_sh p2).toInt then (if (own_sh p1).toInt < 0 then 0 else if ((own_sh p1).toInt * (own_sh p3).toInt) < (own_sh p2).toInt then 0 else 1) else 1))] [(.long ((p3.toInt16.toInt32).toInt64)), (.long ((p2.toInt16.toInt32).toInt64)), (.long ((p1.toInt16.toInt32).toInt64)), (.int (0 : Int32)), (.int (if qM = qm then (if (own_sh p2).toInt < (own_sh p1).toInt then (if (own_sh p2).toInt < 0 then (0 : Int32) else if ((own_sh p2).toInt * (own_sh p3).toInt) < (own_sh p1).toInt then 0 else 1) else 1) else (if (own_sh p1).toInt < (own_sh p2).toInt then (if (own_sh p1).toInt < 0 then 0 else if ((own_sh p1).toInt * (own_sh p3).toInt) < (own_sh p2).toInt then 0 else 1) else 1)))]) := by
      intro t kk
      refine k125 t ?_
      refine XS.istore X109.here hx rfl (hb hby at_58) rfl (l' := #[vi p0, vi p1, vi p2, vi p3, vi (0 : Int32), vj ((p1.toInt16.toInt32).toInt64), ss, vj ((p2.toInt16.toInt32).toInt64), ss, vj ((p3.toInt16.toInt32).toInt64), ss, vr qM, vi (if qM = qm then (if (own_sh p2).toInt < (own_sh p1).toInt then (if (own_sh p2).toInt < 0 then (0 : Int32) else if ((own_sh p2).toInt * (own_sh p3).toInt) < (own_sh p1).toInt then 0 else 1) else 1) else (if (own_sh p1).toInt < (own_sh p2).toInt then (if (own_sh p1).toInt < 0 then 0 else if ((own_sh p1).toInt * (own_sh p3).toInt) < (own_sh p2).toInt then 0 else 1) else 1))]) rfl ?_
      refine XS.iload X109.here hx rfl (hb hby at_60) rfl ?_
      refine XS.iload X109.here hx rfl (hb hby at_62) rfl ?_
      refine XT.lload X109.here hx rfl (hb hby at_64) rfl ?_
      show Steps p.tables e below (T105.setTop (mkF m 66 #[vi p0, vi p1, vi p2, vi p3, vi (0 : Int32), vj ((p1.toInt16.toInt32).toInt64), ss, vj ((p2.toInt16.toInt32).toInt64), ss, vj ((p3.toInt16.toInt32).toInt64), ss, vr qM, vi (if qM = qm then (if (own_sh p2).toInt < (own_sh p1).toInt then (if (own_sh p2).toInt < 0 then (0 : Int32) else if ((own_sh p2).toInt * (own_sh p3).toInt) < (own_sh p1).toInt then 0 else 1) else 1) else (if (own_sh p1).toInt < (own_sh p2).toInt then (if (own_sh p1).toInt < 0 then 0 else if ((own_sh p1).toInt * (own_sh p3).toInt) < (own_sh p2).toInt then 0 else 1) else 1))] [(.long ((p1.toInt16.toInt32).toInt64)), (.int (0 : Int32)), (.int (if qM = qm then (if (own_sh p2).toInt < (own_sh p1).toInt then (if (own_sh p2).toInt < 0 then (0 : Int32) else if ((own_sh p2).toInt * (own_sh p3).toInt) < (own_sh p1).toInt then 0 else 1) else 1) else (if (own_sh p1).toInt < (own_sh p2).toInt then (if (own_sh p1).toInt < 0 then 0 else if ((own_sh p1).toInt * (own_sh p3).toInt) < (own_sh p2).toInt then 0 else 1) else 1)))])) t
      refine XT.lload X109.here hx rfl (hb hby at_66) rfl ?_
      refine XT.lload X109.here hx rfl (hb hby at_68) rfl ?_
      exact kk
    obtain ⟨_, _, ⟨T127, L128, kc129, nc130⟩, -, X131, ⟨Lc132, hQ133, l134, y135, z136⟩, st137⟩ := Jvm.LawKit.callS X109 hx (y := mn1) hown (mvT hZ (tw9 hw)) (mvT hZ (tw10 hw)) (mvT hZ (tw11 hw)) (mvT hZ (tw12 hw)) (by decide) (backOf (W := 1) (rm2 l Z a0 hw [] (0 : Int32) ((p1.toInt16.toInt32).toInt64) ((p2.toInt16.toInt32).toInt64) ((p3.toInt16.toInt32).toInt64) h0 n0 Z0 ) hZ (tw12 hw) (tw11 hw) (by decide) (by decide)) (g := (mkF m 70 #[vi p0, vi p1, vi p2, vi p3, vi (0 : Int32), vj ((p1.toInt16.toInt32).toInt64), ss, vj ((p2.toInt16.toInt32).toInt64), ss, vj ((p3.toInt16.toInt32).toInt64), ss, vr qM, vi (if qM = qm then (if (own_sh p2).toInt < (own_sh p1).toInt then (if (own_sh p2).toInt < 0 then (0 : Int32) else if ((own_sh p2).toInt * (own_sh p3).toInt) < (own_sh p1).toInt then 0 else 1) else 1) else (if (own_sh p1).toInt < (own_sh p2).toInt then (if (own_sh p1).toInt < 0 then 0 else if ((own_sh p1).toInt * (own_sh p3).toInt) < (own_sh p2).toInt then 0 else 1) else 1))] [(.long ((p3.toInt16.toInt32).toInt64)), (.long ((p2.toInt16.toInt32).toInt64)), (.long ((p1.toInt16.toInt32).toInt64)), (.int (0 : Int32)), (.int (if qM = qm then (if (own_sh p2).toInt < (own_sh p1).toInt then (if (own_sh p2).toInt < 0 then (0 : Int32) else if ((own_sh p2).toInt * (own_sh p3).toInt) < (own_sh p1).toInt then 0 else 1) else 1) else (if (own_sh p1).toInt < (own_sh p2).toInt then (if (own_sh p1).toInt < 0 then 0 else if ((own_sh p1).toInt * (own_sh p3).toInt) < (own_sh p2).toInt then 0 else 1) else 1)))])) rfl (by rw [hml]; rfl) (argsL := [(.int (0 : Int32)), (.long ((p1.toInt16.toInt32).toInt64)), (.long ((p2.toInt16.toInt32).toInt64)), (.long ((p3.toInt16.toInt32).toInt64))]) (rest := [(.int (if qM = qm then (if (own_sh p2).toInt < (own_sh p1).toInt then (if (own_sh p2).toInt < 0 then (0 : Int32) else if ((own_sh p2).toInt * (own_sh p3).toInt) < (own_sh p1).toInt then 0 else 1) else 1) else (if (own_sh p1).toInt < (own_sh p2).toInt then (if (own_sh p1).toInt < 0 then 0 else if ((own_sh p1).toInt * (own_sh p3).toInt) < (own_sh p2).toInt then 0 else 1) else 1)))]) (lenOf pd_4 rfl) rfl (by show 2 * 0 + _ ≤ _; exact Nat.le_of_eq rfl) (hb hby at_70) (fun _ _ => ⟨rfl, e122, (by decide : 0 + 0 ≤ _), (by decide : 0 + 0 ≤ _)⟩)
    dsimp only [Pt.U, Pt.locs, Pt.cells, Pt.slots] at X131 l134 y135 z136 st137 hQ133
    subst l134 y135 z136
    obtain ⟨rfl, N138, e139⟩ := hQ133
    have N141 := Fr.app N124 N138
    have k142 : own_G p e below E0 T127 (mkF m 73 #[vi p0, vi p1, vi p2, vi p3, vi (0 : Int32), vj ((p1.toInt16.toInt32).toInt64), ss, vj ((p2.toInt16.toInt32).toInt64), ss, vj ((p3.toInt16.toInt32).toInt64), ss, vr qM, vi (if qM = qm then (if (own_sh p2).toInt < (own_sh p1).toInt then (if (own_sh p2).toInt < 0 then (0 : Int32) else if ((own_sh p2).toInt * (own_sh p3).toInt) < (own_sh p1).toInt then 0 else 1) else 1) else (if (own_sh p1).toInt < (own_sh p2).toInt then (if (own_sh p1).toInt < 0 then 0 else if ((own_sh p1).toInt * (own_sh p3).toInt) < (own_sh p2).toInt then 0 else 1) else 1))] [(.int (if (0 : Int32) = 0 then (if ((p1.toInt16.toInt32).toInt64) < ((p2.toInt16.toInt32).toInt64) then (if ((p1.toInt16.toInt32).toInt64) < (0 : Int64) then 0 else if (((p1.toInt16.toInt32).toInt64) * ((p3.toInt16.toInt32).toInt64)) < ((p2.toInt16.toInt32).toInt64) then 0 else 1) else 1) else (if ((p2.toInt16.toInt32).toInt64) < ((p1.toInt16.toInt32).toInt64) then (if ((p2.toInt16.toInt32).toInt64) < (0 : Int64) then (0 : Int32) else if (((p2.toInt16.toInt32).toInt64) * ((p3.toInt16.toInt32).toInt64)) < ((p1.toInt16.toInt32).toInt64) then 0 else 1) else 1))), (.int (if qM = qm then (if (own_sh p2).toInt < (own_sh p1).toInt then (if (own_sh p2).toInt < 0 then (0 : Int32) else if ((own_sh p2).toInt * (own_sh p3).toInt) < (own_sh p1).toInt then 0 else 1) else 1) else (if (own_sh p1).toInt < (own_sh p2).toInt then (if (own_sh p1).toInt < 0 then 0 else if ((own_sh p1).toInt * (own_sh p3).toInt) < (own_sh p2).toInt then 0 else 1) else 1)))]) := fun t kk => k126 t (st137 _ kk)
    have k143 : own_G p e below E0 T127 (mkF m 81 #[vi p0, vi p1, vi p2, vi p3, vi (0 : Int32), vj ((p1.toInt16.toInt32).toInt64), ss, vj ((p2.toInt16.toInt32).toInt64), ss, vj ((p3.toInt16.toInt32).toInt64), ss, vr qM, vi (if qM = qm then (if (own_sh p2).toInt < (own_sh p1).toInt then (if (own_sh p2).toInt < 0 then (0 : Int32) else if ((own_sh p2).toInt * (own_sh p3).toInt) < (own_sh p1).toInt then 0 else 1) else 1) else (if (own_sh p1).toInt < (own_sh p2).toInt then (if (own_sh p1).toInt < 0 then 0 else if ((own_sh p1).toInt * (own_sh p3).toInt) < (own_sh p2).toInt then 0 else 1) else 1))] [(.int (1 : Int32))]) := by
      intro t kk
      refine k142 t ?_
      refine XS.icmpNo X131.here hx rfl (hb hby at_73) rfl (own_ic_neN (own_max p1 p2 p3 ne1)) ?_
      refine XS.iconst X131.here hx rfl (hb hby at_76) ?_
      refine XS.goto X131.here hx rfl (pc0 := 77) (pc' := 81) rfl (hb hby at_77) (by decide) (by decide) ?_
      exact kk
    obtain ⟨fs, hr, hrun, hended, hW, hsame⟩ := X131.leave (v := some (.int (1 : Int32))) (fun h => by rw [Bd.returns] at h; cases h)
    have hrun0 := k143 _ (retOut X131 hx Bd.returns (t := .boolean) rfl (Or.inl ⟨rfl, Or.inr (Or.inl rfl), _, rfl⟩) (hb hby at_81) hr)
    subst hE0
    refine ⟨_, _, hrun0, hrun, hended, _, _, rfl, ?_, ⟨_, rfl⟩, hW, hsame.mono (by decide) (by decide)⟩
    show Qrm0 Z p0 p1 p2 p3 qm qM h0 n0 _ T127.heap _
    rw [e139]
    exact ⟨rfl, N141⟩
def tw2 {Z : State} {a0 : Array Value} (hw : ∀ d ∈ tables_1, d.before a0 Z = true) := hw _ (List.mem_of_getElem? (i := 2) rfl)
def tw14 {Z : State} {a0 : Array Value} (hw : ∀ d ∈ tables_1, d.before a0 Z = true) := hw _ (List.mem_of_getElem? (i := 14) rfl)
set_option maxRecDepth 65536 in
set_option maxHeartbeats 40000000 in
theorem comes_1 {Post : Tables → Env → Array Value → State → Outcome → State → Prop} (hpost : ∀ tb e args s v u, (limb_1_1.after args s (.returned v) u = true ∧ limb_1_2.after args s (.returned v) u = true ∧ True) → FrameEnd s (.returned v) u (Jvm.fieldLocs frame_1_writes args s ++ Jvm.arrayLocs frame_1_arrays args s ++ Jvm.staticLocs frame_1_statics s) 0 0 → Post tb e args s (.returned v) u) :
    ArmFor flags0 classFile x code maxLocals ret World_1 tables_1 room_1 Calls_1 rest_1 Pre_1 Post := by
  intro l hfl _ _ p e ha hc hk s m args below hf hA hF happ hP
  obtain ⟨hcalls, hrest, hpre⟩ := hP
  obtain ⟨-, -, -, hnamed, -, -, -, hat⟩ := (Spec.applies_iff hf).mp happ
  obtain ⟨hg, hn⟩ := and_e (Cond.before_iff.mp (show (Jvm.Cond.and given_1 narrow_1).before args s = true from hpre))
  obtain ⟨hct, hr0⟩ := and_e hg
  obtain ⟨ha0, hr1⟩ := and_e hr0
  obtain ⟨ha1, hr2⟩ := and_e hr1
  obtain ⟨ha2, hr3⟩ := and_e hr2
  obtain ⟨w0, w1, w2, w3, rfl⟩ : ∃ w0 w1 w2 w3 : Value, args = #[w0, w1, w2, w3] := by
    have hs : args.size = 4 := by simpa [Cond.value, given_1] using hct
    obtain ⟨L⟩ := args
    match L, hs with
    | [w0, w1, w2, w3], _ => exact ⟨w0, w1, w2, w3, rfl⟩
  have hw := fun d (hd : d ∈ tables_1) => atoms_spec (ws := Jvm.Cond.code x code maxLocals ret :: tables_1) hat d (List.mem_cons_of_mem _ hd)
  have hfit : Fit s := fun {y c} hc i hi => by
    obtain ⟨ha, rfl⟩ := Array.getElem?_eq_some_iff.mp hc
    have q := List.all_eq_true.mp ((Array.all_eq_true_iff_forall_mem.mp hF) _ (Array.getElem_mem ha)) i (List.mem_range.mpr hi)
    simpa [Array.getElem?_eq_getElem hi] using q
  obtain ⟨i0, ev0⟩ := is_v ha0
  obtain rfl : w0 = (.int i0) := Option.some.inj ev0
  obtain ⟨i1, ev1⟩ := is_v ha1
  obtain rfl : w1 = (.int i1) := Option.some.inj ev1
  obtain ⟨i2, ev2⟩ := is_v ha2
  obtain rfl : w2 = (.int i2) := Option.some.inj ev2
  obtain ⟨i3, ev3⟩ := is_v hr3
  obtain rfl : w3 = (.int i3) := Option.some.inj ev3
  obtain ⟨n1, n2⟩ := and_e hn
  obtain ⟨n3, n4⟩ := and_e n2
  obtain ⟨n5, n6⟩ := and_e n4
  obtain ⟨qm, em⟩ := exa_v n1
  obtain ⟨qM, eM⟩ := exa_v n3
  have hne : qM ≠ qm := fun q => by
    have r := (own_ord eM n5).symm.trans (q ▸ own_ord em n6)
    exact absurd (Value.int.inj (Option.some.inj r)) (by decide)
  obtain ⟨n, o, h1, h2, h3, _, L, rfl, ⟨rfl, N⟩, hq⟩ := rm0 l s _ hw tables_1 i0 i1 i2 i3 qm qM s.heap s.heap.size (Nat.le_refl _) (Sta.start em (Or.inr ⟨(tw1 hw), (tw2 hw)⟩)) (Sta.start eM (Or.inr ⟨(tw1 hw), (tw14 hw)⟩)) (Exa.start em n1) (Exa.start eM n3) hne p e ha hc hk s m _ below hf ((Spec.applies_iff_loose hf).mp happ).1 ⟨rfl, State.Warmed39.refl s, rfl⟩ trivial
  refine ⟨n, _, h1, h2, h3, hpost _ _ _ _ _ _ ⟨Cond.after_iff.mpr rfl, Cond.after_iff.mpr (eq_i res_at (Term.int_eval (1)) rfl), trivial⟩ ⟨hq.1, hq.2.1, (hq.2.2.sift fun y hy => Or.inr (N y hy)).mono (by decide) (by decide)⟩⟩
theorem main_1_1 : Claimed_1_1 := comes_1 fun _ _ _ _ _ _ h hF => ⟨h.1, hF⟩
theorem main_1_2 : Claimed_1_2 := comes_1 fun _ _ _ _ _ _ h hF => ⟨h.2.1, hF⟩
end Jvm.Pilot.@@N@@
namespace Jvm.Pilot.@@N@@
open Jvm Jvm.ClassFile Sem Op Lib Jvm.Free Jvm.Stand Jvm.Pilot.@@N@@.Jvm.D
/-! MADE BY PROGRAM (witnessworld.py) out of the Statement's table words and the real class files: 12 classes; the members and pool entries that the words name. The judged class is class 1, her method 1. -/
namespace start1
open Jvm.ClassFile
def u (s : String) : CpInfo := .utf8 (stringToUtf16 s)
/-- a pool by its gaps: so many unusable entries, then the entry; so many at the end -/
def gap : Nat → List CpInfo → List CpInfo
  | 0, r => r
  | n + 1, r => .unusable :: gap n r
def poolList (es : List (Nat × CpInfo)) (last : Nat) : List CpInfo := es.foldr (fun e r => gap e.1 (e.2 :: r)) (gap last [])
def pool (es : List (Nat × CpInfo)) (last : Nat) : Array CpInfo := ⟨poolList es last⟩
def fileOf (pool : Array CpInfo) (this : Nat) (attrs : Array Attribute := #[]) (ms : Array MethodInfo := #[]) (fl : Nat := 33) (sup : Nat := 0) (ifs : Array Nat := #[]) (fds : Array FieldInfo := #[]) : ClassFile where
  minorVersion := 0
  majorVersion := 65
  constantPool := pool
  accessFlags := fl
  thisClass := this
  superClass := sup
  interfaces := ifs
  fields := fds
  methods := ms
  attributes := attrs
def plain (name : String) (sup : Option ClassId) : Class where
  name := name
  kind := .ordinary
  loader := none
  accessFlags := 33
  super := sup
  interfaces := #[]
  cf := none
  fields := #[]
  methods := #[]
  instanceTypes := #[]
  staticTypes := #[]
  resolved := #[]
  callSites := []
  init := .initialized
  statics := none
  mirror := none

def pool0 : Array CpInfo := pool [(5, u "<init>"), (0, u "()V"), (1, .class_ 10), (1, u "java/lang/Object")] 113

def k0m0 : Method := { name := "<init>", desc := "()V", sig := { parameters := [], returnType := none }, accessFlags := 1, code := none }
/-- java/lang/Object -/
def k0 : Class := { plain "java/lang/Object" none with
  accessFlags := 33
  interfaces := #[]
  cf := some (fileOf pool0 8 #[] #[{ accessFlags := 1, nameIndex := 5, descriptorIndex := 6, attributes := #[] }] 33 0 #[] #[])
  fields := #[]
  methods := #[k0m0]
  instanceTypes := #[]
  staticTypes := #[]
  resolved := Array.replicate 124 none
  statics := none }

def pool1 : Array CpInfo := pool [(2, .class_ 4), (1, u "java/lang/Object"), (0, u "<init>"), (0, u "()V"), (0, .fieldref 8 9), (0, .class_ 10), (0, .nameAndType 11 12), (0, u "com/example/sumbound/sumbound/algebra/Extremum"), (0, u "MIN"), (0, u "Lcom/example/sumbound/sumbound/algebra/Extremum;"), (0, .fieldref 8 14), (0, .nameAndType 15 12), (0, u "MAX"), (0, .methodref 8 17), (0, .nameAndType 18 19), (0, u "covers"), (0, u "(DDD)Z"), (0, .methodref 21 22), (0, .class_ 23), (0, .nameAndType 24 25), (0, u "com/example/sumbound/sumbound/algebra/ExtremumCoversPinLaw"), (0, u "expected"), (0, u "(ZJJJ)Z"), (2, u "law"), (0, u "(IIII)Z")] 3

def k1m0 : Method := { name := "<init>", desc := "()V", sig := { parameters := [], returnType := none }, accessFlags := 1, code := none }
def k1c1 : Code := { maxStack := 8, maxLocals := 13, code := code, exceptionTable := #[], attributes := #[] }
def k1m1 : Method := { name := "law", desc := "(IIII)Z", sig := { parameters := [.int, .int, .int, .int], returnType := some .boolean }, accessFlags := 9, code := some k1c1 }
def k1c2 : Code := { maxStack := 6, maxLocals := 7, code := method_3_code, exceptionTable := #[], attributes := #[] }
def k1m2 : Method := { name := "expected", desc := "(ZJJJ)Z", sig := { parameters := [.boolean, .long, .long, .long], returnType := some .boolean }, accessFlags := 10, code := some k1c2 }
/-- com/example/sumbound/sumbound/algebra/ExtremumCoversPinLaw -/
def k1 : Class := { plain "com/example/sumbound/sumbound/algebra/ExtremumCoversPinLaw" (some 0) with
  accessFlags := 49
  interfaces := #[]
  cf := some (fileOf pool1 21 #[] #[{ accessFlags := 1, nameIndex := 5, descriptorIndex := 6, attributes := #[] }, { accessFlags := 9, nameIndex := 28, descriptorIndex := 29, attributes := #[] }, { accessFlags := 10, nameIndex := 24, descriptorIndex := 25, attributes := #[] }] 49 2 #[] #[])
  fields := #[]
  methods := #[k1m0, k1m1, k1m2]
  instanceTypes := #[]
  staticTypes := #[]
  resolved := Array.replicate 33 none
  statics := none }

def pool2 : Array CpInfo := pool [(1, .class_ 2), (0, u "java/lang/constant/Constable"), (0, .class_ 4), (0, u "java/lang/Object")] 6

/-- java/lang/constant/Constable -/
def k2 : Class := { plain "java/lang/constant/Constable" (some 0) with
  accessFlags := 1537
  interfaces := #[]
  cf := some (fileOf pool2 1 #[] #[] 1537 3 #[] #[])
  fields := #[]
  methods := #[]
  instanceTypes := #[]
  staticTypes := #[]
  resolved := Array.replicate 11 none
  statics := none }

def pool3 : Array CpInfo := pool [(1, .class_ 2), (0, u "java/lang/Comparable"), (0, .class_ 4), (0, u "java/lang/Object")] 7

/-- java/lang/Comparable -/
def k3 : Class := { plain "java/lang/Comparable" (some 0) with
  accessFlags := 1537
  interfaces := #[]
  cf := some (fileOf pool3 1 #[] #[] 1537 3 #[] #[])
  fields := #[]
  methods := #[]
  instanceTypes := #[]
  staticTypes := #[]
  resolved := Array.replicate 12 none
  statics := none }

def pool4 : Array CpInfo := pool [(1, .class_ 2), (0, u "java/io/Serializable"), (0, .class_ 4), (0, u "java/lang/Object")] 2

/-- java/io/Serializable -/
def k4 : Class := { plain "java/io/Serializable" (some 0) with
  accessFlags := 1537
  interfaces := #[]
  cf := some (fileOf pool4 1 #[] #[] 1537 3 #[] #[])
  fields := #[]
  methods := #[]
  instanceTypes := #[]
  staticTypes := #[]
  resolved := Array.replicate 7 none
  statics := none }

def pool5 : Array CpInfo := pool [(2, .class_ 4), (1, u "java/lang/Enum"), (0, u "name"), (0, u "Ljava/lang/String;"), (2, u "ordinal"), (0, u "I"), (1, .class_ 14), (1, u "java/lang/Object"), (4, u "hash"), (86, .class_ 108), (1, u "java/lang/Enum$EnumDesc"), (2, .class_ 112), (0, u "java/lang/constant/Constable"), (0, .class_ 114), (0, u "java/lang/Comparable"), (0, .class_ 116), (0, u "java/io/Serializable")] 87

/-- java/lang/Enum -/
def k5 : Class := { plain "java/lang/Enum" (some 0) with
  accessFlags := 1057
  interfaces := #[2, 3, 4]
  cf := some (fileOf pool5 2 #[.nestMembers #[106]] #[] 1057 12 #[111, 113, 115] #[{ accessFlags := 18, nameIndex := 5, descriptorIndex := 6, attributes := #[] }, { accessFlags := 18, nameIndex := 9, descriptorIndex := 10, attributes := #[] }, { accessFlags := 2, nameIndex := 19, descriptorIndex := 10, attributes := #[] }])
  fields := #[{ name := "name", type := (.object "java/lang/String"), accessFlags := 18, slot := 0, constantValue := 0 }, { name := "ordinal", type := .int, accessFlags := 18, slot := 1, constantValue := 0 }, { name := "hash", type := .int, accessFlags := 2, slot := 2, constantValue := 0 }]
  methods := #[]
  instanceTypes := #[(.object "java/lang/String"), .int, .int]
  staticTypes := #[]
  resolved := Array.replicate 204 none
  statics := none }

def pool6 : Array CpInfo := pool [(1, .class_ 2), (0, u "com/example/sumbound/sumbound/algebra/Extremum"), (0, .fieldref 1 4), (0, .nameAndType 5 6), (0, u "MIN"), (0, u "Lcom/example/sumbound/sumbound/algebra/Extremum;"), (2, u "MAX"), (2, u "$VALUES"), (0, u "[Lcom/example/sumbound/sumbound/algebra/Extremum;"), (6, .class_ 22), (1, u "java/lang/Enum"), (20, u "covers"), (0, u "(DDD)Z")] 9

def k6c0 : Code := { maxStack := 6, maxLocals := 7, code := prog_2_method_4_code, exceptionTable := #[], attributes := #[] }
def k6m0 : Method := { name := "covers", desc := "(DDD)Z", sig := { parameters := [.double, .double, .double], returnType := some .boolean }, accessFlags := 0, code := some k6c0 }
/-- com/example/sumbound/sumbound/algebra/Extremum -/
def k6 : Class := { plain "com/example/sumbound/sumbound/algebra/Extremum" (some 5) with
  accessFlags := 16433
  interfaces := #[]
  cf := some (fileOf pool6 1 #[] #[{ accessFlags := 0, nameIndex := 43, descriptorIndex := 44, attributes := #[] }] 16433 20 #[] #[{ accessFlags := 16409, nameIndex := 5, descriptorIndex := 6, attributes := #[] }, { accessFlags := 16409, nameIndex := 9, descriptorIndex := 6, attributes := #[] }, { accessFlags := 4122, nameIndex := 12, descriptorIndex := 13, attributes := #[] }])
  fields := #[{ name := "MIN", type := (.object "com/example/sumbound/sumbound/algebra/Extremum"), accessFlags := 16409, slot := 0, constantValue := 0 }, { name := "MAX", type := (.object "com/example/sumbound/sumbound/algebra/Extremum"), accessFlags := 16409, slot := 1, constantValue := 0 }, { name := "$VALUES", type := (.array (.object "com/example/sumbound/sumbound/algebra/Extremum")), accessFlags := 4122, slot := 2, constantValue := 0 }]
  methods := #[k6m0]
  instanceTypes := #[(.object "java/lang/String"), .int, .int]
  staticTypes := #[(.object "com/example/sumbound/sumbound/algebra/Extremum"), (.object "com/example/sumbound/sumbound/algebra/Extremum"), (.array (.object "com/example/sumbound/sumbound/algebra/Extremum"))]
  resolved := Array.replicate 54 none
  statics := some 0 }

def pool7 : Array CpInfo := pool [(1, u "java/lang/Cloneable"), (0, .class_ 1), (0, u "java/lang/Object"), (0, .class_ 3)] 3

/-- java/lang/Cloneable -/
def k7 : Class := { plain "java/lang/Cloneable" (some 0) with
  accessFlags := 1537
  interfaces := #[]
  cf := some (fileOf pool7 2 #[] #[] 1537 4 #[] #[])
  fields := #[]
  methods := #[]
  instanceTypes := #[]
  staticTypes := #[]
  resolved := Array.replicate 8 none
  statics := none }

/-- the primitive byte -/
def k8 : Class := { plain "byte" none with kind := .primitive 'B', accessFlags := 0x411 }
/-- [B -/
def k9 : Class := { plain "[B" (some 0) with kind := .array 8 .byte, interfaces := #[7, 4], accessFlags := 1041 }

/-- the primitive int -/
def k10 : Class := { plain "int" none with kind := .primitive 'I', accessFlags := 0x411 }
/-- [I -/
def k11 : Class := { plain "[I" (some 0) with kind := .array 10 .int, interfaces := #[7, 4], accessFlags := 1041 }

def heap : Heap := #[{ cls := 6, slots := #[.ref 1, .ref 2, .null], vm := .statics 6 },
  { cls := 6, slots := #[.null, .int 0, .int 0], vm := .none },
  { cls := 6, slots := #[.null, .int 1, .int 0], vm := .none }]
def classes : Array Class := #[k0, k1, k2, k3, k4, k5, k6, k7, k8, k9, k10, k11]
def interned : List (Array UInt16 × Addr) := []
def slotsUsed : Nat := 9
def theMethod : MethodId := ⟨1, 1⟩
def args0 : Array Value := #[.int 5, .int 3, .int 4, .int 2]
def aboutOver (below : List Frame) : State where
  vm := { classes := classes, interned := interned.toArray }
  heap := heap
  slotsUsed := slotsUsed
  threads := #[{ frames := .invoking theMethod args0 :: below }]
def below0 : List Frame := [.native { method := ⟨0, 0⟩, args := #[] }]
def about1 : State := aboutOver below0
def p0 : Program := .bare "" "" ""
def e0 : Env := launch0.env 0 0 0
theorem w_frames : about1.frames = Frame.invoking theMethod args0 :: below0 := rfl
set_option maxRecDepth 65536 in
theorem w_args : argsFit about1.vm theMethod args0 = true := by decide +kernel
set_option maxRecDepth 65536 in
theorem w_heap : heapFits about1 = true := by decide +kernel
set_option maxRecDepth 65536 in
theorem w_runnable : about1.curStatus? = some .runnable := by decide +kernel
set_option maxRecDepth 65536 in
theorem w_alone : about1.alone = true := by decide +kernel
set_option maxRecDepth 65536 in
theorem w_named : about1.methodNamed? x = some theMethod := by decide +kernel
set_option maxRecDepth 65536 in
theorem w_hears : about1.hears theMethod below0 = true := by decide +kernel
set_option maxRecDepth 65536 in
theorem w_ripe : about1.ripe theMethod args0 below0 = true := by decide +kernel
theorem w_running : about1.status = .running := rfl
set_option maxRecDepth 65536 in
theorem w_room : about1.hasRoom e0.platform room_1 = true :=
  launch0.hasRoom_least _ room_1 (by decide +kernel) (by decide +kernel) (by decide +kernel) (by decide +kernel) (by decide +kernel) (by decide +kernel)
theorem allAtoms_all (ts : List Jvm.Cond) (a : Array Jvm.Value) (st : Jvm.State) : (allAtoms ts).before a st = ts.all (fun c => c.before a st) := by
  induction ts with
  | nil => rfl
  | cons c t ih =>
    show (Jvm.Cond.and c (allAtoms t)).before a st = _
    rw [Jvm.Cond.before_and, ih, List.all_cons]
def words1 : List Jvm.Cond := Jvm.Cond.code x code maxLocals ret :: tables_1
/-- a 'code' word, met by the world's own term for the bytes: nothing is compared byte by byte -/
theorem code_word {y : MethodName} {bytes : ByteArray} {mx : Nat} {rt : Option FieldType} {a : Array Value} {s : State} {m : MethodId} {meth : Method} {c : Code} (h1 : s.methodNamed? y = some m) (h2 : s.vm.method? m = some meth) (h3 : meth.code = some c) (h4 : c.code = bytes)
    (h5 : (c.maxLocals == mx && c.exceptionTable.isEmpty && decide (c.maxStack ≤ mostOperands) && decide (meth.sig.returnType = rt) && !meth.locks && decide (parseMethodDescriptor y.desc = some meth.sig)) = true) : (Jvm.Cond.code y bytes mx rt).before a s = true := by
  simp only [Bool.and_eq_true, beq_iff_eq, Bool.not_eq_true', decide_eq_true_eq] at h5
  obtain ⟨⟨⟨⟨⟨g1, g2⟩, g3⟩, g4⟩, g5⟩, g6⟩ := h5
  simp [Cond.before, Cond.holds, Cond.value, h1, h2, h3, h4, g1, g2, g3, g4, g5, g6]
def isCode : Jvm.Cond → Bool
  | .code _ _ _ _ => true
  | _ => false
theorem all_split {L : List Jvm.Cond} {P : Jvm.Cond → Bool} (h1 : L.all (fun c => isCode c || P c) = true) (h2 : ∀ c ∈ L.filter isCode, P c = true) : L.all P = true := by
  refine List.all_eq_true.mpr fun c hc => ?_
  have h := List.all_eq_true.mp h1 c hc
  rcases Bool.eq_false_or_eq_true (isCode c) with hi | hi
  · exact h2 c (List.mem_filter.mpr ⟨hc, hi⟩)
  · simpa [hi] using h
set_option maxRecDepth 65536 in
theorem w_c0 : (Jvm.Cond.code x code maxLocals ret).before args0 about1 = true := code_word (m := ⟨1, 1⟩) (meth := k1m1) (c := k1c1) (by decide +kernel) rfl rfl rfl (by decide +kernel)
set_option maxRecDepth 65536 in
theorem w_c1 : (Jvm.Cond.code ({ cls := "com/example/sumbound/sumbound/algebra/Extremum", name := "covers", desc := "(DDD)Z" } : Jvm.MethodName) prog_2_method_4_code (7 : Nat) (Option.some Jvm.ClassFile.FieldType.boolean)).before args0 about1 = true := code_word (m := ⟨6, 0⟩) (meth := k6m0) (c := k6c0) (by decide +kernel) rfl rfl rfl (by decide +kernel)
set_option maxRecDepth 65536 in
theorem w_c2 : (Jvm.Cond.code ({ cls := "com/example/sumbound/sumbound/algebra/ExtremumCoversPinLaw", name := "expected", desc := "(ZJJJ)Z" } : Jvm.MethodName) method_3_code (7 : Nat) (Option.some Jvm.ClassFile.FieldType.boolean)).before args0 about1 = true := code_word (m := ⟨1, 2⟩) (meth := k1m2) (c := k1c2) (by decide +kernel) rfl rfl rfl (by decide +kernel)
def codes1 : List Jvm.Cond := [Jvm.Cond.code x code maxLocals ret, Jvm.Cond.code ({ cls := "com/example/sumbound/sumbound/algebra/Extremum", name := "covers", desc := "(DDD)Z" } : Jvm.MethodName) prog_2_method_4_code (7 : Nat) (Option.some Jvm.ClassFile.FieldType.boolean), Jvm.Cond.code ({ cls := "com/example/sumbound/sumbound/algebra/ExtremumCoversPinLaw", name := "expected", desc := "(ZJJJ)Z" } : Jvm.MethodName) method_3_code (7 : Nat) (Option.some Jvm.ClassFile.FieldType.boolean)]
set_option maxRecDepth 65536 in
theorem codes_eq : words1.filter isCode = codes1 := rfl
theorem w_codes : ∀ c ∈ words1.filter isCode, c.before args0 about1 = true := by
  rw [codes_eq]
  intro c hc
  simp only [codes1, List.mem_cons, List.not_mem_nil, or_false] at hc
  rcases hc with rfl | rfl | rfl
  · exact w_c0
  · exact w_c1
  · exact w_c2
set_option maxRecDepth 65536 in
theorem w_t1 : words1.all (fun c => isCode c || c.before args0 about1) = true := by decide +kernel
theorem w_tables : (allAtoms (Jvm.Cond.code x code maxLocals ret :: tables_1)).before args0 about1 = true := by
  rw [allAtoms_all]
  show words1.all (fun c => c.before args0 about1) = true
  refine all_split ?_ w_codes
  rw [w_t1]
set_option maxRecDepth 65536 in
theorem w_case : (Jvm.Cond.and given_1 narrow_1).before args0 about1 = true := by decide +kernel
theorem w_applies : (headSpec (Jvm.Cond.code x code maxLocals ret :: tables_1) room_1).applies x e0.platform about1 = true :=
  (Spec.applies_iff w_frames).mpr ⟨w_running, w_runnable, w_alone, w_named, w_hears, w_ripe, w_room, w_tables⟩
theorem atStart : AtStart classFile x code maxLocals ret World_1 tables_1 room_1 Calls_1 rest_1 Pre_1 launch0 p0 e0 about1 theMethod args0 below0 :=
  ⟨lists_1, trivial, launch0.admits_env _ _ _, launch0.least_env, fairChoices_fair.cas, fairChoices_fair.clock, w_frames, w_args, w_heap, w_applies, trivial, trivial, w_case⟩
end start1
theorem witness_1 : WitnessClaimed_1 := ⟨start1.p0, start1.e0, start1.about1, start1.theMethod, start1.args0, start1.below0, start1.atStart⟩
end Jvm.Pilot.@@N@@
