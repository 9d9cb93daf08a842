import JvmDerived
import JvmDerived.Pilot.@@N@@Statement
import JvmDerived.Pilot.@@N@@Code
set_option linter.unusedVariables false
set_option linter.unusedSimpArgs false
@@BLOCK:NumsL.lean.txt@@
namespace Jvm.Pilot.@@N@@
open Jvm Jvm.ClassFile Sem Op Lib Jvm.Free Jvm.Stand Jvm.LawKit Jvm.RoadKit Bundle Jvm.Pilot.@@N@@.Jvm.D
open Jvm.Free.Fl (NoNaN64 Fin64 Nz64)
abbrev uu : Slot := .unset
abbrev ss : Slot := .second
abbrev vi (x : Int32) : Slot := .val (.int x)
abbrev vj (x : Int64) : Slot := .val (.long x)
abbrev vd (x : UInt64) : Slot := .val (.double x)
abbrev vr (x : Addr) : Slot := .val (.ref x)
/-- whatever is reached from here is reached from E -/
abbrev own_G (p : Program) (e : Env) (below : List Frame) (E T : State) (g : JFrame) : Prop := ∀ t, Steps p.tables e below (T.setTop g) t → Steps p.tables e below E t
theorem own_if_eqY {x : Int32} (h : x = 0) : ifCond.holds .eq x = true := by subst h; rfl
theorem own_if_eqN {x : Int32} (h : ¬ x = 0) : ifCond.holds .eq x = false := beq_false_of_ne h
theorem own_if_neY {x : Int32} (h : ¬ x = 0) : ifCond.holds .ne x = true := bne_iff_ne.mpr h
theorem own_if_neN {x : Int32} (h : x = 0) : ifCond.holds .ne x = false := by subst h; rfl
theorem own_if_ltY {x : Int32} (h : x < 0) : ifCond.holds .lt x = true := decide_eq_true h
theorem own_if_ltN {x : Int32} (h : ¬ x < 0) : ifCond.holds .lt x = false := decide_eq_false h
theorem own_if_geY {x : Int32} (h : ¬ x < 0) : ifCond.holds .ge x = true := decide_eq_true (Int32.not_lt.mp h)
theorem own_if_geN {x : Int32} (h : x < 0) : ifCond.holds .ge x = false := decide_eq_false (fun q => Int32.not_le.mpr h q)
theorem own_if_gtY {x : Int32} (h : 0 < x) : ifCond.holds .gt x = true := decide_eq_true h
theorem own_if_gtN {x : Int32} (h : ¬ 0 < x) : ifCond.holds .gt x = false := decide_eq_false h
theorem own_if_leY {x : Int32} (h : ¬ 0 < x) : ifCond.holds .le x = true := decide_eq_true (Int32.not_lt.mp h)
theorem own_if_leN {x : Int32} (h : 0 < x) : ifCond.holds .le x = false := decide_eq_false (fun q => Int32.not_le.mpr h q)
theorem own_ic_eqY {x y : Int32} (h : x = y) : if_icmp.holds .eq x y = true := beq_iff_eq.mpr h
theorem own_ic_eqN {x y : Int32} (h : ¬ x = y) : if_icmp.holds .eq x y = false := beq_false_of_ne h
theorem own_ic_neY {x y : Int32} (h : ¬ x = y) : if_icmp.holds .ne x y = true := bne_iff_ne.mpr h
theorem own_ic_neN {x y : Int32} (h : x = y) : if_icmp.holds .ne x y = false := by subst h; exact bne_self_eq_false x
theorem own_ic_ltY {x y : Int32} (h : x < y) : if_icmp.holds .lt x y = true := decide_eq_true h
theorem own_ic_ltN {x y : Int32} (h : ¬ x < y) : if_icmp.holds .lt x y = false := decide_eq_false h
theorem own_ic_geY {x y : Int32} (h : ¬ x < y) : if_icmp.holds .ge x y = true := decide_eq_true (Int32.not_lt.mp h)
theorem own_ic_geN {x y : Int32} (h : x < y) : if_icmp.holds .ge x y = false := decide_eq_false (fun q => Int32.not_le.mpr h q)
theorem own_ic_gtY {x y : Int32} (h : y < x) : if_icmp.holds .gt x y = true := decide_eq_true h
theorem own_ic_gtN {x y : Int32} (h : ¬ y < x) : if_icmp.holds .gt x y = false := decide_eq_false h
theorem own_ic_leY {x y : Int32} (h : ¬ y < x) : if_icmp.holds .le x y = true := decide_eq_true (Int32.not_lt.mp h)
theorem own_ic_leN {x y : Int32} (h : y < x) : if_icmp.holds .le x y = false := decide_eq_false (fun q => Int32.not_le.mpr h q)
/-- what a comparison of two whole or scaled values pushes -/
def own_c (i j : Int) : Int32 := if i < j then -1 else if i = j then 0 else 1
theorem own_cE (o : CmpOp) {x y : UInt64} {i j : Int} (h : FP.dcmp x y = some (compare i j)) : cmpValue (FP.dcmp x y) o = own_c i j := by
  rw [h, FP.Core.compare_ite, own_c]
  by_cases h1 : i < j
  · rw [if_pos h1, if_pos h1]; cases o <;> rfl
  · rw [if_neg h1, if_neg h1]
    by_cases h2 : i = j
    · rw [if_pos h2, if_pos h2]; cases o <;> rfl
    · rw [if_neg h2, if_neg h2]; cases o <;> rfl
theorem own_c_lt {i j : Int} (h : i < j) : own_c i j = -1 := by rw [own_c, if_pos h]
theorem own_c_eq {i j : Int} (h : i = j) : own_c i j = 0 := by rw [own_c, if_neg (by omega), if_pos h]
theorem own_c_gt {i j : Int} (h : j < i) : own_c i j = 1 := by rw [own_c, if_neg (by omega), if_neg (by omega)]
theorem own_c_cases (i j : Int) : (i < j ∧ own_c i j = -1) ∨ (i = j ∧ own_c i j = 0) ∨ (j < i ∧ own_c i j = 1) := by
  rcases Int.lt_trichotomy i j with h | h | h
  · exact Or.inl ⟨h, own_c_lt h⟩
  · exact Or.inr (Or.inl ⟨h, own_c_eq h⟩)
  · exact Or.inr (Or.inr ⟨h, own_c_gt h⟩)
theorem own_c_ltY {i j : Int} (h : i < j) : ifCond.holds .lt (own_c i j) = true := by rw [own_c_lt h]; rfl
theorem own_c_ltN {i j : Int} (h : ¬ i < j) : ifCond.holds .lt (own_c i j) = false := by rcases own_c_cases i j with q | q | q <;> first | exact absurd q.1 h | (rw [q.2]; rfl)
theorem own_c_geY {i j : Int} (h : ¬ i < j) : ifCond.holds .ge (own_c i j) = true := by rcases own_c_cases i j with q | q | q <;> first | exact absurd q.1 h | (rw [q.2]; rfl)
theorem own_c_geN {i j : Int} (h : i < j) : ifCond.holds .ge (own_c i j) = false := by rw [own_c_lt h]; rfl
theorem own_c_gtY {i j : Int} (h : j < i) : ifCond.holds .gt (own_c i j) = true := by rw [own_c_gt h]; rfl
theorem own_c_gtN {i j : Int} (h : ¬ j < i) : ifCond.holds .gt (own_c i j) = false := by rcases own_c_cases i j with q | q | q <;> first | exact absurd q.1 h | (rw [q.2]; rfl)
theorem own_c_leY {i j : Int} (h : ¬ j < i) : ifCond.holds .le (own_c i j) = true := by rcases own_c_cases i j with q | q | q <;> first | exact absurd q.1 h | (rw [q.2]; rfl)
theorem own_c_leN {i j : Int} (h : j < i) : ifCond.holds .le (own_c i j) = false := by rw [own_c_gt h]; rfl
theorem own_c_eqY {i j : Int} (h : i = j) : ifCond.holds .eq (own_c i j) = true := by rw [own_c_eq h]; rfl
theorem own_c_eqN {i j : Int} (h : ¬ i = j) : ifCond.holds .eq (own_c i j) = false := by rcases own_c_cases i j with q | q | q <;> first | exact absurd q.1 h | (rw [q.2]; rfl)
theorem own_c_neY {i j : Int} (h : ¬ i = j) : ifCond.holds .ne (own_c i j) = true := by rcases own_c_cases i j with q | q | q <;> first | exact absurd q.1 h | (rw [q.2]; rfl)
theorem own_c_neN {i j : Int} (h : i = j) : ifCond.holds .ne (own_c i j) = false := by rw [own_c_eq h]; rfl
theorem own_l_lt {i j : Int64} (h : i < j) : XT.cmpL i j = -1 := by
  rw [XT.cmpL, if_neg (fun q => Int64.lt_irrefl (Int64.lt_trans h q)), if_neg (fun q => Int64.lt_irrefl (q ▸ h))]
theorem own_l_eq {i j : Int64} (h : i = j) : XT.cmpL i j = 0 := by subst h; rw [XT.cmpL, if_neg Int64.lt_irrefl, if_pos rfl]
theorem own_l_gt {i j : Int64} (h : j < i) : XT.cmpL i j = 1 := by rw [XT.cmpL, if_pos h]
theorem own_l_cases (i j : Int64) : (i < j ∧ XT.cmpL i j = -1) ∨ (i = j ∧ XT.cmpL i j = 0) ∨ (j < i ∧ XT.cmpL i j = 1) := by
  by_cases h : i < j
  · exact Or.inl ⟨h, own_l_lt h⟩
  · by_cases h2 : i = j
    · exact Or.inr (Or.inl ⟨h2, own_l_eq h2⟩)
    · have h3 : j < i := by
        rw [Int64.lt_iff_toInt_lt] at h ⊢
        have h4 : i.toInt ≠ j.toInt := fun q => h2 (Int64.toInt_inj.mp q)
        omega
      exact Or.inr (Or.inr ⟨h3, own_l_gt h3⟩)
theorem own_l_ltY {i j : Int64} (h : i < j) : ifCond.holds .lt (XT.cmpL i j) = true := by rw [own_l_lt h]; rfl
theorem own_l_ltN {i j : Int64} (h : ¬ i < j) : ifCond.holds .lt (XT.cmpL i j) = false := by rcases own_l_cases i j with q | q | q <;> first | exact absurd q.1 h | (rw [q.2]; rfl)
theorem own_l_geY {i j : Int64} (h : ¬ i < j) : ifCond.holds .ge (XT.cmpL i j) = true := by rcases own_l_cases i j with q | q | q <;> first | exact absurd q.1 h | (rw [q.2]; rfl)
theorem own_l_geN {i j : Int64} (h : i < j) : ifCond.holds .ge (XT.cmpL i j) = false := by rw [own_l_lt h]; rfl
theorem own_l_gtY {i j : Int64} (h : j < i) : ifCond.holds .gt (XT.cmpL i j) = true := by rw [own_l_gt h]; rfl
theorem own_l_gtN {i j : Int64} (h : ¬ j < i) : ifCond.holds .gt (XT.cmpL i j) = false := by rcases own_l_cases i j with q | q | q <;> first | exact absurd q.1 h | (rw [q.2]; rfl)
theorem own_l_leY {i j : Int64} (h : ¬ j < i) : ifCond.holds .le (XT.cmpL i j) = true := by rcases own_l_cases i j with q | q | q <;> first | exact absurd q.1 h | (rw [q.2]; rfl)
theorem own_l_leN {i j : Int64} (h : j < i) : ifCond.holds .le (XT.cmpL i j) = false := by rw [own_l_gt h]; rfl
theorem own_l_eqY {i j : Int64} (h : i = j) : ifCond.holds .eq (XT.cmpL i j) = true := by rw [own_l_eq h]; rfl
theorem own_l_eqN {i j : Int64} (h : ¬ i = j) : ifCond.holds .eq (XT.cmpL i j) = false := by rcases own_l_cases i j with q | q | q <;> first | exact absurd q.1 h | (rw [q.2]; rfl)
theorem own_l_neY {i j : Int64} (h : ¬ i = j) : ifCond.holds .ne (XT.cmpL i j) = true := by rcases own_l_cases i j with q | q | q <;> first | exact absurd q.1 h | (rw [q.2]; rfl)
theorem own_l_neN {i j : Int64} (h : i = j) : ifCond.holds .ne (XT.cmpL i j) = false := by rw [own_l_eq h]; rfl
theorem own_ac_eq_Y {x y : Value} (h : x = y) : XT.acmp .eq x y = true := decide_eq_true h
theorem own_ac_eq_N {x y : Value} (h : ¬ x = y) : XT.acmp .eq x y = false := decide_eq_false h
theorem own_ac_ne_Y {x y : Value} (h : ¬ x = y) : XT.acmp .ne x y = true := decide_eq_true h
theorem own_ac_ne_N {x y : Value} (h : x = y) : XT.acmp .ne x y = false := decide_eq_false (fun q => q h)
theorem own_ar_eq_Y {x y : Addr} (h : x = y) : XT.acmp .eq (.ref x) (.ref y) = true := own_ac_eq_Y (congrArg Value.ref h)
theorem own_ar_eq_N {x y : Addr} (h : ¬ x = y) : XT.acmp .eq (.ref x) (.ref y) = false := own_ac_eq_N (fun q => h (Value.ref.inj q))
theorem own_ar_ne_Y {x y : Addr} (h : ¬ x = y) : XT.acmp .ne (.ref x) (.ref y) = true := own_ac_ne_Y (fun q => h (Value.ref.inj q))
theorem own_ar_ne_N {x y : Addr} (h : x = y) : XT.acmp .ne (.ref x) (.ref y) = false := own_ac_ne_N (congrArg Value.ref h)
/-- a static's object's field that the case names by a number -/
theorem own_ord {args : Array Value} {s : State} {t : Term} {C n d : String} {k : Int32} {x : Addr} (ev : t.eval args s none [] s = some (.ref x))
    (h : (Jvm.Cond.eq (Term.field t C n d) (Term.int k)).value args s none s [] = some true) : s.fieldOf? x C n d = some (.int k) := by
  obtain ⟨v, u, e1, e2, k1, k2⟩ := cmp_v (Or.inl h)
  have e3 : u = .int k := by have := (Term.int_eval (args := args) (first := s) (o := none) (idx := []) (s := s) k).symm.trans e2; exact (Option.some.inj this).symm
  subst e3
  obtain ⟨z, rfl⟩ := k2
  have q := gotT (Cond.eq_ints e1 e2) h
  rw [← fld_at ev, e1, q]
/-! doubles: exact values in units of the least double -/
def own_z (x : UInt64) : Int := FP.Core.zval FP.Core.b64 (FP.Core.val64 x)
theorem own_nn {i : Int} {x : UInt64} (h : FP.Core.DInt i x) : NoNaN64 x := Fl.val64_no.mpr (FP.Core.DInt_ne_nan h)
theorem own_cmpz {x y : UInt64} (hx : NoNaN64 x) (hy : NoNaN64 y) : FP.dcmp x y = some (compare (own_z x) (own_z y)) := FP.Core.dcmp_zval (Fl.val64_no.mp hx) (Fl.val64_no.mp hy)
theorem own_d0 : FP.Core.DInt 0 FP.dconst0 := by
  have h := FP.Core.l2d_int (a := 0) (by decide)
  rw [FP.Core.l2d_zero] at h; exact h
theorem own_d1 : FP.Core.DInt 1 FP.dconst1 := FP.Core.dint_one
theorem own_zi {i : Int} {x : UInt64} (h : FP.Core.DInt i x) : own_z x = i * (FP.Core.one64 : Int) := FP.Core.DInt_zval h
theorem own_fini {i : Int} {x : UInt64} (h : FP.Core.DInt i x) : Fin64 x := by
  have h' : FP.Core.Whole i (FP.Core.val64 x) := h
  cases hv : FP.Core.val64 x with
  | nan => rw [hv] at h'; exact h'.elim
  | inf s => rw [hv] at h'; exact h'.elim
  | fin s c q => exact Fl.fin64_core.mpr ⟨s, c, q, hv⟩
theorem own_one : (0 : Int) < (FP.Core.one64 : Int) := by have := FP.Core.one64_pos; omega
theorem own_nz {x : UInt64} (h : own_z x ≠ 0) : Nz64 x := Fl.nz64_core.mpr fun ⟨s, q, e⟩ => h (by
  show FP.Core.zval FP.Core.b64 (FP.Core.val64 x) = 0
  rw [e]; show FP.Core.signed s (0 * _) = 0; rw [Nat.zero_mul]; cases s <;> rfl)
theorem own_nzi {i : Int} {x : UInt64} (h : FP.Core.DInt i x) (hi : i ≠ 0) : Nz64 x := own_nz (by
  rw [own_zi h]; intro q; rcases Int.mul_eq_zero.mp q with r | r
  · exact hi r
  · have := own_one; omega)
theorem own_zn (x : UInt64) : (own_z x).natAbs = FP.Core.zmag FP.Core.b64 (FP.Core.val64 x) := FP.Core.natAbs_signed _ _
/-- the quotient, by the two values alone -/
theorem own_quot {x y : UInt64} (hx : Fin64 x) (hy : Fin64 y) (hz : own_z y ≠ 0) :
    FP.Core.val64 (FP.ddiv x y) = FP.Core.roundRatio FP.Core.b64 (FP.Core.sgn (FP.Core.val64 x) != FP.Core.sgn (FP.Core.val64 y)) (own_z x).natAbs (own_z y).natAbs 0 := by
  obtain ⟨s, c, q, ex⟩ := Fl.fin64_core.mp hx
  obtain ⟨t, d, r, ey⟩ := Fl.fin64_core.mp hy
  have fx : FP.Core.fits FP.Core.b64 (.fin s c q) := ex ▸ FP.Core.val64_fits x
  have fy : FP.Core.fits FP.Core.b64 (.fin t d r) := ey ▸ FP.Core.val64_fits y
  have hd : d ≠ 0 := fun h => hz (by
    show FP.Core.zval FP.Core.b64 (FP.Core.val64 y) = 0
    rw [ey, h]; show FP.Core.signed t (0 * _) = 0; rw [Nat.zero_mul]; cases t <;> rfl)
  rw [own_zn, own_zn, show FP.ddiv x y = FP.Core.ddiv x y from rfl, FP.Core.val64_ddiv, ex, ey]
  show (if d = 0 then _ else FP.Core.roundRatio FP.Core.b64 (s != t) c d (q - r)) = FP.Core.roundRatio FP.Core.b64 (s != t) (c * 2 ^ (q - FP.Core.b64.qmin).toNat) (d * 2 ^ (r - FP.Core.b64.qmin).toNat) 0
  rw [if_neg hd]
  refine FP.Core.roundRatio_congr (Nat.pos_of_ne_zero hd) (Nat.mul_pos (Nat.pos_of_ne_zero hd) (Nat.two_pow_pos _)) ?_
  have h1 := fx.2.1
  have h2 := fy.2.1
  have e1 : (r - FP.Core.b64.qmin).toNat + (q - r - 0).toNat = (q - FP.Core.b64.qmin).toNat + (0 - (q - r)).toNat := by omega
  calc c * (d * 2 ^ (r - FP.Core.b64.qmin).toNat) * 2 ^ (q - r - 0).toNat = c * d * (2 ^ (r - FP.Core.b64.qmin).toNat * 2 ^ (q - r - 0).toNat) := by
        rw [Nat.mul_assoc, Nat.mul_assoc, Nat.mul_assoc]
    _ = c * d * (2 ^ (q - FP.Core.b64.qmin).toNat * 2 ^ (0 - (q - r)).toNat) := by rw [← Nat.pow_add, ← Nat.pow_add, e1]
    _ = c * 2 ^ (q - FP.Core.b64.qmin).toNat * d * 2 ^ (0 - (q - r)).toNat := by
        rw [Nat.mul_right_comm c _ d, Nat.mul_assoc (c * d)]
theorem own_noNaN_of {x : UInt64} {s : Bool} {A B : Nat} {e : Int} (h : FP.Core.val64 x = FP.Core.roundRatio FP.Core.b64 s A B e) : NoNaN64 x :=
  Fl.val64_no.mpr (h ▸ FP.Core.roundRatio_ne_nan _ _ _ _ _)
theorem own_div_nn {x y : UInt64} (hx : Fin64 x) (hy : Fin64 y) (hz : own_z y ≠ 0) : NoNaN64 (FP.ddiv x y) := Fl.ddiv_out hx.noNaN hy (own_nz hz)
/-- what is rounded below (above) a double stays there -/
theorem own_rr_le {s : Bool} {A B : Nat} {V : UInt64} (hB : 0 < B) (hV : NoNaN64 V) (h : A * FP.Core.one64 ≤ (own_z V).natAbs * B) :
    FP.Core.zmag FP.Core.b64 (FP.Core.roundRatio FP.Core.b64 s A B 0) ≤ (own_z V).natAbs := by
  rw [own_zn] at h ⊢
  refine FP.Core.zmag_roundRatio_le FP.Core.good_b64 hB (FP.Core.val64_fits V) (Fl.val64_no.mp hV) (e0 := FP.Core.b64.qmin) (Int.le_refl _) (by decide +kernel) ?_
  rw [Int.sub_self]
  show A * 2 ^ (0 - FP.Core.b64.qmin).toNat ≤ _ * 1 * B
  rw [Nat.mul_one, Int.zero_sub, FP.Core.pow_qmin64]; exact h
theorem own_rr_ge {s : Bool} {A B : Nat} {V : UInt64} (hB : 0 < B) (h : (own_z V).natAbs * B ≤ A * FP.Core.one64) :
    (own_z V).natAbs ≤ FP.Core.zmag FP.Core.b64 (FP.Core.roundRatio FP.Core.b64 s A B 0) := by
  rw [own_zn] at h ⊢
  refine FP.Core.zmag_roundRatio_ge FP.Core.good_b64 hB (FP.Core.val64_fits V) (e0 := FP.Core.b64.qmin) (Int.le_refl _) (by decide +kernel) ?_
  rw [Int.sub_self]
  show _ * 1 * B ≤ A * 2 ^ (0 - FP.Core.b64.qmin).toNat
  rw [Nat.mul_one, Int.zero_sub, FP.Core.pow_qmin64]; exact h
theorem own_z_signed {x : UInt64} {s : Bool} {A B : Nat} (h : FP.Core.val64 x = FP.Core.roundRatio FP.Core.b64 s A B 0) :
    own_z x = FP.Core.signed s (FP.Core.zmag FP.Core.b64 (FP.Core.roundRatio FP.Core.b64 s A B 0)) := by
  show FP.Core.signed _ _ = _
  rw [h, FP.Core.sgn_roundRatio]
/-- a quotient of two that are not below nought -/
theorem own_div_ge0 {x y : UInt64} (hx : Fin64 x) (hy : Fin64 y) (hz : own_z y ≠ 0) (h0 : 0 ≤ own_z x) (h1 : 0 ≤ own_z y) : 0 ≤ own_z (FP.ddiv x y) := by
  have hq := own_quot hx hy hz
  rw [own_z_signed hq]
  cases hs : (FP.Core.sgn (FP.Core.val64 x) != FP.Core.sgn (FP.Core.val64 y)) with
  | false => exact Int.natCast_nonneg _
  | true =>
    have hy2 : FP.Core.sgn (FP.Core.val64 y) = false := by
      cases hs2 : FP.Core.sgn (FP.Core.val64 y) with
      | false => rfl
      | true =>
        exfalso; have : own_z y = -(FP.Core.zmag FP.Core.b64 (FP.Core.val64 y) : Int) := by show FP.Core.signed _ _ = _; rw [hs2]; rfl
        omega
    have hx2 : FP.Core.sgn (FP.Core.val64 x) = true := by rw [hy2] at hs; simpa using hs
    have hx3 : own_z x = -(FP.Core.zmag FP.Core.b64 (FP.Core.val64 x) : Int) := by show FP.Core.signed _ _ = _; rw [hx2]; rfl
    have hx4 : (own_z x).natAbs = 0 := by omega
    rw [hx4, FP.Core.roundRatio, if_pos rfl]
    show 0 ≤ FP.Core.signed true (0 * _); rw [Nat.zero_mul]; decide
theorem own_div_le {x y V : UInt64} (hx : Fin64 x) (hy : Fin64 y) (hz : own_z y ≠ 0) (hV : NoNaN64 V) (h0 : 0 ≤ own_z x) (h1 : 0 ≤ own_z y) (h2 : 0 ≤ own_z V)
    (h : own_z x * (FP.Core.one64 : Int) ≤ own_z V * own_z y) : own_z (FP.ddiv x y) ≤ own_z V := by
  have hq := own_quot hx hy hz
  have hge := own_div_ge0 hx hy hz h0 h1
  have hB : 0 < (own_z y).natAbs := by omega
  have h3 : (own_z x).natAbs * FP.Core.one64 ≤ (own_z V).natAbs * (own_z y).natAbs := by
    have e1 : ((own_z x).natAbs : Int) = own_z x := by omega
    have e2 : ((own_z y).natAbs : Int) = own_z y := by omega
    have e3 : ((own_z V).natAbs : Int) = own_z V := by omega
    have : (((own_z x).natAbs * FP.Core.one64 : Nat) : Int) ≤ (((own_z V).natAbs * (own_z y).natAbs : Nat) : Int) := by
      rw [Int.natCast_mul, Int.natCast_mul, e1, e2, e3]; exact h
    exact Int.ofNat_le.mp this
  have := own_rr_le (s := FP.Core.sgn (FP.Core.val64 x) != FP.Core.sgn (FP.Core.val64 y)) hB hV h3
  have h4 : (own_z (FP.ddiv x y)).natAbs ≤ (own_z V).natAbs := by rw [own_zn, hq]; exact this
  omega
/-- two doubles of the same whole value compare as equal -/
theorem own_eq0 {x y : UInt64} {i : Int} (o : CmpOp) (hx : FP.Core.DInt i x) (hy : FP.Core.DInt i y) : cmpValue (FP.dcmp x y) o = 0 := by
  rw [own_cE o (FP.Core.dcmp_int hx hy), own_c_eq rfl]
theorem own_mb {a b A B : Int} (h1 : -A ≤ a) (h2 : a ≤ A) (h3 : -B ≤ b) (h4 : b ≤ B) (h : A * B ≤ 9007199254740992) : (a * b).natAbs ≤ 2 ^ 53 := by
  rw [Int.natAbs_mul]
  have e1 : a.natAbs ≤ A.toNat := by omega
  have e2 : b.natAbs ≤ B.toNat := by omega
  have e3 : a.natAbs * b.natAbs ≤ A.toNat * B.toNat := Nat.mul_le_mul e1 e2
  have e4 : ((A.toNat * B.toNat : Nat) : Int) = A * B := by rw [Int.natCast_mul, Int.toNat_of_nonneg (by omega), Int.toNat_of_nonneg (by omega)]
  have e5 : (2 : Nat) ^ 53 = 9007199254740992 := by decide
  omega
theorem own_dl (a : Int64) {i : Int} (h : a.toInt = i) (hb : i.natAbs ≤ 2 ^ 53) : FP.Core.DInt i (FP.l2d a) := by subst h; exact FP.Core.l2d_int hb
theorem own_lm {a b : Int64} (h : (a.toInt * b.toInt).natAbs ≤ 2 ^ 53) : (a * b).toInt = a.toInt * b.toInt := by
  have e5 : (2 : Nat) ^ 53 = 9007199254740992 := by decide
  exact Jvm.Kit.i64_mul (by omega) (by omega)
theorem own_sgn_mul {s t : Bool} {b : Nat} {k : Int} (hb : 0 < b) (h : FP.Core.signed s (k.natAbs * b) = k * FP.Core.signed t b) : FP.Core.signed (s != t) k.natAbs = k := by
  have hb' : (0 : Int) < (b : Int) := by omega
  have e : ((k.natAbs * b : Nat) : Int) = (k.natAbs : Int) * (b : Int) := Int.natCast_mul _ _
  have key : ∀ z : Int, (k.natAbs : Int) * (b : Int) = z * (b : Int) → (k.natAbs : Int) = z := fun z q => Int.eq_of_mul_eq_mul_right (by omega) q
  cases s <;> cases t
  · show (k.natAbs : Int) = k
    apply key; rw [← e]; exact h
  · show -(k.natAbs : Int) = k
    have h' : ((k.natAbs * b : Nat) : Int) = k * -(b : Int) := h
    have := key (-k) (by rw [← e, h', Int.mul_neg, Int.neg_mul]); omega
  · show -(k.natAbs : Int) = k
    have h' : -((k.natAbs * b : Nat) : Int) = k * (b : Int) := h
    have := key (-k) (by rw [← e, Int.neg_mul, ← h', Int.neg_neg]); omega
  · show (k.natAbs : Int) = k
    have h' : -((k.natAbs * b : Nat) : Int) = k * -(b : Int) := h
    apply key; rw [← e]
    have : -((k.natAbs * b : Nat) : Int) = -(k * (b : Int)) := by rw [h', Int.mul_neg]
    omega
/-- a quotient of whole values that comes out even -/
theorem own_ddiv_int {k j : Int} {x y : UInt64} (hx : FP.Core.DInt (k * j) x) (hy : FP.Core.DInt j y) (hj : j ≠ 0) (hk : k.natAbs ≤ 2 ^ 53) : FP.Core.DInt k (FP.ddiv x y) := by
  have zx := own_zi hx
  have zy := own_zi hy
  have hz : own_z y ≠ 0 := by rw [zy]; exact Int.mul_ne_zero hj (by have := own_one; omega)
  have hq := own_quot (own_fini hx) (own_fini hy) hz
  have ha : (own_z x).natAbs = k.natAbs * (own_z y).natAbs := by rw [zx, zy, Int.mul_assoc, Int.natAbs_mul]
  have hb : 0 < (own_z y).natAbs := by omega
  show FP.Core.Whole k (FP.Core.val64 (FP.ddiv x y))
  rw [hq, ha, FP.Core.roundRatio_congr (A' := k.natAbs) (B' := 1) (e' := 0) hb (by decide) (by rw [Nat.mul_one])]
  refine FP.Core.whole_round FP.Core.good_b64 FP.Core.wide_b64 hk (d := .fin (FP.Core.sgn (FP.Core.val64 x) != FP.Core.sgn (FP.Core.val64 y)) k.natAbs 0) ?_
  show FP.Core.signed _ (k.natAbs * 1) = k * ((1 : Nat) : Int)
  rw [Nat.mul_one, show ((1 : Nat) : Int) = 1 from rfl, Int.mul_one]
  refine own_sgn_mul hb ?_
  have e1 : FP.Core.signed (FP.Core.sgn (FP.Core.val64 x)) (own_z x).natAbs = own_z x := by rw [own_zn]; rfl
  have e2 : FP.Core.signed (FP.Core.sgn (FP.Core.val64 y)) (own_z y).natAbs = own_z y := by rw [own_zn]; rfl
  rw [← ha, e1, e2, zx, zy, Int.mul_assoc]
theorem own_zmag_s (s : Bool) (A B : Nat) (e : Int) : FP.Core.zmag FP.Core.b64 (FP.Core.roundRatio FP.Core.b64 s A B e) = FP.Core.zmag FP.Core.b64 (FP.Core.roundRatio FP.Core.b64 false A B e) := by
  cases s with
  | false => rfl
  | true =>
    rw [show FP.Core.roundRatio FP.Core.b64 true A B e = FP.Core.negate (FP.Core.roundRatio FP.Core.b64 false A B e) from (FP.Core.negate_roundRatio FP.Core.b64 false A B e).symm]
    cases FP.Core.roundRatio FP.Core.b64 false A B e <;> rfl
theorem own_div_n {x y : UInt64} (hx : Fin64 x) (hy : Fin64 y) (hz : own_z y ≠ 0) : (own_z (FP.ddiv x y)).natAbs = FP.Core.zmag FP.Core.b64 (FP.Core.roundRatio FP.Core.b64 false (own_z x).natAbs (own_z y).natAbs 0) := by
  rw [own_zn, own_quot hx hy hz, own_zmag_s]
/-- two quotients of the same ratio, none below nought -/
theorem own_div_congr {x y x' y' : UInt64} (hx : Fin64 x) (hy : Fin64 y) (hz : own_z y ≠ 0) (hx' : Fin64 x') (hy' : Fin64 y') (hz' : own_z y' ≠ 0)
    (g1 : 0 ≤ own_z x) (g2 : 0 ≤ own_z y) (g3 : 0 ≤ own_z x') (g4 : 0 ≤ own_z y') (h : own_z x * own_z y' = own_z x' * own_z y) : own_z (FP.ddiv x y) = own_z (FP.ddiv x' y') := by
  have e1 := own_div_n hx hy hz
  have e2 := own_div_n hx' hy' hz'
  have k1 := own_div_ge0 hx hy hz g1 g2
  have k2 := own_div_ge0 hx' hy' hz' g3 g4
  have h' : (own_z x).natAbs * (own_z y').natAbs = (own_z x').natAbs * (own_z y).natAbs := by rw [← Int.natAbs_mul, ← Int.natAbs_mul, h]
  rw [FP.Core.roundRatio_congr (A' := (own_z x').natAbs) (B' := (own_z y').natAbs) (e' := 0) (by omega) (by omega) (by rw [h'])] at e1
  omega
/-- m * 2^k units is a double -/
theorem own_rep (m k : Nat) (hm : m < 2 ^ 53) (hk : k ≤ 2045) : ∃ V : UInt64, Fin64 V ∧ own_z V = ((m * 2 ^ k : Nat) : Int) := by
  have hq : FP.Core.b64.qmin = -1074 := FP.Core.qmin_b64
  have hq2 : FP.Core.b64.qmax = 971 := by decide
  obtain ⟨c, q, e1, e2⟩ := FP.Core.round_exact FP.Core.good_b64 false (c := m) (q := (k : Int) - 1074) hm (by rw [hq]; omega) (by rw [hq2]; omega)
  have hv : FP.Core.val64 (FP.Core.of64 (FP.Core.round FP.Core.b64 (.fin false m ((k : Int) - 1074)))) = .fin false c q := by
    rw [FP.Core.val64_of64 (FP.Core.round_fits FP.Core.good_b64 _), e1]
  refine ⟨_, Fl.fin64_core.mpr ⟨_, _, _, hv⟩, ?_⟩
  show FP.Core.zval FP.Core.b64 _ = _
  rw [hv]
  show ((FP.Core.inUnits c q FP.Core.b64.qmin : Nat) : Int) = _
  rw [e2, FP.Core.inUnits, hq, show ((k : Int) - 1074 - -1074).toNat = k by omega]
/-- a quotient that comes out even in some binary place -/
theorem own_div_exact {x y : UInt64} (hx : Fin64 x) (hy : Fin64 y) (hz : own_z y ≠ 0) (g1 : 0 ≤ own_z x) (g2 : 0 ≤ own_z y) (m k : Nat) (hm : m < 2 ^ 53) (hk : k ≤ 2045)
    (h : own_z x * (FP.Core.one64 : Int) = ((m * 2 ^ k : Nat) : Int) * own_z y) : own_z (FP.ddiv x y) = ((m * 2 ^ k : Nat) : Int) := by
  obtain ⟨V, fV, zV⟩ := own_rep m k hm hk
  have k1 := own_div_ge0 hx hy hz g1 g2
  have e1 := own_div_n hx hy hz
  have h3 : (own_z x).natAbs * FP.Core.one64 = (own_z V).natAbs * (own_z y).natAbs := by
    have := congrArg Int.natAbs h
    rw [Int.natAbs_mul, Int.natAbs_mul, ← zV] at this
    exact this
  have l1 := own_rr_le (s := false) (A := (own_z x).natAbs) (B := (own_z y).natAbs) (V := V) (by omega) fV.noNaN (Nat.le_of_eq h3)
  have l2 := own_rr_ge (s := false) (A := (own_z x).natAbs) (B := (own_z y).natAbs) (V := V) (by omega) (Nat.le_of_eq h3.symm)
  omega
theorem own_eqz {x y : UInt64} (o : CmpOp) (hx : NoNaN64 x) (hy : NoNaN64 y) (h : own_z x = own_z y) : cmpValue (FP.dcmp x y) o = 0 := by
  rw [own_cE o (own_cmpz hx hy), own_c_eq h]
theorem own_ge0 {x : UInt64} (h : 0 ≤ own_z x) : ¬ own_z x < own_z FP.dconst0 := by rw [own_zi own_d0, Int.zero_mul]; exact Int.not_lt.mpr h
theorem own_le1 {x : UInt64} (h : own_z x ≤ own_z FP.dconst1) : ¬ own_z FP.dconst1 < own_z x := Int.not_lt.mpr h

def own_lead (c : Prop) [Decidable c] (x y : UInt64) : UInt64 := if own_z x = own_z y then FP.dconst0 else if c then FP.dsub y x else FP.dsub x y
theorem own_vP : FP.Core.val64 (9218868437227405312 : UInt64) = .inf false := by decide +kernel
theorem own_vN : FP.Core.val64 (18442240474082181120 : UInt64) = .inf true := by decide +kernel
theorem own_nnP : NoNaN64 (9218868437227405312 : UInt64) := Fl.val64_no.mpr (by rw [own_vP]; exact fun z => nomatch z)
theorem own_nnN : NoNaN64 (18442240474082181120 : UInt64) := Fl.val64_no.mpr (by rw [own_vN]; exact fun z => nomatch z)
theorem own_isub {s : Bool} {x y : UInt64} (hx : FP.Core.val64 x = .inf s) (hy : Fin64 y) : FP.Core.val64 (FP.dsub x y) = .inf s := by
  obtain ⟨t, d, r, ey⟩ := Fl.fin64_core.mp hy
  rw [show FP.dsub x y = FP.Core.dsub x y from rfl, FP.Core.val64_dsub, hx, ey]; rfl
theorem own_subi {s : Bool} {x y : UInt64} (hx : FP.Core.val64 x = .inf s) (hy : Fin64 y) : FP.Core.val64 (FP.dsub y x) = .inf (!s) := by
  obtain ⟨t, d, r, ey⟩ := Fl.fin64_core.mp hy
  rw [show FP.dsub y x = FP.Core.dsub y x from rfl, FP.Core.val64_dsub, hx, ey]; rfl
theorem own_isubi {s : Bool} {x y : UInt64} (hx : FP.Core.val64 x = .inf s) (hy : FP.Core.val64 y = .inf (!s)) : FP.Core.val64 (FP.dsub x y) = .inf s := by
  rw [show FP.dsub x y = FP.Core.dsub x y from rfl, FP.Core.val64_dsub, hx, hy]; cases s <;> rfl
theorem own_nni {s : Bool} {x : UInt64} (h : FP.Core.val64 x = .inf s) : NoNaN64 x := Fl.val64_no.mpr (by rw [h]; exact fun z => nomatch z)
theorem own_hn_ff (a b : Int32) : own_z (FP.i2d a) ≠ own_z (FP.i2d b) → NoNaN64 (FP.dsub (FP.i2d b) (FP.i2d a)) ∧ NoNaN64 (FP.dsub (FP.i2d a) (FP.i2d b)) := fun _ =>
  ⟨Fl.dsub_out (Fl.i2d_fin b).noNaN (Fl.i2d_fin a), Fl.dsub_out (Fl.i2d_fin a).noNaN (Fl.i2d_fin b)⟩
theorem own_hn_if {s : Bool} {x y : UInt64} (hx : FP.Core.val64 x = .inf s) (hy : Fin64 y) : own_z x ≠ own_z y → NoNaN64 (FP.dsub y x) ∧ NoNaN64 (FP.dsub x y) := fun _ => ⟨own_nni (own_subi hx hy), own_nni (own_isub hx hy)⟩
theorem own_hn_fi {s : Bool} {x y : UInt64} (hx : FP.Core.val64 x = .inf s) (hy : Fin64 y) : own_z y ≠ own_z x → NoNaN64 (FP.dsub x y) ∧ NoNaN64 (FP.dsub y x) := fun _ => ⟨own_nni (own_isub hx hy), own_nni (own_subi hx hy)⟩
theorem own_hn_pn : own_z (9218868437227405312 : UInt64) ≠ own_z (18442240474082181120 : UInt64) → NoNaN64 (FP.dsub (18442240474082181120 : UInt64) (9218868437227405312 : UInt64)) ∧ NoNaN64 (FP.dsub (9218868437227405312 : UInt64) (18442240474082181120 : UInt64)) := fun _ => ⟨own_nni (own_isubi own_vN own_vP), own_nni (own_isubi own_vP own_vN)⟩
theorem own_hn_np : own_z (18442240474082181120 : UInt64) ≠ own_z (9218868437227405312 : UInt64) → NoNaN64 (FP.dsub (9218868437227405312 : UInt64) (18442240474082181120 : UInt64)) ∧ NoNaN64 (FP.dsub (18442240474082181120 : UInt64) (9218868437227405312 : UInt64)) := fun _ => ⟨own_nni (own_isubi own_vP own_vN), own_nni (own_isubi own_vN own_vP)⟩
theorem own_lead_same (c : Prop) [Decidable c] (x : UInt64) : own_lead c x x = FP.dconst0 := by rw [own_lead, if_pos rfl]
theorem own_zne {s : Bool} {x y : UInt64} (hx : FP.Core.val64 x = .inf s) (hy : NoNaN64 y) (h : FP.Core.val64 y ≠ .inf s) : own_z x ≠ own_z y := fun q => by
  have e := own_cmpz (own_nni hx) hy
  rw [q, FP.Core.compare_self_int] at e
  have e2 : FP.Core.order (FP.Core.val64 x) (FP.Core.val64 y) = some .eq := e
  rw [hx] at e2
  cases hv : FP.Core.val64 y with
  | nan => rw [hv] at e2; cases e2
  | inf t =>
    rw [hv] at e2 h
    cases s <;> cases t <;> first | exact h rfl | exact absurd e2 (by decide)
  | fin t d r =>
    rw [hv] at e2
    cases s
    · exact absurd (show some (compare (FP.Core.signed false 1) 0) = some Ordering.eq from e2) (by decide)
    · exact absurd (show some (compare (FP.Core.signed true 1) 0) = some Ordering.eq from e2) (by decide)
theorem own_inf_same {s : Bool} {x y : UInt64} (hx : FP.Core.val64 x = .inf s) (hy : FP.Core.val64 y = .inf s) : cmpValue (FP.dcmp x y) .l = 0 :=
  dcmpV_eq (FP.Core.val64_inj (by rw [hx]; exact fun z => nomatch z) (hx.trans hy.symm)) (own_nni hx) .l
theorem own_fin_ne {s : Bool} {y : UInt64} (hy : Fin64 y) : FP.Core.val64 y ≠ .inf s := by
  obtain ⟨t, d, r, ey⟩ := Fl.fin64_core.mp hy
  rw [ey]; exact fun z => nomatch z
theorem own_ifY {c : Prop} [Decidable c] (h : c) {s t : Bool} {x y E : UInt64} (hx : FP.Core.val64 x = .inf s) (hE : FP.Core.val64 E = .inf t) (hy : Fin64 y) (hst : (!s) = t := by rfl) : cmpValue (FP.dcmp (own_lead c x y) E) .l = 0 := by
  rw [own_lead, if_neg (own_zne hx hy.noNaN (own_fin_ne hy)), if_pos h]; subst hst; exact own_inf_same (own_subi hx hy) hE
theorem own_ifN {c : Prop} [Decidable c] (h : ¬ c) {s t : Bool} {x y E : UInt64} (hx : FP.Core.val64 x = .inf s) (hE : FP.Core.val64 E = .inf t) (hy : Fin64 y) (hst : s = t := by rfl) : cmpValue (FP.dcmp (own_lead c x y) E) .l = 0 := by
  rw [own_lead, if_neg (own_zne hx hy.noNaN (own_fin_ne hy)), if_neg h]; subst hst; exact own_inf_same (own_isub hx hy) hE
theorem own_fiY {c : Prop} [Decidable c] (h : c) {s t : Bool} {x y E : UInt64} (hx : FP.Core.val64 x = .inf s) (hE : FP.Core.val64 E = .inf t) (hy : Fin64 y) (hst : s = t := by rfl) : cmpValue (FP.dcmp (own_lead c y x) E) .l = 0 := by
  rw [own_lead, if_neg (fun q => own_zne hx hy.noNaN (own_fin_ne hy) q.symm), if_pos h]; subst hst; exact own_inf_same (own_isub hx hy) hE
theorem own_fiN {c : Prop} [Decidable c] (h : ¬ c) {s t : Bool} {x y E : UInt64} (hx : FP.Core.val64 x = .inf s) (hE : FP.Core.val64 E = .inf t) (hy : Fin64 y) (hst : (!s) = t := by rfl) : cmpValue (FP.dcmp (own_lead c y x) E) .l = 0 := by
  rw [own_lead, if_neg (fun q => own_zne hx hy.noNaN (own_fin_ne hy) q.symm), if_neg h]; subst hst; exact own_inf_same (own_subi hx hy) hE
theorem own_ine {s t : Bool} {y : UInt64} (hy : FP.Core.val64 y = .inf t) (hst : s ≠ t) : FP.Core.val64 y ≠ .inf s := by rw [hy]; intro z; exact hst (FP.Core.Datum.inf.inj z).symm
theorem own_iiY {c : Prop} [Decidable c] (h : c) {s t u : Bool} {x y E : UInt64} (hx : FP.Core.val64 x = .inf s) (hy : FP.Core.val64 y = .inf t) (hE : FP.Core.val64 E = .inf u) (h1 : s = !t := by rfl) (h2 : t = u := by rfl) : cmpValue (FP.dcmp (own_lead c x y) E) .l = 0 := by
  rw [own_lead, if_neg (own_zne hx (own_nni hy) (own_ine hy (by subst h1; cases t <;> decide))), if_pos h]; subst h2 h1; exact own_inf_same (own_isubi hy hx) hE
theorem own_iiN {c : Prop} [Decidable c] (h : ¬ c) {s t u : Bool} {x y E : UInt64} (hx : FP.Core.val64 x = .inf s) (hy : FP.Core.val64 y = .inf t) (hE : FP.Core.val64 E = .inf u) (h1 : t = !s := by rfl) (h2 : s = u := by rfl) : cmpValue (FP.dcmp (own_lead c x y) E) .l = 0 := by
  rw [own_lead, if_neg (own_zne hx (own_nni hy) (own_ine hy (by subst h1; cases s <;> decide))), if_neg h]; subst h2 h1; exact own_inf_same (own_isubi hx hy) hE
theorem own_d53 (a b : Int32) : (a.toInt - b.toInt).natAbs ≤ 2 ^ 53 := by
  have h1 := Int32.le_toInt a; have h2 := Int32.toInt_lt a; have h3 := Int32.le_toInt b; have h4 := Int32.toInt_lt b
  have e5 : (2 : Nat) ^ 53 = 9007199254740992 := by decide
  omega
theorem own_ffE (a b : Int32) : FP.Core.DInt (a.toInt - b.toInt) (FP.l2d (a.toInt64 - b.toInt64)) := by
  refine own_dl _ ?_ (own_d53 a b)
  have h1 := Int32.le_toInt a; have h2 := Int32.toInt_lt a; have h3 := Int32.le_toInt b; have h4 := Int32.toInt_lt b
  rw [Jvm.Kit.i64_sub (by rw [Jvm.Kit.i64_of_i32, Jvm.Kit.i64_of_i32]; omega) (by rw [Jvm.Kit.i64_of_i32, Jvm.Kit.i64_of_i32]; omega), Jvm.Kit.i64_of_i32, Jvm.Kit.i64_of_i32]
theorem own_zeq {a b : Int32} (h : own_z (FP.i2d a) = own_z (FP.i2d b)) : a.toInt = b.toInt := by
  rw [own_zi (FP.Core.i2d_int a), own_zi (FP.Core.i2d_int b)] at h
  exact Int.eq_of_mul_eq_mul_right (by have := own_one; omega) h
theorem own_ffY {c : Prop} [Decidable c] (h : c) (a b : Int32) : FP.Core.DInt (b.toInt - a.toInt) (own_lead c (FP.i2d a) (FP.i2d b)) := by
  rw [own_lead]
  by_cases q : own_z (FP.i2d a) = own_z (FP.i2d b)
  · rw [if_pos q, own_zeq q, Int.sub_self]; exact own_d0
  · rw [if_neg q, if_pos h]; exact FP.Core.dsub_int (FP.Core.i2d_int b) (FP.Core.i2d_int a) (own_d53 b a)
theorem own_ffN {c : Prop} [Decidable c] (h : ¬ c) (a b : Int32) : FP.Core.DInt (a.toInt - b.toInt) (own_lead c (FP.i2d a) (FP.i2d b)) := by
  rw [own_lead]
  by_cases q : own_z (FP.i2d a) = own_z (FP.i2d b)
  · rw [if_pos q, own_zeq q, Int.sub_self]; exact own_d0
  · rw [if_neg q, if_neg h]; exact FP.Core.dsub_int (FP.Core.i2d_int a) (FP.Core.i2d_int b) (own_d53 a b)

def QrmK (Z : State) (k : Int32) (h0 : Heap) (n0 : Nat) (vQ : Option Value) (hQ : Heap) (LQ : List Loc) : Prop := ∃ (r : Int32), vQ = some (.int r) ∧ Fr n0 LQ ∧ hQ = h0 ∧ (r = 1 ∨ r = -1 ∨ r = 0)
theorem ef_rmK (m : MethodId) (k : Int32) : entryFrame m #[(.int k)] 1 = mkF m 0 #[vi k] [] := by first | (simp [entryFrame, mkF, argsToLocals, Value.category]; done) | rfl
abbrev mn0 : MethodName := ⟨"com/example/sumbound/sumbound/algebra/ExtremumLeadPinLaw", "kind", "(I)I"⟩
theorem pn_com_example_sumbound_sumbound_algebra_ExtremumLeadPinLaw : plainName "com/example/sumbound/sumbound/algebra/ExtremumLeadPinLaw" = true := by first | (simp [plainName, overriddenIn]; done) | decide +kernel
theorem d_method_3_code_0 : decode method_3_code 0 = .ok (.iload_n 0, 1) := by decide +kernel
theorem d_method_3_code_1 : decode method_3_code 1 = .ok (.iconst 1, 1) := by decide +kernel
theorem d_method_3_code_2 : decode method_3_code 2 = .ok (.if_icmp .ne 7, 3) := by decide +kernel
theorem d_method_3_code_5 : decode method_3_code 5 = .ok (.iconst 1, 1) := by decide +kernel
theorem d_method_3_code_6 : decode method_3_code 6 = .ok (.goto 13, 3) := by decide +kernel
theorem d_method_3_code_19 : decode method_3_code 19 = .ok (.ireturn, 1) := by decide +kernel
theorem d_method_3_code_9 : decode method_3_code 9 = .ok (.iload_n 0, 1) := by decide +kernel
theorem d_method_3_code_10 : decode method_3_code 10 = .ok (.iconst 2, 1) := by decide +kernel
theorem d_method_3_code_11 : decode method_3_code 11 = .ok (.if_icmp .ne 7, 3) := by decide +kernel
theorem d_method_3_code_14 : decode method_3_code 14 = .ok (.iconst (-1), 1) := by decide +kernel
theorem d_method_3_code_15 : decode method_3_code 15 = .ok (.goto 4, 3) := by decide +kernel
theorem d_method_3_code_18 : decode method_3_code 18 = .ok (.iconst 0, 1) := by decide +kernel
set_option maxRecDepth 65536 in
set_option maxHeartbeats 40000000 in
theorem rmK (l : Launch) (Z : State) (a0 : Array Value) (hw : ∀ d ∈ tables_1, d.before a0 Z = true) (ws : List Jvm.Cond) (k : Int32) (h0 : Heap) (n0 : Nat) (Z0 : n0 ≤ h0.size)  :
    MetFree l mn0 (head1 (Jvm.Cond.code mn0 method_3_code 1 (some .int) :: ws) ({ frames := 0, cells := 0, slots := 0, locals := 0 } : Room)) (fun aA U => aA = #[(.int k)] ∧ Z.Warmed39 U.vm ∧ U.heap = h0) (fun _ _ _ _ _ => True) (fun _ U o U' => ∃ vR LR, o = .returned vR ∧ QrmK Z k h0 n0 vR U'.heap LR ∧ FrameEnd U o U' LR ({ frames := 0, cells := 0, slots := 0, locals := 0 } : Room).cells ({ frames := 0, cells := 0, slots := 0, locals := 0 } : Room).slots) := by
  refine MetFree.of_bodySF (plainFor_of_name pn_com_example_sumbound_sumbound_algebra_ExtremumLeadPinLaw) hisR ?_
  intro p e s m args below meth c s₁ Bd hml0 hPre hKk
  obtain ⟨rfl, hZ, hh⟩ := hPre
  have hx := Bd.exec
  have hby := Bd.bytes
  have hml : c.maxLocals = 1 := hml0
  have hown : s.vm.findClass "com/example/sumbound/sumbound/algebra/ExtremumLeadPinLaw" = some m.cls := findClass_of_methodNamed Bd.named
  have hnm := (name_of_methodNamed Bd.named Bd.method).1
  have X0 : Stand p l e ({ frames := 0, cells := 0, slots := 0, locals := 0 } : Room) s m #[(.int k)] below meth c s₁ [] 0 0 := Stand.of_body Bd
  have e0 : s₁.heap = h0 := by rw [← hh, Bd.state]; rfl
  have N0 := Fr.nil n0
  obtain ⟨E0, hE0⟩ : ∃ zE : State, zE = s₁.setTop (entryFrame m #[(.int k)] 1) := ⟨_, rfl⟩
  have k0 : own_G p e below E0 s₁ (mkF m 0 #[vi k] []) := fun tz kz => hE0 ▸ castTop (ef_rmK m k) kz
  have k1 : own_G p e below E0 s₁ (mkF m 2 #[vi k] [(.int (1 : Int32)), (.int k)]) := by
    intro t kk
    refine k0 t ?_
    refine XS.iloadN X0.here hx rfl (hb hby d_method_3_code_0) rfl ?_
    refine XS.iconst X0.here hx rfl (hb hby d_method_3_code_1) ?_
    exact kk
  by_cases c2 : k = (1 : Int32)
  · skip
    have k3 : own_G p e below E0 s₁ (mkF m 19 #[vi k] [(.int (1 : Int32))]) := by
      intro t kk
      refine k1 t ?_
      refine XS.icmpNo X0.here hx rfl (hb hby d_method_3_code_2) rfl (own_ic_neN c2) ?_
      refine XS.iconst X0.here hx rfl (hb hby d_method_3_code_5) ?_
      refine XS.goto X0.here hx rfl (pc0 := 6) (pc' := 19) rfl (hb hby d_method_3_code_6) (by decide) (by decide) ?_
      exact kk
    obtain ⟨fs, hr, hrun, hended, hW, hsame⟩ := X0.leave (v := some (.int (1 : Int32))) (fun h => by rw [Bd.returns] at h; cases h)
    have hrun0 := k3 _ (retOut X0 hx Bd.returns (t := .int) rfl (Or.inl ⟨rfl, Or.inl rfl, _, rfl⟩) (hb hby d_method_3_code_19) hr)
    subst hE0
    refine ⟨_, _, hrun0, hrun, hended, _, _, rfl, ?_, ⟨_, rfl⟩, hW, hsame.mono (by decide) (by decide)⟩
    show QrmK Z k h0 n0 _ s₁.heap _
    rw [e0]
    exact ⟨(1 : Int32), rfl, N0, rfl, Or.inl rfl⟩
  · skip
    have k4 : own_G p e below E0 s₁ (mkF m 11 #[vi k] [(.int (2 : Int32)), (.int k)]) := by
      intro t kk
      refine k1 t ?_
      refine XS.icmpYes X0.here hx rfl (pc0 := 2) (pc' := 9) rfl (hb hby d_method_3_code_2) rfl (own_ic_neY c2) (by decide) (by decide) ?_
      refine XS.iloadN X0.here hx rfl (hb hby d_method_3_code_9) rfl ?_
      refine XS.iconst X0.here hx rfl (hb hby d_method_3_code_10) ?_
      exact kk
    by_cases c5 : k = (2 : Int32)
    · skip
      have k6 : own_G p e below E0 s₁ (mkF m 19 #[vi k] [(.int (-1 : Int32))]) := by
        intro t kk
        refine k4 t ?_
        refine XS.icmpNo X0.here hx rfl (hb hby d_method_3_code_11) rfl (own_ic_neN c5) ?_
        refine XS.iconst X0.here hx rfl (hb hby d_method_3_code_14) ?_
        refine XS.goto X0.here hx rfl (pc0 := 15) (pc' := 19) rfl (hb hby d_method_3_code_15) (by decide) (by decide) ?_
        exact kk
      obtain ⟨fs, hr, hrun, hended, hW, hsame⟩ := X0.leave (v := some (.int (-1 : Int32))) (fun h => by rw [Bd.returns] at h; cases h)
      have hrun0 := k6 _ (retOut X0 hx Bd.returns (t := .int) rfl (Or.inl ⟨rfl, Or.inl rfl, _, rfl⟩) (hb hby d_method_3_code_19) hr)
      subst hE0
      refine ⟨_, _, hrun0, hrun, hended, _, _, rfl, ?_, ⟨_, rfl⟩, hW, hsame.mono (by decide) (by decide)⟩
      show QrmK Z k h0 n0 _ s₁.heap _
      rw [e0]
      exact ⟨(-1 : Int32), rfl, N0, rfl, Or.inr (Or.inl rfl)⟩
    · skip
      have k7 : own_G p e below E0 s₁ (mkF m 19 #[vi k] [(.int (0 : Int32))]) := by
        intro t kk
        refine k4 t ?_
        refine XS.icmpYes X0.here hx rfl (pc0 := 11) (pc' := 18) rfl (hb hby d_method_3_code_11) rfl (own_ic_neY c5) (by decide) (by decide) ?_
        refine XS.iconst X0.here hx rfl (hb hby d_method_3_code_18) ?_
        exact kk
      obtain ⟨fs, hr, hrun, hended, hW, hsame⟩ := X0.leave (v := some (.int (0 : Int32))) (fun h => by rw [Bd.returns] at h; cases h)
      have hrun0 := k7 _ (retOut X0 hx Bd.returns (t := .int) rfl (Or.inl ⟨rfl, Or.inl rfl, _, rfl⟩) (hb hby d_method_3_code_19) hr)
      subst hE0
      refine ⟨_, _, hrun0, hrun, hended, _, _, rfl, ?_, ⟨_, rfl⟩, hW, hsame.mono (by decide) (by decide)⟩
      show QrmK Z k h0 n0 _ s₁.heap _
      rw [e0]
      exact ⟨(0 : Int32), rfl, N0, rfl, Or.inr (Or.inr rfl)⟩
def Qrm1 (Z : State) (a : Addr) (x : UInt64) (y : UInt64) (q : Addr) (h0 : Heap) (n0 : Nat) (vQ : Option Value) (hQ : Heap) (LQ : List Loc) : Prop := vQ = some (.double (own_lead (a = q) x y)) ∧ Fr n0 LQ ∧ hQ = h0
theorem ef_rm1 (m : MethodId) (a : Addr) (x : UInt64) (y : UInt64) (q : Addr) : entryFrame m #[(.ref a), (.double x), (.double y)] 7 = mkF m 0 #[vr a, vd x, ss, vd y, ss, uu, uu] [] := by first | (simp [entryFrame, mkF, argsToLocals, Value.category]; done) | rfl
abbrev mn1 : MethodName := ⟨"com/example/sumbound/sumbound/algebra/Extremum", "lead", "(DD)D"⟩
theorem pn_com_example_sumbound_sumbound_algebra_Extremum : plainName "com/example/sumbound/sumbound/algebra/Extremum" = true := by first | (simp [plainName, overriddenIn]; done) | decide +kernel
theorem d_prog_2_method_6_code_0 : decode prog_2_method_6_code 0 = .ok (.dload_n 1, 1) := by decide +kernel
theorem d_prog_2_method_6_code_1 : decode prog_2_method_6_code 1 = .ok (.dload_n 3, 1) := by decide +kernel
theorem d_prog_2_method_6_code_2 : decode prog_2_method_6_code 2 = .ok (.dcmp .l, 1) := by decide +kernel
theorem d_prog_2_method_6_code_3 : decode prog_2_method_6_code 3 = .ok (.ifCond .ne 9, 3) := by decide +kernel
theorem d_prog_2_method_6_code_6 : decode prog_2_method_6_code 6 = .ok (.dconst 0, 1) := by decide +kernel
theorem d_prog_2_method_6_code_7 : decode prog_2_method_6_code 7 = .ok (.dstore 5, 2) := by decide +kernel
theorem d_prog_2_method_6_code_9 : decode prog_2_method_6_code 9 = .ok (.goto 23, 3) := by decide +kernel
theorem d_prog_2_method_6_code_32 : decode prog_2_method_6_code 32 = .ok (.dload 5, 2) := by decide +kernel
theorem d_prog_2_method_6_code_34 : decode prog_2_method_6_code 34 = .ok (.dreturn, 1) := by decide +kernel
theorem d_prog_2_method_6_code_12 : decode prog_2_method_6_code 12 = .ok (.aload_n 0, 1) := by decide +kernel
theorem d_prog_2_method_6_code_13 : decode prog_2_method_6_code 13 = .ok (.getstatic 3, 3) := by decide +kernel
def tw13 {Z : State} {a0 : Array Value} (hw : ∀ d ∈ tables_1, d.before a0 Z = true) := hw _ (List.mem_of_getElem? (i := 13) rfl)
theorem d_prog_2_method_6_code_16 : decode prog_2_method_6_code 16 = .ok (.if_acmp .ne 11, 3) := by decide +kernel
theorem d_prog_2_method_6_code_19 : decode prog_2_method_6_code 19 = .ok (.dload_n 3, 1) := by decide +kernel
theorem d_prog_2_method_6_code_20 : decode prog_2_method_6_code 20 = .ok (.dload_n 1, 1) := by decide +kernel
theorem d_prog_2_method_6_code_21 : decode prog_2_method_6_code 21 = .ok (.dsub, 1) := by decide +kernel
theorem d_prog_2_method_6_code_22 : decode prog_2_method_6_code 22 = .ok (.dstore 5, 2) := by decide +kernel
theorem d_prog_2_method_6_code_24 : decode prog_2_method_6_code 24 = .ok (.goto 8, 3) := by decide +kernel
theorem d_prog_2_method_6_code_27 : decode prog_2_method_6_code 27 = .ok (.dload_n 1, 1) := by decide +kernel
theorem d_prog_2_method_6_code_28 : decode prog_2_method_6_code 28 = .ok (.dload_n 3, 1) := by decide +kernel
theorem d_prog_2_method_6_code_29 : decode prog_2_method_6_code 29 = .ok (.dsub, 1) := by decide +kernel
theorem d_prog_2_method_6_code_30 : decode prog_2_method_6_code 30 = .ok (.dstore 5, 2) := by decide +kernel
set_option maxRecDepth 65536 in
set_option maxHeartbeats 40000000 in
theorem rm1 (l : Launch) (Z : State) (a0 : Array Value) (hw : ∀ d ∈ tables_1, d.before a0 Z = true) (ws : List Jvm.Cond) (a : Addr) (x : UInt64) (y : UInt64) (q : Addr) (h0 : Heap) (n0 : Nat) (Z0 : n0 ≤ h0.size) (S1 : Sta Z h0 "com/example/sumbound/sumbound/algebra/Extremum" "MIN" "Lcom/example/sumbound/sumbound/algebra/Extremum;" (.ref q)) (nx : NoNaN64 x) (ny : NoNaN64 y) (hn : own_z x ≠ own_z y → NoNaN64 (FP.dsub y x) ∧ NoNaN64 (FP.dsub x y)) :
    MetFree l mn1 (head1 (Jvm.Cond.code mn1 prog_2_method_6_code 7 (some .double) :: ws) ({ frames := 0, cells := 0, slots := 0, locals := 0 } : Room)) (fun aA U => aA = #[(.ref a), (.double x), (.double y)] ∧ Z.Warmed39 U.vm ∧ U.heap = h0) (fun _ _ _ _ _ => True) (fun _ U o U' => ∃ vR LR, o = .returned vR ∧ Qrm1 Z a x y q h0 n0 vR U'.heap LR ∧ FrameEnd U o U' LR ({ frames := 0, cells := 0, slots := 0, locals := 0 } : Room).cells ({ frames := 0, cells := 0, slots := 0, locals := 0 } : Room).slots) := by
  refine MetFree.of_bodySF (plainFor_of_name pn_com_example_sumbound_sumbound_algebra_Extremum) hisR ?_
  intro p e s m args below meth c s₁ Bd hml0 hPre hKk
  obtain ⟨rfl, hZ, hh⟩ := hPre
  have hx := Bd.exec
  have hby := Bd.bytes
  have hml : c.maxLocals = 7 := hml0
  have hown : s.vm.findClass "com/example/sumbound/sumbound/algebra/Extremum" = some m.cls := findClass_of_methodNamed Bd.named
  have hnm := (name_of_methodNamed Bd.named Bd.method).1
  have X0 : Stand p l e ({ frames := 0, cells := 0, slots := 0, locals := 0 } : Room) s m #[(.ref a), (.double x), (.double y)] below meth c s₁ [] 0 0 := Stand.of_body Bd
  have e0 : s₁.heap = h0 := by rw [← hh, Bd.state]; rfl
  have N0 := Fr.nil n0
  obtain ⟨E0, hE0⟩ : ∃ zE : State, zE = s₁.setTop (entryFrame m #[(.ref a), (.double x), (.double y)] 7) := ⟨_, rfl⟩
  have k0 : own_G p e below E0 s₁ (mkF m 0 #[vr a, vd x, ss, vd y, ss, uu, uu] []) := fun tz kz => hE0 ▸ castTop (ef_rm1 m a x y q) kz
  have k8 : own_G p e below E0 s₁ (mkF m 3 #[vr a, vd x, ss, vd y, ss, uu, uu] [(.int (own_c (own_z x) (own_z y)))]) := by
    intro t kk
    refine k0 t ?_
    refine XS.dloadN X0.here hx rfl (hb hby d_prog_2_method_6_code_0) rfl ?_
    refine XS.dloadN X0.here hx rfl (hb hby d_prog_2_method_6_code_1) rfl ?_
    refine XS.dcmpS (v := (own_c (own_z x) (own_z y))) X0.here hx rfl (hb hby d_prog_2_method_6_code_2) rfl (own_cE .l (own_cmpz nx ny)) ?_
    exact kk
  by_cases cE : (own_z x) = (own_z y)
  · skip
    have k10 : own_G p e below E0 s₁ (mkF m 34 #[vr a, vd x, ss, vd y, ss, vd FP.dconst0, ss] [(.double FP.dconst0)]) := by
      intro t kk
      refine k8 t ?_
      refine XS.ifNo X0.here hx rfl (hb hby d_prog_2_method_6_code_3) rfl (own_c_neN cE) ?_
      refine XS.dconst0 X0.here hx rfl (hb hby d_prog_2_method_6_code_6) rfl ?_
      refine XS.dstore X0.here hx rfl (hb hby d_prog_2_method_6_code_7) rfl (l' := #[vr a, vd x, ss, vd y, ss, vd FP.dconst0, ss]) rfl ?_
      refine XS.goto X0.here hx rfl (pc0 := 9) (pc' := 32) rfl (hb hby d_prog_2_method_6_code_9) (by decide) (by decide) ?_
      show Steps p.tables e below (s₁.setTop (mkF m 32 #[vr a, vd x, ss, vd y, ss, vd FP.dconst0, ss] [])) t
      refine XS.dload X0.here hx rfl (hb hby d_prog_2_method_6_code_32) rfl ?_
      exact kk
    obtain ⟨fs, hr, hrun, hended, hW, hsame⟩ := X0.leave (v := some (.double FP.dconst0)) (fun h => by rw [Bd.returns] at h; cases h)
    have hrun0 := k10 _ (retOut X0 hx Bd.returns (t := .double) rfl (Or.inr (Or.inr (Or.inl ⟨rfl, rfl, _, rfl⟩))) (hb hby d_prog_2_method_6_code_34) hr)
    subst hE0
    refine ⟨_, _, hrun0, hrun, hended, _, _, rfl, ?_, ⟨_, rfl⟩, hW, hsame.mono (by decide) (by decide)⟩
    show Qrm1 Z a x y q h0 n0 _ s₁.heap _
    rw [e0]
    exact ⟨by rw [own_lead, if_pos cE], N0, rfl⟩
  · skip
    have k11 : own_G p e below E0 s₁ (mkF m 13 #[vr a, vd x, ss, vd y, ss, uu, uu] [(.ref a)]) := by
      intro t kk
      refine k8 t ?_
      refine XS.ifYes X0.here hx rfl (pc0 := 3) (pc' := 12) rfl (hb hby d_prog_2_method_6_code_3) rfl (own_c_neY cE) (by decide) (by decide) ?_
      refine XS.aloadN X0.here hx rfl (hb hby d_prog_2_method_6_code_12) rfl rfl ?_
      exact kk
    obtain ⟨T12, X13, e14, st15⟩ := getS X0 hx hZ hown (host := "") (tw13 hw) Via.refl e0 S1 (g := (mkF m 13 #[vr a, vd x, ss, vd y, ss, uu, uu] [(.ref a)])) rfl (hb hby d_prog_2_method_6_code_13)
    have k16 : own_G p e below E0 T12 (mkF m 16 #[vr a, vd x, ss, vd y, ss, uu, uu] [(.ref q), (.ref a)]) := fun t kk => k11 t (st15 _ kk)
    by_cases c17 : a = q
    · skip
      have k18 : own_G p e below E0 T12 (mkF m 34 #[vr a, vd x, ss, vd y, ss, vd (FP.dsub y x), ss] [(.double (FP.dsub y x))]) := by
        intro t kk
        refine k16 t ?_
        refine XT.acmpNo X13.here hx rfl (hb hby d_prog_2_method_6_code_16) rfl rfl rfl (own_ar_ne_N c17) ?_
        refine XS.dloadN X13.here hx rfl (hb hby d_prog_2_method_6_code_19) rfl ?_
        refine XS.dloadN X13.here hx rfl (hb hby d_prog_2_method_6_code_20) rfl ?_
        refine XS.dsubS X13.here hx rfl (hb hby d_prog_2_method_6_code_21) rfl (hn cE).1 rfl ?_
        show Steps p.tables e below (T12.setTop (mkF m 22 #[vr a, vd x, ss, vd y, ss, uu, uu] [(.double (FP.dsub y x))])) t
        refine XS.dstore X13.here hx rfl (hb hby d_prog_2_method_6_code_22) rfl (l' := #[vr a, vd x, ss, vd y, ss, vd (FP.dsub y x), ss]) rfl ?_
        refine XS.goto X13.here hx rfl (pc0 := 24) (pc' := 32) rfl (hb hby d_prog_2_method_6_code_24) (by decide) (by decide) ?_
        refine XS.dload X13.here hx rfl (hb hby d_prog_2_method_6_code_32) rfl ?_
        exact kk
      obtain ⟨fs, hr, hrun, hended, hW, hsame⟩ := X13.leave (v := some (.double (FP.dsub y x))) (fun h => by rw [Bd.returns] at h; cases h)
      have hrun0 := k18 _ (retOut X13 hx Bd.returns (t := .double) rfl (Or.inr (Or.inr (Or.inl ⟨rfl, rfl, _, rfl⟩))) (hb hby d_prog_2_method_6_code_34) hr)
      subst hE0
      refine ⟨_, _, hrun0, hrun, hended, _, _, rfl, ?_, ⟨_, rfl⟩, hW, hsame.mono (by decide) (by decide)⟩
      show Qrm1 Z a x y q h0 n0 _ T12.heap _
      rw [e14]
      exact ⟨by rw [own_lead, if_neg cE, if_pos c17], N0, rfl⟩
    · skip
      have k19 : own_G p e below E0 T12 (mkF m 34 #[vr a, vd x, ss, vd y, ss, vd (FP.dsub x y), ss] [(.double (FP.dsub x y))]) := by
        intro t kk
        refine k16 t ?_
        refine XT.acmpYes X13.here hx rfl (pc0 := 16) (pc' := 27) rfl (hb hby d_prog_2_method_6_code_16) rfl rfl rfl (own_ar_ne_Y c17) (by decide) (by decide) ?_
        refine XS.dloadN X13.here hx rfl (hb hby d_prog_2_method_6_code_27) rfl ?_
        refine XS.dloadN X13.here hx rfl (hb hby d_prog_2_method_6_code_28) rfl ?_
        refine XS.dsubS X13.here hx rfl (hb hby d_prog_2_method_6_code_29) rfl (hn cE).2 rfl ?_
        show Steps p.tables e below (T12.setTop (mkF m 30 #[vr a, vd x, ss, vd y, ss, uu, uu] [(.double (FP.dsub x y))])) t
        refine XS.dstore X13.here hx rfl (hb hby d_prog_2_method_6_code_30) rfl (l' := #[vr a, vd x, ss, vd y, ss, vd (FP.dsub x y), ss]) rfl ?_
        refine XS.dload X13.here hx rfl (hb hby d_prog_2_method_6_code_32) rfl ?_
        exact kk
      obtain ⟨fs, hr, hrun, hended, hW, hsame⟩ := X13.leave (v := some (.double (FP.dsub x y))) (fun h => by rw [Bd.returns] at h; cases h)
      have hrun0 := k19 _ (retOut X13 hx Bd.returns (t := .double) rfl (Or.inr (Or.inr (Or.inl ⟨rfl, rfl, _, rfl⟩))) (hb hby d_prog_2_method_6_code_34) hr)
      subst hE0
      refine ⟨_, _, hrun0, hrun, hended, _, _, rfl, ?_, ⟨_, rfl⟩, hW, hsame.mono (by decide) (by decide)⟩
      show Qrm1 Z a x y q h0 n0 _ T12.heap _
      rw [e14]
      exact ⟨by rw [own_lead, if_neg cE, if_neg c17], N0, rfl⟩
def Qrm0 (Z : State) (p0 : Int32) (p1 : Int32) (p2 : Int32) (qm : Addr) (qM : Addr) (h0 : Heap) (n0 : Nat) (vQ : Option Value) (hQ : Heap) (LQ : List Loc) : Prop := vQ = some (.int (1 : Int32)) ∧ Fr n0 LQ
theorem ef_rm0 (m : MethodId) (p0 : Int32) (p1 : Int32) (p2 : Int32) (qm : Addr) (qM : Addr) : entryFrame m #[(.int p0), (.int p1), (.int p2)] maxLocals = mkF m 0 #[vi p0, vi p1, vi p2, uu, uu, uu, uu, uu, uu, uu, uu, uu, uu, uu, uu, uu, uu] [] := by first | (simp [entryFrame, mkF, argsToLocals, Value.category, maxLocals]; done) | rfl
abbrev xa2 (Z : State) (h : Heap) (a : Addr) : Prop := Exa Z h a "com/example/sumbound/sumbound/algebra/Extremum"
def tw0 {Z : State} {a0 : Array Value} (hw : ∀ d ∈ tables_1, d.before a0 Z = true) := hw _ (List.mem_of_getElem? (i := 0) rfl)
def tw3 {Z : State} {a0 : Array Value} (hw : ∀ d ∈ tables_1, d.before a0 Z = true) := hw _ (List.mem_of_getElem? (i := 3) rfl)
def tw6 {Z : State} {a0 : Array Value} (hw : ∀ d ∈ tables_1, d.before a0 Z = true) := hw _ (List.mem_of_getElem? (i := 6) rfl)
def tw5 {Z : State} {a0 : Array Value} (hw : ∀ d ∈ tables_1, d.before a0 Z = true) := hw _ (List.mem_of_getElem? (i := 5) rfl)
theorem pd_3 : parseMethodDescriptor "(I)I" = some ⟨[.int], some .int⟩ := by decide +kernel
def tw4 {Z : State} {a0 : Array Value} (hw : ∀ d ∈ tables_1, d.before a0 Z = true) := hw _ (List.mem_of_getElem? (i := 4) rfl)
def tw7 {Z : State} {a0 : Array Value} (hw : ∀ d ∈ tables_1, d.before a0 Z = true) := hw _ (List.mem_of_getElem? (i := 7) rfl)
def tw8 {Z : State} {a0 : Array Value} (hw : ∀ d ∈ tables_1, d.before a0 Z = true) := hw _ (List.mem_of_getElem? (i := 8) rfl)
def tw11 {Z : State} {a0 : Array Value} (hw : ∀ d ∈ tables_1, d.before a0 Z = true) := hw _ (List.mem_of_getElem? (i := 11) rfl)
def tw12 {Z : State} {a0 : Array Value} (hw : ∀ d ∈ tables_1, d.before a0 Z = true) := hw _ (List.mem_of_getElem? (i := 12) rfl)
def tw1 {Z : State} {a0 : Array Value} (hw : ∀ d ∈ tables_1, d.before a0 Z = true) := hw _ (List.mem_of_getElem? (i := 1) rfl)
theorem pd_4 : parseMethodDescriptor "(DD)D" = some ⟨[.double, .double], some .double⟩ := by decide +kernel
def tw9 {Z : State} {a0 : Array Value} (hw : ∀ d ∈ tables_1, d.before a0 Z = true) := hw _ (List.mem_of_getElem? (i := 9) rfl)
def tw10 {Z : State} {a0 : Array Value} (hw : ∀ d ∈ tables_1, d.before a0 Z = true) := hw _ (List.mem_of_getElem? (i := 10) rfl)
def tw14 {Z : State} {a0 : Array Value} (hw : ∀ d ∈ tables_1, d.before a0 Z = true) := hw _ (List.mem_of_getElem? (i := 14) rfl)
def tw15 {Z : State} {a0 : Array Value} (hw : ∀ d ∈ tables_1, d.before a0 Z = true) := hw _ (List.mem_of_getElem? (i := 15) rfl)
set_option maxRecDepth 65536 in
set_option maxHeartbeats 40000000 in
theorem rm0 (l : Launch) (Z : State) (a0 : Array Value) (hw : ∀ d ∈ tables_1, d.before a0 Z = true) (ws : List Jvm.Cond) (p0 : Int32) (p1 : Int32) (p2 : Int32) (qm : Addr) (qM : Addr) (h0 : Heap) (n0 : Nat) (Z0 : n0 ≤ h0.size) (S1 : Sta Z h0 "com/example/sumbound/sumbound/algebra/Extremum" "MIN" "Lcom/example/sumbound/sumbound/algebra/Extremum;" (.ref qm)) (S2 : Sta Z h0 "com/example/sumbound/sumbound/algebra/Extremum" "MAX" "Lcom/example/sumbound/sumbound/algebra/Extremum;" (.ref qM)) (E1 : xa2 Z h0 qm) (E2 : xa2 Z h0 qM) (ne1 : qM ≠ qm) :
    MetFree l x (head1 (Jvm.Cond.code x code maxLocals ret :: ws) room_1) (fun aA U => aA = #[(.int p0), (.int p1), (.int p2)] ∧ Z.Warmed39 U.vm ∧ U.heap = h0) (fun _ _ _ _ _ => True) (fun _ U o U' => ∃ vR LR, o = .returned vR ∧ Qrm0 Z p0 p1 p2 qm qM h0 n0 vR U'.heap LR ∧ FrameEnd U o U' LR 0 0) := by
  refine MetFree.of_bodySF (plainFor_of_name pn_com_example_sumbound_sumbound_algebra_ExtremumLeadPinLaw) hisR ?_
  intro p e s m args below meth c s₁ Bd hml0 hPre hKk
  obtain ⟨rfl, hZ, hh⟩ := hPre
  have hx := Bd.exec
  have hby := Bd.bytes
  have hml : c.maxLocals = 17 := hml0
  have hown : s.vm.findClass "com/example/sumbound/sumbound/algebra/ExtremumLeadPinLaw" = some m.cls := findClass_of_methodNamed Bd.named
  have hnm := (name_of_methodNamed Bd.named Bd.method).1
  have X0 : Stand p l e room_1 s m #[(.int p0), (.int p1), (.int p2)] below meth c s₁ [] 0 0 := Stand.of_body Bd
  have e0 : s₁.heap = h0 := by rw [← hh, Bd.state]; rfl
  have N0 := Fr.nil n0
  obtain ⟨E0, hE0⟩ : ∃ zE : State, zE = s₁.setTop (entryFrame m #[(.int p0), (.int p1), (.int p2)] maxLocals) := ⟨_, rfl⟩
  have k0 : own_G p e below E0 s₁ (mkF m 0 #[vi p0, vi p1, vi p2, uu, uu, uu, uu, uu, uu, uu, uu, uu, uu, uu, uu, uu, uu] []) := fun tz kz => hE0 ▸ castTop (ef_rm0 m p0 p1 p2 qm qM) kz
  have k20 : own_G p e below E0 s₁ (mkF m 3 #[vi p0, vi p1, vi p2, uu, uu, uu, uu, uu, uu, uu, uu, uu, uu, uu, uu, uu, uu] [(.int (p2 &&& (1 : Int32)))]) := by
    intro t kk
    refine k0 t ?_
    refine XS.iloadN X0.here hx rfl (hb hby at_0) rfl ?_
    refine XS.iconst X0.here hx rfl (hb hby at_1) ?_
    refine XS.iand X0.here hx rfl (hb hby at_2) rfl ?_
    exact kk
  by_cases c21 : (p2 &&& (1 : Int32)) = 0
  · skip
    have k22 : own_G p e below E0 s₁ (mkF m 22 #[vi p0, vi p1, vi p2, vi (0 : Int32), uu, uu, uu, uu, uu, uu, uu, uu, uu, uu, uu, uu, uu] []) := by
      intro t kk
      refine k20 t ?_
      refine XS.ifYes X0.here hx rfl (pc0 := 3) (pc' := 10) rfl (hb hby at_3) rfl (own_if_eqY c21) (by decide) (by decide) ?_
      refine XS.iconst X0.here hx rfl (hb hby at_10) ?_
      refine XS.istoreN X0.here hx rfl (hb hby at_11) rfl (l' := #[vi p0, vi p1, vi p2, vi (0 : Int32), uu, uu, uu, uu, uu, uu, uu, uu, uu, uu, uu, uu, uu]) rfl ?_
      refine XS.iloadN X0.here hx rfl (hb hby at_12) rfl ?_
      show Steps p.tables e below (s₁.setTop (mkF m 13 #[vi p0, vi p1, vi p2, vi (0 : Int32), uu, uu, uu, uu, uu, uu, uu, uu, uu, uu, uu, uu, uu] [(.int (0 : Int32))])) t
      refine XS.ifYes X0.here hx rfl (pc0 := 13) (pc' := 22) rfl (hb hby at_13) rfl (own_if_eqY (by decide)) (by decide) (by decide) ?_
      exact kk
    obtain ⟨T23, X24, e25, st26⟩ := getS X0 hx hZ hown (host := "") (tw0 hw) Via.refl e0 S1 (g := (mkF m 22 #[vi p0, vi p1, vi p2, vi (0 : Int32), uu, uu, uu, uu, uu, uu, uu, uu, uu, uu, uu, uu, uu] [])) rfl (hb hby at_22)
    have k27 : own_G p e below E0 T23 (mkF m 25 #[vi p0, vi p1, vi p2, vi (0 : Int32), uu, uu, uu, uu, uu, uu, uu, uu, uu, uu, uu, uu, uu] [(.ref qm)]) := fun t kk => k22 t (st26 _ kk)
    have k28 : own_G p e below E0 T23 (mkF m 32 #[vi p0, vi p1, vi p2, vi (0 : Int32), vr qm, uu, uu, uu, uu, uu, uu, uu, uu, uu, uu, uu, uu] [(.int ((XT.ushr p2 (1 : Int32)) &&& (3 : Int32)))]) := by
      intro t kk
      refine k27 t ?_
      refine XS.astore X24.here hx rfl (hb hby at_25) rfl rfl (l' := #[vi p0, vi p1, vi p2, vi (0 : Int32), vr qm, uu, uu, uu, uu, uu, uu, uu, uu, uu, uu, uu, uu]) rfl ?_
      refine XS.iloadN X24.here hx rfl (hb hby at_27) rfl ?_
      refine XS.iconst X24.here hx rfl (hb hby at_28) ?_
      refine XT.iushr X24.here hx rfl (hb hby at_29) rfl ?_
      show Steps p.tables e below (T23.setTop (mkF m 30 #[vi p0, vi p1, vi p2, vi (0 : Int32), vr qm, uu, uu, uu, uu, uu, uu, uu, uu, uu, uu, uu, uu] [(.int (XT.ushr p2 (1 : Int32)))])) t
      refine XS.iconst X24.here hx rfl (hb hby at_30) ?_
      refine XS.iand X24.here hx rfl (hb hby at_31) rfl ?_
      exact kk
    obtain ⟨_, _, ⟨T29, L30, kc31, nc32⟩, -, X33, ⟨Lc34, hQ35, l36, y37, z38⟩, st39⟩ := Jvm.LawKit.callS X24 hx (y := mn0) hown (mvT hZ (tw3 hw)) (mvT hZ (tw4 hw)) (mvT hZ (tw5 hw)) (mvT hZ (tw6 hw)) (by decide) (backOf (W := 0) (rmK l Z a0 hw [] ((XT.ushr p2 (1 : Int32)) &&& (3 : Int32)) h0 n0 Z0 ) hZ (tw6 hw) (tw5 hw) (by decide) (by decide)) (g := (mkF m 32 #[vi p0, vi p1, vi p2, vi (0 : Int32), vr qm, uu, uu, uu, uu, uu, uu, uu, uu, uu, uu, uu, uu] [(.int ((XT.ushr p2 (1 : Int32)) &&& (3 : Int32)))])) rfl (by rw [hml]; rfl) (argsL := [(.int ((XT.ushr p2 (1 : Int32)) &&& (3 : Int32)))]) (rest := []) (lenOf pd_3 rfl) rfl (by show 2 * 0 + _ ≤ _; exact Nat.le_of_eq rfl) (hb hby at_32) (fun _ _ => ⟨rfl, e25, (by decide : 0 + 0 ≤ _), (by decide : 0 + 0 ≤ _)⟩)
    dsimp only [Pt.U, Pt.locs, Pt.cells, Pt.slots] at X33 l36 y37 z38 st39 hQ35
    subst l36 y37 z38
    obtain ⟨r43, rfl, N40, e41, g44⟩ := hQ35
    have N45 := Fr.app N0 N40
    have k46 : own_G p e below E0 T29 (mkF m 35 #[vi p0, vi p1, vi p2, vi (0 : Int32), vr qm, uu, uu, uu, uu, uu, uu, uu, uu, uu, uu, uu, uu] [(.int r43)]) := fun t kk => k28 t (st39 _ kk)
    rcases g44 with rfl | rfl | rfl
    · skip
      have k47 : own_G p e below E0 T29 (mkF m 42 #[vi p0, vi p1, vi p2, vi (0 : Int32), vr qm, vi (1 : Int32), uu, uu, uu, uu, uu, uu, uu, uu, uu, uu, uu] [(.int ((XT.ushr p2 (3 : Int32)) &&& (3 : Int32)))]) := by
        intro t kk
        refine k46 t ?_
        refine XS.istore X33.here hx rfl (hb hby at_35) rfl (l' := #[vi p0, vi p1, vi p2, vi (0 : Int32), vr qm, vi (1 : Int32), uu, uu, uu, uu, uu, uu, uu, uu, uu, uu, uu]) rfl ?_
        refine XS.iloadN X33.here hx rfl (hb hby at_37) rfl ?_
        refine XS.iconst X33.here hx rfl (hb hby at_38) ?_
        refine XT.iushr X33.here hx rfl (hb hby at_39) rfl ?_
        show Steps p.tables e below (T29.setTop (mkF m 40 #[vi p0, vi p1, vi p2, vi (0 : Int32), vr qm, vi (1 : Int32), uu, uu, uu, uu, uu, uu, uu, uu, uu, uu, uu] [(.int (XT.ushr p2 (3 : Int32)))])) t
        refine XS.iconst X33.here hx rfl (hb hby at_40) ?_
        refine XS.iand X33.here hx rfl (hb hby at_41) rfl ?_
        exact kk
      obtain ⟨_, _, ⟨T48, L49, kc50, nc51⟩, -, X52, ⟨Lc53, hQ54, l55, y56, z57⟩, st58⟩ := Jvm.LawKit.callS X33 hx (y := mn0) hown (mvT hZ (tw3 hw)) (mvT hZ (tw4 hw)) (mvT hZ (tw5 hw)) (mvT hZ (tw6 hw)) (by decide) (backOf (W := 0) (rmK l Z a0 hw [] ((XT.ushr p2 (3 : Int32)) &&& (3 : Int32)) h0 n0 Z0 ) hZ (tw6 hw) (tw5 hw) (by decide) (by decide)) (g := (mkF m 42 #[vi p0, vi p1, vi p2, vi (0 : Int32), vr qm, vi (1 : Int32), uu, uu, uu, uu, uu, uu, uu, uu, uu, uu, uu] [(.int ((XT.ushr p2 (3 : Int32)) &&& (3 : Int32)))])) rfl (by rw [hml]; rfl) (argsL := [(.int ((XT.ushr p2 (3 : Int32)) &&& (3 : Int32)))]) (rest := []) (lenOf pd_3 rfl) rfl (by show 2 * 0 + _ ≤ _; exact Nat.le_of_eq rfl) (hb hby at_42) (fun _ _ => ⟨rfl, e41, (by decide : 0 + 0 ≤ _), (by decide : 0 + 0 ≤ _)⟩)
      dsimp only [Pt.U, Pt.locs, Pt.cells, Pt.slots] at X52 l55 y56 z57 st58 hQ54
      subst l55 y56 z57
      obtain ⟨r62, rfl, N59, e60, g63⟩ := hQ54
      have N64 := Fr.app N45 N59
      have k65 : own_G p e below E0 T48 (mkF m 45 #[vi p0, vi p1, vi p2, vi (0 : Int32), vr qm, vi (1 : Int32), uu, uu, uu, uu, uu, uu, uu, uu, uu, uu, uu] [(.int r62)]) := fun t kk => k47 t (st58 _ kk)
      rcases g63 with rfl | rfl | rfl
      · skip
        have k66 : own_G p e below E0 T48 (mkF m 50 #[vi p0, vi p1, vi p2, vi (0 : Int32), vr qm, vi (1 : Int32), vi (1 : Int32), uu, uu, uu, uu, uu, uu, uu, uu, uu, uu] [(.int (32 : Int32)), (.int p2)]) := by
          intro t kk
          refine k65 t ?_
          refine XS.istore X52.here hx rfl (hb hby at_45) rfl (l' := #[vi p0, vi p1, vi p2, vi (0 : Int32), vr qm, vi (1 : Int32), vi (1 : Int32), uu, uu, uu, uu, uu, uu, uu, uu, uu, uu]) rfl ?_
          refine XS.iloadN X52.here hx rfl (hb hby at_47) rfl ?_
          refine XS.bipush X52.here hx rfl (hb hby at_48) ?_
          exact kk
        have jn72 : ∃ (bb : Int32), ((((p2 &&& (32 : Int32)) = 0) ∧ bb = p1) ∨ (¬ ((p2 &&& (32 : Int32)) = 0) ∧ bb = p0)) ∧ (own_G p e below E0 T48 (mkF m 59 #[vi p0, vi p1, vi p2, vi (0 : Int32), vr qm, vi (1 : Int32), vi (1 : Int32), uu, uu, uu, uu, uu, uu, uu, uu, uu, uu] [(.int bb)])) := by
          have k67 : own_G p e below E0 T48 (mkF m 51 #[vi p0, vi p1, vi p2, vi (0 : Int32), vr qm, vi (1 : Int32), vi (1 : Int32), uu, uu, uu, uu, uu, uu, uu, uu, uu, uu] [(.int (p2 &&& (32 : Int32)))]) := by
            intro t kk
            refine k66 t ?_
            refine XS.iand X52.here hx rfl (hb hby at_50) rfl ?_
            exact kk
          by_cases c68 : (p2 &&& (32 : Int32)) = 0
          · skip
            have k69 : own_G p e below E0 T48 (mkF m 59 #[vi p0, vi p1, vi p2, vi (0 : Int32), vr qm, vi (1 : Int32), vi (1 : Int32), uu, uu, uu, uu, uu, uu, uu, uu, uu, uu] [(.int p1)]) := by
              intro t kk
              refine k67 t ?_
              refine XS.ifYes X52.here hx rfl (pc0 := 51) (pc' := 58) rfl (hb hby at_51) rfl (own_if_eqY c68) (by decide) (by decide) ?_
              refine XS.iloadN X52.here hx rfl (hb hby at_58) rfl ?_
              exact kk
            exact ⟨p1, (Or.inl (⟨c68, rfl⟩)), k69⟩
          · skip
            have k70 : own_G p e below E0 T48 (mkF m 59 #[vi p0, vi p1, vi p2, vi (0 : Int32), vr qm, vi (1 : Int32), vi (1 : Int32), uu, uu, uu, uu, uu, uu, uu, uu, uu, uu] [(.int p0)]) := by
              intro t kk
              refine k67 t ?_
              refine XS.ifNo X52.here hx rfl (hb hby at_51) rfl (own_if_eqN c68) ?_
              refine XS.iloadN X52.here hx rfl (hb hby at_54) rfl ?_
              refine XS.goto X52.here hx rfl (pc0 := 55) (pc' := 59) rfl (hb hby at_55) (by decide) (by decide) ?_
              exact kk
            exact ⟨p0, (Or.inr (⟨c68, rfl⟩)), k70⟩
        obtain ⟨bb, hD73, k71⟩ := jn72
        have k74 : own_G p e below E0 T48 (mkF m 76 #[vi p0, vi p1, vi p2, vi (0 : Int32), vr qm, vi (1 : Int32), vi (1 : Int32), vi bb, uu, uu, uu, uu, uu, uu, uu, uu, uu] []) := by
          intro t kk
          refine k71 t ?_
          refine XS.istore X52.here hx rfl (hb hby at_59) rfl (l' := #[vi p0, vi p1, vi p2, vi (0 : Int32), vr qm, vi (1 : Int32), vi (1 : Int32), vi bb, uu, uu, uu, uu, uu, uu, uu, uu, uu]) rfl ?_
          refine XS.iload X52.here hx rfl (hb hby at_61) rfl ?_
          refine XS.ifYes X52.here hx rfl (pc0 := 63) (pc' := 71) rfl (hb hby at_63) rfl (own_if_neY (by decide)) (by decide) (by decide) ?_
          refine XS.iload X52.here hx rfl (hb hby at_71) rfl ?_
          show Steps p.tables e below (T48.setTop (mkF m 73 #[vi p0, vi p1, vi p2, vi (0 : Int32), vr qm, vi (1 : Int32), vi (1 : Int32), vi bb, uu, uu, uu, uu, uu, uu, uu, uu, uu] [(.int (1 : Int32))])) t
          refine XS.ifNo X52.here hx rfl (hb hby at_73) rfl (own_if_leN (by decide)) ?_
          exact kk
        have st75 := X52.ldc2DoubleC hx hown (mvT hZ (tw7 hw)) (g := (mkF m 76 #[vi p0, vi p1, vi p2, vi (0 : Int32), vr qm, vi (1 : Int32), vi (1 : Int32), vi bb, uu, uu, uu, uu, uu, uu, uu, uu, uu] [])) rfl (hb hby at_76)
        have k76 : own_G p e below E0 T48 (mkF m 79 #[vi p0, vi p1, vi p2, vi (0 : Int32), vr qm, vi (1 : Int32), vi (1 : Int32), vi bb, uu, uu, uu, uu, uu, uu, uu, uu, uu] [(.double (9218868437227405312 : UInt64))]) := fun t kk => k74 t (st75 _ kk)
        have k77 : own_G p e below E0 T48 (mkF m 103 #[vi p0, vi p1, vi p2, vi (0 : Int32), vr qm, vi (1 : Int32), vi (1 : Int32), vi bb, vd (9218868437227405312 : UInt64), ss, uu, uu, uu, uu, uu, uu, uu] []) := by
          intro t kk
          refine k76 t ?_
          refine XS.goto X52.here hx rfl (pc0 := 79) (pc' := 85) rfl (hb hby at_79) (by decide) (by decide) ?_
          refine XS.dstore X52.here hx rfl (hb hby at_85) rfl (l' := #[vi p0, vi p1, vi p2, vi (0 : Int32), vr qm, vi (1 : Int32), vi (1 : Int32), vi bb, vd (9218868437227405312 : UInt64), ss, uu, uu, uu, uu, uu, uu, uu]) rfl ?_
          refine XS.iload X52.here hx rfl (hb hby at_87) rfl ?_
          refine XS.ifYes X52.here hx rfl (pc0 := 89) (pc' := 98) rfl (hb hby at_89) rfl (own_if_neY (by decide)) (by decide) (by decide) ?_
          show Steps p.tables e below (T48.setTop (mkF m 98 #[vi p0, vi p1, vi p2, vi (0 : Int32), vr qm, vi (1 : Int32), vi (1 : Int32), vi bb, vd (9218868437227405312 : UInt64), ss, uu, uu, uu, uu, uu, uu, uu] [])) t
          refine XS.iload X52.here hx rfl (hb hby at_98) rfl ?_
          refine XS.ifNo X52.here hx rfl (hb hby at_100) rfl (own_if_leN (by decide)) ?_
          exact kk
        have st78 := X52.ldc2DoubleC hx hown (mvT hZ (tw7 hw)) (g := (mkF m 103 #[vi p0, vi p1, vi p2, vi (0 : Int32), vr qm, vi (1 : Int32), vi (1 : Int32), vi bb, vd (9218868437227405312 : UInt64), ss, uu, uu, uu, uu, uu, uu, uu] [])) rfl (hb hby at_103)
        have k79 : own_G p e below E0 T48 (mkF m 106 #[vi p0, vi p1, vi p2, vi (0 : Int32), vr qm, vi (1 : Int32), vi (1 : Int32), vi bb, vd (9218868437227405312 : UInt64), ss, uu, uu, uu, uu, uu, uu, uu] [(.double (9218868437227405312 : UInt64))]) := fun t kk => k77 t (st78 _ kk)
        have k80 : own_G p e below E0 T48 (mkF m 120 #[vi p0, vi p1, vi p2, vi (0 : Int32), vr qm, vi (1 : Int32), vi (1 : Int32), vi bb, vd (9218868437227405312 : UInt64), ss, vd (9218868437227405312 : UInt64), ss, uu, uu, uu, uu, uu] [(.double (9218868437227405312 : UInt64)), (.double (9218868437227405312 : UInt64)), (.ref qm)]) := by
          intro t kk
          refine k79 t ?_
          refine XS.goto X52.here hx rfl (pc0 := 106) (pc' := 112) rfl (hb hby at_106) (by decide) (by decide) ?_
          refine XS.dstore X52.here hx rfl (hb hby at_112) rfl (l' := #[vi p0, vi p1, vi p2, vi (0 : Int32), vr qm, vi (1 : Int32), vi (1 : Int32), vi bb, vd (9218868437227405312 : UInt64), ss, vd (9218868437227405312 : UInt64), ss, uu, uu, uu, uu, uu]) rfl ?_
          refine XS.aload X52.here hx rfl (hb hby at_114) rfl rfl ?_
          refine XS.dload X52.here hx rfl (hb hby at_116) rfl ?_
          show Steps p.tables e below (T48.setTop (mkF m 118 #[vi p0, vi p1, vi p2, vi (0 : Int32), vr qm, vi (1 : Int32), vi (1 : Int32), vi bb, vd (9218868437227405312 : UInt64), ss, vd (9218868437227405312 : UInt64), ss, uu, uu, uu, uu, uu] [(.double (9218868437227405312 : UInt64)), (.ref qm)])) t
          refine XS.dload X52.here hx rfl (hb hby at_118) rfl ?_
          exact kk
        obtain ⟨cq92, kq93, qa94, qb95, qc96⟩ := isOf hZ e60 E1
        obtain ⟨_, _, ⟨T81, L82, kc83, nc84⟩, -, X85, ⟨Lc86, hQ87, l88, y89, z90⟩, st91⟩ := X52.virtualBack hx (y := mn1) (z := mn1) hown (mvT hZ (tw8 hw)) (mvT hZ (tw9 hw)) (notFace_of_selects (args := #[]) (mvT hZ (tw11 hw))) (mvT hZ (tw11 hw)) (mvT hZ (tw10 hw)) (by decide) (backOf (W := 0) (rm1 l Z a0 hw [] qm (9218868437227405312 : UInt64) (9218868437227405312 : UInt64) qm h0 n0 Z0 S1 own_nnP own_nnP (fun z => absurd rfl z)) hZ (tw12 hw) (tw1 hw) (by decide) (by decide)) qa94 qc96 (g := (mkF m 120 #[vi p0, vi p1, vi p2, vi (0 : Int32), vr qm, vi (1 : Int32), vi (1 : Int32), vi bb, vd (9218868437227405312 : UInt64), ss, vd (9218868437227405312 : UInt64), ss, uu, uu, uu, uu, uu] [(.double (9218868437227405312 : UInt64)), (.double (9218868437227405312 : UInt64)), (.ref qm)])) rfl (by rw [hml]; rfl) (Steps.refl _) (argsL := [(.double (9218868437227405312 : UInt64)), (.double (9218868437227405312 : UInt64))]) (rest := []) (lenOf pd_4 rfl) rfl (by show 2 * 0 + _ ≤ _; exact Nat.le_of_eq rfl) (hb hby at_120) (fun _ _ => ⟨rfl, e60, (by decide : 0 + 0 ≤ _), (by decide : 0 + 0 ≤ _)⟩)
        dsimp only [Pt.U, Pt.locs, Pt.cells, Pt.slots] at X85 l88 y89 z90 st91 hQ87
        subst l88 y89 z90
        obtain ⟨rfl, N97, e98⟩ := hQ87
        have N100 := Fr.app N64 N97
        have k101 : own_G p e below E0 T81 (mkF m 123 #[vi p0, vi p1, vi p2, vi (0 : Int32), vr qm, vi (1 : Int32), vi (1 : Int32), vi bb, vd (9218868437227405312 : UInt64), ss, vd (9218868437227405312 : UInt64), ss, uu, uu, uu, uu, uu] [(.double (own_lead (qm = qm) (9218868437227405312 : UInt64) (9218868437227405312 : UInt64)))]) := fun t kk => k80 t (st91.trans kk)
        have k102 : own_G p e below E0 T81 (mkF m 243 #[vi p0, vi p1, vi p2, vi (0 : Int32), vr qm, vi (1 : Int32), vi (1 : Int32), vi bb, vd (9218868437227405312 : UInt64), ss, vd (9218868437227405312 : UInt64), ss, vd (own_lead (qm = qm) (9218868437227405312 : UInt64) (9218868437227405312 : UInt64)), ss, vi (-1 : Int32), vd FP.dconst0, ss] [(.int (1 : Int32))]) := by
          intro t kk
          refine k101 t ?_
          refine XS.dstore X85.here hx rfl (hb hby at_123) rfl (l' := #[vi p0, vi p1, vi p2, vi (0 : Int32), vr qm, vi (1 : Int32), vi (1 : Int32), vi bb, vd (9218868437227405312 : UInt64), ss, vd (9218868437227405312 : UInt64), ss, vd (own_lead (qm = qm) (9218868437227405312 : UInt64) (9218868437227405312 : UInt64)), ss, uu, uu, uu]) rfl ?_
          refine XS.iloadN X85.here hx rfl (hb hby at_125) rfl ?_
          refine XS.ifYes X85.here hx rfl (pc0 := 126) (pc' := 133) rfl (hb hby at_126) rfl (own_if_eqY (by decide)) (by decide) (by decide) ?_
          refine XS.iconst X85.here hx rfl (hb hby at_133) ?_
          show Steps p.tables e below (T81.setTop (mkF m 134 #[vi p0, vi p1, vi p2, vi (0 : Int32), vr qm, vi (1 : Int32), vi (1 : Int32), vi bb, vd (9218868437227405312 : UInt64), ss, vd (9218868437227405312 : UInt64), ss, vd (own_lead (qm = qm) (9218868437227405312 : UInt64) (9218868437227405312 : UInt64)), ss, uu, uu, uu] [(.int (-1 : Int32))])) t
          refine XS.istore X85.here hx rfl (hb hby at_134) rfl (l' := #[vi p0, vi p1, vi p2, vi (0 : Int32), vr qm, vi (1 : Int32), vi (1 : Int32), vi bb, vd (9218868437227405312 : UInt64), ss, vd (9218868437227405312 : UInt64), ss, vd (own_lead (qm = qm) (9218868437227405312 : UInt64) (9218868437227405312 : UInt64)), ss, vi (-1 : Int32), uu, uu]) rfl ?_
          refine XS.iload X85.here hx rfl (hb hby at_136) rfl ?_
          refine XS.ifNo X85.here hx rfl (hb hby at_138) rfl (own_if_eqN (by decide)) ?_
          refine XS.iload X85.here hx rfl (hb hby at_141) rfl ?_
          show Steps p.tables e below (T81.setTop (mkF m 143 #[vi p0, vi p1, vi p2, vi (0 : Int32), vr qm, vi (1 : Int32), vi (1 : Int32), vi bb, vd (9218868437227405312 : UInt64), ss, vd (9218868437227405312 : UInt64), ss, vd (own_lead (qm = qm) (9218868437227405312 : UInt64) (9218868437227405312 : UInt64)), ss, vi (-1 : Int32), uu, uu] [(.int (1 : Int32))])) t
          refine XS.iload X85.here hx rfl (hb hby at_143) rfl ?_
          refine XS.icmpNo X85.here hx rfl (hb hby at_145) rfl (own_ic_neN (by decide)) ?_
          refine XS.dconst0 X85.here hx rfl (hb hby at_148) rfl ?_
          refine XS.dstore X85.here hx rfl (hb hby at_149) rfl (l' := #[vi p0, vi p1, vi p2, vi (0 : Int32), vr qm, vi (1 : Int32), vi (1 : Int32), vi bb, vd (9218868437227405312 : UInt64), ss, vd (9218868437227405312 : UInt64), ss, vd (own_lead (qm = qm) (9218868437227405312 : UInt64) (9218868437227405312 : UInt64)), ss, vi (-1 : Int32), vd FP.dconst0, ss]) rfl ?_
          show Steps p.tables e below (T81.setTop (mkF m 151 #[vi p0, vi p1, vi p2, vi (0 : Int32), vr qm, vi (1 : Int32), vi (1 : Int32), vi bb, vd (9218868437227405312 : UInt64), ss, vd (9218868437227405312 : UInt64), ss, vd (own_lead (qm = qm) (9218868437227405312 : UInt64) (9218868437227405312 : UInt64)), ss, vi (-1 : Int32), vd FP.dconst0, ss] [])) t
          refine XS.goto X85.here hx rfl (pc0 := 151) (pc' := 230) rfl (hb hby at_151) (by decide) (by decide) ?_
          refine XS.dload X85.here hx rfl (hb hby at_230) rfl ?_
          refine XS.dload X85.here hx rfl (hb hby at_232) rfl ?_
          refine XS.dcmpS (v := (0 : Int32)) X85.here hx rfl (hb hby at_234) rfl (dcmpV_eq (own_lead_same _ _) (own_lead_same (qm = qm) (9218868437227405312 : UInt64) ▸ own_nn own_d0) .l) ?_
          show Steps p.tables e below (T81.setTop (mkF m 235 #[vi p0, vi p1, vi p2, vi (0 : Int32), vr qm, vi (1 : Int32), vi (1 : Int32), vi bb, vd (9218868437227405312 : UInt64), ss, vd (9218868437227405312 : UInt64), ss, vd (own_lead (qm = qm) (9218868437227405312 : UInt64) (9218868437227405312 : UInt64)), ss, vi (-1 : Int32), vd FP.dconst0, ss] [(.int (0 : Int32))])) t
          refine XS.ifNo X85.here hx rfl (hb hby at_235) rfl (own_if_neN (by decide)) ?_
          refine XS.iconst X85.here hx rfl (hb hby at_238) ?_
          refine XS.goto X85.here hx rfl (pc0 := 239) (pc' := 243) rfl (hb hby at_239) (by decide) (by decide) ?_
          exact kk
        obtain ⟨fs, hr, hrun, hended, hW, hsame⟩ := X85.leave (v := some (.int (1 : Int32))) (fun h => by rw [Bd.returns] at h; cases h)
        have hrun0 := k102 _ (retOut X85 hx Bd.returns (t := .boolean) rfl (Or.inl ⟨rfl, Or.inr (Or.inl rfl), _, rfl⟩) (hb hby at_243) hr)
        subst hE0
        refine ⟨_, _, hrun0, hrun, hended, _, _, rfl, ?_, ⟨_, rfl⟩, hW, hsame.mono (by decide) (by decide)⟩
        show Qrm0 Z p0 p1 p2 qm qM h0 n0 _ T81.heap _
        rw [e98]
        exact ⟨rfl, N100⟩
      · skip
        have k103 : own_G p e below E0 T48 (mkF m 50 #[vi p0, vi p1, vi p2, vi (0 : Int32), vr qm, vi (1 : Int32), vi (-1 : Int32), uu, uu, uu, uu, uu, uu, uu, uu, uu, uu] [(.int (32 : Int32)), (.int p2)]) := by
          intro t kk
          refine k65 t ?_
          refine XS.istore X52.here hx rfl (hb hby at_45) rfl (l' := #[vi p0, vi p1, vi p2, vi (0 : Int32), vr qm, vi (1 : Int32), vi (-1 : Int32), uu, uu, uu, uu, uu, uu, uu, uu, uu, uu]) rfl ?_
          refine XS.iloadN X52.here hx rfl (hb hby at_47) rfl ?_
          refine XS.bipush X52.here hx rfl (hb hby at_48) ?_
          exact kk
        have jn109 : ∃ (bb : Int32), ((((p2 &&& (32 : Int32)) = 0) ∧ bb = p1) ∨ (¬ ((p2 &&& (32 : Int32)) = 0) ∧ bb = p0)) ∧ (own_G p e below E0 T48 (mkF m 59 #[vi p0, vi p1, vi p2, vi (0 : Int32), vr qm, vi (1 : Int32), vi (-1 : Int32), uu, uu, uu, uu, uu, uu, uu, uu, uu, uu] [(.int bb)])) := by
          have k104 : own_G p e below E0 T48 (mkF m 51 #[vi p0, vi p1, vi p2, vi (0 : Int32), vr qm, vi (1 : Int32), vi (-1 : Int32), uu, uu, uu, uu, uu, uu, uu, uu, uu, uu] [(.int (p2 &&& (32 : Int32)))]) := by
            intro t kk
            refine k103 t ?_
            refine XS.iand X52.here hx rfl (hb hby at_50) rfl ?_
            exact kk
          by_cases c105 : (p2 &&& (32 : Int32)) = 0
          · skip
            have k106 : own_G p e below E0 T48 (mkF m 59 #[vi p0, vi p1, vi p2, vi (0 : Int32), vr qm, vi (1 : Int32), vi (-1 : Int32), uu, uu, uu, uu, uu, uu, uu, uu, uu, uu] [(.int p1)]) := by
              intro t kk
              refine k104 t ?_
              refine XS.ifYes X52.here hx rfl (pc0 := 51) (pc' := 58) rfl (hb hby at_51) rfl (own_if_eqY c105) (by decide) (by decide) ?_
              refine XS.iloadN X52.here hx rfl (hb hby at_58) rfl ?_
              exact kk
            exact ⟨p1, (Or.inl (⟨c105, rfl⟩)), k106⟩
          · skip
            have k107 : own_G p e below E0 T48 (mkF m 59 #[vi p0, vi p1, vi p2, vi (0 : Int32), vr qm, vi (1 : Int32), vi (-1 : Int32), uu, uu, uu, uu, uu, uu, uu, uu, uu, uu] [(.int p0)]) := by
              intro t kk
              refine k104 t ?_
              refine XS.ifNo X52.here hx rfl (hb hby at_51) rfl (own_if_eqN c105) ?_
              refine XS.iloadN X52.here hx rfl (hb hby at_54) rfl ?_
              refine XS.goto X52.here hx rfl (pc0 := 55) (pc' := 59) rfl (hb hby at_55) (by decide) (by decide) ?_
              exact kk
            exact ⟨p0, (Or.inr (⟨c105, rfl⟩)), k107⟩
        obtain ⟨bb, hD110, k108⟩ := jn109
        have k111 : own_G p e below E0 T48 (mkF m 76 #[vi p0, vi p1, vi p2, vi (0 : Int32), vr qm, vi (1 : Int32), vi (-1 : Int32), vi bb, uu, uu, uu, uu, uu, uu, uu, uu, uu] []) := by
          intro t kk
          refine k108 t ?_
          refine XS.istore X52.here hx rfl (hb hby at_59) rfl (l' := #[vi p0, vi p1, vi p2, vi (0 : Int32), vr qm, vi (1 : Int32), vi (-1 : Int32), vi bb, uu, uu, uu, uu, uu, uu, uu, uu, uu]) rfl ?_
          refine XS.iload X52.here hx rfl (hb hby at_61) rfl ?_
          refine XS.ifYes X52.here hx rfl (pc0 := 63) (pc' := 71) rfl (hb hby at_63) rfl (own_if_neY (by decide)) (by decide) (by decide) ?_
          refine XS.iload X52.here hx rfl (hb hby at_71) rfl ?_
          show Steps p.tables e below (T48.setTop (mkF m 73 #[vi p0, vi p1, vi p2, vi (0 : Int32), vr qm, vi (1 : Int32), vi (-1 : Int32), vi bb, uu, uu, uu, uu, uu, uu, uu, uu, uu] [(.int (1 : Int32))])) t
          refine XS.ifNo X52.here hx rfl (hb hby at_73) rfl (own_if_leN (by decide)) ?_
          exact kk
        have st112 := X52.ldc2DoubleC hx hown (mvT hZ (tw7 hw)) (g := (mkF m 76 #[vi p0, vi p1, vi p2, vi (0 : Int32), vr qm, vi (1 : Int32), vi (-1 : Int32), vi bb, uu, uu, uu, uu, uu, uu, uu, uu, uu] [])) rfl (hb hby at_76)
        have k113 : own_G p e below E0 T48 (mkF m 79 #[vi p0, vi p1, vi p2, vi (0 : Int32), vr qm, vi (1 : Int32), vi (-1 : Int32), vi bb, uu, uu, uu, uu, uu, uu, uu, uu, uu] [(.double (9218868437227405312 : UInt64))]) := fun t kk => k111 t (st112 _ kk)
        have k114 : own_G p e below E0 T48 (mkF m 109 #[vi p0, vi p1, vi p2, vi (0 : Int32), vr qm, vi (1 : Int32), vi (-1 : Int32), vi bb, vd (9218868437227405312 : UInt64), ss, uu, uu, uu, uu, uu, uu, uu] []) := by
          intro t kk
          refine k113 t ?_
          refine XS.goto X52.here hx rfl (pc0 := 79) (pc' := 85) rfl (hb hby at_79) (by decide) (by decide) ?_
          refine XS.dstore X52.here hx rfl (hb hby at_85) rfl (l' := #[vi p0, vi p1, vi p2, vi (0 : Int32), vr qm, vi (1 : Int32), vi (-1 : Int32), vi bb, vd (9218868437227405312 : UInt64), ss, uu, uu, uu, uu, uu, uu, uu]) rfl ?_
          refine XS.iload X52.here hx rfl (hb hby at_87) rfl ?_
          refine XS.ifYes X52.here hx rfl (pc0 := 89) (pc' := 98) rfl (hb hby at_89) rfl (own_if_neY (by decide)) (by decide) (by decide) ?_
          show Steps p.tables e below (T48.setTop (mkF m 98 #[vi p0, vi p1, vi p2, vi (0 : Int32), vr qm, vi (1 : Int32), vi (-1 : Int32), vi bb, vd (9218868437227405312 : UInt64), ss, uu, uu, uu, uu, uu, uu, uu] [])) t
          refine XS.iload X52.here hx rfl (hb hby at_98) rfl ?_
          refine XS.ifYes X52.here hx rfl (pc0 := 100) (pc' := 109) rfl (hb hby at_100) rfl (own_if_leY (by decide)) (by decide) (by decide) ?_
          exact kk
        have st115 := X52.ldc2DoubleC hx hown (mvT hZ (tw14 hw)) (g := (mkF m 109 #[vi p0, vi p1, vi p2, vi (0 : Int32), vr qm, vi (1 : Int32), vi (-1 : Int32), vi bb, vd (9218868437227405312 : UInt64), ss, uu, uu, uu, uu, uu, uu, uu] [])) rfl (hb hby at_109)
        have k116 : own_G p e below E0 T48 (mkF m 112 #[vi p0, vi p1, vi p2, vi (0 : Int32), vr qm, vi (1 : Int32), vi (-1 : Int32), vi bb, vd (9218868437227405312 : UInt64), ss, uu, uu, uu, uu, uu, uu, uu] [(.double (18442240474082181120 : UInt64))]) := fun t kk => k114 t (st115 _ kk)
        have k117 : own_G p e below E0 T48 (mkF m 120 #[vi p0, vi p1, vi p2, vi (0 : Int32), vr qm, vi (1 : Int32), vi (-1 : Int32), vi bb, vd (9218868437227405312 : UInt64), ss, vd (18442240474082181120 : UInt64), ss, uu, uu, uu, uu, uu] [(.double (18442240474082181120 : UInt64)), (.double (9218868437227405312 : UInt64)), (.ref qm)]) := by
          intro t kk
          refine k116 t ?_
          refine XS.dstore X52.here hx rfl (hb hby at_112) rfl (l' := #[vi p0, vi p1, vi p2, vi (0 : Int32), vr qm, vi (1 : Int32), vi (-1 : Int32), vi bb, vd (9218868437227405312 : UInt64), ss, vd (18442240474082181120 : UInt64), ss, uu, uu, uu, uu, uu]) rfl ?_
          refine XS.aload X52.here hx rfl (hb hby at_114) rfl rfl ?_
          refine XS.dload X52.here hx rfl (hb hby at_116) rfl ?_
          refine XS.dload X52.here hx rfl (hb hby at_118) rfl ?_
          exact kk
        obtain ⟨cq129, kq130, qa131, qb132, qc133⟩ := isOf hZ e60 E1
        obtain ⟨_, _, ⟨T118, L119, kc120, nc121⟩, -, X122, ⟨Lc123, hQ124, l125, y126, z127⟩, st128⟩ := X52.virtualBack hx (y := mn1) (z := mn1) hown (mvT hZ (tw8 hw)) (mvT hZ (tw9 hw)) (notFace_of_selects (args := #[]) (mvT hZ (tw11 hw))) (mvT hZ (tw11 hw)) (mvT hZ (tw10 hw)) (by decide) (backOf (W := 0) (rm1 l Z a0 hw [] qm (9218868437227405312 : UInt64) (18442240474082181120 : UInt64) qm h0 n0 Z0 S1 own_nnP own_nnN (own_hn_pn)) hZ (tw12 hw) (tw1 hw) (by decide) (by decide)) qa131 qc133 (g := (mkF m 120 #[vi p0, vi p1, vi p2, vi (0 : Int32), vr qm, vi (1 : Int32), vi (-1 : Int32), vi bb, vd (9218868437227405312 : UInt64), ss, vd (18442240474082181120 : UInt64), ss, uu, uu, uu, uu, uu] [(.double (18442240474082181120 : UInt64)), (.double (9218868437227405312 : UInt64)), (.ref qm)])) rfl (by rw [hml]; rfl) (Steps.refl _) (argsL := [(.double (9218868437227405312 : UInt64)), (.double (18442240474082181120 : UInt64))]) (rest := []) (lenOf pd_4 rfl) rfl (by show 2 * 0 + _ ≤ _; exact Nat.le_of_eq rfl) (hb hby at_120) (fun _ _ => ⟨rfl, e60, (by decide : 0 + 0 ≤ _), (by decide : 0 + 0 ≤ _)⟩)
        dsimp only [Pt.U, Pt.locs, Pt.cells, Pt.slots] at X122 l125 y126 z127 st128 hQ124
        subst l125 y126 z127
        obtain ⟨rfl, N134, e135⟩ := hQ124
        have N137 := Fr.app N64 N134
        have k138 : own_G p e below E0 T118 (mkF m 123 #[vi p0, vi p1, vi p2, vi (0 : Int32), vr qm, vi (1 : Int32), vi (-1 : Int32), vi bb, vd (9218868437227405312 : UInt64), ss, vd (18442240474082181120 : UInt64), ss, uu, uu, uu, uu, uu] [(.double (own_lead (qm = qm) (9218868437227405312 : UInt64) (18442240474082181120 : UInt64)))]) := fun t kk => k117 t (st128.trans kk)
        have k139 : own_G p e below E0 T118 (mkF m 173 #[vi p0, vi p1, vi p2, vi (0 : Int32), vr qm, vi (1 : Int32), vi (-1 : Int32), vi bb, vd (9218868437227405312 : UInt64), ss, vd (18442240474082181120 : UInt64), ss, vd (own_lead (qm = qm) (9218868437227405312 : UInt64) (18442240474082181120 : UInt64)), ss, vi (-1 : Int32), uu, uu] []) := by
          intro t kk
          refine k138 t ?_
          refine XS.dstore X122.here hx rfl (hb hby at_123) rfl (l' := #[vi p0, vi p1, vi p2, vi (0 : Int32), vr qm, vi (1 : Int32), vi (-1 : Int32), vi bb, vd (9218868437227405312 : UInt64), ss, vd (18442240474082181120 : UInt64), ss, vd (own_lead (qm = qm) (9218868437227405312 : UInt64) (18442240474082181120 : UInt64)), ss, uu, uu, uu]) rfl ?_
          refine XS.iloadN X122.here hx rfl (hb hby at_125) rfl ?_
          refine XS.ifYes X122.here hx rfl (pc0 := 126) (pc' := 133) rfl (hb hby at_126) rfl (own_if_eqY (by decide)) (by decide) (by decide) ?_
          refine XS.iconst X122.here hx rfl (hb hby at_133) ?_
          show Steps p.tables e below (T118.setTop (mkF m 134 #[vi p0, vi p1, vi p2, vi (0 : Int32), vr qm, vi (1 : Int32), vi (-1 : Int32), vi bb, vd (9218868437227405312 : UInt64), ss, vd (18442240474082181120 : UInt64), ss, vd (own_lead (qm = qm) (9218868437227405312 : UInt64) (18442240474082181120 : UInt64)), ss, uu, uu, uu] [(.int (-1 : Int32))])) t
          refine XS.istore X122.here hx rfl (hb hby at_134) rfl (l' := #[vi p0, vi p1, vi p2, vi (0 : Int32), vr qm, vi (1 : Int32), vi (-1 : Int32), vi bb, vd (9218868437227405312 : UInt64), ss, vd (18442240474082181120 : UInt64), ss, vd (own_lead (qm = qm) (9218868437227405312 : UInt64) (18442240474082181120 : UInt64)), ss, vi (-1 : Int32), uu, uu]) rfl ?_
          refine XS.iload X122.here hx rfl (hb hby at_136) rfl ?_
          refine XS.ifNo X122.here hx rfl (hb hby at_138) rfl (own_if_eqN (by decide)) ?_
          refine XS.iload X122.here hx rfl (hb hby at_141) rfl ?_
          show Steps p.tables e below (T118.setTop (mkF m 143 #[vi p0, vi p1, vi p2, vi (0 : Int32), vr qm, vi (1 : Int32), vi (-1 : Int32), vi bb, vd (9218868437227405312 : UInt64), ss, vd (18442240474082181120 : UInt64), ss, vd (own_lead (qm = qm) (9218868437227405312 : UInt64) (18442240474082181120 : UInt64)), ss, vi (-1 : Int32), uu, uu] [(.int (1 : Int32))])) t
          refine XS.iload X122.here hx rfl (hb hby at_143) rfl ?_
          refine XS.icmpYes X122.here hx rfl (pc0 := 145) (pc' := 154) rfl (hb hby at_145) rfl (own_ic_neY (by decide)) (by decide) (by decide) ?_
          refine XS.iload X122.here hx rfl (hb hby at_154) rfl ?_
          refine XS.ifNo X122.here hx rfl (hb hby at_156) rfl (own_if_eqN (by decide)) ?_
          show Steps p.tables e below (T118.setTop (mkF m 159 #[vi p0, vi p1, vi p2, vi (0 : Int32), vr qm, vi (1 : Int32), vi (-1 : Int32), vi bb, vd (9218868437227405312 : UInt64), ss, vd (18442240474082181120 : UInt64), ss, vd (own_lead (qm = qm) (9218868437227405312 : UInt64) (18442240474082181120 : UInt64)), ss, vi (-1 : Int32), uu, uu] [])) t
          refine XS.iload X122.here hx rfl (hb hby at_159) rfl ?_
          refine XS.iload X122.here hx rfl (hb hby at_161) rfl ?_
          refine XS.imul X122.here hx rfl (hb hby at_163) rfl ?_
          refine XS.ifYes X122.here hx rfl (pc0 := 164) (pc' := 173) rfl (hb hby at_164) rfl (own_if_leY (by decide)) (by decide) (by decide) ?_
          exact kk
        have st140 := X122.ldc2DoubleC hx hown (mvT hZ (tw14 hw)) (g := (mkF m 173 #[vi p0, vi p1, vi p2, vi (0 : Int32), vr qm, vi (1 : Int32), vi (-1 : Int32), vi bb, vd (9218868437227405312 : UInt64), ss, vd (18442240474082181120 : UInt64), ss, vd (own_lead (qm = qm) (9218868437227405312 : UInt64) (18442240474082181120 : UInt64)), ss, vi (-1 : Int32), uu, uu] [])) rfl (hb hby at_173)
        have k141 : own_G p e below E0 T118 (mkF m 176 #[vi p0, vi p1, vi p2, vi (0 : Int32), vr qm, vi (1 : Int32), vi (-1 : Int32), vi bb, vd (9218868437227405312 : UInt64), ss, vd (18442240474082181120 : UInt64), ss, vd (own_lead (qm = qm) (9218868437227405312 : UInt64) (18442240474082181120 : UInt64)), ss, vi (-1 : Int32), uu, uu] [(.double (18442240474082181120 : UInt64))]) := fun t kk => k139 t (st140 _ kk)
        have k142 : own_G p e below E0 T118 (mkF m 243 #[vi p0, vi p1, vi p2, vi (0 : Int32), vr qm, vi (1 : Int32), vi (-1 : Int32), vi bb, vd (9218868437227405312 : UInt64), ss, vd (18442240474082181120 : UInt64), ss, vd (own_lead (qm = qm) (9218868437227405312 : UInt64) (18442240474082181120 : UInt64)), ss, vi (-1 : Int32), vd (18442240474082181120 : UInt64), ss] [(.int (1 : Int32))]) := by
          intro t kk
          refine k141 t ?_
          refine XS.dstore X122.here hx rfl (hb hby at_176) rfl (l' := #[vi p0, vi p1, vi p2, vi (0 : Int32), vr qm, vi (1 : Int32), vi (-1 : Int32), vi bb, vd (9218868437227405312 : UInt64), ss, vd (18442240474082181120 : UInt64), ss, vd (own_lead (qm = qm) (9218868437227405312 : UInt64) (18442240474082181120 : UInt64)), ss, vi (-1 : Int32), vd (18442240474082181120 : UInt64), ss]) rfl ?_
          refine XS.goto X122.here hx rfl (pc0 := 178) (pc' := 230) rfl (hb hby at_178) (by decide) (by decide) ?_
          refine XS.dload X122.here hx rfl (hb hby at_230) rfl ?_
          refine XS.dload X122.here hx rfl (hb hby at_232) rfl ?_
          show Steps p.tables e below (T118.setTop (mkF m 234 #[vi p0, vi p1, vi p2, vi (0 : Int32), vr qm, vi (1 : Int32), vi (-1 : Int32), vi bb, vd (9218868437227405312 : UInt64), ss, vd (18442240474082181120 : UInt64), ss, vd (own_lead (qm = qm) (9218868437227405312 : UInt64) (18442240474082181120 : UInt64)), ss, vi (-1 : Int32), vd (18442240474082181120 : UInt64), ss] [(.double (18442240474082181120 : UInt64)), (.double (own_lead (qm = qm) (9218868437227405312 : UInt64) (18442240474082181120 : UInt64)))])) t
          refine XS.dcmpS (v := (0 : Int32)) X122.here hx rfl (hb hby at_234) rfl (own_iiY rfl own_vP own_vN own_vN) ?_
          refine XS.ifNo X122.here hx rfl (hb hby at_235) rfl (own_if_neN (by decide)) ?_
          refine XS.iconst X122.here hx rfl (hb hby at_238) ?_
          refine XS.goto X122.here hx rfl (pc0 := 239) (pc' := 243) rfl (hb hby at_239) (by decide) (by decide) ?_
          exact kk
        obtain ⟨fs, hr, hrun, hended, hW, hsame⟩ := X122.leave (v := some (.int (1 : Int32))) (fun h => by rw [Bd.returns] at h; cases h)
        have hrun0 := k142 _ (retOut X122 hx Bd.returns (t := .boolean) rfl (Or.inl ⟨rfl, Or.inr (Or.inl rfl), _, rfl⟩) (hb hby at_243) hr)
        subst hE0
        refine ⟨_, _, hrun0, hrun, hended, _, _, rfl, ?_, ⟨_, rfl⟩, hW, hsame.mono (by decide) (by decide)⟩
        show Qrm0 Z p0 p1 p2 qm qM h0 n0 _ T118.heap _
        rw [e135]
        exact ⟨rfl, N137⟩
      · skip
        have k143 : own_G p e below E0 T48 (mkF m 50 #[vi p0, vi p1, vi p2, vi (0 : Int32), vr qm, vi (1 : Int32), vi (0 : Int32), uu, uu, uu, uu, uu, uu, uu, uu, uu, uu] [(.int (32 : Int32)), (.int p2)]) := by
          intro t kk
          refine k65 t ?_
          refine XS.istore X52.here hx rfl (hb hby at_45) rfl (l' := #[vi p0, vi p1, vi p2, vi (0 : Int32), vr qm, vi (1 : Int32), vi (0 : Int32), uu, uu, uu, uu, uu, uu, uu, uu, uu, uu]) rfl ?_
          refine XS.iloadN X52.here hx rfl (hb hby at_47) rfl ?_
          refine XS.bipush X52.here hx rfl (hb hby at_48) ?_
          exact kk
        have jn149 : ∃ (bb : Int32), ((((p2 &&& (32 : Int32)) = 0) ∧ bb = p1) ∨ (¬ ((p2 &&& (32 : Int32)) = 0) ∧ bb = p0)) ∧ (own_G p e below E0 T48 (mkF m 59 #[vi p0, vi p1, vi p2, vi (0 : Int32), vr qm, vi (1 : Int32), vi (0 : Int32), uu, uu, uu, uu, uu, uu, uu, uu, uu, uu] [(.int bb)])) := by
          have k144 : own_G p e below E0 T48 (mkF m 51 #[vi p0, vi p1, vi p2, vi (0 : Int32), vr qm, vi (1 : Int32), vi (0 : Int32), uu, uu, uu, uu, uu, uu, uu, uu, uu, uu] [(.int (p2 &&& (32 : Int32)))]) := by
            intro t kk
            refine k143 t ?_
            refine XS.iand X52.here hx rfl (hb hby at_50) rfl ?_
            exact kk
          by_cases c145 : (p2 &&& (32 : Int32)) = 0
          · skip
            have k146 : own_G p e below E0 T48 (mkF m 59 #[vi p0, vi p1, vi p2, vi (0 : Int32), vr qm, vi (1 : Int32), vi (0 : Int32), uu, uu, uu, uu, uu, uu, uu, uu, uu, uu] [(.int p1)]) := by
              intro t kk
              refine k144 t ?_
              refine XS.ifYes X52.here hx rfl (pc0 := 51) (pc' := 58) rfl (hb hby at_51) rfl (own_if_eqY c145) (by decide) (by decide) ?_
              refine XS.iloadN X52.here hx rfl (hb hby at_58) rfl ?_
              exact kk
            exact ⟨p1, (Or.inl (⟨c145, rfl⟩)), k146⟩
          · skip
            have k147 : own_G p e below E0 T48 (mkF m 59 #[vi p0, vi p1, vi p2, vi (0 : Int32), vr qm, vi (1 : Int32), vi (0 : Int32), uu, uu, uu, uu, uu, uu, uu, uu, uu, uu] [(.int p0)]) := by
              intro t kk
              refine k144 t ?_
              refine XS.ifNo X52.here hx rfl (hb hby at_51) rfl (own_if_eqN c145) ?_
              refine XS.iloadN X52.here hx rfl (hb hby at_54) rfl ?_
              refine XS.goto X52.here hx rfl (pc0 := 55) (pc' := 59) rfl (hb hby at_55) (by decide) (by decide) ?_
              exact kk
            exact ⟨p0, (Or.inr (⟨c145, rfl⟩)), k147⟩
        obtain ⟨bb, hD150, k148⟩ := jn149
        have k151 : own_G p e below E0 T48 (mkF m 76 #[vi p0, vi p1, vi p2, vi (0 : Int32), vr qm, vi (1 : Int32), vi (0 : Int32), vi bb, uu, uu, uu, uu, uu, uu, uu, uu, uu] []) := by
          intro t kk
          refine k148 t ?_
          refine XS.istore X52.here hx rfl (hb hby at_59) rfl (l' := #[vi p0, vi p1, vi p2, vi (0 : Int32), vr qm, vi (1 : Int32), vi (0 : Int32), vi bb, uu, uu, uu, uu, uu, uu, uu, uu, uu]) rfl ?_
          refine XS.iload X52.here hx rfl (hb hby at_61) rfl ?_
          refine XS.ifYes X52.here hx rfl (pc0 := 63) (pc' := 71) rfl (hb hby at_63) rfl (own_if_neY (by decide)) (by decide) (by decide) ?_
          refine XS.iload X52.here hx rfl (hb hby at_71) rfl ?_
          show Steps p.tables e below (T48.setTop (mkF m 73 #[vi p0, vi p1, vi p2, vi (0 : Int32), vr qm, vi (1 : Int32), vi (0 : Int32), vi bb, uu, uu, uu, uu, uu, uu, uu, uu, uu] [(.int (1 : Int32))])) t
          refine XS.ifNo X52.here hx rfl (hb hby at_73) rfl (own_if_leN (by decide)) ?_
          exact kk
        have st152 := X52.ldc2DoubleC hx hown (mvT hZ (tw7 hw)) (g := (mkF m 76 #[vi p0, vi p1, vi p2, vi (0 : Int32), vr qm, vi (1 : Int32), vi (0 : Int32), vi bb, uu, uu, uu, uu, uu, uu, uu, uu, uu] [])) rfl (hb hby at_76)
        have k153 : own_G p e below E0 T48 (mkF m 79 #[vi p0, vi p1, vi p2, vi (0 : Int32), vr qm, vi (1 : Int32), vi (0 : Int32), vi bb, uu, uu, uu, uu, uu, uu, uu, uu, uu] [(.double (9218868437227405312 : UInt64))]) := fun t kk => k151 t (st152 _ kk)
        have k154 : own_G p e below E0 T48 (mkF m 120 #[vi p0, vi p1, vi p2, vi (0 : Int32), vr qm, vi (1 : Int32), vi (0 : Int32), vi bb, vd (9218868437227405312 : UInt64), ss, vd (FP.i2d bb), ss, uu, uu, uu, uu, uu] [(.double (FP.i2d bb)), (.double (9218868437227405312 : UInt64)), (.ref qm)]) := by
          intro t kk
          refine k153 t ?_
          refine XS.goto X52.here hx rfl (pc0 := 79) (pc' := 85) rfl (hb hby at_79) (by decide) (by decide) ?_
          refine XS.dstore X52.here hx rfl (hb hby at_85) rfl (l' := #[vi p0, vi p1, vi p2, vi (0 : Int32), vr qm, vi (1 : Int32), vi (0 : Int32), vi bb, vd (9218868437227405312 : UInt64), ss, uu, uu, uu, uu, uu, uu, uu]) rfl ?_
          refine XS.iload X52.here hx rfl (hb hby at_87) rfl ?_
          refine XS.ifNo X52.here hx rfl (hb hby at_89) rfl (own_if_neN (by decide)) ?_
          show Steps p.tables e below (T48.setTop (mkF m 92 #[vi p0, vi p1, vi p2, vi (0 : Int32), vr qm, vi (1 : Int32), vi (0 : Int32), vi bb, vd (9218868437227405312 : UInt64), ss, uu, uu, uu, uu, uu, uu, uu] [])) t
          refine XS.iload X52.here hx rfl (hb hby at_92) rfl ?_
          refine XS.i2dS X52.here hx rfl (hb hby at_94) rfl rfl ?_
          refine XS.goto X52.here hx rfl (pc0 := 95) (pc' := 112) rfl (hb hby at_95) (by decide) (by decide) ?_
          refine XS.dstore X52.here hx rfl (hb hby at_112) rfl (l' := #[vi p0, vi p1, vi p2, vi (0 : Int32), vr qm, vi (1 : Int32), vi (0 : Int32), vi bb, vd (9218868437227405312 : UInt64), ss, vd (FP.i2d bb), ss, uu, uu, uu, uu, uu]) rfl ?_
          show Steps p.tables e below (T48.setTop (mkF m 114 #[vi p0, vi p1, vi p2, vi (0 : Int32), vr qm, vi (1 : Int32), vi (0 : Int32), vi bb, vd (9218868437227405312 : UInt64), ss, vd (FP.i2d bb), ss, uu, uu, uu, uu, uu] [])) t
          refine XS.aload X52.here hx rfl (hb hby at_114) rfl rfl ?_
          refine XS.dload X52.here hx rfl (hb hby at_116) rfl ?_
          refine XS.dload X52.here hx rfl (hb hby at_118) rfl ?_
          exact kk
        obtain ⟨cq166, kq167, qa168, qb169, qc170⟩ := isOf hZ e60 E1
        obtain ⟨_, _, ⟨T155, L156, kc157, nc158⟩, -, X159, ⟨Lc160, hQ161, l162, y163, z164⟩, st165⟩ := X52.virtualBack hx (y := mn1) (z := mn1) hown (mvT hZ (tw8 hw)) (mvT hZ (tw9 hw)) (notFace_of_selects (args := #[]) (mvT hZ (tw11 hw))) (mvT hZ (tw11 hw)) (mvT hZ (tw10 hw)) (by decide) (backOf (W := 0) (rm1 l Z a0 hw [] qm (9218868437227405312 : UInt64) (FP.i2d bb) qm h0 n0 Z0 S1 own_nnP (Fl.i2d_fin bb).noNaN (own_hn_if own_vP (Fl.i2d_fin bb))) hZ (tw12 hw) (tw1 hw) (by decide) (by decide)) qa168 qc170 (g := (mkF m 120 #[vi p0, vi p1, vi p2, vi (0 : Int32), vr qm, vi (1 : Int32), vi (0 : Int32), vi bb, vd (9218868437227405312 : UInt64), ss, vd (FP.i2d bb), ss, uu, uu, uu, uu, uu] [(.double (FP.i2d bb)), (.double (9218868437227405312 : UInt64)), (.ref qm)])) rfl (by rw [hml]; rfl) (Steps.refl _) (argsL := [(.double (9218868437227405312 : UInt64)), (.double (FP.i2d bb))]) (rest := []) (lenOf pd_4 rfl) rfl (by show 2 * 0 + _ ≤ _; exact Nat.le_of_eq rfl) (hb hby at_120) (fun _ _ => ⟨rfl, e60, (by decide : 0 + 0 ≤ _), (by decide : 0 + 0 ≤ _)⟩)
        dsimp only [Pt.U, Pt.locs, Pt.cells, Pt.slots] at X159 l162 y163 z164 st165 hQ161
        subst l162 y163 z164
        obtain ⟨rfl, N171, e172⟩ := hQ161
        have N174 := Fr.app N64 N171
        have k175 : own_G p e below E0 T155 (mkF m 123 #[vi p0, vi p1, vi p2, vi (0 : Int32), vr qm, vi (1 : Int32), vi (0 : Int32), vi bb, vd (9218868437227405312 : UInt64), ss, vd (FP.i2d bb), ss, uu, uu, uu, uu, uu] [(.double (own_lead (qm = qm) (9218868437227405312 : UInt64) (FP.i2d bb)))]) := fun t kk => k154 t (st165.trans kk)
        have k176 : own_G p e below E0 T155 (mkF m 173 #[vi p0, vi p1, vi p2, vi (0 : Int32), vr qm, vi (1 : Int32), vi (0 : Int32), vi bb, vd (9218868437227405312 : UInt64), ss, vd (FP.i2d bb), ss, vd (own_lead (qm = qm) (9218868437227405312 : UInt64) (FP.i2d bb)), ss, vi (-1 : Int32), uu, uu] []) := by
          intro t kk
          refine k175 t ?_
          refine XS.dstore X159.here hx rfl (hb hby at_123) rfl (l' := #[vi p0, vi p1, vi p2, vi (0 : Int32), vr qm, vi (1 : Int32), vi (0 : Int32), vi bb, vd (9218868437227405312 : UInt64), ss, vd (FP.i2d bb), ss, vd (own_lead (qm = qm) (9218868437227405312 : UInt64) (FP.i2d bb)), ss, uu, uu, uu]) rfl ?_
          refine XS.iloadN X159.here hx rfl (hb hby at_125) rfl ?_
          refine XS.ifYes X159.here hx rfl (pc0 := 126) (pc' := 133) rfl (hb hby at_126) rfl (own_if_eqY (by decide)) (by decide) (by decide) ?_
          refine XS.iconst X159.here hx rfl (hb hby at_133) ?_
          show Steps p.tables e below (T155.setTop (mkF m 134 #[vi p0, vi p1, vi p2, vi (0 : Int32), vr qm, vi (1 : Int32), vi (0 : Int32), vi bb, vd (9218868437227405312 : UInt64), ss, vd (FP.i2d bb), ss, vd (own_lead (qm = qm) (9218868437227405312 : UInt64) (FP.i2d bb)), ss, uu, uu, uu] [(.int (-1 : Int32))])) t
          refine XS.istore X159.here hx rfl (hb hby at_134) rfl (l' := #[vi p0, vi p1, vi p2, vi (0 : Int32), vr qm, vi (1 : Int32), vi (0 : Int32), vi bb, vd (9218868437227405312 : UInt64), ss, vd (FP.i2d bb), ss, vd (own_lead (qm = qm) (9218868437227405312 : UInt64) (FP.i2d bb)), ss, vi (-1 : Int32), uu, uu]) rfl ?_
          refine XS.iload X159.here hx rfl (hb hby at_136) rfl ?_
          refine XS.ifNo X159.here hx rfl (hb hby at_138) rfl (own_if_eqN (by decide)) ?_
          refine XS.iload X159.here hx rfl (hb hby at_141) rfl ?_
          show Steps p.tables e below (T155.setTop (mkF m 143 #[vi p0, vi p1, vi p2, vi (0 : Int32), vr qm, vi (1 : Int32), vi (0 : Int32), vi bb, vd (9218868437227405312 : UInt64), ss, vd (FP.i2d bb), ss, vd (own_lead (qm = qm) (9218868437227405312 : UInt64) (FP.i2d bb)), ss, vi (-1 : Int32), uu, uu] [(.int (1 : Int32))])) t
          refine XS.iload X159.here hx rfl (hb hby at_143) rfl ?_
          refine XS.icmpYes X159.here hx rfl (pc0 := 145) (pc' := 154) rfl (hb hby at_145) rfl (own_ic_neY (by decide)) (by decide) (by decide) ?_
          refine XS.iload X159.here hx rfl (hb hby at_154) rfl ?_
          refine XS.ifNo X159.here hx rfl (hb hby at_156) rfl (own_if_eqN (by decide)) ?_
          show Steps p.tables e below (T155.setTop (mkF m 159 #[vi p0, vi p1, vi p2, vi (0 : Int32), vr qm, vi (1 : Int32), vi (0 : Int32), vi bb, vd (9218868437227405312 : UInt64), ss, vd (FP.i2d bb), ss, vd (own_lead (qm = qm) (9218868437227405312 : UInt64) (FP.i2d bb)), ss, vi (-1 : Int32), uu, uu] [])) t
          refine XS.iload X159.here hx rfl (hb hby at_159) rfl ?_
          refine XS.iload X159.here hx rfl (hb hby at_161) rfl ?_
          refine XS.imul X159.here hx rfl (hb hby at_163) rfl ?_
          refine XS.ifYes X159.here hx rfl (pc0 := 164) (pc' := 173) rfl (hb hby at_164) rfl (own_if_leY (by decide)) (by decide) (by decide) ?_
          exact kk
        have st177 := X159.ldc2DoubleC hx hown (mvT hZ (tw14 hw)) (g := (mkF m 173 #[vi p0, vi p1, vi p2, vi (0 : Int32), vr qm, vi (1 : Int32), vi (0 : Int32), vi bb, vd (9218868437227405312 : UInt64), ss, vd (FP.i2d bb), ss, vd (own_lead (qm = qm) (9218868437227405312 : UInt64) (FP.i2d bb)), ss, vi (-1 : Int32), uu, uu] [])) rfl (hb hby at_173)
        have k178 : own_G p e below E0 T155 (mkF m 176 #[vi p0, vi p1, vi p2, vi (0 : Int32), vr qm, vi (1 : Int32), vi (0 : Int32), vi bb, vd (9218868437227405312 : UInt64), ss, vd (FP.i2d bb), ss, vd (own_lead (qm = qm) (9218868437227405312 : UInt64) (FP.i2d bb)), ss, vi (-1 : Int32), uu, uu] [(.double (18442240474082181120 : UInt64))]) := fun t kk => k176 t (st177 _ kk)
        have k179 : own_G p e below E0 T155 (mkF m 243 #[vi p0, vi p1, vi p2, vi (0 : Int32), vr qm, vi (1 : Int32), vi (0 : Int32), vi bb, vd (9218868437227405312 : UInt64), ss, vd (FP.i2d bb), ss, vd (own_lead (qm = qm) (9218868437227405312 : UInt64) (FP.i2d bb)), ss, vi (-1 : Int32), vd (18442240474082181120 : UInt64), ss] [(.int (1 : Int32))]) := by
          intro t kk
          refine k178 t ?_
          refine XS.dstore X159.here hx rfl (hb hby at_176) rfl (l' := #[vi p0, vi p1, vi p2, vi (0 : Int32), vr qm, vi (1 : Int32), vi (0 : Int32), vi bb, vd (9218868437227405312 : UInt64), ss, vd (FP.i2d bb), ss, vd (own_lead (qm = qm) (9218868437227405312 : UInt64) (FP.i2d bb)), ss, vi (-1 : Int32), vd (18442240474082181120 : UInt64), ss]) rfl ?_
          refine XS.goto X159.here hx rfl (pc0 := 178) (pc' := 230) rfl (hb hby at_178) (by decide) (by decide) ?_
          refine XS.dload X159.here hx rfl (hb hby at_230) rfl ?_
          refine XS.dload X159.here hx rfl (hb hby at_232) rfl ?_
          show Steps p.tables e below (T155.setTop (mkF m 234 #[vi p0, vi p1, vi p2, vi (0 : Int32), vr qm, vi (1 : Int32), vi (0 : Int32), vi bb, vd (9218868437227405312 : UInt64), ss, vd (FP.i2d bb), ss, vd (own_lead (qm = qm) (9218868437227405312 : UInt64) (FP.i2d bb)), ss, vi (-1 : Int32), vd (18442240474082181120 : UInt64), ss] [(.double (18442240474082181120 : UInt64)), (.double (own_lead (qm = qm) (9218868437227405312 : UInt64) (FP.i2d bb)))])) t
          refine XS.dcmpS (v := (0 : Int32)) X159.here hx rfl (hb hby at_234) rfl (own_ifY rfl own_vP own_vN (Fl.i2d_fin bb)) ?_
          refine XS.ifNo X159.here hx rfl (hb hby at_235) rfl (own_if_neN (by decide)) ?_
          refine XS.iconst X159.here hx rfl (hb hby at_238) ?_
          refine XS.goto X159.here hx rfl (pc0 := 239) (pc' := 243) rfl (hb hby at_239) (by decide) (by decide) ?_
          exact kk
        obtain ⟨fs, hr, hrun, hended, hW, hsame⟩ := X159.leave (v := some (.int (1 : Int32))) (fun h => by rw [Bd.returns] at h; cases h)
        have hrun0 := k179 _ (retOut X159 hx Bd.returns (t := .boolean) rfl (Or.inl ⟨rfl, Or.inr (Or.inl rfl), _, rfl⟩) (hb hby at_243) hr)
        subst hE0
        refine ⟨_, _, hrun0, hrun, hended, _, _, rfl, ?_, ⟨_, rfl⟩, hW, hsame.mono (by decide) (by decide)⟩
        show Qrm0 Z p0 p1 p2 qm qM h0 n0 _ T155.heap _
        rw [e172]
        exact ⟨rfl, N174⟩
    · skip
      have k180 : own_G p e below E0 T29 (mkF m 42 #[vi p0, vi p1, vi p2, vi (0 : Int32), vr qm, vi (-1 : Int32), uu, uu, uu, uu, uu, uu, uu, uu, uu, uu, uu] [(.int ((XT.ushr p2 (3 : Int32)) &&& (3 : Int32)))]) := by
        intro t kk
        refine k46 t ?_
        refine XS.istore X33.here hx rfl (hb hby at_35) rfl (l' := #[vi p0, vi p1, vi p2, vi (0 : Int32), vr qm, vi (-1 : Int32), uu, uu, uu, uu, uu, uu, uu, uu, uu, uu, uu]) rfl ?_
        refine XS.iloadN X33.here hx rfl (hb hby at_37) rfl ?_
        refine XS.iconst X33.here hx rfl (hb hby at_38) ?_
        refine XT.iushr X33.here hx rfl (hb hby at_39) rfl ?_
        show Steps p.tables e below (T29.setTop (mkF m 40 #[vi p0, vi p1, vi p2, vi (0 : Int32), vr qm, vi (-1 : Int32), uu, uu, uu, uu, uu, uu, uu, uu, uu, uu, uu] [(.int (XT.ushr p2 (3 : Int32)))])) t
        refine XS.iconst X33.here hx rfl (hb hby at_40) ?_
        refine XS.iand X33.here hx rfl (hb hby at_41) rfl ?_
        exact kk
      obtain ⟨_, _, ⟨T181, L182, kc183, nc184⟩, -, X185, ⟨Lc186, hQ187, l188, y189, z190⟩, st191⟩ := Jvm.LawKit.callS X33 hx (y := mn0) hown (mvT hZ (tw3 hw)) (mvT hZ (tw4 hw)) (mvT hZ (tw5 hw)) (mvT hZ (tw6 hw)) (by decide) (backOf (W := 0) (rmK l Z a0 hw [] ((XT.ushr p2 (3 : Int32)) &&& (3 : Int32)) h0 n0 Z0 ) hZ (tw6 hw) (tw5 hw) (by decide) (by decide)) (g := (mkF m 42 #[vi p0, vi p1, vi p2, vi (0 : Int32), vr qm, vi (-1 : Int32), uu, uu, uu, uu, uu, uu, uu, uu, uu, uu, uu] [(.int ((XT.ushr p2 (3 : Int32)) &&& (3 : Int32)))])) rfl (by rw [hml]; rfl) (argsL := [(.int ((XT.ushr p2 (3 : Int32)) &&& (3 : Int32)))]) (rest := []) (lenOf pd_3 rfl) rfl (by show 2 * 0 + _ ≤ _; exact Nat.le_of_eq rfl) (hb hby at_42) (fun _ _ => ⟨rfl, e41, (by decide : 0 + 0 ≤ _), (by decide : 0 + 0 ≤ _)⟩)
      dsimp only [Pt.U, Pt.locs, Pt.cells, Pt.slots] at X185 l188 y189 z190 st191 hQ187
      subst l188 y189 z190
      obtain ⟨r195, rfl, N192, e193, g196⟩ := hQ187
      have N197 := Fr.app N45 N192
      have k198 : own_G p e below E0 T181 (mkF m 45 #[vi p0, vi p1, vi p2, vi (0 : Int32), vr qm, vi (-1 : Int32), uu, uu, uu, uu, uu, uu, uu, uu, uu, uu, uu] [(.int r195)]) := fun t kk => k180 t (st191 _ kk)
      rcases g196 with rfl | rfl | rfl
      · skip
        have k199 : own_G p e below E0 T181 (mkF m 50 #[vi p0, vi p1, vi p2, vi (0 : Int32), vr qm, vi (-1 : Int32), vi (1 : Int32), uu, uu, uu, uu, uu, uu, uu, uu, uu, uu] [(.int (32 : Int32)), (.int p2)]) := by
          intro t kk
          refine k198 t ?_
          refine XS.istore X185.here hx rfl (hb hby at_45) rfl (l' := #[vi p0, vi p1, vi p2, vi (0 : Int32), vr qm, vi (-1 : Int32), vi (1 : Int32), uu, uu, uu, uu, uu, uu, uu, uu, uu, uu]) rfl ?_
          refine XS.iloadN X185.here hx rfl (hb hby at_47) rfl ?_
          refine XS.bipush X185.here hx rfl (hb hby at_48) ?_
          exact kk
        have jn205 : ∃ (bb : Int32), ((((p2 &&& (32 : Int32)) = 0) ∧ bb = p1) ∨ (¬ ((p2 &&& (32 : Int32)) = 0) ∧ bb = p0)) ∧ (own_G p e below E0 T181 (mkF m 59 #[vi p0, vi p1, vi p2, vi (0 : Int32), vr qm, vi (-1 : Int32), vi (1 : Int32), uu, uu, uu, uu, uu, uu, uu, uu, uu, uu] [(.int bb)])) := by
          have k200 : own_G p e below E0 T181 (mkF m 51 #[vi p0, vi p1, vi p2, vi (0 : Int32), vr qm, vi (-1 : Int32), vi (1 : Int32), uu, uu, uu, uu, uu, uu, uu, uu, uu, uu] [(.int (p2 &&& (32 : Int32)))]) := by
            intro t kk
            refine k199 t ?_
            refine XS.iand X185.here hx rfl (hb hby at_50) rfl ?_
            exact kk
          by_cases c201 : (p2 &&& (32 : Int32)) = 0
          · skip
            have k202 : own_G p e below E0 T181 (mkF m 59 #[vi p0, vi p1, vi p2, vi (0 : Int32), vr qm, vi (-1 : Int32), vi (1 : Int32), uu, uu, uu, uu, uu, uu, uu, uu, uu, uu] [(.int p1)]) := by
              intro t kk
              refine k200 t ?_
              refine XS.ifYes X185.here hx rfl (pc0 := 51) (pc' := 58) rfl (hb hby at_51) rfl (own_if_eqY c201) (by decide) (by decide) ?_
              refine XS.iloadN X185.here hx rfl (hb hby at_58) rfl ?_
              exact kk
            exact ⟨p1, (Or.inl (⟨c201, rfl⟩)), k202⟩
          · skip
            have k203 : own_G p e below E0 T181 (mkF m 59 #[vi p0, vi p1, vi p2, vi (0 : Int32), vr qm, vi (-1 : Int32), vi (1 : Int32), uu, uu, uu, uu, uu, uu, uu, uu, uu, uu] [(.int p0)]) := by
              intro t kk
              refine k200 t ?_
              refine XS.ifNo X185.here hx rfl (hb hby at_51) rfl (own_if_eqN c201) ?_
              refine XS.iloadN X185.here hx rfl (hb hby at_54) rfl ?_
              refine XS.goto X185.here hx rfl (pc0 := 55) (pc' := 59) rfl (hb hby at_55) (by decide) (by decide) ?_
              exact kk
            exact ⟨p0, (Or.inr (⟨c201, rfl⟩)), k203⟩
        obtain ⟨bb, hD206, k204⟩ := jn205
        have k207 : own_G p e below E0 T181 (mkF m 82 #[vi p0, vi p1, vi p2, vi (0 : Int32), vr qm, vi (-1 : Int32), vi (1 : Int32), vi bb, uu, uu, uu, uu, uu, uu, uu, uu, uu] []) := by
          intro t kk
          refine k204 t ?_
          refine XS.istore X185.here hx rfl (hb hby at_59) rfl (l' := #[vi p0, vi p1, vi p2, vi (0 : Int32), vr qm, vi (-1 : Int32), vi (1 : Int32), vi bb, uu, uu, uu, uu, uu, uu, uu, uu, uu]) rfl ?_
          refine XS.iload X185.here hx rfl (hb hby at_61) rfl ?_
          refine XS.ifYes X185.here hx rfl (pc0 := 63) (pc' := 71) rfl (hb hby at_63) rfl (own_if_neY (by decide)) (by decide) (by decide) ?_
          refine XS.iload X185.here hx rfl (hb hby at_71) rfl ?_
          show Steps p.tables e below (T181.setTop (mkF m 73 #[vi p0, vi p1, vi p2, vi (0 : Int32), vr qm, vi (-1 : Int32), vi (1 : Int32), vi bb, uu, uu, uu, uu, uu, uu, uu, uu, uu] [(.int (-1 : Int32))])) t
          refine XS.ifYes X185.here hx rfl (pc0 := 73) (pc' := 82) rfl (hb hby at_73) rfl (own_if_leY (by decide)) (by decide) (by decide) ?_
          exact kk
        have st208 := X185.ldc2DoubleC hx hown (mvT hZ (tw14 hw)) (g := (mkF m 82 #[vi p0, vi p1, vi p2, vi (0 : Int32), vr qm, vi (-1 : Int32), vi (1 : Int32), vi bb, uu, uu, uu, uu, uu, uu, uu, uu, uu] [])) rfl (hb hby at_82)
        have k209 : own_G p e below E0 T181 (mkF m 85 #[vi p0, vi p1, vi p2, vi (0 : Int32), vr qm, vi (-1 : Int32), vi (1 : Int32), vi bb, uu, uu, uu, uu, uu, uu, uu, uu, uu] [(.double (18442240474082181120 : UInt64))]) := fun t kk => k207 t (st208 _ kk)
        have k210 : own_G p e below E0 T181 (mkF m 103 #[vi p0, vi p1, vi p2, vi (0 : Int32), vr qm, vi (-1 : Int32), vi (1 : Int32), vi bb, vd (18442240474082181120 : UInt64), ss, uu, uu, uu, uu, uu, uu, uu] []) := by
          intro t kk
          refine k209 t ?_
          refine XS.dstore X185.here hx rfl (hb hby at_85) rfl (l' := #[vi p0, vi p1, vi p2, vi (0 : Int32), vr qm, vi (-1 : Int32), vi (1 : Int32), vi bb, vd (18442240474082181120 : UInt64), ss, uu, uu, uu, uu, uu, uu, uu]) rfl ?_
          refine XS.iload X185.here hx rfl (hb hby at_87) rfl ?_
          refine XS.ifYes X185.here hx rfl (pc0 := 89) (pc' := 98) rfl (hb hby at_89) rfl (own_if_neY (by decide)) (by decide) (by decide) ?_
          refine XS.iload X185.here hx rfl (hb hby at_98) rfl ?_
          show Steps p.tables e below (T181.setTop (mkF m 100 #[vi p0, vi p1, vi p2, vi (0 : Int32), vr qm, vi (-1 : Int32), vi (1 : Int32), vi bb, vd (18442240474082181120 : UInt64), ss, uu, uu, uu, uu, uu, uu, uu] [(.int (1 : Int32))])) t
          refine XS.ifNo X185.here hx rfl (hb hby at_100) rfl (own_if_leN (by decide)) ?_
          exact kk
        have st211 := X185.ldc2DoubleC hx hown (mvT hZ (tw7 hw)) (g := (mkF m 103 #[vi p0, vi p1, vi p2, vi (0 : Int32), vr qm, vi (-1 : Int32), vi (1 : Int32), vi bb, vd (18442240474082181120 : UInt64), ss, uu, uu, uu, uu, uu, uu, uu] [])) rfl (hb hby at_103)
        have k212 : own_G p e below E0 T181 (mkF m 106 #[vi p0, vi p1, vi p2, vi (0 : Int32), vr qm, vi (-1 : Int32), vi (1 : Int32), vi bb, vd (18442240474082181120 : UInt64), ss, uu, uu, uu, uu, uu, uu, uu] [(.double (9218868437227405312 : UInt64))]) := fun t kk => k210 t (st211 _ kk)
        have k213 : own_G p e below E0 T181 (mkF m 120 #[vi p0, vi p1, vi p2, vi (0 : Int32), vr qm, vi (-1 : Int32), vi (1 : Int32), vi bb, vd (18442240474082181120 : UInt64), ss, vd (9218868437227405312 : UInt64), ss, uu, uu, uu, uu, uu] [(.double (9218868437227405312 : UInt64)), (.double (18442240474082181120 : UInt64)), (.ref qm)]) := by
          intro t kk
          refine k212 t ?_
          refine XS.goto X185.here hx rfl (pc0 := 106) (pc' := 112) rfl (hb hby at_106) (by decide) (by decide) ?_
          refine XS.dstore X185.here hx rfl (hb hby at_112) rfl (l' := #[vi p0, vi p1, vi p2, vi (0 : Int32), vr qm, vi (-1 : Int32), vi (1 : Int32), vi bb, vd (18442240474082181120 : UInt64), ss, vd (9218868437227405312 : UInt64), ss, uu, uu, uu, uu, uu]) rfl ?_
          refine XS.aload X185.here hx rfl (hb hby at_114) rfl rfl ?_
          refine XS.dload X185.here hx rfl (hb hby at_116) rfl ?_
          show Steps p.tables e below (T181.setTop (mkF m 118 #[vi p0, vi p1, vi p2, vi (0 : Int32), vr qm, vi (-1 : Int32), vi (1 : Int32), vi bb, vd (18442240474082181120 : UInt64), ss, vd (9218868437227405312 : UInt64), ss, uu, uu, uu, uu, uu] [(.double (18442240474082181120 : UInt64)), (.ref qm)])) t
          refine XS.dload X185.here hx rfl (hb hby at_118) rfl ?_
          exact kk
        obtain ⟨cq225, kq226, qa227, qb228, qc229⟩ := isOf hZ e193 E1
        obtain ⟨_, _, ⟨T214, L215, kc216, nc217⟩, -, X218, ⟨Lc219, hQ220, l221, y222, z223⟩, st224⟩ := X185.virtualBack hx (y := mn1) (z := mn1) hown (mvT hZ (tw8 hw)) (mvT hZ (tw9 hw)) (notFace_of_selects (args := #[]) (mvT hZ (tw11 hw))) (mvT hZ (tw11 hw)) (mvT hZ (tw10 hw)) (by decide) (backOf (W := 0) (rm1 l Z a0 hw [] qm (18442240474082181120 : UInt64) (9218868437227405312 : UInt64) qm h0 n0 Z0 S1 own_nnN own_nnP (own_hn_np)) hZ (tw12 hw) (tw1 hw) (by decide) (by decide)) qa227 qc229 (g := (mkF m 120 #[vi p0, vi p1, vi p2, vi (0 : Int32), vr qm, vi (-1 : Int32), vi (1 : Int32), vi bb, vd (18442240474082181120 : UInt64), ss, vd (9218868437227405312 : UInt64), ss, uu, uu, uu, uu, uu] [(.double (9218868437227405312 : UInt64)), (.double (18442240474082181120 : UInt64)), (.ref qm)])) rfl (by rw [hml]; rfl) (Steps.refl _) (argsL := [(.double (18442240474082181120 : UInt64)), (.double (9218868437227405312 : UInt64))]) (rest := []) (lenOf pd_4 rfl) rfl (by show 2 * 0 + _ ≤ _; exact Nat.le_of_eq rfl) (hb hby at_120) (fun _ _ => ⟨rfl, e193, (by decide : 0 + 0 ≤ _), (by decide : 0 + 0 ≤ _)⟩)
        dsimp only [Pt.U, Pt.locs, Pt.cells, Pt.slots] at X218 l221 y222 z223 st224 hQ220
        subst l221 y222 z223
        obtain ⟨rfl, N230, e231⟩ := hQ220
        have N233 := Fr.app N197 N230
        have k234 : own_G p e below E0 T214 (mkF m 123 #[vi p0, vi p1, vi p2, vi (0 : Int32), vr qm, vi (-1 : Int32), vi (1 : Int32), vi bb, vd (18442240474082181120 : UInt64), ss, vd (9218868437227405312 : UInt64), ss, uu, uu, uu, uu, uu] [(.double (own_lead (qm = qm) (18442240474082181120 : UInt64) (9218868437227405312 : UInt64)))]) := fun t kk => k213 t (st224.trans kk)
        have k235 : own_G p e below E0 T214 (mkF m 167 #[vi p0, vi p1, vi p2, vi (0 : Int32), vr qm, vi (-1 : Int32), vi (1 : Int32), vi bb, vd (18442240474082181120 : UInt64), ss, vd (9218868437227405312 : UInt64), ss, vd (own_lead (qm = qm) (18442240474082181120 : UInt64) (9218868437227405312 : UInt64)), ss, vi (-1 : Int32), uu, uu] []) := by
          intro t kk
          refine k234 t ?_
          refine XS.dstore X218.here hx rfl (hb hby at_123) rfl (l' := #[vi p0, vi p1, vi p2, vi (0 : Int32), vr qm, vi (-1 : Int32), vi (1 : Int32), vi bb, vd (18442240474082181120 : UInt64), ss, vd (9218868437227405312 : UInt64), ss, vd (own_lead (qm = qm) (18442240474082181120 : UInt64) (9218868437227405312 : UInt64)), ss, uu, uu, uu]) rfl ?_
          refine XS.iloadN X218.here hx rfl (hb hby at_125) rfl ?_
          refine XS.ifYes X218.here hx rfl (pc0 := 126) (pc' := 133) rfl (hb hby at_126) rfl (own_if_eqY (by decide)) (by decide) (by decide) ?_
          refine XS.iconst X218.here hx rfl (hb hby at_133) ?_
          show Steps p.tables e below (T214.setTop (mkF m 134 #[vi p0, vi p1, vi p2, vi (0 : Int32), vr qm, vi (-1 : Int32), vi (1 : Int32), vi bb, vd (18442240474082181120 : UInt64), ss, vd (9218868437227405312 : UInt64), ss, vd (own_lead (qm = qm) (18442240474082181120 : UInt64) (9218868437227405312 : UInt64)), ss, uu, uu, uu] [(.int (-1 : Int32))])) t
          refine XS.istore X218.here hx rfl (hb hby at_134) rfl (l' := #[vi p0, vi p1, vi p2, vi (0 : Int32), vr qm, vi (-1 : Int32), vi (1 : Int32), vi bb, vd (18442240474082181120 : UInt64), ss, vd (9218868437227405312 : UInt64), ss, vd (own_lead (qm = qm) (18442240474082181120 : UInt64) (9218868437227405312 : UInt64)), ss, vi (-1 : Int32), uu, uu]) rfl ?_
          refine XS.iload X218.here hx rfl (hb hby at_136) rfl ?_
          refine XS.ifNo X218.here hx rfl (hb hby at_138) rfl (own_if_eqN (by decide)) ?_
          refine XS.iload X218.here hx rfl (hb hby at_141) rfl ?_
          show Steps p.tables e below (T214.setTop (mkF m 143 #[vi p0, vi p1, vi p2, vi (0 : Int32), vr qm, vi (-1 : Int32), vi (1 : Int32), vi bb, vd (18442240474082181120 : UInt64), ss, vd (9218868437227405312 : UInt64), ss, vd (own_lead (qm = qm) (18442240474082181120 : UInt64) (9218868437227405312 : UInt64)), ss, vi (-1 : Int32), uu, uu] [(.int (-1 : Int32))])) t
          refine XS.iload X218.here hx rfl (hb hby at_143) rfl ?_
          refine XS.icmpYes X218.here hx rfl (pc0 := 145) (pc' := 154) rfl (hb hby at_145) rfl (own_ic_neY (by decide)) (by decide) (by decide) ?_
          refine XS.iload X218.here hx rfl (hb hby at_154) rfl ?_
          refine XS.ifNo X218.here hx rfl (hb hby at_156) rfl (own_if_eqN (by decide)) ?_
          show Steps p.tables e below (T214.setTop (mkF m 159 #[vi p0, vi p1, vi p2, vi (0 : Int32), vr qm, vi (-1 : Int32), vi (1 : Int32), vi bb, vd (18442240474082181120 : UInt64), ss, vd (9218868437227405312 : UInt64), ss, vd (own_lead (qm = qm) (18442240474082181120 : UInt64) (9218868437227405312 : UInt64)), ss, vi (-1 : Int32), uu, uu] [])) t
          refine XS.iload X218.here hx rfl (hb hby at_159) rfl ?_
          refine XS.iload X218.here hx rfl (hb hby at_161) rfl ?_
          refine XS.imul X218.here hx rfl (hb hby at_163) rfl ?_
          refine XS.ifNo X218.here hx rfl (hb hby at_164) rfl (own_if_leN (by decide)) ?_
          exact kk
        have st236 := X218.ldc2DoubleC hx hown (mvT hZ (tw7 hw)) (g := (mkF m 167 #[vi p0, vi p1, vi p2, vi (0 : Int32), vr qm, vi (-1 : Int32), vi (1 : Int32), vi bb, vd (18442240474082181120 : UInt64), ss, vd (9218868437227405312 : UInt64), ss, vd (own_lead (qm = qm) (18442240474082181120 : UInt64) (9218868437227405312 : UInt64)), ss, vi (-1 : Int32), uu, uu] [])) rfl (hb hby at_167)
        have k237 : own_G p e below E0 T214 (mkF m 170 #[vi p0, vi p1, vi p2, vi (0 : Int32), vr qm, vi (-1 : Int32), vi (1 : Int32), vi bb, vd (18442240474082181120 : UInt64), ss, vd (9218868437227405312 : UInt64), ss, vd (own_lead (qm = qm) (18442240474082181120 : UInt64) (9218868437227405312 : UInt64)), ss, vi (-1 : Int32), uu, uu] [(.double (9218868437227405312 : UInt64))]) := fun t kk => k235 t (st236 _ kk)
        have k238 : own_G p e below E0 T214 (mkF m 243 #[vi p0, vi p1, vi p2, vi (0 : Int32), vr qm, vi (-1 : Int32), vi (1 : Int32), vi bb, vd (18442240474082181120 : UInt64), ss, vd (9218868437227405312 : UInt64), ss, vd (own_lead (qm = qm) (18442240474082181120 : UInt64) (9218868437227405312 : UInt64)), ss, vi (-1 : Int32), vd (9218868437227405312 : UInt64), ss] [(.int (1 : Int32))]) := by
          intro t kk
          refine k237 t ?_
          refine XS.goto X218.here hx rfl (pc0 := 170) (pc' := 176) rfl (hb hby at_170) (by decide) (by decide) ?_
          refine XS.dstore X218.here hx rfl (hb hby at_176) rfl (l' := #[vi p0, vi p1, vi p2, vi (0 : Int32), vr qm, vi (-1 : Int32), vi (1 : Int32), vi bb, vd (18442240474082181120 : UInt64), ss, vd (9218868437227405312 : UInt64), ss, vd (own_lead (qm = qm) (18442240474082181120 : UInt64) (9218868437227405312 : UInt64)), ss, vi (-1 : Int32), vd (9218868437227405312 : UInt64), ss]) rfl ?_
          refine XS.goto X218.here hx rfl (pc0 := 178) (pc' := 230) rfl (hb hby at_178) (by decide) (by decide) ?_
          refine XS.dload X218.here hx rfl (hb hby at_230) rfl ?_
          show Steps p.tables e below (T214.setTop (mkF m 232 #[vi p0, vi p1, vi p2, vi (0 : Int32), vr qm, vi (-1 : Int32), vi (1 : Int32), vi bb, vd (18442240474082181120 : UInt64), ss, vd (9218868437227405312 : UInt64), ss, vd (own_lead (qm = qm) (18442240474082181120 : UInt64) (9218868437227405312 : UInt64)), ss, vi (-1 : Int32), vd (9218868437227405312 : UInt64), ss] [(.double (own_lead (qm = qm) (18442240474082181120 : UInt64) (9218868437227405312 : UInt64)))])) t
          refine XS.dload X218.here hx rfl (hb hby at_232) rfl ?_
          refine XS.dcmpS (v := (0 : Int32)) X218.here hx rfl (hb hby at_234) rfl (own_iiY rfl own_vN own_vP own_vP) ?_
          refine XS.ifNo X218.here hx rfl (hb hby at_235) rfl (own_if_neN (by decide)) ?_
          refine XS.iconst X218.here hx rfl (hb hby at_238) ?_
          show Steps p.tables e below (T214.setTop (mkF m 239 #[vi p0, vi p1, vi p2, vi (0 : Int32), vr qm, vi (-1 : Int32), vi (1 : Int32), vi bb, vd (18442240474082181120 : UInt64), ss, vd (9218868437227405312 : UInt64), ss, vd (own_lead (qm = qm) (18442240474082181120 : UInt64) (9218868437227405312 : UInt64)), ss, vi (-1 : Int32), vd (9218868437227405312 : UInt64), ss] [(.int (1 : Int32))])) t
          refine XS.goto X218.here hx rfl (pc0 := 239) (pc' := 243) rfl (hb hby at_239) (by decide) (by decide) ?_
          exact kk
        obtain ⟨fs, hr, hrun, hended, hW, hsame⟩ := X218.leave (v := some (.int (1 : Int32))) (fun h => by rw [Bd.returns] at h; cases h)
        have hrun0 := k238 _ (retOut X218 hx Bd.returns (t := .boolean) rfl (Or.inl ⟨rfl, Or.inr (Or.inl rfl), _, rfl⟩) (hb hby at_243) hr)
        subst hE0
        refine ⟨_, _, hrun0, hrun, hended, _, _, rfl, ?_, ⟨_, rfl⟩, hW, hsame.mono (by decide) (by decide)⟩
        show Qrm0 Z p0 p1 p2 qm qM h0 n0 _ T214.heap _
        rw [e231]
        exact ⟨rfl, N233⟩
      · skip
        have k239 : own_G p e below E0 T181 (mkF m 50 #[vi p0, vi p1, vi p2, vi (0 : Int32), vr qm, vi (-1 : Int32), vi (-1 : Int32), uu, uu, uu, uu, uu, uu, uu, uu, uu, uu] [(.int (32 : Int32)), (.int p2)]) := by
          intro t kk
          refine k198 t ?_
          refine XS.istore X185.here hx rfl (hb hby at_45) rfl (l' := #[vi p0, vi p1, vi p2, vi (0 : Int32), vr qm, vi (-1 : Int32), vi (-1 : Int32), uu, uu, uu, uu, uu, uu, uu, uu, uu, uu]) rfl ?_
          refine XS.iloadN X185.here hx rfl (hb hby at_47) rfl ?_
          refine XS.bipush X185.here hx rfl (hb hby at_48) ?_
          exact kk
        have jn245 : ∃ (bb : Int32), ((((p2 &&& (32 : Int32)) = 0) ∧ bb = p1) ∨ (¬ ((p2 &&& (32 : Int32)) = 0) ∧ bb = p0)) ∧ (own_G p e below E0 T181 (mkF m 59 #[vi p0, vi p1, vi p2, vi (0 : Int32), vr qm, vi (-1 : Int32), vi (-1 : Int32), uu, uu, uu, uu, uu, uu, uu, uu, uu, uu] [(.int bb)])) := by
          have k240 : own_G p e below E0 T181 (mkF m 51 #[vi p0, vi p1, vi p2, vi (0 : Int32), vr qm, vi (-1 : Int32), vi (-1 : Int32), uu, uu, uu, uu, uu, uu, uu, uu, uu, uu] [(.int (p2 &&& (32 : Int32)))]) := by
            intro t kk
            refine k239 t ?_
            refine XS.iand X185.here hx rfl (hb hby at_50) rfl ?_
            exact kk
          by_cases c241 : (p2 &&& (32 : Int32)) = 0
          · skip
            have k242 : own_G p e below E0 T181 (mkF m 59 #[vi p0, vi p1, vi p2, vi (0 : Int32), vr qm, vi (-1 : Int32), vi (-1 : Int32), uu, uu, uu, uu, uu, uu, uu, uu, uu, uu] [(.int p1)]) := by
              intro t kk
              refine k240 t ?_
              refine XS.ifYes X185.here hx rfl (pc0 := 51) (pc' := 58) rfl (hb hby at_51) rfl (own_if_eqY c241) (by decide) (by decide) ?_
              refine XS.iloadN X185.here hx rfl (hb hby at_58) rfl ?_
              exact kk
            exact ⟨p1, (Or.inl (⟨c241, rfl⟩)), k242⟩
          · skip
            have k243 : own_G p e below E0 T181 (mkF m 59 #[vi p0, vi p1, vi p2, vi (0 : Int32), vr qm, vi (-1 : Int32), vi (-1 : Int32), uu, uu, uu, uu, uu, uu, uu, uu, uu, uu] [(.int p0)]) := by
              intro t kk
              refine k240 t ?_
              refine XS.ifNo X185.here hx rfl (hb hby at_51) rfl (own_if_eqN c241) ?_
              refine XS.iloadN X185.here hx rfl (hb hby at_54) rfl ?_
              refine XS.goto X185.here hx rfl (pc0 := 55) (pc' := 59) rfl (hb hby at_55) (by decide) (by decide) ?_
              exact kk
            exact ⟨p0, (Or.inr (⟨c241, rfl⟩)), k243⟩
        obtain ⟨bb, hD246, k244⟩ := jn245
        have k247 : own_G p e below E0 T181 (mkF m 82 #[vi p0, vi p1, vi p2, vi (0 : Int32), vr qm, vi (-1 : Int32), vi (-1 : Int32), vi bb, uu, uu, uu, uu, uu, uu, uu, uu, uu] []) := by
          intro t kk
          refine k244 t ?_
          refine XS.istore X185.here hx rfl (hb hby at_59) rfl (l' := #[vi p0, vi p1, vi p2, vi (0 : Int32), vr qm, vi (-1 : Int32), vi (-1 : Int32), vi bb, uu, uu, uu, uu, uu, uu, uu, uu, uu]) rfl ?_
          refine XS.iload X185.here hx rfl (hb hby at_61) rfl ?_
          refine XS.ifYes X185.here hx rfl (pc0 := 63) (pc' := 71) rfl (hb hby at_63) rfl (own_if_neY (by decide)) (by decide) (by decide) ?_
          refine XS.iload X185.here hx rfl (hb hby at_71) rfl ?_
          show Steps p.tables e below (T181.setTop (mkF m 73 #[vi p0, vi p1, vi p2, vi (0 : Int32), vr qm, vi (-1 : Int32), vi (-1 : Int32), vi bb, uu, uu, uu, uu, uu, uu, uu, uu, uu] [(.int (-1 : Int32))])) t
          refine XS.ifYes X185.here hx rfl (pc0 := 73) (pc' := 82) rfl (hb hby at_73) rfl (own_if_leY (by decide)) (by decide) (by decide) ?_
          exact kk
        have st248 := X185.ldc2DoubleC hx hown (mvT hZ (tw14 hw)) (g := (mkF m 82 #[vi p0, vi p1, vi p2, vi (0 : Int32), vr qm, vi (-1 : Int32), vi (-1 : Int32), vi bb, uu, uu, uu, uu, uu, uu, uu, uu, uu] [])) rfl (hb hby at_82)
        have k249 : own_G p e below E0 T181 (mkF m 85 #[vi p0, vi p1, vi p2, vi (0 : Int32), vr qm, vi (-1 : Int32), vi (-1 : Int32), vi bb, uu, uu, uu, uu, uu, uu, uu, uu, uu] [(.double (18442240474082181120 : UInt64))]) := fun t kk => k247 t (st248 _ kk)
        have k250 : own_G p e below E0 T181 (mkF m 109 #[vi p0, vi p1, vi p2, vi (0 : Int32), vr qm, vi (-1 : Int32), vi (-1 : Int32), vi bb, vd (18442240474082181120 : UInt64), ss, uu, uu, uu, uu, uu, uu, uu] []) := by
          intro t kk
          refine k249 t ?_
          refine XS.dstore X185.here hx rfl (hb hby at_85) rfl (l' := #[vi p0, vi p1, vi p2, vi (0 : Int32), vr qm, vi (-1 : Int32), vi (-1 : Int32), vi bb, vd (18442240474082181120 : UInt64), ss, uu, uu, uu, uu, uu, uu, uu]) rfl ?_
          refine XS.iload X185.here hx rfl (hb hby at_87) rfl ?_
          refine XS.ifYes X185.here hx rfl (pc0 := 89) (pc' := 98) rfl (hb hby at_89) rfl (own_if_neY (by decide)) (by decide) (by decide) ?_
          refine XS.iload X185.here hx rfl (hb hby at_98) rfl ?_
          show Steps p.tables e below (T181.setTop (mkF m 100 #[vi p0, vi p1, vi p2, vi (0 : Int32), vr qm, vi (-1 : Int32), vi (-1 : Int32), vi bb, vd (18442240474082181120 : UInt64), ss, uu, uu, uu, uu, uu, uu, uu] [(.int (-1 : Int32))])) t
          refine XS.ifYes X185.here hx rfl (pc0 := 100) (pc' := 109) rfl (hb hby at_100) rfl (own_if_leY (by decide)) (by decide) (by decide) ?_
          exact kk
        have st251 := X185.ldc2DoubleC hx hown (mvT hZ (tw14 hw)) (g := (mkF m 109 #[vi p0, vi p1, vi p2, vi (0 : Int32), vr qm, vi (-1 : Int32), vi (-1 : Int32), vi bb, vd (18442240474082181120 : UInt64), ss, uu, uu, uu, uu, uu, uu, uu] [])) rfl (hb hby at_109)
        have k252 : own_G p e below E0 T181 (mkF m 112 #[vi p0, vi p1, vi p2, vi (0 : Int32), vr qm, vi (-1 : Int32), vi (-1 : Int32), vi bb, vd (18442240474082181120 : UInt64), ss, uu, uu, uu, uu, uu, uu, uu] [(.double (18442240474082181120 : UInt64))]) := fun t kk => k250 t (st251 _ kk)
        have k253 : own_G p e below E0 T181 (mkF m 120 #[vi p0, vi p1, vi p2, vi (0 : Int32), vr qm, vi (-1 : Int32), vi (-1 : Int32), vi bb, vd (18442240474082181120 : UInt64), ss, vd (18442240474082181120 : UInt64), ss, uu, uu, uu, uu, uu] [(.double (18442240474082181120 : UInt64)), (.double (18442240474082181120 : UInt64)), (.ref qm)]) := by
          intro t kk
          refine k252 t ?_
          refine XS.dstore X185.here hx rfl (hb hby at_112) rfl (l' := #[vi p0, vi p1, vi p2, vi (0 : Int32), vr qm, vi (-1 : Int32), vi (-1 : Int32), vi bb, vd (18442240474082181120 : UInt64), ss, vd (18442240474082181120 : UInt64), ss, uu, uu, uu, uu, uu]) rfl ?_
          refine XS.aload X185.here hx rfl (hb hby at_114) rfl rfl ?_
          refine XS.dload X185.here hx rfl (hb hby at_116) rfl ?_
          refine XS.dload X185.here hx rfl (hb hby at_118) rfl ?_
          exact kk
        obtain ⟨cq265, kq266, qa267, qb268, qc269⟩ := isOf hZ e193 E1
        obtain ⟨_, _, ⟨T254, L255, kc256, nc257⟩, -, X258, ⟨Lc259, hQ260, l261, y262, z263⟩, st264⟩ := X185.virtualBack hx (y := mn1) (z := mn1) hown (mvT hZ (tw8 hw)) (mvT hZ (tw9 hw)) (notFace_of_selects (args := #[]) (mvT hZ (tw11 hw))) (mvT hZ (tw11 hw)) (mvT hZ (tw10 hw)) (by decide) (backOf (W := 0) (rm1 l Z a0 hw [] qm (18442240474082181120 : UInt64) (18442240474082181120 : UInt64) qm h0 n0 Z0 S1 own_nnN own_nnN (fun z => absurd rfl z)) hZ (tw12 hw) (tw1 hw) (by decide) (by decide)) qa267 qc269 (g := (mkF m 120 #[vi p0, vi p1, vi p2, vi (0 : Int32), vr qm, vi (-1 : Int32), vi (-1 : Int32), vi bb, vd (18442240474082181120 : UInt64), ss, vd (18442240474082181120 : UInt64), ss, uu, uu, uu, uu, uu] [(.double (18442240474082181120 : UInt64)), (.double (18442240474082181120 : UInt64)), (.ref qm)])) rfl (by rw [hml]; rfl) (Steps.refl _) (argsL := [(.double (18442240474082181120 : UInt64)), (.double (18442240474082181120 : UInt64))]) (rest := []) (lenOf pd_4 rfl) rfl (by show 2 * 0 + _ ≤ _; exact Nat.le_of_eq rfl) (hb hby at_120) (fun _ _ => ⟨rfl, e193, (by decide : 0 + 0 ≤ _), (by decide : 0 + 0 ≤ _)⟩)
        dsimp only [Pt.U, Pt.locs, Pt.cells, Pt.slots] at X258 l261 y262 z263 st264 hQ260
        subst l261 y262 z263
        obtain ⟨rfl, N270, e271⟩ := hQ260
        have N273 := Fr.app N197 N270
        have k274 : own_G p e below E0 T254 (mkF m 123 #[vi p0, vi p1, vi p2, vi (0 : Int32), vr qm, vi (-1 : Int32), vi (-1 : Int32), vi bb, vd (18442240474082181120 : UInt64), ss, vd (18442240474082181120 : UInt64), ss, uu, uu, uu, uu, uu] [(.double (own_lead (qm = qm) (18442240474082181120 : UInt64) (18442240474082181120 : UInt64)))]) := fun t kk => k253 t (st264.trans kk)
        have k275 : own_G p e below E0 T254 (mkF m 243 #[vi p0, vi p1, vi p2, vi (0 : Int32), vr qm, vi (-1 : Int32), vi (-1 : Int32), vi bb, vd (18442240474082181120 : UInt64), ss, vd (18442240474082181120 : UInt64), ss, vd (own_lead (qm = qm) (18442240474082181120 : UInt64) (18442240474082181120 : UInt64)), ss, vi (-1 : Int32), vd FP.dconst0, ss] [(.int (1 : Int32))]) := by
          intro t kk
          refine k274 t ?_
          refine XS.dstore X258.here hx rfl (hb hby at_123) rfl (l' := #[vi p0, vi p1, vi p2, vi (0 : Int32), vr qm, vi (-1 : Int32), vi (-1 : Int32), vi bb, vd (18442240474082181120 : UInt64), ss, vd (18442240474082181120 : UInt64), ss, vd (own_lead (qm = qm) (18442240474082181120 : UInt64) (18442240474082181120 : UInt64)), ss, uu, uu, uu]) rfl ?_
          refine XS.iloadN X258.here hx rfl (hb hby at_125) rfl ?_
          refine XS.ifYes X258.here hx rfl (pc0 := 126) (pc' := 133) rfl (hb hby at_126) rfl (own_if_eqY (by decide)) (by decide) (by decide) ?_
          refine XS.iconst X258.here hx rfl (hb hby at_133) ?_
          show Steps p.tables e below (T254.setTop (mkF m 134 #[vi p0, vi p1, vi p2, vi (0 : Int32), vr qm, vi (-1 : Int32), vi (-1 : Int32), vi bb, vd (18442240474082181120 : UInt64), ss, vd (18442240474082181120 : UInt64), ss, vd (own_lead (qm = qm) (18442240474082181120 : UInt64) (18442240474082181120 : UInt64)), ss, uu, uu, uu] [(.int (-1 : Int32))])) t
          refine XS.istore X258.here hx rfl (hb hby at_134) rfl (l' := #[vi p0, vi p1, vi p2, vi (0 : Int32), vr qm, vi (-1 : Int32), vi (-1 : Int32), vi bb, vd (18442240474082181120 : UInt64), ss, vd (18442240474082181120 : UInt64), ss, vd (own_lead (qm = qm) (18442240474082181120 : UInt64) (18442240474082181120 : UInt64)), ss, vi (-1 : Int32), uu, uu]) rfl ?_
          refine XS.iload X258.here hx rfl (hb hby at_136) rfl ?_
          refine XS.ifNo X258.here hx rfl (hb hby at_138) rfl (own_if_eqN (by decide)) ?_
          refine XS.iload X258.here hx rfl (hb hby at_141) rfl ?_
          show Steps p.tables e below (T254.setTop (mkF m 143 #[vi p0, vi p1, vi p2, vi (0 : Int32), vr qm, vi (-1 : Int32), vi (-1 : Int32), vi bb, vd (18442240474082181120 : UInt64), ss, vd (18442240474082181120 : UInt64), ss, vd (own_lead (qm = qm) (18442240474082181120 : UInt64) (18442240474082181120 : UInt64)), ss, vi (-1 : Int32), uu, uu] [(.int (-1 : Int32))])) t
          refine XS.iload X258.here hx rfl (hb hby at_143) rfl ?_
          refine XS.icmpNo X258.here hx rfl (hb hby at_145) rfl (own_ic_neN (by decide)) ?_
          refine XS.dconst0 X258.here hx rfl (hb hby at_148) rfl ?_
          refine XS.dstore X258.here hx rfl (hb hby at_149) rfl (l' := #[vi p0, vi p1, vi p2, vi (0 : Int32), vr qm, vi (-1 : Int32), vi (-1 : Int32), vi bb, vd (18442240474082181120 : UInt64), ss, vd (18442240474082181120 : UInt64), ss, vd (own_lead (qm = qm) (18442240474082181120 : UInt64) (18442240474082181120 : UInt64)), ss, vi (-1 : Int32), vd FP.dconst0, ss]) rfl ?_
          show Steps p.tables e below (T254.setTop (mkF m 151 #[vi p0, vi p1, vi p2, vi (0 : Int32), vr qm, vi (-1 : Int32), vi (-1 : Int32), vi bb, vd (18442240474082181120 : UInt64), ss, vd (18442240474082181120 : UInt64), ss, vd (own_lead (qm = qm) (18442240474082181120 : UInt64) (18442240474082181120 : UInt64)), ss, vi (-1 : Int32), vd FP.dconst0, ss] [])) t
          refine XS.goto X258.here hx rfl (pc0 := 151) (pc' := 230) rfl (hb hby at_151) (by decide) (by decide) ?_
          refine XS.dload X258.here hx rfl (hb hby at_230) rfl ?_
          refine XS.dload X258.here hx rfl (hb hby at_232) rfl ?_
          refine XS.dcmpS (v := (0 : Int32)) X258.here hx rfl (hb hby at_234) rfl (dcmpV_eq (own_lead_same _ _) (own_lead_same (qm = qm) (18442240474082181120 : UInt64) ▸ own_nn own_d0) .l) ?_
          show Steps p.tables e below (T254.setTop (mkF m 235 #[vi p0, vi p1, vi p2, vi (0 : Int32), vr qm, vi (-1 : Int32), vi (-1 : Int32), vi bb, vd (18442240474082181120 : UInt64), ss, vd (18442240474082181120 : UInt64), ss, vd (own_lead (qm = qm) (18442240474082181120 : UInt64) (18442240474082181120 : UInt64)), ss, vi (-1 : Int32), vd FP.dconst0, ss] [(.int (0 : Int32))])) t
          refine XS.ifNo X258.here hx rfl (hb hby at_235) rfl (own_if_neN (by decide)) ?_
          refine XS.iconst X258.here hx rfl (hb hby at_238) ?_
          refine XS.goto X258.here hx rfl (pc0 := 239) (pc' := 243) rfl (hb hby at_239) (by decide) (by decide) ?_
          exact kk
        obtain ⟨fs, hr, hrun, hended, hW, hsame⟩ := X258.leave (v := some (.int (1 : Int32))) (fun h => by rw [Bd.returns] at h; cases h)
        have hrun0 := k275 _ (retOut X258 hx Bd.returns (t := .boolean) rfl (Or.inl ⟨rfl, Or.inr (Or.inl rfl), _, rfl⟩) (hb hby at_243) hr)
        subst hE0
        refine ⟨_, _, hrun0, hrun, hended, _, _, rfl, ?_, ⟨_, rfl⟩, hW, hsame.mono (by decide) (by decide)⟩
        show Qrm0 Z p0 p1 p2 qm qM h0 n0 _ T254.heap _
        rw [e271]
        exact ⟨rfl, N273⟩
      · skip
        have k276 : own_G p e below E0 T181 (mkF m 50 #[vi p0, vi p1, vi p2, vi (0 : Int32), vr qm, vi (-1 : Int32), vi (0 : Int32), uu, uu, uu, uu, uu, uu, uu, uu, uu, uu] [(.int (32 : Int32)), (.int p2)]) := by
          intro t kk
          refine k198 t ?_
          refine XS.istore X185.here hx rfl (hb hby at_45) rfl (l' := #[vi p0, vi p1, vi p2, vi (0 : Int32), vr qm, vi (-1 : Int32), vi (0 : Int32), uu, uu, uu, uu, uu, uu, uu, uu, uu, uu]) rfl ?_
          refine XS.iloadN X185.here hx rfl (hb hby at_47) rfl ?_
          refine XS.bipush X185.here hx rfl (hb hby at_48) ?_
          exact kk
        have jn282 : ∃ (bb : Int32), ((((p2 &&& (32 : Int32)) = 0) ∧ bb = p1) ∨ (¬ ((p2 &&& (32 : Int32)) = 0) ∧ bb = p0)) ∧ (own_G p e below E0 T181 (mkF m 59 #[vi p0, vi p1, vi p2, vi (0 : Int32), vr qm, vi (-1 : Int32), vi (0 : Int32), uu, uu, uu, uu, uu, uu, uu, uu, uu, uu] [(.int bb)])) := by
          have k277 : own_G p e below E0 T181 (mkF m 51 #[vi p0, vi p1, vi p2, vi (0 : Int32), vr qm, vi (-1 : Int32), vi (0 : Int32), uu, uu, uu, uu, uu, uu, uu, uu, uu, uu] [(.int (p2 &&& (32 : Int32)))]) := by
            intro t kk
            refine k276 t ?_
            refine XS.iand X185.here hx rfl (hb hby at_50) rfl ?_
            exact kk
          by_cases c278 : (p2 &&& (32 : Int32)) = 0
          · skip
            have k279 : own_G p e below E0 T181 (mkF m 59 #[vi p0, vi p1, vi p2, vi (0 : Int32), vr qm, vi (-1 : Int32), vi (0 : Int32), uu, uu, uu, uu, uu, uu, uu, uu, uu, uu] [(.int p1)]) := by
              intro t kk
              refine k277 t ?_
              refine XS.ifYes X185.here hx rfl (pc0 := 51) (pc' := 58) rfl (hb hby at_51) rfl (own_if_eqY c278) (by decide) (by decide) ?_
              refine XS.iloadN X185.here hx rfl (hb hby at_58) rfl ?_
              exact kk
            exact ⟨p1, (Or.inl (⟨c278, rfl⟩)), k279⟩
          · skip
            have k280 : own_G p e below E0 T181 (mkF m 59 #[vi p0, vi p1, vi p2, vi (0 : Int32), vr qm, vi (-1 : Int32), vi (0 : Int32), uu, uu, uu, uu, uu, uu, uu, uu, uu, uu] [(.int p0)]) := by
              intro t kk
              refine k277 t ?_
              refine XS.ifNo X185.here hx rfl (hb hby at_51) rfl (own_if_eqN c278) ?_
              refine XS.iloadN X185.here hx rfl (hb hby at_54) rfl ?_
              refine XS.goto X185.here hx rfl (pc0 := 55) (pc' := 59) rfl (hb hby at_55) (by decide) (by decide) ?_
              exact kk
            exact ⟨p0, (Or.inr (⟨c278, rfl⟩)), k280⟩
        obtain ⟨bb, hD283, k281⟩ := jn282
        have k284 : own_G p e below E0 T181 (mkF m 82 #[vi p0, vi p1, vi p2, vi (0 : Int32), vr qm, vi (-1 : Int32), vi (0 : Int32), vi bb, uu, uu, uu, uu, uu, uu, uu, uu, uu] []) := by
          intro t kk
          refine k281 t ?_
          refine XS.istore X185.here hx rfl (hb hby at_59) rfl (l' := #[vi p0, vi p1, vi p2, vi (0 : Int32), vr qm, vi (-1 : Int32), vi (0 : Int32), vi bb, uu, uu, uu, uu, uu, uu, uu, uu, uu]) rfl ?_
          refine XS.iload X185.here hx rfl (hb hby at_61) rfl ?_
          refine XS.ifYes X185.here hx rfl (pc0 := 63) (pc' := 71) rfl (hb hby at_63) rfl (own_if_neY (by decide)) (by decide) (by decide) ?_
          refine XS.iload X185.here hx rfl (hb hby at_71) rfl ?_
          show Steps p.tables e below (T181.setTop (mkF m 73 #[vi p0, vi p1, vi p2, vi (0 : Int32), vr qm, vi (-1 : Int32), vi (0 : Int32), vi bb, uu, uu, uu, uu, uu, uu, uu, uu, uu] [(.int (-1 : Int32))])) t
          refine XS.ifYes X185.here hx rfl (pc0 := 73) (pc' := 82) rfl (hb hby at_73) rfl (own_if_leY (by decide)) (by decide) (by decide) ?_
          exact kk
        have st285 := X185.ldc2DoubleC hx hown (mvT hZ (tw14 hw)) (g := (mkF m 82 #[vi p0, vi p1, vi p2, vi (0 : Int32), vr qm, vi (-1 : Int32), vi (0 : Int32), vi bb, uu, uu, uu, uu, uu, uu, uu, uu, uu] [])) rfl (hb hby at_82)
        have k286 : own_G p e below E0 T181 (mkF m 85 #[vi p0, vi p1, vi p2, vi (0 : Int32), vr qm, vi (-1 : Int32), vi (0 : Int32), vi bb, uu, uu, uu, uu, uu, uu, uu, uu, uu] [(.double (18442240474082181120 : UInt64))]) := fun t kk => k284 t (st285 _ kk)
        have k287 : own_G p e below E0 T181 (mkF m 120 #[vi p0, vi p1, vi p2, vi (0 : Int32), vr qm, vi (-1 : Int32), vi (0 : Int32), vi bb, vd (18442240474082181120 : UInt64), ss, vd (FP.i2d bb), ss, uu, uu, uu, uu, uu] [(.double (FP.i2d bb)), (.double (18442240474082181120 : UInt64)), (.ref qm)]) := by
          intro t kk
          refine k286 t ?_
          refine XS.dstore X185.here hx rfl (hb hby at_85) rfl (l' := #[vi p0, vi p1, vi p2, vi (0 : Int32), vr qm, vi (-1 : Int32), vi (0 : Int32), vi bb, vd (18442240474082181120 : UInt64), ss, uu, uu, uu, uu, uu, uu, uu]) rfl ?_
          refine XS.iload X185.here hx rfl (hb hby at_87) rfl ?_
          refine XS.ifNo X185.here hx rfl (hb hby at_89) rfl (own_if_neN (by decide)) ?_
          refine XS.iload X185.here hx rfl (hb hby at_92) rfl ?_
          show Steps p.tables e below (T181.setTop (mkF m 94 #[vi p0, vi p1, vi p2, vi (0 : Int32), vr qm, vi (-1 : Int32), vi (0 : Int32), vi bb, vd (18442240474082181120 : UInt64), ss, uu, uu, uu, uu, uu, uu, uu] [(.int bb)])) t
          refine XS.i2dS X185.here hx rfl (hb hby at_94) rfl rfl ?_
          refine XS.goto X185.here hx rfl (pc0 := 95) (pc' := 112) rfl (hb hby at_95) (by decide) (by decide) ?_
          refine XS.dstore X185.here hx rfl (hb hby at_112) rfl (l' := #[vi p0, vi p1, vi p2, vi (0 : Int32), vr qm, vi (-1 : Int32), vi (0 : Int32), vi bb, vd (18442240474082181120 : UInt64), ss, vd (FP.i2d bb), ss, uu, uu, uu, uu, uu]) rfl ?_
          refine XS.aload X185.here hx rfl (hb hby at_114) rfl rfl ?_
          show Steps p.tables e below (T181.setTop (mkF m 116 #[vi p0, vi p1, vi p2, vi (0 : Int32), vr qm, vi (-1 : Int32), vi (0 : Int32), vi bb, vd (18442240474082181120 : UInt64), ss, vd (FP.i2d bb), ss, uu, uu, uu, uu, uu] [(.ref qm)])) t
          refine XS.dload X185.here hx rfl (hb hby at_116) rfl ?_
          refine XS.dload X185.here hx rfl (hb hby at_118) rfl ?_
          exact kk
        obtain ⟨cq299, kq300, qa301, qb302, qc303⟩ := isOf hZ e193 E1
        obtain ⟨_, _, ⟨T288, L289, kc290, nc291⟩, -, X292, ⟨Lc293, hQ294, l295, y296, z297⟩, st298⟩ := X185.virtualBack hx (y := mn1) (z := mn1) hown (mvT hZ (tw8 hw)) (mvT hZ (tw9 hw)) (notFace_of_selects (args := #[]) (mvT hZ (tw11 hw))) (mvT hZ (tw11 hw)) (mvT hZ (tw10 hw)) (by decide) (backOf (W := 0) (rm1 l Z a0 hw [] qm (18442240474082181120 : UInt64) (FP.i2d bb) qm h0 n0 Z0 S1 own_nnN (Fl.i2d_fin bb).noNaN (own_hn_if own_vN (Fl.i2d_fin bb))) hZ (tw12 hw) (tw1 hw) (by decide) (by decide)) qa301 qc303 (g := (mkF m 120 #[vi p0, vi p1, vi p2, vi (0 : Int32), vr qm, vi (-1 : Int32), vi (0 : Int32), vi bb, vd (18442240474082181120 : UInt64), ss, vd (FP.i2d bb), ss, uu, uu, uu, uu, uu] [(.double (FP.i2d bb)), (.double (18442240474082181120 : UInt64)), (.ref qm)])) rfl (by rw [hml]; rfl) (Steps.refl _) (argsL := [(.double (18442240474082181120 : UInt64)), (.double (FP.i2d bb))]) (rest := []) (lenOf pd_4 rfl) rfl (by show 2 * 0 + _ ≤ _; exact Nat.le_of_eq rfl) (hb hby at_120) (fun _ _ => ⟨rfl, e193, (by decide : 0 + 0 ≤ _), (by decide : 0 + 0 ≤ _)⟩)
        dsimp only [Pt.U, Pt.locs, Pt.cells, Pt.slots] at X292 l295 y296 z297 st298 hQ294
        subst l295 y296 z297
        obtain ⟨rfl, N304, e305⟩ := hQ294
        have N307 := Fr.app N197 N304
        have k308 : own_G p e below E0 T288 (mkF m 123 #[vi p0, vi p1, vi p2, vi (0 : Int32), vr qm, vi (-1 : Int32), vi (0 : Int32), vi bb, vd (18442240474082181120 : UInt64), ss, vd (FP.i2d bb), ss, uu, uu, uu, uu, uu] [(.double (own_lead (qm = qm) (18442240474082181120 : UInt64) (FP.i2d bb)))]) := fun t kk => k287 t (st298.trans kk)
        have k309 : own_G p e below E0 T288 (mkF m 167 #[vi p0, vi p1, vi p2, vi (0 : Int32), vr qm, vi (-1 : Int32), vi (0 : Int32), vi bb, vd (18442240474082181120 : UInt64), ss, vd (FP.i2d bb), ss, vd (own_lead (qm = qm) (18442240474082181120 : UInt64) (FP.i2d bb)), ss, vi (-1 : Int32), uu, uu] []) := by
          intro t kk
          refine k308 t ?_
          refine XS.dstore X292.here hx rfl (hb hby at_123) rfl (l' := #[vi p0, vi p1, vi p2, vi (0 : Int32), vr qm, vi (-1 : Int32), vi (0 : Int32), vi bb, vd (18442240474082181120 : UInt64), ss, vd (FP.i2d bb), ss, vd (own_lead (qm = qm) (18442240474082181120 : UInt64) (FP.i2d bb)), ss, uu, uu, uu]) rfl ?_
          refine XS.iloadN X292.here hx rfl (hb hby at_125) rfl ?_
          refine XS.ifYes X292.here hx rfl (pc0 := 126) (pc' := 133) rfl (hb hby at_126) rfl (own_if_eqY (by decide)) (by decide) (by decide) ?_
          refine XS.iconst X292.here hx rfl (hb hby at_133) ?_
          show Steps p.tables e below (T288.setTop (mkF m 134 #[vi p0, vi p1, vi p2, vi (0 : Int32), vr qm, vi (-1 : Int32), vi (0 : Int32), vi bb, vd (18442240474082181120 : UInt64), ss, vd (FP.i2d bb), ss, vd (own_lead (qm = qm) (18442240474082181120 : UInt64) (FP.i2d bb)), ss, uu, uu, uu] [(.int (-1 : Int32))])) t
          refine XS.istore X292.here hx rfl (hb hby at_134) rfl (l' := #[vi p0, vi p1, vi p2, vi (0 : Int32), vr qm, vi (-1 : Int32), vi (0 : Int32), vi bb, vd (18442240474082181120 : UInt64), ss, vd (FP.i2d bb), ss, vd (own_lead (qm = qm) (18442240474082181120 : UInt64) (FP.i2d bb)), ss, vi (-1 : Int32), uu, uu]) rfl ?_
          refine XS.iload X292.here hx rfl (hb hby at_136) rfl ?_
          refine XS.ifNo X292.here hx rfl (hb hby at_138) rfl (own_if_eqN (by decide)) ?_
          refine XS.iload X292.here hx rfl (hb hby at_141) rfl ?_
          show Steps p.tables e below (T288.setTop (mkF m 143 #[vi p0, vi p1, vi p2, vi (0 : Int32), vr qm, vi (-1 : Int32), vi (0 : Int32), vi bb, vd (18442240474082181120 : UInt64), ss, vd (FP.i2d bb), ss, vd (own_lead (qm = qm) (18442240474082181120 : UInt64) (FP.i2d bb)), ss, vi (-1 : Int32), uu, uu] [(.int (-1 : Int32))])) t
          refine XS.iload X292.here hx rfl (hb hby at_143) rfl ?_
          refine XS.icmpYes X292.here hx rfl (pc0 := 145) (pc' := 154) rfl (hb hby at_145) rfl (own_ic_neY (by decide)) (by decide) (by decide) ?_
          refine XS.iload X292.here hx rfl (hb hby at_154) rfl ?_
          refine XS.ifNo X292.here hx rfl (hb hby at_156) rfl (own_if_eqN (by decide)) ?_
          show Steps p.tables e below (T288.setTop (mkF m 159 #[vi p0, vi p1, vi p2, vi (0 : Int32), vr qm, vi (-1 : Int32), vi (0 : Int32), vi bb, vd (18442240474082181120 : UInt64), ss, vd (FP.i2d bb), ss, vd (own_lead (qm = qm) (18442240474082181120 : UInt64) (FP.i2d bb)), ss, vi (-1 : Int32), uu, uu] [])) t
          refine XS.iload X292.here hx rfl (hb hby at_159) rfl ?_
          refine XS.iload X292.here hx rfl (hb hby at_161) rfl ?_
          refine XS.imul X292.here hx rfl (hb hby at_163) rfl ?_
          refine XS.ifNo X292.here hx rfl (hb hby at_164) rfl (own_if_leN (by decide)) ?_
          exact kk
        have st310 := X292.ldc2DoubleC hx hown (mvT hZ (tw7 hw)) (g := (mkF m 167 #[vi p0, vi p1, vi p2, vi (0 : Int32), vr qm, vi (-1 : Int32), vi (0 : Int32), vi bb, vd (18442240474082181120 : UInt64), ss, vd (FP.i2d bb), ss, vd (own_lead (qm = qm) (18442240474082181120 : UInt64) (FP.i2d bb)), ss, vi (-1 : Int32), uu, uu] [])) rfl (hb hby at_167)
        have k311 : own_G p e below E0 T288 (mkF m 170 #[vi p0, vi p1, vi p2, vi (0 : Int32), vr qm, vi (-1 : Int32), vi (0 : Int32), vi bb, vd (18442240474082181120 : UInt64), ss, vd (FP.i2d bb), ss, vd (own_lead (qm = qm) (18442240474082181120 : UInt64) (FP.i2d bb)), ss, vi (-1 : Int32), uu, uu] [(.double (9218868437227405312 : UInt64))]) := fun t kk => k309 t (st310 _ kk)
        have k312 : own_G p e below E0 T288 (mkF m 243 #[vi p0, vi p1, vi p2, vi (0 : Int32), vr qm, vi (-1 : Int32), vi (0 : Int32), vi bb, vd (18442240474082181120 : UInt64), ss, vd (FP.i2d bb), ss, vd (own_lead (qm = qm) (18442240474082181120 : UInt64) (FP.i2d bb)), ss, vi (-1 : Int32), vd (9218868437227405312 : UInt64), ss] [(.int (1 : Int32))]) := by
          intro t kk
          refine k311 t ?_
          refine XS.goto X292.here hx rfl (pc0 := 170) (pc' := 176) rfl (hb hby at_170) (by decide) (by decide) ?_
          refine XS.dstore X292.here hx rfl (hb hby at_176) rfl (l' := #[vi p0, vi p1, vi p2, vi (0 : Int32), vr qm, vi (-1 : Int32), vi (0 : Int32), vi bb, vd (18442240474082181120 : UInt64), ss, vd (FP.i2d bb), ss, vd (own_lead (qm = qm) (18442240474082181120 : UInt64) (FP.i2d bb)), ss, vi (-1 : Int32), vd (9218868437227405312 : UInt64), ss]) rfl ?_
          refine XS.goto X292.here hx rfl (pc0 := 178) (pc' := 230) rfl (hb hby at_178) (by decide) (by decide) ?_
          refine XS.dload X292.here hx rfl (hb hby at_230) rfl ?_
          show Steps p.tables e below (T288.setTop (mkF m 232 #[vi p0, vi p1, vi p2, vi (0 : Int32), vr qm, vi (-1 : Int32), vi (0 : Int32), vi bb, vd (18442240474082181120 : UInt64), ss, vd (FP.i2d bb), ss, vd (own_lead (qm = qm) (18442240474082181120 : UInt64) (FP.i2d bb)), ss, vi (-1 : Int32), vd (9218868437227405312 : UInt64), ss] [(.double (own_lead (qm = qm) (18442240474082181120 : UInt64) (FP.i2d bb)))])) t
          refine XS.dload X292.here hx rfl (hb hby at_232) rfl ?_
          refine XS.dcmpS (v := (0 : Int32)) X292.here hx rfl (hb hby at_234) rfl (own_ifY rfl own_vN own_vP (Fl.i2d_fin bb)) ?_
          refine XS.ifNo X292.here hx rfl (hb hby at_235) rfl (own_if_neN (by decide)) ?_
          refine XS.iconst X292.here hx rfl (hb hby at_238) ?_
          show Steps p.tables e below (T288.setTop (mkF m 239 #[vi p0, vi p1, vi p2, vi (0 : Int32), vr qm, vi (-1 : Int32), vi (0 : Int32), vi bb, vd (18442240474082181120 : UInt64), ss, vd (FP.i2d bb), ss, vd (own_lead (qm = qm) (18442240474082181120 : UInt64) (FP.i2d bb)), ss, vi (-1 : Int32), vd (9218868437227405312 : UInt64), ss] [(.int (1 : Int32))])) t
          refine XS.goto X292.here hx rfl (pc0 := 239) (pc' := 243) rfl (hb hby at_239) (by decide) (by decide) ?_
          exact kk
        obtain ⟨fs, hr, hrun, hended, hW, hsame⟩ := X292.leave (v := some (.int (1 : Int32))) (fun h => by rw [Bd.returns] at h; cases h)
        have hrun0 := k312 _ (retOut X292 hx Bd.returns (t := .boolean) rfl (Or.inl ⟨rfl, Or.inr (Or.inl rfl), _, rfl⟩) (hb hby at_243) hr)
        subst hE0
        refine ⟨_, _, hrun0, hrun, hended, _, _, rfl, ?_, ⟨_, rfl⟩, hW, hsame.mono (by decide) (by decide)⟩
        show Qrm0 Z p0 p1 p2 qm qM h0 n0 _ T288.heap _
        rw [e305]
        exact ⟨rfl, N307⟩
    · skip
      have k313 : own_G p e below E0 T29 (mkF m 42 #[vi p0, vi p1, vi p2, vi (0 : Int32), vr qm, vi (0 : Int32), uu, uu, uu, uu, uu, uu, uu, uu, uu, uu, uu] [(.int ((XT.ushr p2 (3 : Int32)) &&& (3 : Int32)))]) := by
        intro t kk
        refine k46 t ?_
        refine XS.istore X33.here hx rfl (hb hby at_35) rfl (l' := #[vi p0, vi p1, vi p2, vi (0 : Int32), vr qm, vi (0 : Int32), uu, uu, uu, uu, uu, uu, uu, uu, uu, uu, uu]) rfl ?_
        refine XS.iloadN X33.here hx rfl (hb hby at_37) rfl ?_
        refine XS.iconst X33.here hx rfl (hb hby at_38) ?_
        refine XT.iushr X33.here hx rfl (hb hby at_39) rfl ?_
        show Steps p.tables e below (T29.setTop (mkF m 40 #[vi p0, vi p1, vi p2, vi (0 : Int32), vr qm, vi (0 : Int32), uu, uu, uu, uu, uu, uu, uu, uu, uu, uu, uu] [(.int (XT.ushr p2 (3 : Int32)))])) t
        refine XS.iconst X33.here hx rfl (hb hby at_40) ?_
        refine XS.iand X33.here hx rfl (hb hby at_41) rfl ?_
        exact kk
      obtain ⟨_, _, ⟨T314, L315, kc316, nc317⟩, -, X318, ⟨Lc319, hQ320, l321, y322, z323⟩, st324⟩ := Jvm.LawKit.callS X33 hx (y := mn0) hown (mvT hZ (tw3 hw)) (mvT hZ (tw4 hw)) (mvT hZ (tw5 hw)) (mvT hZ (tw6 hw)) (by decide) (backOf (W := 0) (rmK l Z a0 hw [] ((XT.ushr p2 (3 : Int32)) &&& (3 : Int32)) h0 n0 Z0 ) hZ (tw6 hw) (tw5 hw) (by decide) (by decide)) (g := (mkF m 42 #[vi p0, vi p1, vi p2, vi (0 : Int32), vr qm, vi (0 : Int32), uu, uu, uu, uu, uu, uu, uu, uu, uu, uu, uu] [(.int ((XT.ushr p2 (3 : Int32)) &&& (3 : Int32)))])) rfl (by rw [hml]; rfl) (argsL := [(.int ((XT.ushr p2 (3 : Int32)) &&& (3 : Int32)))]) (rest := []) (lenOf pd_3 rfl) rfl (by show 2 * 0 + _ ≤ _; exact Nat.le_of_eq rfl) (hb hby at_42) (fun _ _ => ⟨rfl, e41, (by decide : 0 + 0 ≤ _), (by decide : 0 + 0 ≤ _)⟩)
      dsimp only [Pt.U, Pt.locs, Pt.cells, Pt.slots] at X318 l321 y322 z323 st324 hQ320
      subst l321 y322 z323
      obtain ⟨r328, rfl, N325, e326, g329⟩ := hQ320
      have N330 := Fr.app N45 N325
      have k331 : own_G p e below E0 T314 (mkF m 45 #[vi p0, vi p1, vi p2, vi (0 : Int32), vr qm, vi (0 : Int32), uu, uu, uu, uu, uu, uu, uu, uu, uu, uu, uu] [(.int r328)]) := fun t kk => k313 t (st324 _ kk)
      rcases g329 with rfl | rfl | rfl
      · skip
        have k332 : own_G p e below E0 T314 (mkF m 50 #[vi p0, vi p1, vi p2, vi (0 : Int32), vr qm, vi (0 : Int32), vi (1 : Int32), uu, uu, uu, uu, uu, uu, uu, uu, uu, uu] [(.int (32 : Int32)), (.int p2)]) := by
          intro t kk
          refine k331 t ?_
          refine XS.istore X318.here hx rfl (hb hby at_45) rfl (l' := #[vi p0, vi p1, vi p2, vi (0 : Int32), vr qm, vi (0 : Int32), vi (1 : Int32), uu, uu, uu, uu, uu, uu, uu, uu, uu, uu]) rfl ?_
          refine XS.iloadN X318.here hx rfl (hb hby at_47) rfl ?_
          refine XS.bipush X318.here hx rfl (hb hby at_48) ?_
          exact kk
        have jn338 : ∃ (bb : Int32), ((((p2 &&& (32 : Int32)) = 0) ∧ bb = p1) ∨ (¬ ((p2 &&& (32 : Int32)) = 0) ∧ bb = p0)) ∧ (own_G p e below E0 T314 (mkF m 59 #[vi p0, vi p1, vi p2, vi (0 : Int32), vr qm, vi (0 : Int32), vi (1 : Int32), uu, uu, uu, uu, uu, uu, uu, uu, uu, uu] [(.int bb)])) := by
          have k333 : own_G p e below E0 T314 (mkF m 51 #[vi p0, vi p1, vi p2, vi (0 : Int32), vr qm, vi (0 : Int32), vi (1 : Int32), uu, uu, uu, uu, uu, uu, uu, uu, uu, uu] [(.int (p2 &&& (32 : Int32)))]) := by
            intro t kk
            refine k332 t ?_
            refine XS.iand X318.here hx rfl (hb hby at_50) rfl ?_
            exact kk
          by_cases c334 : (p2 &&& (32 : Int32)) = 0
          · skip
            have k335 : own_G p e below E0 T314 (mkF m 59 #[vi p0, vi p1, vi p2, vi (0 : Int32), vr qm, vi (0 : Int32), vi (1 : Int32), uu, uu, uu, uu, uu, uu, uu, uu, uu, uu] [(.int p1)]) := by
              intro t kk
              refine k333 t ?_
              refine XS.ifYes X318.here hx rfl (pc0 := 51) (pc' := 58) rfl (hb hby at_51) rfl (own_if_eqY c334) (by decide) (by decide) ?_
              refine XS.iloadN X318.here hx rfl (hb hby at_58) rfl ?_
              exact kk
            exact ⟨p1, (Or.inl (⟨c334, rfl⟩)), k335⟩
          · skip
            have k336 : own_G p e below E0 T314 (mkF m 59 #[vi p0, vi p1, vi p2, vi (0 : Int32), vr qm, vi (0 : Int32), vi (1 : Int32), uu, uu, uu, uu, uu, uu, uu, uu, uu, uu] [(.int p0)]) := by
              intro t kk
              refine k333 t ?_
              refine XS.ifNo X318.here hx rfl (hb hby at_51) rfl (own_if_eqN c334) ?_
              refine XS.iloadN X318.here hx rfl (hb hby at_54) rfl ?_
              refine XS.goto X318.here hx rfl (pc0 := 55) (pc' := 59) rfl (hb hby at_55) (by decide) (by decide) ?_
              exact kk
            exact ⟨p0, (Or.inr (⟨c334, rfl⟩)), k336⟩
        obtain ⟨bb, hD339, k337⟩ := jn338
        have k340 : own_G p e below E0 T314 (mkF m 103 #[vi p0, vi p1, vi p2, vi (0 : Int32), vr qm, vi (0 : Int32), vi (1 : Int32), vi bb, vd (FP.i2d p0), ss, uu, uu, uu, uu, uu, uu, uu] []) := by
          intro t kk
          refine k337 t ?_
          refine XS.istore X318.here hx rfl (hb hby at_59) rfl (l' := #[vi p0, vi p1, vi p2, vi (0 : Int32), vr qm, vi (0 : Int32), vi (1 : Int32), vi bb, uu, uu, uu, uu, uu, uu, uu, uu, uu]) rfl ?_
          refine XS.iload X318.here hx rfl (hb hby at_61) rfl ?_
          refine XS.ifNo X318.here hx rfl (hb hby at_63) rfl (own_if_neN (by decide)) ?_
          refine XS.iloadN X318.here hx rfl (hb hby at_66) rfl ?_
          show Steps p.tables e below (T314.setTop (mkF m 67 #[vi p0, vi p1, vi p2, vi (0 : Int32), vr qm, vi (0 : Int32), vi (1 : Int32), vi bb, uu, uu, uu, uu, uu, uu, uu, uu, uu] [(.int p0)])) t
          refine XS.i2dS X318.here hx rfl (hb hby at_67) rfl rfl ?_
          refine XS.goto X318.here hx rfl (pc0 := 68) (pc' := 85) rfl (hb hby at_68) (by decide) (by decide) ?_
          refine XS.dstore X318.here hx rfl (hb hby at_85) rfl (l' := #[vi p0, vi p1, vi p2, vi (0 : Int32), vr qm, vi (0 : Int32), vi (1 : Int32), vi bb, vd (FP.i2d p0), ss, uu, uu, uu, uu, uu, uu, uu]) rfl ?_
          refine XS.iload X318.here hx rfl (hb hby at_87) rfl ?_
          show Steps p.tables e below (T314.setTop (mkF m 89 #[vi p0, vi p1, vi p2, vi (0 : Int32), vr qm, vi (0 : Int32), vi (1 : Int32), vi bb, vd (FP.i2d p0), ss, uu, uu, uu, uu, uu, uu, uu] [(.int (1 : Int32))])) t
          refine XS.ifYes X318.here hx rfl (pc0 := 89) (pc' := 98) rfl (hb hby at_89) rfl (own_if_neY (by decide)) (by decide) (by decide) ?_
          refine XS.iload X318.here hx rfl (hb hby at_98) rfl ?_
          refine XS.ifNo X318.here hx rfl (hb hby at_100) rfl (own_if_leN (by decide)) ?_
          exact kk
        have st341 := X318.ldc2DoubleC hx hown (mvT hZ (tw7 hw)) (g := (mkF m 103 #[vi p0, vi p1, vi p2, vi (0 : Int32), vr qm, vi (0 : Int32), vi (1 : Int32), vi bb, vd (FP.i2d p0), ss, uu, uu, uu, uu, uu, uu, uu] [])) rfl (hb hby at_103)
        have k342 : own_G p e below E0 T314 (mkF m 106 #[vi p0, vi p1, vi p2, vi (0 : Int32), vr qm, vi (0 : Int32), vi (1 : Int32), vi bb, vd (FP.i2d p0), ss, uu, uu, uu, uu, uu, uu, uu] [(.double (9218868437227405312 : UInt64))]) := fun t kk => k340 t (st341 _ kk)
        have k343 : own_G p e below E0 T314 (mkF m 120 #[vi p0, vi p1, vi p2, vi (0 : Int32), vr qm, vi (0 : Int32), vi (1 : Int32), vi bb, vd (FP.i2d p0), ss, vd (9218868437227405312 : UInt64), ss, uu, uu, uu, uu, uu] [(.double (9218868437227405312 : UInt64)), (.double (FP.i2d p0)), (.ref qm)]) := by
          intro t kk
          refine k342 t ?_
          refine XS.goto X318.here hx rfl (pc0 := 106) (pc' := 112) rfl (hb hby at_106) (by decide) (by decide) ?_
          refine XS.dstore X318.here hx rfl (hb hby at_112) rfl (l' := #[vi p0, vi p1, vi p2, vi (0 : Int32), vr qm, vi (0 : Int32), vi (1 : Int32), vi bb, vd (FP.i2d p0), ss, vd (9218868437227405312 : UInt64), ss, uu, uu, uu, uu, uu]) rfl ?_
          refine XS.aload X318.here hx rfl (hb hby at_114) rfl rfl ?_
          refine XS.dload X318.here hx rfl (hb hby at_116) rfl ?_
          show Steps p.tables e below (T314.setTop (mkF m 118 #[vi p0, vi p1, vi p2, vi (0 : Int32), vr qm, vi (0 : Int32), vi (1 : Int32), vi bb, vd (FP.i2d p0), ss, vd (9218868437227405312 : UInt64), ss, uu, uu, uu, uu, uu] [(.double (FP.i2d p0)), (.ref qm)])) t
          refine XS.dload X318.here hx rfl (hb hby at_118) rfl ?_
          exact kk
        obtain ⟨cq355, kq356, qa357, qb358, qc359⟩ := isOf hZ e326 E1
        obtain ⟨_, _, ⟨T344, L345, kc346, nc347⟩, -, X348, ⟨Lc349, hQ350, l351, y352, z353⟩, st354⟩ := X318.virtualBack hx (y := mn1) (z := mn1) hown (mvT hZ (tw8 hw)) (mvT hZ (tw9 hw)) (notFace_of_selects (args := #[]) (mvT hZ (tw11 hw))) (mvT hZ (tw11 hw)) (mvT hZ (tw10 hw)) (by decide) (backOf (W := 0) (rm1 l Z a0 hw [] qm (FP.i2d p0) (9218868437227405312 : UInt64) qm h0 n0 Z0 S1 (Fl.i2d_fin p0).noNaN own_nnP (own_hn_fi own_vP (Fl.i2d_fin p0))) hZ (tw12 hw) (tw1 hw) (by decide) (by decide)) qa357 qc359 (g := (mkF m 120 #[vi p0, vi p1, vi p2, vi (0 : Int32), vr qm, vi (0 : Int32), vi (1 : Int32), vi bb, vd (FP.i2d p0), ss, vd (9218868437227405312 : UInt64), ss, uu, uu, uu, uu, uu] [(.double (9218868437227405312 : UInt64)), (.double (FP.i2d p0)), (.ref qm)])) rfl (by rw [hml]; rfl) (Steps.refl _) (argsL := [(.double (FP.i2d p0)), (.double (9218868437227405312 : UInt64))]) (rest := []) (lenOf pd_4 rfl) rfl (by show 2 * 0 + _ ≤ _; exact Nat.le_of_eq rfl) (hb hby at_120) (fun _ _ => ⟨rfl, e326, (by decide : 0 + 0 ≤ _), (by decide : 0 + 0 ≤ _)⟩)
        dsimp only [Pt.U, Pt.locs, Pt.cells, Pt.slots] at X348 l351 y352 z353 st354 hQ350
        subst l351 y352 z353
        obtain ⟨rfl, N360, e361⟩ := hQ350
        have N363 := Fr.app N330 N360
        have k364 : own_G p e below E0 T344 (mkF m 123 #[vi p0, vi p1, vi p2, vi (0 : Int32), vr qm, vi (0 : Int32), vi (1 : Int32), vi bb, vd (FP.i2d p0), ss, vd (9218868437227405312 : UInt64), ss, uu, uu, uu, uu, uu] [(.double (own_lead (qm = qm) (FP.i2d p0) (9218868437227405312 : UInt64)))]) := fun t kk => k343 t (st354.trans kk)
        have k365 : own_G p e below E0 T344 (mkF m 200 #[vi p0, vi p1, vi p2, vi (0 : Int32), vr qm, vi (0 : Int32), vi (1 : Int32), vi bb, vd (FP.i2d p0), ss, vd (9218868437227405312 : UInt64), ss, vd (own_lead (qm = qm) (FP.i2d p0) (9218868437227405312 : UInt64)), ss, vi (-1 : Int32), uu, uu] []) := by
          intro t kk
          refine k364 t ?_
          refine XS.dstore X348.here hx rfl (hb hby at_123) rfl (l' := #[vi p0, vi p1, vi p2, vi (0 : Int32), vr qm, vi (0 : Int32), vi (1 : Int32), vi bb, vd (FP.i2d p0), ss, vd (9218868437227405312 : UInt64), ss, vd (own_lead (qm = qm) (FP.i2d p0) (9218868437227405312 : UInt64)), ss, uu, uu, uu]) rfl ?_
          refine XS.iloadN X348.here hx rfl (hb hby at_125) rfl ?_
          refine XS.ifYes X348.here hx rfl (pc0 := 126) (pc' := 133) rfl (hb hby at_126) rfl (own_if_eqY (by decide)) (by decide) (by decide) ?_
          refine XS.iconst X348.here hx rfl (hb hby at_133) ?_
          show Steps p.tables e below (T344.setTop (mkF m 134 #[vi p0, vi p1, vi p2, vi (0 : Int32), vr qm, vi (0 : Int32), vi (1 : Int32), vi bb, vd (FP.i2d p0), ss, vd (9218868437227405312 : UInt64), ss, vd (own_lead (qm = qm) (FP.i2d p0) (9218868437227405312 : UInt64)), ss, uu, uu, uu] [(.int (-1 : Int32))])) t
          refine XS.istore X348.here hx rfl (hb hby at_134) rfl (l' := #[vi p0, vi p1, vi p2, vi (0 : Int32), vr qm, vi (0 : Int32), vi (1 : Int32), vi bb, vd (FP.i2d p0), ss, vd (9218868437227405312 : UInt64), ss, vd (own_lead (qm = qm) (FP.i2d p0) (9218868437227405312 : UInt64)), ss, vi (-1 : Int32), uu, uu]) rfl ?_
          refine XS.iload X348.here hx rfl (hb hby at_136) rfl ?_
          refine XS.ifYes X348.here hx rfl (pc0 := 138) (pc' := 154) rfl (hb hby at_138) rfl (own_if_eqY (by decide)) (by decide) (by decide) ?_
          refine XS.iload X348.here hx rfl (hb hby at_154) rfl ?_
          show Steps p.tables e below (T344.setTop (mkF m 156 #[vi p0, vi p1, vi p2, vi (0 : Int32), vr qm, vi (0 : Int32), vi (1 : Int32), vi bb, vd (FP.i2d p0), ss, vd (9218868437227405312 : UInt64), ss, vd (own_lead (qm = qm) (FP.i2d p0) (9218868437227405312 : UInt64)), ss, vi (-1 : Int32), uu, uu] [(.int (0 : Int32))])) t
          refine XS.ifYes X348.here hx rfl (pc0 := 156) (pc' := 181) rfl (hb hby at_156) rfl (own_if_eqY (by decide)) (by decide) (by decide) ?_
          refine XS.iload X348.here hx rfl (hb hby at_181) rfl ?_
          refine XS.ifNo X348.here hx rfl (hb hby at_183) rfl (own_if_eqN (by decide)) ?_
          refine XS.iload X348.here hx rfl (hb hby at_186) rfl ?_
          show Steps p.tables e below (T344.setTop (mkF m 188 #[vi p0, vi p1, vi p2, vi (0 : Int32), vr qm, vi (0 : Int32), vi (1 : Int32), vi bb, vd (FP.i2d p0), ss, vd (9218868437227405312 : UInt64), ss, vd (own_lead (qm = qm) (FP.i2d p0) (9218868437227405312 : UInt64)), ss, vi (-1 : Int32), uu, uu] [(.int (1 : Int32))])) t
          refine XS.iload X348.here hx rfl (hb hby at_188) rfl ?_
          refine XS.imul X348.here hx rfl (hb hby at_190) rfl ?_
          refine XS.ifYes X348.here hx rfl (pc0 := 191) (pc' := 200) rfl (hb hby at_191) rfl (own_if_leY (by decide)) (by decide) (by decide) ?_
          exact kk
        have st366 := X348.ldc2DoubleC hx hown (mvT hZ (tw7 hw)) (g := (mkF m 200 #[vi p0, vi p1, vi p2, vi (0 : Int32), vr qm, vi (0 : Int32), vi (1 : Int32), vi bb, vd (FP.i2d p0), ss, vd (9218868437227405312 : UInt64), ss, vd (own_lead (qm = qm) (FP.i2d p0) (9218868437227405312 : UInt64)), ss, vi (-1 : Int32), uu, uu] [])) rfl (hb hby at_200)
        have k367 : own_G p e below E0 T344 (mkF m 203 #[vi p0, vi p1, vi p2, vi (0 : Int32), vr qm, vi (0 : Int32), vi (1 : Int32), vi bb, vd (FP.i2d p0), ss, vd (9218868437227405312 : UInt64), ss, vd (own_lead (qm = qm) (FP.i2d p0) (9218868437227405312 : UInt64)), ss, vi (-1 : Int32), uu, uu] [(.double (9218868437227405312 : UInt64))]) := fun t kk => k365 t (st366 _ kk)
        have k368 : own_G p e below E0 T344 (mkF m 243 #[vi p0, vi p1, vi p2, vi (0 : Int32), vr qm, vi (0 : Int32), vi (1 : Int32), vi bb, vd (FP.i2d p0), ss, vd (9218868437227405312 : UInt64), ss, vd (own_lead (qm = qm) (FP.i2d p0) (9218868437227405312 : UInt64)), ss, vi (-1 : Int32), vd (9218868437227405312 : UInt64), ss] [(.int (1 : Int32))]) := by
          intro t kk
          refine k367 t ?_
          refine XS.dstore X348.here hx rfl (hb hby at_203) rfl (l' := #[vi p0, vi p1, vi p2, vi (0 : Int32), vr qm, vi (0 : Int32), vi (1 : Int32), vi bb, vd (FP.i2d p0), ss, vd (9218868437227405312 : UInt64), ss, vd (own_lead (qm = qm) (FP.i2d p0) (9218868437227405312 : UInt64)), ss, vi (-1 : Int32), vd (9218868437227405312 : UInt64), ss]) rfl ?_
          refine XS.goto X348.here hx rfl (pc0 := 205) (pc' := 230) rfl (hb hby at_205) (by decide) (by decide) ?_
          refine XS.dload X348.here hx rfl (hb hby at_230) rfl ?_
          refine XS.dload X348.here hx rfl (hb hby at_232) rfl ?_
          show Steps p.tables e below (T344.setTop (mkF m 234 #[vi p0, vi p1, vi p2, vi (0 : Int32), vr qm, vi (0 : Int32), vi (1 : Int32), vi bb, vd (FP.i2d p0), ss, vd (9218868437227405312 : UInt64), ss, vd (own_lead (qm = qm) (FP.i2d p0) (9218868437227405312 : UInt64)), ss, vi (-1 : Int32), vd (9218868437227405312 : UInt64), ss] [(.double (9218868437227405312 : UInt64)), (.double (own_lead (qm = qm) (FP.i2d p0) (9218868437227405312 : UInt64)))])) t
          refine XS.dcmpS (v := (0 : Int32)) X348.here hx rfl (hb hby at_234) rfl (own_fiY rfl own_vP own_vP (Fl.i2d_fin p0)) ?_
          refine XS.ifNo X348.here hx rfl (hb hby at_235) rfl (own_if_neN (by decide)) ?_
          refine XS.iconst X348.here hx rfl (hb hby at_238) ?_
          refine XS.goto X348.here hx rfl (pc0 := 239) (pc' := 243) rfl (hb hby at_239) (by decide) (by decide) ?_
          exact kk
        obtain ⟨fs, hr, hrun, hended, hW, hsame⟩ := X348.leave (v := some (.int (1 : Int32))) (fun h => by rw [Bd.returns] at h; cases h)
        have hrun0 := k368 _ (retOut X348 hx Bd.returns (t := .boolean) rfl (Or.inl ⟨rfl, Or.inr (Or.inl rfl), _, rfl⟩) (hb hby at_243) hr)
        subst hE0
        refine ⟨_, _, hrun0, hrun, hended, _, _, rfl, ?_, ⟨_, rfl⟩, hW, hsame.mono (by decide) (by decide)⟩
        show Qrm0 Z p0 p1 p2 qm qM h0 n0 _ T344.heap _
        rw [e361]
        exact ⟨rfl, N363⟩
      · skip
        have k369 : own_G p e below E0 T314 (mkF m 50 #[vi p0, vi p1, vi p2, vi (0 : Int32), vr qm, vi (0 : Int32), vi (-1 : Int32), uu, uu, uu, uu, uu, uu, uu, uu, uu, uu] [(.int (32 : Int32)), (.int p2)]) := by
          intro t kk
          refine k331 t ?_
          refine XS.istore X318.here hx rfl (hb hby at_45) rfl (l' := #[vi p0, vi p1, vi p2, vi (0 : Int32), vr qm, vi (0 : Int32), vi (-1 : Int32), uu, uu, uu, uu, uu, uu, uu, uu, uu, uu]) rfl ?_
          refine XS.iloadN X318.here hx rfl (hb hby at_47) rfl ?_
          refine XS.bipush X318.here hx rfl (hb hby at_48) ?_
          exact kk
        have jn375 : ∃ (bb : Int32), ((((p2 &&& (32 : Int32)) = 0) ∧ bb = p1) ∨ (¬ ((p2 &&& (32 : Int32)) = 0) ∧ bb = p0)) ∧ (own_G p e below E0 T314 (mkF m 59 #[vi p0, vi p1, vi p2, vi (0 : Int32), vr qm, vi (0 : Int32), vi (-1 : Int32), uu, uu, uu, uu, uu, uu, uu, uu, uu, uu] [(.int bb)])) := by
          have k370 : own_G p e below E0 T314 (mkF m 51 #[vi p0, vi p1, vi p2, vi (0 : Int32), vr qm, vi (0 : Int32), vi (-1 : Int32), uu, uu, uu, uu, uu, uu, uu, uu, uu, uu] [(.int (p2 &&& (32 : Int32)))]) := by
            intro t kk
            refine k369 t ?_
            refine XS.iand X318.here hx rfl (hb hby at_50) rfl ?_
            exact kk
          by_cases c371 : (p2 &&& (32 : Int32)) = 0
          · skip
            have k372 : own_G p e below E0 T314 (mkF m 59 #[vi p0, vi p1, vi p2, vi (0 : Int32), vr qm, vi (0 : Int32), vi (-1 : Int32), uu, uu, uu, uu, uu, uu, uu, uu, uu, uu] [(.int p1)]) := by
              intro t kk
              refine k370 t ?_
              refine XS.ifYes X318.here hx rfl (pc0 := 51) (pc' := 58) rfl (hb hby at_51) rfl (own_if_eqY c371) (by decide) (by decide) ?_
              refine XS.iloadN X318.here hx rfl (hb hby at_58) rfl ?_
              exact kk
            exact ⟨p1, (Or.inl (⟨c371, rfl⟩)), k372⟩
          · skip
            have k373 : own_G p e below E0 T314 (mkF m 59 #[vi p0, vi p1, vi p2, vi (0 : Int32), vr qm, vi (0 : Int32), vi (-1 : Int32), uu, uu, uu, uu, uu, uu, uu, uu, uu, uu] [(.int p0)]) := by
              intro t kk
              refine k370 t ?_
              refine XS.ifNo X318.here hx rfl (hb hby at_51) rfl (own_if_eqN c371) ?_
              refine XS.iloadN X318.here hx rfl (hb hby at_54) rfl ?_
              refine XS.goto X318.here hx rfl (pc0 := 55) (pc' := 59) rfl (hb hby at_55) (by decide) (by decide) ?_
              exact kk
            exact ⟨p0, (Or.inr (⟨c371, rfl⟩)), k373⟩
        obtain ⟨bb, hD376, k374⟩ := jn375
        have k377 : own_G p e below E0 T314 (mkF m 109 #[vi p0, vi p1, vi p2, vi (0 : Int32), vr qm, vi (0 : Int32), vi (-1 : Int32), vi bb, vd (FP.i2d p0), ss, uu, uu, uu, uu, uu, uu, uu] []) := by
          intro t kk
          refine k374 t ?_
          refine XS.istore X318.here hx rfl (hb hby at_59) rfl (l' := #[vi p0, vi p1, vi p2, vi (0 : Int32), vr qm, vi (0 : Int32), vi (-1 : Int32), vi bb, uu, uu, uu, uu, uu, uu, uu, uu, uu]) rfl ?_
          refine XS.iload X318.here hx rfl (hb hby at_61) rfl ?_
          refine XS.ifNo X318.here hx rfl (hb hby at_63) rfl (own_if_neN (by decide)) ?_
          refine XS.iloadN X318.here hx rfl (hb hby at_66) rfl ?_
          show Steps p.tables e below (T314.setTop (mkF m 67 #[vi p0, vi p1, vi p2, vi (0 : Int32), vr qm, vi (0 : Int32), vi (-1 : Int32), vi bb, uu, uu, uu, uu, uu, uu, uu, uu, uu] [(.int p0)])) t
          refine XS.i2dS X318.here hx rfl (hb hby at_67) rfl rfl ?_
          refine XS.goto X318.here hx rfl (pc0 := 68) (pc' := 85) rfl (hb hby at_68) (by decide) (by decide) ?_
          refine XS.dstore X318.here hx rfl (hb hby at_85) rfl (l' := #[vi p0, vi p1, vi p2, vi (0 : Int32), vr qm, vi (0 : Int32), vi (-1 : Int32), vi bb, vd (FP.i2d p0), ss, uu, uu, uu, uu, uu, uu, uu]) rfl ?_
          refine XS.iload X318.here hx rfl (hb hby at_87) rfl ?_
          show Steps p.tables e below (T314.setTop (mkF m 89 #[vi p0, vi p1, vi p2, vi (0 : Int32), vr qm, vi (0 : Int32), vi (-1 : Int32), vi bb, vd (FP.i2d p0), ss, uu, uu, uu, uu, uu, uu, uu] [(.int (-1 : Int32))])) t
          refine XS.ifYes X318.here hx rfl (pc0 := 89) (pc' := 98) rfl (hb hby at_89) rfl (own_if_neY (by decide)) (by decide) (by decide) ?_
          refine XS.iload X318.here hx rfl (hb hby at_98) rfl ?_
          refine XS.ifYes X318.here hx rfl (pc0 := 100) (pc' := 109) rfl (hb hby at_100) rfl (own_if_leY (by decide)) (by decide) (by decide) ?_
          exact kk
        have st378 := X318.ldc2DoubleC hx hown (mvT hZ (tw14 hw)) (g := (mkF m 109 #[vi p0, vi p1, vi p2, vi (0 : Int32), vr qm, vi (0 : Int32), vi (-1 : Int32), vi bb, vd (FP.i2d p0), ss, uu, uu, uu, uu, uu, uu, uu] [])) rfl (hb hby at_109)
        have k379 : own_G p e below E0 T314 (mkF m 112 #[vi p0, vi p1, vi p2, vi (0 : Int32), vr qm, vi (0 : Int32), vi (-1 : Int32), vi bb, vd (FP.i2d p0), ss, uu, uu, uu, uu, uu, uu, uu] [(.double (18442240474082181120 : UInt64))]) := fun t kk => k377 t (st378 _ kk)
        have k380 : own_G p e below E0 T314 (mkF m 120 #[vi p0, vi p1, vi p2, vi (0 : Int32), vr qm, vi (0 : Int32), vi (-1 : Int32), vi bb, vd (FP.i2d p0), ss, vd (18442240474082181120 : UInt64), ss, uu, uu, uu, uu, uu] [(.double (18442240474082181120 : UInt64)), (.double (FP.i2d p0)), (.ref qm)]) := by
          intro t kk
          refine k379 t ?_
          refine XS.dstore X318.here hx rfl (hb hby at_112) rfl (l' := #[vi p0, vi p1, vi p2, vi (0 : Int32), vr qm, vi (0 : Int32), vi (-1 : Int32), vi bb, vd (FP.i2d p0), ss, vd (18442240474082181120 : UInt64), ss, uu, uu, uu, uu, uu]) rfl ?_
          refine XS.aload X318.here hx rfl (hb hby at_114) rfl rfl ?_
          refine XS.dload X318.here hx rfl (hb hby at_116) rfl ?_
          refine XS.dload X318.here hx rfl (hb hby at_118) rfl ?_
          exact kk
        obtain ⟨cq392, kq393, qa394, qb395, qc396⟩ := isOf hZ e326 E1
        obtain ⟨_, _, ⟨T381, L382, kc383, nc384⟩, -, X385, ⟨Lc386, hQ387, l388, y389, z390⟩, st391⟩ := X318.virtualBack hx (y := mn1) (z := mn1) hown (mvT hZ (tw8 hw)) (mvT hZ (tw9 hw)) (notFace_of_selects (args := #[]) (mvT hZ (tw11 hw))) (mvT hZ (tw11 hw)) (mvT hZ (tw10 hw)) (by decide) (backOf (W := 0) (rm1 l Z a0 hw [] qm (FP.i2d p0) (18442240474082181120 : UInt64) qm h0 n0 Z0 S1 (Fl.i2d_fin p0).noNaN own_nnN (own_hn_fi own_vN (Fl.i2d_fin p0))) hZ (tw12 hw) (tw1 hw) (by decide) (by decide)) qa394 qc396 (g := (mkF m 120 #[vi p0, vi p1, vi p2, vi (0 : Int32), vr qm, vi (0 : Int32), vi (-1 : Int32), vi bb, vd (FP.i2d p0), ss, vd (18442240474082181120 : UInt64), ss, uu, uu, uu, uu, uu] [(.double (18442240474082181120 : UInt64)), (.double (FP.i2d p0)), (.ref qm)])) rfl (by rw [hml]; rfl) (Steps.refl _) (argsL := [(.double (FP.i2d p0)), (.double (18442240474082181120 : UInt64))]) (rest := []) (lenOf pd_4 rfl) rfl (by show 2 * 0 + _ ≤ _; exact Nat.le_of_eq rfl) (hb hby at_120) (fun _ _ => ⟨rfl, e326, (by decide : 0 + 0 ≤ _), (by decide : 0 + 0 ≤ _)⟩)
        dsimp only [Pt.U, Pt.locs, Pt.cells, Pt.slots] at X385 l388 y389 z390 st391 hQ387
        subst l388 y389 z390
        obtain ⟨rfl, N397, e398⟩ := hQ387
        have N400 := Fr.app N330 N397
        have k401 : own_G p e below E0 T381 (mkF m 123 #[vi p0, vi p1, vi p2, vi (0 : Int32), vr qm, vi (0 : Int32), vi (-1 : Int32), vi bb, vd (FP.i2d p0), ss, vd (18442240474082181120 : UInt64), ss, uu, uu, uu, uu, uu] [(.double (own_lead (qm = qm) (FP.i2d p0) (18442240474082181120 : UInt64)))]) := fun t kk => k380 t (st391.trans kk)
        have k402 : own_G p e below E0 T381 (mkF m 194 #[vi p0, vi p1, vi p2, vi (0 : Int32), vr qm, vi (0 : Int32), vi (-1 : Int32), vi bb, vd (FP.i2d p0), ss, vd (18442240474082181120 : UInt64), ss, vd (own_lead (qm = qm) (FP.i2d p0) (18442240474082181120 : UInt64)), ss, vi (-1 : Int32), uu, uu] []) := by
          intro t kk
          refine k401 t ?_
          refine XS.dstore X385.here hx rfl (hb hby at_123) rfl (l' := #[vi p0, vi p1, vi p2, vi (0 : Int32), vr qm, vi (0 : Int32), vi (-1 : Int32), vi bb, vd (FP.i2d p0), ss, vd (18442240474082181120 : UInt64), ss, vd (own_lead (qm = qm) (FP.i2d p0) (18442240474082181120 : UInt64)), ss, uu, uu, uu]) rfl ?_
          refine XS.iloadN X385.here hx rfl (hb hby at_125) rfl ?_
          refine XS.ifYes X385.here hx rfl (pc0 := 126) (pc' := 133) rfl (hb hby at_126) rfl (own_if_eqY (by decide)) (by decide) (by decide) ?_
          refine XS.iconst X385.here hx rfl (hb hby at_133) ?_
          show Steps p.tables e below (T381.setTop (mkF m 134 #[vi p0, vi p1, vi p2, vi (0 : Int32), vr qm, vi (0 : Int32), vi (-1 : Int32), vi bb, vd (FP.i2d p0), ss, vd (18442240474082181120 : UInt64), ss, vd (own_lead (qm = qm) (FP.i2d p0) (18442240474082181120 : UInt64)), ss, uu, uu, uu] [(.int (-1 : Int32))])) t
          refine XS.istore X385.here hx rfl (hb hby at_134) rfl (l' := #[vi p0, vi p1, vi p2, vi (0 : Int32), vr qm, vi (0 : Int32), vi (-1 : Int32), vi bb, vd (FP.i2d p0), ss, vd (18442240474082181120 : UInt64), ss, vd (own_lead (qm = qm) (FP.i2d p0) (18442240474082181120 : UInt64)), ss, vi (-1 : Int32), uu, uu]) rfl ?_
          refine XS.iload X385.here hx rfl (hb hby at_136) rfl ?_
          refine XS.ifYes X385.here hx rfl (pc0 := 138) (pc' := 154) rfl (hb hby at_138) rfl (own_if_eqY (by decide)) (by decide) (by decide) ?_
          refine XS.iload X385.here hx rfl (hb hby at_154) rfl ?_
          show Steps p.tables e below (T381.setTop (mkF m 156 #[vi p0, vi p1, vi p2, vi (0 : Int32), vr qm, vi (0 : Int32), vi (-1 : Int32), vi bb, vd (FP.i2d p0), ss, vd (18442240474082181120 : UInt64), ss, vd (own_lead (qm = qm) (FP.i2d p0) (18442240474082181120 : UInt64)), ss, vi (-1 : Int32), uu, uu] [(.int (0 : Int32))])) t
          refine XS.ifYes X385.here hx rfl (pc0 := 156) (pc' := 181) rfl (hb hby at_156) rfl (own_if_eqY (by decide)) (by decide) (by decide) ?_
          refine XS.iload X385.here hx rfl (hb hby at_181) rfl ?_
          refine XS.ifNo X385.here hx rfl (hb hby at_183) rfl (own_if_eqN (by decide)) ?_
          refine XS.iload X385.here hx rfl (hb hby at_186) rfl ?_
          show Steps p.tables e below (T381.setTop (mkF m 188 #[vi p0, vi p1, vi p2, vi (0 : Int32), vr qm, vi (0 : Int32), vi (-1 : Int32), vi bb, vd (FP.i2d p0), ss, vd (18442240474082181120 : UInt64), ss, vd (own_lead (qm = qm) (FP.i2d p0) (18442240474082181120 : UInt64)), ss, vi (-1 : Int32), uu, uu] [(.int (-1 : Int32))])) t
          refine XS.iload X385.here hx rfl (hb hby at_188) rfl ?_
          refine XS.imul X385.here hx rfl (hb hby at_190) rfl ?_
          refine XS.ifNo X385.here hx rfl (hb hby at_191) rfl (own_if_leN (by decide)) ?_
          exact kk
        have st403 := X385.ldc2DoubleC hx hown (mvT hZ (tw14 hw)) (g := (mkF m 194 #[vi p0, vi p1, vi p2, vi (0 : Int32), vr qm, vi (0 : Int32), vi (-1 : Int32), vi bb, vd (FP.i2d p0), ss, vd (18442240474082181120 : UInt64), ss, vd (own_lead (qm = qm) (FP.i2d p0) (18442240474082181120 : UInt64)), ss, vi (-1 : Int32), uu, uu] [])) rfl (hb hby at_194)
        have k404 : own_G p e below E0 T381 (mkF m 197 #[vi p0, vi p1, vi p2, vi (0 : Int32), vr qm, vi (0 : Int32), vi (-1 : Int32), vi bb, vd (FP.i2d p0), ss, vd (18442240474082181120 : UInt64), ss, vd (own_lead (qm = qm) (FP.i2d p0) (18442240474082181120 : UInt64)), ss, vi (-1 : Int32), uu, uu] [(.double (18442240474082181120 : UInt64))]) := fun t kk => k402 t (st403 _ kk)
        have k405 : own_G p e below E0 T381 (mkF m 243 #[vi p0, vi p1, vi p2, vi (0 : Int32), vr qm, vi (0 : Int32), vi (-1 : Int32), vi bb, vd (FP.i2d p0), ss, vd (18442240474082181120 : UInt64), ss, vd (own_lead (qm = qm) (FP.i2d p0) (18442240474082181120 : UInt64)), ss, vi (-1 : Int32), vd (18442240474082181120 : UInt64), ss] [(.int (1 : Int32))]) := by
          intro t kk
          refine k404 t ?_
          refine XS.goto X385.here hx rfl (pc0 := 197) (pc' := 203) rfl (hb hby at_197) (by decide) (by decide) ?_
          refine XS.dstore X385.here hx rfl (hb hby at_203) rfl (l' := #[vi p0, vi p1, vi p2, vi (0 : Int32), vr qm, vi (0 : Int32), vi (-1 : Int32), vi bb, vd (FP.i2d p0), ss, vd (18442240474082181120 : UInt64), ss, vd (own_lead (qm = qm) (FP.i2d p0) (18442240474082181120 : UInt64)), ss, vi (-1 : Int32), vd (18442240474082181120 : UInt64), ss]) rfl ?_
          refine XS.goto X385.here hx rfl (pc0 := 205) (pc' := 230) rfl (hb hby at_205) (by decide) (by decide) ?_
          refine XS.dload X385.here hx rfl (hb hby at_230) rfl ?_
          show Steps p.tables e below (T381.setTop (mkF m 232 #[vi p0, vi p1, vi p2, vi (0 : Int32), vr qm, vi (0 : Int32), vi (-1 : Int32), vi bb, vd (FP.i2d p0), ss, vd (18442240474082181120 : UInt64), ss, vd (own_lead (qm = qm) (FP.i2d p0) (18442240474082181120 : UInt64)), ss, vi (-1 : Int32), vd (18442240474082181120 : UInt64), ss] [(.double (own_lead (qm = qm) (FP.i2d p0) (18442240474082181120 : UInt64)))])) t
          refine XS.dload X385.here hx rfl (hb hby at_232) rfl ?_
          refine XS.dcmpS (v := (0 : Int32)) X385.here hx rfl (hb hby at_234) rfl (own_fiY rfl own_vN own_vN (Fl.i2d_fin p0)) ?_
          refine XS.ifNo X385.here hx rfl (hb hby at_235) rfl (own_if_neN (by decide)) ?_
          refine XS.iconst X385.here hx rfl (hb hby at_238) ?_
          show Steps p.tables e below (T381.setTop (mkF m 239 #[vi p0, vi p1, vi p2, vi (0 : Int32), vr qm, vi (0 : Int32), vi (-1 : Int32), vi bb, vd (FP.i2d p0), ss, vd (18442240474082181120 : UInt64), ss, vd (own_lead (qm = qm) (FP.i2d p0) (18442240474082181120 : UInt64)), ss, vi (-1 : Int32), vd (18442240474082181120 : UInt64), ss] [(.int (1 : Int32))])) t
          refine XS.goto X385.here hx rfl (pc0 := 239) (pc' := 243) rfl (hb hby at_239) (by decide) (by decide) ?_
          exact kk
        obtain ⟨fs, hr, hrun, hended, hW, hsame⟩ := X385.leave (v := some (.int (1 : Int32))) (fun h => by rw [Bd.returns] at h; cases h)
        have hrun0 := k405 _ (retOut X385 hx Bd.returns (t := .boolean) rfl (Or.inl ⟨rfl, Or.inr (Or.inl rfl), _, rfl⟩) (hb hby at_243) hr)
        subst hE0
        refine ⟨_, _, hrun0, hrun, hended, _, _, rfl, ?_, ⟨_, rfl⟩, hW, hsame.mono (by decide) (by decide)⟩
        show Qrm0 Z p0 p1 p2 qm qM h0 n0 _ T381.heap _
        rw [e398]
        exact ⟨rfl, N400⟩
      · skip
        have k406 : own_G p e below E0 T314 (mkF m 50 #[vi p0, vi p1, vi p2, vi (0 : Int32), vr qm, vi (0 : Int32), vi (0 : Int32), uu, uu, uu, uu, uu, uu, uu, uu, uu, uu] [(.int (32 : Int32)), (.int p2)]) := by
          intro t kk
          refine k331 t ?_
          refine XS.istore X318.here hx rfl (hb hby at_45) rfl (l' := #[vi p0, vi p1, vi p2, vi (0 : Int32), vr qm, vi (0 : Int32), vi (0 : Int32), uu, uu, uu, uu, uu, uu, uu, uu, uu, uu]) rfl ?_
          refine XS.iloadN X318.here hx rfl (hb hby at_47) rfl ?_
          refine XS.bipush X318.here hx rfl (hb hby at_48) ?_
          exact kk
        have jn412 : ∃ (bb : Int32), ((((p2 &&& (32 : Int32)) = 0) ∧ bb = p1) ∨ (¬ ((p2 &&& (32 : Int32)) = 0) ∧ bb = p0)) ∧ (own_G p e below E0 T314 (mkF m 59 #[vi p0, vi p1, vi p2, vi (0 : Int32), vr qm, vi (0 : Int32), vi (0 : Int32), uu, uu, uu, uu, uu, uu, uu, uu, uu, uu] [(.int bb)])) := by
          have k407 : own_G p e below E0 T314 (mkF m 51 #[vi p0, vi p1, vi p2, vi (0 : Int32), vr qm, vi (0 : Int32), vi (0 : Int32), uu, uu, uu, uu, uu, uu, uu, uu, uu, uu] [(.int (p2 &&& (32 : Int32)))]) := by
            intro t kk
            refine k406 t ?_
            refine XS.iand X318.here hx rfl (hb hby at_50) rfl ?_
            exact kk
          by_cases c408 : (p2 &&& (32 : Int32)) = 0
          · skip
            have k409 : own_G p e below E0 T314 (mkF m 59 #[vi p0, vi p1, vi p2, vi (0 : Int32), vr qm, vi (0 : Int32), vi (0 : Int32), uu, uu, uu, uu, uu, uu, uu, uu, uu, uu] [(.int p1)]) := by
              intro t kk
              refine k407 t ?_
              refine XS.ifYes X318.here hx rfl (pc0 := 51) (pc' := 58) rfl (hb hby at_51) rfl (own_if_eqY c408) (by decide) (by decide) ?_
              refine XS.iloadN X318.here hx rfl (hb hby at_58) rfl ?_
              exact kk
            exact ⟨p1, (Or.inl (⟨c408, rfl⟩)), k409⟩
          · skip
            have k410 : own_G p e below E0 T314 (mkF m 59 #[vi p0, vi p1, vi p2, vi (0 : Int32), vr qm, vi (0 : Int32), vi (0 : Int32), uu, uu, uu, uu, uu, uu, uu, uu, uu, uu] [(.int p0)]) := by
              intro t kk
              refine k407 t ?_
              refine XS.ifNo X318.here hx rfl (hb hby at_51) rfl (own_if_eqN c408) ?_
              refine XS.iloadN X318.here hx rfl (hb hby at_54) rfl ?_
              refine XS.goto X318.here hx rfl (pc0 := 55) (pc' := 59) rfl (hb hby at_55) (by decide) (by decide) ?_
              exact kk
            exact ⟨p0, (Or.inr (⟨c408, rfl⟩)), k410⟩
        obtain ⟨bb, hD413, k411⟩ := jn412
        have k414 : own_G p e below E0 T314 (mkF m 120 #[vi p0, vi p1, vi p2, vi (0 : Int32), vr qm, vi (0 : Int32), vi (0 : Int32), vi bb, vd (FP.i2d p0), ss, vd (FP.i2d bb), ss, uu, uu, uu, uu, uu] [(.double (FP.i2d bb)), (.double (FP.i2d p0)), (.ref qm)]) := by
          intro t kk
          refine k411 t ?_
          refine XS.istore X318.here hx rfl (hb hby at_59) rfl (l' := #[vi p0, vi p1, vi p2, vi (0 : Int32), vr qm, vi (0 : Int32), vi (0 : Int32), vi bb, uu, uu, uu, uu, uu, uu, uu, uu, uu]) rfl ?_
          refine XS.iload X318.here hx rfl (hb hby at_61) rfl ?_
          refine XS.ifNo X318.here hx rfl (hb hby at_63) rfl (own_if_neN (by decide)) ?_
          refine XS.iloadN X318.here hx rfl (hb hby at_66) rfl ?_
          show Steps p.tables e below (T314.setTop (mkF m 67 #[vi p0, vi p1, vi p2, vi (0 : Int32), vr qm, vi (0 : Int32), vi (0 : Int32), vi bb, uu, uu, uu, uu, uu, uu, uu, uu, uu] [(.int p0)])) t
          refine XS.i2dS X318.here hx rfl (hb hby at_67) rfl rfl ?_
          refine XS.goto X318.here hx rfl (pc0 := 68) (pc' := 85) rfl (hb hby at_68) (by decide) (by decide) ?_
          refine XS.dstore X318.here hx rfl (hb hby at_85) rfl (l' := #[vi p0, vi p1, vi p2, vi (0 : Int32), vr qm, vi (0 : Int32), vi (0 : Int32), vi bb, vd (FP.i2d p0), ss, uu, uu, uu, uu, uu, uu, uu]) rfl ?_
          refine XS.iload X318.here hx rfl (hb hby at_87) rfl ?_
          show Steps p.tables e below (T314.setTop (mkF m 89 #[vi p0, vi p1, vi p2, vi (0 : Int32), vr qm, vi (0 : Int32), vi (0 : Int32), vi bb, vd (FP.i2d p0), ss, uu, uu, uu, uu, uu, uu, uu] [(.int (0 : Int32))])) t
          refine XS.ifNo X318.here hx rfl (hb hby at_89) rfl (own_if_neN (by decide)) ?_
          refine XS.iload X318.here hx rfl (hb hby at_92) rfl ?_
          refine XS.i2dS X318.here hx rfl (hb hby at_94) rfl rfl ?_
          refine XS.goto X318.here hx rfl (pc0 := 95) (pc' := 112) rfl (hb hby at_95) (by decide) (by decide) ?_
          show Steps p.tables e below (T314.setTop (mkF m 112 #[vi p0, vi p1, vi p2, vi (0 : Int32), vr qm, vi (0 : Int32), vi (0 : Int32), vi bb, vd (FP.i2d p0), ss, uu, uu, uu, uu, uu, uu, uu] [(.double (FP.i2d bb))])) t
          refine XS.dstore X318.here hx rfl (hb hby at_112) rfl (l' := #[vi p0, vi p1, vi p2, vi (0 : Int32), vr qm, vi (0 : Int32), vi (0 : Int32), vi bb, vd (FP.i2d p0), ss, vd (FP.i2d bb), ss, uu, uu, uu, uu, uu]) rfl ?_
          refine XS.aload X318.here hx rfl (hb hby at_114) rfl rfl ?_
          refine XS.dload X318.here hx rfl (hb hby at_116) rfl ?_
          refine XS.dload X318.here hx rfl (hb hby at_118) rfl ?_
          exact kk
        obtain ⟨cq426, kq427, qa428, qb429, qc430⟩ := isOf hZ e326 E1
        obtain ⟨_, _, ⟨T415, L416, kc417, nc418⟩, -, X419, ⟨Lc420, hQ421, l422, y423, z424⟩, st425⟩ := X318.virtualBack hx (y := mn1) (z := mn1) hown (mvT hZ (tw8 hw)) (mvT hZ (tw9 hw)) (notFace_of_selects (args := #[]) (mvT hZ (tw11 hw))) (mvT hZ (tw11 hw)) (mvT hZ (tw10 hw)) (by decide) (backOf (W := 0) (rm1 l Z a0 hw [] qm (FP.i2d p0) (FP.i2d bb) qm h0 n0 Z0 S1 (Fl.i2d_fin p0).noNaN (Fl.i2d_fin bb).noNaN (own_hn_ff p0 bb)) hZ (tw12 hw) (tw1 hw) (by decide) (by decide)) qa428 qc430 (g := (mkF m 120 #[vi p0, vi p1, vi p2, vi (0 : Int32), vr qm, vi (0 : Int32), vi (0 : Int32), vi bb, vd (FP.i2d p0), ss, vd (FP.i2d bb), ss, uu, uu, uu, uu, uu] [(.double (FP.i2d bb)), (.double (FP.i2d p0)), (.ref qm)])) rfl (by rw [hml]; rfl) (Steps.refl _) (argsL := [(.double (FP.i2d p0)), (.double (FP.i2d bb))]) (rest := []) (lenOf pd_4 rfl) rfl (by show 2 * 0 + _ ≤ _; exact Nat.le_of_eq rfl) (hb hby at_120) (fun _ _ => ⟨rfl, e326, (by decide : 0 + 0 ≤ _), (by decide : 0 + 0 ≤ _)⟩)
        dsimp only [Pt.U, Pt.locs, Pt.cells, Pt.slots] at X419 l422 y423 z424 st425 hQ421
        subst l422 y423 z424
        obtain ⟨rfl, N431, e432⟩ := hQ421
        have N434 := Fr.app N330 N431
        have k435 : own_G p e below E0 T415 (mkF m 123 #[vi p0, vi p1, vi p2, vi (0 : Int32), vr qm, vi (0 : Int32), vi (0 : Int32), vi bb, vd (FP.i2d p0), ss, vd (FP.i2d bb), ss, uu, uu, uu, uu, uu] [(.double (own_lead (qm = qm) (FP.i2d p0) (FP.i2d bb)))]) := fun t kk => k414 t (st425.trans kk)
        have k436 : own_G p e below E0 T415 (mkF m 243 #[vi p0, vi p1, vi p2, vi (0 : Int32), vr qm, vi (0 : Int32), vi (0 : Int32), vi bb, vd (FP.i2d p0), ss, vd (FP.i2d bb), ss, vd (own_lead (qm = qm) (FP.i2d p0) (FP.i2d bb)), ss, vi (-1 : Int32), vd (FP.l2d ((bb.toInt64) - (p0.toInt64))), ss] [(.int (1 : Int32))]) := by
          intro t kk
          refine k435 t ?_
          refine XS.dstore X419.here hx rfl (hb hby at_123) rfl (l' := #[vi p0, vi p1, vi p2, vi (0 : Int32), vr qm, vi (0 : Int32), vi (0 : Int32), vi bb, vd (FP.i2d p0), ss, vd (FP.i2d bb), ss, vd (own_lead (qm = qm) (FP.i2d p0) (FP.i2d bb)), ss, uu, uu, uu]) rfl ?_
          refine XS.iloadN X419.here hx rfl (hb hby at_125) rfl ?_
          refine XS.ifYes X419.here hx rfl (pc0 := 126) (pc' := 133) rfl (hb hby at_126) rfl (own_if_eqY (by decide)) (by decide) (by decide) ?_
          refine XS.iconst X419.here hx rfl (hb hby at_133) ?_
          show Steps p.tables e below (T415.setTop (mkF m 134 #[vi p0, vi p1, vi p2, vi (0 : Int32), vr qm, vi (0 : Int32), vi (0 : Int32), vi bb, vd (FP.i2d p0), ss, vd (FP.i2d bb), ss, vd (own_lead (qm = qm) (FP.i2d p0) (FP.i2d bb)), ss, uu, uu, uu] [(.int (-1 : Int32))])) t
          refine XS.istore X419.here hx rfl (hb hby at_134) rfl (l' := #[vi p0, vi p1, vi p2, vi (0 : Int32), vr qm, vi (0 : Int32), vi (0 : Int32), vi bb, vd (FP.i2d p0), ss, vd (FP.i2d bb), ss, vd (own_lead (qm = qm) (FP.i2d p0) (FP.i2d bb)), ss, vi (-1 : Int32), uu, uu]) rfl ?_
          refine XS.iload X419.here hx rfl (hb hby at_136) rfl ?_
          refine XS.ifYes X419.here hx rfl (pc0 := 138) (pc' := 154) rfl (hb hby at_138) rfl (own_if_eqY (by decide)) (by decide) (by decide) ?_
          refine XS.iload X419.here hx rfl (hb hby at_154) rfl ?_
          show Steps p.tables e below (T415.setTop (mkF m 156 #[vi p0, vi p1, vi p2, vi (0 : Int32), vr qm, vi (0 : Int32), vi (0 : Int32), vi bb, vd (FP.i2d p0), ss, vd (FP.i2d bb), ss, vd (own_lead (qm = qm) (FP.i2d p0) (FP.i2d bb)), ss, vi (-1 : Int32), uu, uu] [(.int (0 : Int32))])) t
          refine XS.ifYes X419.here hx rfl (pc0 := 156) (pc' := 181) rfl (hb hby at_156) rfl (own_if_eqY (by decide)) (by decide) (by decide) ?_
          refine XS.iload X419.here hx rfl (hb hby at_181) rfl ?_
          refine XS.ifYes X419.here hx rfl (pc0 := 183) (pc' := 208) rfl (hb hby at_183) rfl (own_if_eqY (by decide)) (by decide) (by decide) ?_
          refine XS.iloadN X419.here hx rfl (hb hby at_208) rfl ?_
          show Steps p.tables e below (T415.setTop (mkF m 209 #[vi p0, vi p1, vi p2, vi (0 : Int32), vr qm, vi (0 : Int32), vi (0 : Int32), vi bb, vd (FP.i2d p0), ss, vd (FP.i2d bb), ss, vd (own_lead (qm = qm) (FP.i2d p0) (FP.i2d bb)), ss, vi (-1 : Int32), uu, uu] [(.int (0 : Int32))])) t
          refine XS.ifYes X419.here hx rfl (pc0 := 209) (pc' := 221) rfl (hb hby at_209) rfl (own_if_eqY (by decide)) (by decide) (by decide) ?_
          refine XS.iload X419.here hx rfl (hb hby at_221) rfl ?_
          refine XT.i2l X419.here hx rfl (hb hby at_223) rfl ?_
          refine XS.iloadN X419.here hx rfl (hb hby at_224) rfl ?_
          show Steps p.tables e below (T415.setTop (mkF m 225 #[vi p0, vi p1, vi p2, vi (0 : Int32), vr qm, vi (0 : Int32), vi (0 : Int32), vi bb, vd (FP.i2d p0), ss, vd (FP.i2d bb), ss, vd (own_lead (qm = qm) (FP.i2d p0) (FP.i2d bb)), ss, vi (-1 : Int32), uu, uu] [(.int p0), (.long (bb.toInt64))])) t
          refine XT.i2l X419.here hx rfl (hb hby at_225) rfl ?_
          refine XT.lsub X419.here hx rfl (hb hby at_226) rfl ?_
          refine XS.l2dS X419.here hx rfl (hb hby at_227) rfl rfl ?_
          refine XS.dstore X419.here hx rfl (hb hby at_228) rfl (l' := #[vi p0, vi p1, vi p2, vi (0 : Int32), vr qm, vi (0 : Int32), vi (0 : Int32), vi bb, vd (FP.i2d p0), ss, vd (FP.i2d bb), ss, vd (own_lead (qm = qm) (FP.i2d p0) (FP.i2d bb)), ss, vi (-1 : Int32), vd (FP.l2d ((bb.toInt64) - (p0.toInt64))), ss]) rfl ?_
          show Steps p.tables e below (T415.setTop (mkF m 230 #[vi p0, vi p1, vi p2, vi (0 : Int32), vr qm, vi (0 : Int32), vi (0 : Int32), vi bb, vd (FP.i2d p0), ss, vd (FP.i2d bb), ss, vd (own_lead (qm = qm) (FP.i2d p0) (FP.i2d bb)), ss, vi (-1 : Int32), vd (FP.l2d ((bb.toInt64) - (p0.toInt64))), ss] [])) t
          refine XS.dload X419.here hx rfl (hb hby at_230) rfl ?_
          refine XS.dload X419.here hx rfl (hb hby at_232) rfl ?_
          refine XS.dcmpS (v := (0 : Int32)) X419.here hx rfl (hb hby at_234) rfl (own_eq0 .l (own_ffY rfl p0 bb) (own_ffE bb p0)) ?_
          refine XS.ifNo X419.here hx rfl (hb hby at_235) rfl (own_if_neN (by decide)) ?_
          show Steps p.tables e below (T415.setTop (mkF m 238 #[vi p0, vi p1, vi p2, vi (0 : Int32), vr qm, vi (0 : Int32), vi (0 : Int32), vi bb, vd (FP.i2d p0), ss, vd (FP.i2d bb), ss, vd (own_lead (qm = qm) (FP.i2d p0) (FP.i2d bb)), ss, vi (-1 : Int32), vd (FP.l2d ((bb.toInt64) - (p0.toInt64))), ss] [])) t
          refine XS.iconst X419.here hx rfl (hb hby at_238) ?_
          refine XS.goto X419.here hx rfl (pc0 := 239) (pc' := 243) rfl (hb hby at_239) (by decide) (by decide) ?_
          exact kk
        obtain ⟨fs, hr, hrun, hended, hW, hsame⟩ := X419.leave (v := some (.int (1 : Int32))) (fun h => by rw [Bd.returns] at h; cases h)
        have hrun0 := k436 _ (retOut X419 hx Bd.returns (t := .boolean) rfl (Or.inl ⟨rfl, Or.inr (Or.inl rfl), _, rfl⟩) (hb hby at_243) hr)
        subst hE0
        refine ⟨_, _, hrun0, hrun, hended, _, _, rfl, ?_, ⟨_, rfl⟩, hW, hsame.mono (by decide) (by decide)⟩
        show Qrm0 Z p0 p1 p2 qm qM h0 n0 _ T415.heap _
        rw [e432]
        exact ⟨rfl, N434⟩
  · skip
    have k437 : own_G p e below E0 s₁ (mkF m 16 #[vi p0, vi p1, vi p2, vi (1 : Int32), uu, uu, uu, uu, uu, uu, uu, uu, uu, uu, uu, uu, uu] []) := by
      intro t kk
      refine k20 t ?_
      refine XS.ifNo X0.here hx rfl (hb hby at_3) rfl (own_if_eqN c21) ?_
      refine XS.iconst X0.here hx rfl (hb hby at_6) ?_
      refine XS.goto X0.here hx rfl (pc0 := 7) (pc' := 11) rfl (hb hby at_7) (by decide) (by decide) ?_
      refine XS.istoreN X0.here hx rfl (hb hby at_11) rfl (l' := #[vi p0, vi p1, vi p2, vi (1 : Int32), uu, uu, uu, uu, uu, uu, uu, uu, uu, uu, uu, uu, uu]) rfl ?_
      show Steps p.tables e below (s₁.setTop (mkF m 12 #[vi p0, vi p1, vi p2, vi (1 : Int32), uu, uu, uu, uu, uu, uu, uu, uu, uu, uu, uu, uu, uu] [])) t
      refine XS.iloadN X0.here hx rfl (hb hby at_12) rfl ?_
      refine XS.ifNo X0.here hx rfl (hb hby at_13) rfl (own_if_eqN (by decide)) ?_
      exact kk
    obtain ⟨T438, X439, e440, st441⟩ := getS X0 hx hZ hown (host := "") (tw15 hw) Via.refl e0 S2 (g := (mkF m 16 #[vi p0, vi p1, vi p2, vi (1 : Int32), uu, uu, uu, uu, uu, uu, uu, uu, uu, uu, uu, uu, uu] [])) rfl (hb hby at_16)
    have k442 : own_G p e below E0 T438 (mkF m 19 #[vi p0, vi p1, vi p2, vi (1 : Int32), uu, uu, uu, uu, uu, uu, uu, uu, uu, uu, uu, uu, uu] [(.ref qM)]) := fun t kk => k437 t (st441 _ kk)
    have k443 : own_G p e below E0 T438 (mkF m 32 #[vi p0, vi p1, vi p2, vi (1 : Int32), vr qM, uu, uu, uu, uu, uu, uu, uu, uu, uu, uu, uu, uu] [(.int ((XT.ushr p2 (1 : Int32)) &&& (3 : Int32)))]) := by
      intro t kk
      refine k442 t ?_
      refine XS.goto X439.here hx rfl (pc0 := 19) (pc' := 25) rfl (hb hby at_19) (by decide) (by decide) ?_
      refine XS.astore X439.here hx rfl (hb hby at_25) rfl rfl (l' := #[vi p0, vi p1, vi p2, vi (1 : Int32), vr qM, uu, uu, uu, uu, uu, uu, uu, uu, uu, uu, uu, uu]) rfl ?_
      refine XS.iloadN X439.here hx rfl (hb hby at_27) rfl ?_
      refine XS.iconst X439.here hx rfl (hb hby at_28) ?_
      show Steps p.tables e below (T438.setTop (mkF m 29 #[vi p0, vi p1, vi p2, vi (1 : Int32), vr qM, uu, uu, uu, uu, uu, uu, uu, uu, uu, uu, uu, uu] [(.int (1 : Int32)), (.int p2)])) t
      refine XT.iushr X439.here hx rfl (hb hby at_29) rfl ?_
      refine XS.iconst X439.here hx rfl (hb hby at_30) ?_
      refine XS.iand X439.here hx rfl (hb hby at_31) rfl ?_
      exact kk
    obtain ⟨_, _, ⟨T444, L445, kc446, nc447⟩, -, X448, ⟨Lc449, hQ450, l451, y452, z453⟩, st454⟩ := Jvm.LawKit.callS X439 hx (y := mn0) hown (mvT hZ (tw3 hw)) (mvT hZ (tw4 hw)) (mvT hZ (tw5 hw)) (mvT hZ (tw6 hw)) (by decide) (backOf (W := 0) (rmK l Z a0 hw [] ((XT.ushr p2 (1 : Int32)) &&& (3 : Int32)) h0 n0 Z0 ) hZ (tw6 hw) (tw5 hw) (by decide) (by decide)) (g := (mkF m 32 #[vi p0, vi p1, vi p2, vi (1 : Int32), vr qM, uu, uu, uu, uu, uu, uu, uu, uu, uu, uu, uu, uu] [(.int ((XT.ushr p2 (1 : Int32)) &&& (3 : Int32)))])) rfl (by rw [hml]; rfl) (argsL := [(.int ((XT.ushr p2 (1 : Int32)) &&& (3 : Int32)))]) (rest := []) (lenOf pd_3 rfl) rfl (by show 2 * 0 + _ ≤ _; exact Nat.le_of_eq rfl) (hb hby at_32) (fun _ _ => ⟨rfl, e440, (by decide : 0 + 0 ≤ _), (by decide : 0 + 0 ≤ _)⟩)
    dsimp only [Pt.U, Pt.locs, Pt.cells, Pt.slots] at X448 l451 y452 z453 st454 hQ450
    subst l451 y452 z453
    obtain ⟨r458, rfl, N455, e456, g459⟩ := hQ450
    have N460 := Fr.app N0 N455
    have k461 : own_G p e below E0 T444 (mkF m 35 #[vi p0, vi p1, vi p2, vi (1 : Int32), vr qM, uu, uu, uu, uu, uu, uu, uu, uu, uu, uu, uu, uu] [(.int r458)]) := fun t kk => k443 t (st454 _ kk)
    rcases g459 with rfl | rfl | rfl
    · skip
      have k462 : own_G p e below E0 T444 (mkF m 42 #[vi p0, vi p1, vi p2, vi (1 : Int32), vr qM, vi (1 : Int32), uu, uu, uu, uu, uu, uu, uu, uu, uu, uu, uu] [(.int ((XT.ushr p2 (3 : Int32)) &&& (3 : Int32)))]) := by
        intro t kk
        refine k461 t ?_
        refine XS.istore X448.here hx rfl (hb hby at_35) rfl (l' := #[vi p0, vi p1, vi p2, vi (1 : Int32), vr qM, vi (1 : Int32), uu, uu, uu, uu, uu, uu, uu, uu, uu, uu, uu]) rfl ?_
        refine XS.iloadN X448.here hx rfl (hb hby at_37) rfl ?_
        refine XS.iconst X448.here hx rfl (hb hby at_38) ?_
        refine XT.iushr X448.here hx rfl (hb hby at_39) rfl ?_
        show Steps p.tables e below (T444.setTop (mkF m 40 #[vi p0, vi p1, vi p2, vi (1 : Int32), vr qM, vi (1 : Int32), uu, uu, uu, uu, uu, uu, uu, uu, uu, uu, uu] [(.int (XT.ushr p2 (3 : Int32)))])) t
        refine XS.iconst X448.here hx rfl (hb hby at_40) ?_
        refine XS.iand X448.here hx rfl (hb hby at_41) rfl ?_
        exact kk
      obtain ⟨_, _, ⟨T463, L464, kc465, nc466⟩, -, X467, ⟨Lc468, hQ469, l470, y471, z472⟩, st473⟩ := Jvm.LawKit.callS X448 hx (y := mn0) hown (mvT hZ (tw3 hw)) (mvT hZ (tw4 hw)) (mvT hZ (tw5 hw)) (mvT hZ (tw6 hw)) (by decide) (backOf (W := 0) (rmK l Z a0 hw [] ((XT.ushr p2 (3 : Int32)) &&& (3 : Int32)) h0 n0 Z0 ) hZ (tw6 hw) (tw5 hw) (by decide) (by decide)) (g := (mkF m 42 #[vi p0, vi p1, vi p2, vi (1 : Int32), vr qM, vi (1 : Int32), uu, uu, uu, uu, uu, uu, uu, uu, uu, uu, uu] [(.int ((XT.ushr p2 (3 : Int32)) &&& (3 : Int32)))])) rfl (by rw [hml]; rfl) (argsL := [(.int ((XT.ushr p2 (3 : Int32)) &&& (3 : Int32)))]) (rest := []) (lenOf pd_3 rfl) rfl (by show 2 * 0 + _ ≤ _; exact Nat.le_of_eq rfl) (hb hby at_42) (fun _ _ => ⟨rfl, e456, (by decide : 0 + 0 ≤ _), (by decide : 0 + 0 ≤ _)⟩)
      dsimp only [Pt.U, Pt.locs, Pt.cells, Pt.slots] at X467 l470 y471 z472 st473 hQ469
      subst l470 y471 z472
      obtain ⟨r477, rfl, N474, e475, g478⟩ := hQ469
      have N479 := Fr.app N460 N474
      have k480 : own_G p e below E0 T463 (mkF m 45 #[vi p0, vi p1, vi p2, vi (1 : Int32), vr qM, vi (1 : Int32), uu, uu, uu, uu, uu, uu, uu, uu, uu, uu, uu] [(.int r477)]) := fun t kk => k462 t (st473 _ kk)
      rcases g478 with rfl | rfl | rfl
      · skip
        have k481 : own_G p e below E0 T463 (mkF m 50 #[vi p0, vi p1, vi p2, vi (1 : Int32), vr qM, vi (1 : Int32), vi (1 : Int32), uu, uu, uu, uu, uu, uu, uu, uu, uu, uu] [(.int (32 : Int32)), (.int p2)]) := by
          intro t kk
          refine k480 t ?_
          refine XS.istore X467.here hx rfl (hb hby at_45) rfl (l' := #[vi p0, vi p1, vi p2, vi (1 : Int32), vr qM, vi (1 : Int32), vi (1 : Int32), uu, uu, uu, uu, uu, uu, uu, uu, uu, uu]) rfl ?_
          refine XS.iloadN X467.here hx rfl (hb hby at_47) rfl ?_
          refine XS.bipush X467.here hx rfl (hb hby at_48) ?_
          exact kk
        have jn487 : ∃ (bb : Int32), ((((p2 &&& (32 : Int32)) = 0) ∧ bb = p1) ∨ (¬ ((p2 &&& (32 : Int32)) = 0) ∧ bb = p0)) ∧ (own_G p e below E0 T463 (mkF m 59 #[vi p0, vi p1, vi p2, vi (1 : Int32), vr qM, vi (1 : Int32), vi (1 : Int32), uu, uu, uu, uu, uu, uu, uu, uu, uu, uu] [(.int bb)])) := by
          have k482 : own_G p e below E0 T463 (mkF m 51 #[vi p0, vi p1, vi p2, vi (1 : Int32), vr qM, vi (1 : Int32), vi (1 : Int32), uu, uu, uu, uu, uu, uu, uu, uu, uu, uu] [(.int (p2 &&& (32 : Int32)))]) := by
            intro t kk
            refine k481 t ?_
            refine XS.iand X467.here hx rfl (hb hby at_50) rfl ?_
            exact kk
          by_cases c483 : (p2 &&& (32 : Int32)) = 0
          · skip
            have k484 : own_G p e below E0 T463 (mkF m 59 #[vi p0, vi p1, vi p2, vi (1 : Int32), vr qM, vi (1 : Int32), vi (1 : Int32), uu, uu, uu, uu, uu, uu, uu, uu, uu, uu] [(.int p1)]) := by
              intro t kk
              refine k482 t ?_
              refine XS.ifYes X467.here hx rfl (pc0 := 51) (pc' := 58) rfl (hb hby at_51) rfl (own_if_eqY c483) (by decide) (by decide) ?_
              refine XS.iloadN X467.here hx rfl (hb hby at_58) rfl ?_
              exact kk
            exact ⟨p1, (Or.inl (⟨c483, rfl⟩)), k484⟩
          · skip
            have k485 : own_G p e below E0 T463 (mkF m 59 #[vi p0, vi p1, vi p2, vi (1 : Int32), vr qM, vi (1 : Int32), vi (1 : Int32), uu, uu, uu, uu, uu, uu, uu, uu, uu, uu] [(.int p0)]) := by
              intro t kk
              refine k482 t ?_
              refine XS.ifNo X467.here hx rfl (hb hby at_51) rfl (own_if_eqN c483) ?_
              refine XS.iloadN X467.here hx rfl (hb hby at_54) rfl ?_
              refine XS.goto X467.here hx rfl (pc0 := 55) (pc' := 59) rfl (hb hby at_55) (by decide) (by decide) ?_
              exact kk
            exact ⟨p0, (Or.inr (⟨c483, rfl⟩)), k485⟩
        obtain ⟨bb, hD488, k486⟩ := jn487
        have k489 : own_G p e below E0 T463 (mkF m 76 #[vi p0, vi p1, vi p2, vi (1 : Int32), vr qM, vi (1 : Int32), vi (1 : Int32), vi bb, uu, uu, uu, uu, uu, uu, uu, uu, uu] []) := by
          intro t kk
          refine k486 t ?_
          refine XS.istore X467.here hx rfl (hb hby at_59) rfl (l' := #[vi p0, vi p1, vi p2, vi (1 : Int32), vr qM, vi (1 : Int32), vi (1 : Int32), vi bb, uu, uu, uu, uu, uu, uu, uu, uu, uu]) rfl ?_
          refine XS.iload X467.here hx rfl (hb hby at_61) rfl ?_
          refine XS.ifYes X467.here hx rfl (pc0 := 63) (pc' := 71) rfl (hb hby at_63) rfl (own_if_neY (by decide)) (by decide) (by decide) ?_
          refine XS.iload X467.here hx rfl (hb hby at_71) rfl ?_
          show Steps p.tables e below (T463.setTop (mkF m 73 #[vi p0, vi p1, vi p2, vi (1 : Int32), vr qM, vi (1 : Int32), vi (1 : Int32), vi bb, uu, uu, uu, uu, uu, uu, uu, uu, uu] [(.int (1 : Int32))])) t
          refine XS.ifNo X467.here hx rfl (hb hby at_73) rfl (own_if_leN (by decide)) ?_
          exact kk
        have st490 := X467.ldc2DoubleC hx hown (mvT hZ (tw7 hw)) (g := (mkF m 76 #[vi p0, vi p1, vi p2, vi (1 : Int32), vr qM, vi (1 : Int32), vi (1 : Int32), vi bb, uu, uu, uu, uu, uu, uu, uu, uu, uu] [])) rfl (hb hby at_76)
        have k491 : own_G p e below E0 T463 (mkF m 79 #[vi p0, vi p1, vi p2, vi (1 : Int32), vr qM, vi (1 : Int32), vi (1 : Int32), vi bb, uu, uu, uu, uu, uu, uu, uu, uu, uu] [(.double (9218868437227405312 : UInt64))]) := fun t kk => k489 t (st490 _ kk)
        have k492 : own_G p e below E0 T463 (mkF m 103 #[vi p0, vi p1, vi p2, vi (1 : Int32), vr qM, vi (1 : Int32), vi (1 : Int32), vi bb, vd (9218868437227405312 : UInt64), ss, uu, uu, uu, uu, uu, uu, uu] []) := by
          intro t kk
          refine k491 t ?_
          refine XS.goto X467.here hx rfl (pc0 := 79) (pc' := 85) rfl (hb hby at_79) (by decide) (by decide) ?_
          refine XS.dstore X467.here hx rfl (hb hby at_85) rfl (l' := #[vi p0, vi p1, vi p2, vi (1 : Int32), vr qM, vi (1 : Int32), vi (1 : Int32), vi bb, vd (9218868437227405312 : UInt64), ss, uu, uu, uu, uu, uu, uu, uu]) rfl ?_
          refine XS.iload X467.here hx rfl (hb hby at_87) rfl ?_
          refine XS.ifYes X467.here hx rfl (pc0 := 89) (pc' := 98) rfl (hb hby at_89) rfl (own_if_neY (by decide)) (by decide) (by decide) ?_
          show Steps p.tables e below (T463.setTop (mkF m 98 #[vi p0, vi p1, vi p2, vi (1 : Int32), vr qM, vi (1 : Int32), vi (1 : Int32), vi bb, vd (9218868437227405312 : UInt64), ss, uu, uu, uu, uu, uu, uu, uu] [])) t
          refine XS.iload X467.here hx rfl (hb hby at_98) rfl ?_
          refine XS.ifNo X467.here hx rfl (hb hby at_100) rfl (own_if_leN (by decide)) ?_
          exact kk
        have st493 := X467.ldc2DoubleC hx hown (mvT hZ (tw7 hw)) (g := (mkF m 103 #[vi p0, vi p1, vi p2, vi (1 : Int32), vr qM, vi (1 : Int32), vi (1 : Int32), vi bb, vd (9218868437227405312 : UInt64), ss, uu, uu, uu, uu, uu, uu, uu] [])) rfl (hb hby at_103)
        have k494 : own_G p e below E0 T463 (mkF m 106 #[vi p0, vi p1, vi p2, vi (1 : Int32), vr qM, vi (1 : Int32), vi (1 : Int32), vi bb, vd (9218868437227405312 : UInt64), ss, uu, uu, uu, uu, uu, uu, uu] [(.double (9218868437227405312 : UInt64))]) := fun t kk => k492 t (st493 _ kk)
        have k495 : own_G p e below E0 T463 (mkF m 120 #[vi p0, vi p1, vi p2, vi (1 : Int32), vr qM, vi (1 : Int32), vi (1 : Int32), vi bb, vd (9218868437227405312 : UInt64), ss, vd (9218868437227405312 : UInt64), ss, uu, uu, uu, uu, uu] [(.double (9218868437227405312 : UInt64)), (.double (9218868437227405312 : UInt64)), (.ref qM)]) := by
          intro t kk
          refine k494 t ?_
          refine XS.goto X467.here hx rfl (pc0 := 106) (pc' := 112) rfl (hb hby at_106) (by decide) (by decide) ?_
          refine XS.dstore X467.here hx rfl (hb hby at_112) rfl (l' := #[vi p0, vi p1, vi p2, vi (1 : Int32), vr qM, vi (1 : Int32), vi (1 : Int32), vi bb, vd (9218868437227405312 : UInt64), ss, vd (9218868437227405312 : UInt64), ss, uu, uu, uu, uu, uu]) rfl ?_
          refine XS.aload X467.here hx rfl (hb hby at_114) rfl rfl ?_
          refine XS.dload X467.here hx rfl (hb hby at_116) rfl ?_
          show Steps p.tables e below (T463.setTop (mkF m 118 #[vi p0, vi p1, vi p2, vi (1 : Int32), vr qM, vi (1 : Int32), vi (1 : Int32), vi bb, vd (9218868437227405312 : UInt64), ss, vd (9218868437227405312 : UInt64), ss, uu, uu, uu, uu, uu] [(.double (9218868437227405312 : UInt64)), (.ref qM)])) t
          refine XS.dload X467.here hx rfl (hb hby at_118) rfl ?_
          exact kk
        obtain ⟨cq507, kq508, qa509, qb510, qc511⟩ := isOf hZ e475 E2
        obtain ⟨_, _, ⟨T496, L497, kc498, nc499⟩, -, X500, ⟨Lc501, hQ502, l503, y504, z505⟩, st506⟩ := X467.virtualBack hx (y := mn1) (z := mn1) hown (mvT hZ (tw8 hw)) (mvT hZ (tw9 hw)) (notFace_of_selects (args := #[]) (mvT hZ (tw11 hw))) (mvT hZ (tw11 hw)) (mvT hZ (tw10 hw)) (by decide) (backOf (W := 0) (rm1 l Z a0 hw [] qM (9218868437227405312 : UInt64) (9218868437227405312 : UInt64) qm h0 n0 Z0 S1 own_nnP own_nnP (fun z => absurd rfl z)) hZ (tw12 hw) (tw1 hw) (by decide) (by decide)) qa509 qc511 (g := (mkF m 120 #[vi p0, vi p1, vi p2, vi (1 : Int32), vr qM, vi (1 : Int32), vi (1 : Int32), vi bb, vd (9218868437227405312 : UInt64), ss, vd (9218868437227405312 : UInt64), ss, uu, uu, uu, uu, uu] [(.double (9218868437227405312 : UInt64)), (.double (9218868437227405312 : UInt64)), (.ref qM)])) rfl (by rw [hml]; rfl) (Steps.refl _) (argsL := [(.double (9218868437227405312 : UInt64)), (.double (9218868437227405312 : UInt64))]) (rest := []) (lenOf pd_4 rfl) rfl (by show 2 * 0 + _ ≤ _; exact Nat.le_of_eq rfl) (hb hby at_120) (fun _ _ => ⟨rfl, e475, (by decide : 0 + 0 ≤ _), (by decide : 0 + 0 ≤ _)⟩)
        dsimp only [Pt.U, Pt.locs, Pt.cells, Pt.slots] at X500 l503 y504 z505 st506 hQ502
        subst l503 y504 z505
        obtain ⟨rfl, N512, e513⟩ := hQ502
        have N515 := Fr.app N479 N512
        have k516 : own_G p e below E0 T496 (mkF m 123 #[vi p0, vi p1, vi p2, vi (1 : Int32), vr qM, vi (1 : Int32), vi (1 : Int32), vi bb, vd (9218868437227405312 : UInt64), ss, vd (9218868437227405312 : UInt64), ss, uu, uu, uu, uu, uu] [(.double (own_lead (qM = qm) (9218868437227405312 : UInt64) (9218868437227405312 : UInt64)))]) := fun t kk => k495 t (st506.trans kk)
        have k517 : own_G p e below E0 T496 (mkF m 243 #[vi p0, vi p1, vi p2, vi (1 : Int32), vr qM, vi (1 : Int32), vi (1 : Int32), vi bb, vd (9218868437227405312 : UInt64), ss, vd (9218868437227405312 : UInt64), ss, vd (own_lead (qM = qm) (9218868437227405312 : UInt64) (9218868437227405312 : UInt64)), ss, vi (1 : Int32), vd FP.dconst0, ss] [(.int (1 : Int32))]) := by
          intro t kk
          refine k516 t ?_
          refine XS.dstore X500.here hx rfl (hb hby at_123) rfl (l' := #[vi p0, vi p1, vi p2, vi (1 : Int32), vr qM, vi (1 : Int32), vi (1 : Int32), vi bb, vd (9218868437227405312 : UInt64), ss, vd (9218868437227405312 : UInt64), ss, vd (own_lead (qM = qm) (9218868437227405312 : UInt64) (9218868437227405312 : UInt64)), ss, uu, uu, uu]) rfl ?_
          refine XS.iloadN X500.here hx rfl (hb hby at_125) rfl ?_
          refine XS.ifNo X500.here hx rfl (hb hby at_126) rfl (own_if_eqN (by decide)) ?_
          refine XS.iconst X500.here hx rfl (hb hby at_129) ?_
          show Steps p.tables e below (T496.setTop (mkF m 130 #[vi p0, vi p1, vi p2, vi (1 : Int32), vr qM, vi (1 : Int32), vi (1 : Int32), vi bb, vd (9218868437227405312 : UInt64), ss, vd (9218868437227405312 : UInt64), ss, vd (own_lead (qM = qm) (9218868437227405312 : UInt64) (9218868437227405312 : UInt64)), ss, uu, uu, uu] [(.int (1 : Int32))])) t
          refine XS.goto X500.here hx rfl (pc0 := 130) (pc' := 134) rfl (hb hby at_130) (by decide) (by decide) ?_
          refine XS.istore X500.here hx rfl (hb hby at_134) rfl (l' := #[vi p0, vi p1, vi p2, vi (1 : Int32), vr qM, vi (1 : Int32), vi (1 : Int32), vi bb, vd (9218868437227405312 : UInt64), ss, vd (9218868437227405312 : UInt64), ss, vd (own_lead (qM = qm) (9218868437227405312 : UInt64) (9218868437227405312 : UInt64)), ss, vi (1 : Int32), uu, uu]) rfl ?_
          refine XS.iload X500.here hx rfl (hb hby at_136) rfl ?_
          refine XS.ifNo X500.here hx rfl (hb hby at_138) rfl (own_if_eqN (by decide)) ?_
          show Steps p.tables e below (T496.setTop (mkF m 141 #[vi p0, vi p1, vi p2, vi (1 : Int32), vr qM, vi (1 : Int32), vi (1 : Int32), vi bb, vd (9218868437227405312 : UInt64), ss, vd (9218868437227405312 : UInt64), ss, vd (own_lead (qM = qm) (9218868437227405312 : UInt64) (9218868437227405312 : UInt64)), ss, vi (1 : Int32), uu, uu] [])) t
          refine XS.iload X500.here hx rfl (hb hby at_141) rfl ?_
          refine XS.iload X500.here hx rfl (hb hby at_143) rfl ?_
          refine XS.icmpNo X500.here hx rfl (hb hby at_145) rfl (own_ic_neN (by decide)) ?_
          refine XS.dconst0 X500.here hx rfl (hb hby at_148) rfl ?_
          show Steps p.tables e below (T496.setTop (mkF m 149 #[vi p0, vi p1, vi p2, vi (1 : Int32), vr qM, vi (1 : Int32), vi (1 : Int32), vi bb, vd (9218868437227405312 : UInt64), ss, vd (9218868437227405312 : UInt64), ss, vd (own_lead (qM = qm) (9218868437227405312 : UInt64) (9218868437227405312 : UInt64)), ss, vi (1 : Int32), uu, uu] [(.double FP.dconst0)])) t
          refine XS.dstore X500.here hx rfl (hb hby at_149) rfl (l' := #[vi p0, vi p1, vi p2, vi (1 : Int32), vr qM, vi (1 : Int32), vi (1 : Int32), vi bb, vd (9218868437227405312 : UInt64), ss, vd (9218868437227405312 : UInt64), ss, vd (own_lead (qM = qm) (9218868437227405312 : UInt64) (9218868437227405312 : UInt64)), ss, vi (1 : Int32), vd FP.dconst0, ss]) rfl ?_
          refine XS.goto X500.here hx rfl (pc0 := 151) (pc' := 230) rfl (hb hby at_151) (by decide) (by decide) ?_
          refine XS.dload X500.here hx rfl (hb hby at_230) rfl ?_
          refine XS.dload X500.here hx rfl (hb hby at_232) rfl ?_
          show Steps p.tables e below (T496.setTop (mkF m 234 #[vi p0, vi p1, vi p2, vi (1 : Int32), vr qM, vi (1 : Int32), vi (1 : Int32), vi bb, vd (9218868437227405312 : UInt64), ss, vd (9218868437227405312 : UInt64), ss, vd (own_lead (qM = qm) (9218868437227405312 : UInt64) (9218868437227405312 : UInt64)), ss, vi (1 : Int32), vd FP.dconst0, ss] [(.double FP.dconst0), (.double (own_lead (qM = qm) (9218868437227405312 : UInt64) (9218868437227405312 : UInt64)))])) t
          refine XS.dcmpS (v := (0 : Int32)) X500.here hx rfl (hb hby at_234) rfl (dcmpV_eq (own_lead_same _ _) (own_lead_same (qM = qm) (9218868437227405312 : UInt64) ▸ own_nn own_d0) .l) ?_
          refine XS.ifNo X500.here hx rfl (hb hby at_235) rfl (own_if_neN (by decide)) ?_
          refine XS.iconst X500.here hx rfl (hb hby at_238) ?_
          refine XS.goto X500.here hx rfl (pc0 := 239) (pc' := 243) rfl (hb hby at_239) (by decide) (by decide) ?_
          exact kk
        obtain ⟨fs, hr, hrun, hended, hW, hsame⟩ := X500.leave (v := some (.int (1 : Int32))) (fun h => by rw [Bd.returns] at h; cases h)
        have hrun0 := k517 _ (retOut X500 hx Bd.returns (t := .boolean) rfl (Or.inl ⟨rfl, Or.inr (Or.inl rfl), _, rfl⟩) (hb hby at_243) hr)
        subst hE0
        refine ⟨_, _, hrun0, hrun, hended, _, _, rfl, ?_, ⟨_, rfl⟩, hW, hsame.mono (by decide) (by decide)⟩
        show Qrm0 Z p0 p1 p2 qm qM h0 n0 _ T496.heap _
        rw [e513]
        exact ⟨rfl, N515⟩
      · skip
        have k518 : own_G p e below E0 T463 (mkF m 50 #[vi p0, vi p1, vi p2, vi (1 : Int32), vr qM, vi (1 : Int32), vi (-1 : Int32), uu, uu, uu, uu, uu, uu, uu, uu, uu, uu] [(.int (32 : Int32)), (.int p2)]) := by
          intro t kk
          refine k480 t ?_
          refine XS.istore X467.here hx rfl (hb hby at_45) rfl (l' := #[vi p0, vi p1, vi p2, vi (1 : Int32), vr qM, vi (1 : Int32), vi (-1 : Int32), uu, uu, uu, uu, uu, uu, uu, uu, uu, uu]) rfl ?_
          refine XS.iloadN X467.here hx rfl (hb hby at_47) rfl ?_
          refine XS.bipush X467.here hx rfl (hb hby at_48) ?_
          exact kk
        have jn524 : ∃ (bb : Int32), ((((p2 &&& (32 : Int32)) = 0) ∧ bb = p1) ∨ (¬ ((p2 &&& (32 : Int32)) = 0) ∧ bb = p0)) ∧ (own_G p e below E0 T463 (mkF m 59 #[vi p0, vi p1, vi p2, vi (1 : Int32), vr qM, vi (1 : Int32), vi (-1 : Int32), uu, uu, uu, uu, uu, uu, uu, uu, uu, uu] [(.int bb)])) := by
          have k519 : own_G p e below E0 T463 (mkF m 51 #[vi p0, vi p1, vi p2, vi (1 : Int32), vr qM, vi (1 : Int32), vi (-1 : Int32), uu, uu, uu, uu, uu, uu, uu, uu, uu, uu] [(.int (p2 &&& (32 : Int32)))]) := by
            intro t kk
            refine k518 t ?_
            refine XS.iand X467.here hx rfl (hb hby at_50) rfl ?_
            exact kk
          by_cases c520 : (p2 &&& (32 : Int32)) = 0
          · skip
            have k521 : own_G p e below E0 T463 (mkF m 59 #[vi p0, vi p1, vi p2, vi (1 : Int32), vr qM, vi (1 : Int32), vi (-1 : Int32), uu, uu, uu, uu, uu, uu, uu, uu, uu, uu] [(.int p1)]) := by
              intro t kk
              refine k519 t ?_
              refine XS.ifYes X467.here hx rfl (pc0 := 51) (pc' := 58) rfl (hb hby at_51) rfl (own_if_eqY c520) (by decide) (by decide) ?_
              refine XS.iloadN X467.here hx rfl (hb hby at_58) rfl ?_
              exact kk
            exact ⟨p1, (Or.inl (⟨c520, rfl⟩)), k521⟩
          · skip
            have k522 : own_G p e below E0 T463 (mkF m 59 #[vi p0, vi p1, vi p2, vi (1 : Int32), vr qM, vi (1 : Int32), vi (-1 : Int32), uu, uu, uu, uu, uu, uu, uu, uu, uu, uu] [(.int p0)]) := by
              intro t kk
              refine k519 t ?_
              refine XS.ifNo X467.here hx rfl (hb hby at_51) rfl (own_if_eqN c520) ?_
              refine XS.iloadN X467.here hx rfl (hb hby at_54) rfl ?_
              refine XS.goto X467.here hx rfl (pc0 := 55) (pc' := 59) rfl (hb hby at_55) (by decide) (by decide) ?_
              exact kk
            exact ⟨p0, (Or.inr (⟨c520, rfl⟩)), k522⟩
        obtain ⟨bb, hD525, k523⟩ := jn524
        have k526 : own_G p e below E0 T463 (mkF m 76 #[vi p0, vi p1, vi p2, vi (1 : Int32), vr qM, vi (1 : Int32), vi (-1 : Int32), vi bb, uu, uu, uu, uu, uu, uu, uu, uu, uu] []) := by
          intro t kk
          refine k523 t ?_
          refine XS.istore X467.here hx rfl (hb hby at_59) rfl (l' := #[vi p0, vi p1, vi p2, vi (1 : Int32), vr qM, vi (1 : Int32), vi (-1 : Int32), vi bb, uu, uu, uu, uu, uu, uu, uu, uu, uu]) rfl ?_
          refine XS.iload X467.here hx rfl (hb hby at_61) rfl ?_
          refine XS.ifYes X467.here hx rfl (pc0 := 63) (pc' := 71) rfl (hb hby at_63) rfl (own_if_neY (by decide)) (by decide) (by decide) ?_
          refine XS.iload X467.here hx rfl (hb hby at_71) rfl ?_
          show Steps p.tables e below (T463.setTop (mkF m 73 #[vi p0, vi p1, vi p2, vi (1 : Int32), vr qM, vi (1 : Int32), vi (-1 : Int32), vi bb, uu, uu, uu, uu, uu, uu, uu, uu, uu] [(.int (1 : Int32))])) t
          refine XS.ifNo X467.here hx rfl (hb hby at_73) rfl (own_if_leN (by decide)) ?_
          exact kk
        have st527 := X467.ldc2DoubleC hx hown (mvT hZ (tw7 hw)) (g := (mkF m 76 #[vi p0, vi p1, vi p2, vi (1 : Int32), vr qM, vi (1 : Int32), vi (-1 : Int32), vi bb, uu, uu, uu, uu, uu, uu, uu, uu, uu] [])) rfl (hb hby at_76)
        have k528 : own_G p e below E0 T463 (mkF m 79 #[vi p0, vi p1, vi p2, vi (1 : Int32), vr qM, vi (1 : Int32), vi (-1 : Int32), vi bb, uu, uu, uu, uu, uu, uu, uu, uu, uu] [(.double (9218868437227405312 : UInt64))]) := fun t kk => k526 t (st527 _ kk)
        have k529 : own_G p e below E0 T463 (mkF m 109 #[vi p0, vi p1, vi p2, vi (1 : Int32), vr qM, vi (1 : Int32), vi (-1 : Int32), vi bb, vd (9218868437227405312 : UInt64), ss, uu, uu, uu, uu, uu, uu, uu] []) := by
          intro t kk
          refine k528 t ?_
          refine XS.goto X467.here hx rfl (pc0 := 79) (pc' := 85) rfl (hb hby at_79) (by decide) (by decide) ?_
          refine XS.dstore X467.here hx rfl (hb hby at_85) rfl (l' := #[vi p0, vi p1, vi p2, vi (1 : Int32), vr qM, vi (1 : Int32), vi (-1 : Int32), vi bb, vd (9218868437227405312 : UInt64), ss, uu, uu, uu, uu, uu, uu, uu]) rfl ?_
          refine XS.iload X467.here hx rfl (hb hby at_87) rfl ?_
          refine XS.ifYes X467.here hx rfl (pc0 := 89) (pc' := 98) rfl (hb hby at_89) rfl (own_if_neY (by decide)) (by decide) (by decide) ?_
          show Steps p.tables e below (T463.setTop (mkF m 98 #[vi p0, vi p1, vi p2, vi (1 : Int32), vr qM, vi (1 : Int32), vi (-1 : Int32), vi bb, vd (9218868437227405312 : UInt64), ss, uu, uu, uu, uu, uu, uu, uu] [])) t
          refine XS.iload X467.here hx rfl (hb hby at_98) rfl ?_
          refine XS.ifYes X467.here hx rfl (pc0 := 100) (pc' := 109) rfl (hb hby at_100) rfl (own_if_leY (by decide)) (by decide) (by decide) ?_
          exact kk
        have st530 := X467.ldc2DoubleC hx hown (mvT hZ (tw14 hw)) (g := (mkF m 109 #[vi p0, vi p1, vi p2, vi (1 : Int32), vr qM, vi (1 : Int32), vi (-1 : Int32), vi bb, vd (9218868437227405312 : UInt64), ss, uu, uu, uu, uu, uu, uu, uu] [])) rfl (hb hby at_109)
        have k531 : own_G p e below E0 T463 (mkF m 112 #[vi p0, vi p1, vi p2, vi (1 : Int32), vr qM, vi (1 : Int32), vi (-1 : Int32), vi bb, vd (9218868437227405312 : UInt64), ss, uu, uu, uu, uu, uu, uu, uu] [(.double (18442240474082181120 : UInt64))]) := fun t kk => k529 t (st530 _ kk)
        have k532 : own_G p e below E0 T463 (mkF m 120 #[vi p0, vi p1, vi p2, vi (1 : Int32), vr qM, vi (1 : Int32), vi (-1 : Int32), vi bb, vd (9218868437227405312 : UInt64), ss, vd (18442240474082181120 : UInt64), ss, uu, uu, uu, uu, uu] [(.double (18442240474082181120 : UInt64)), (.double (9218868437227405312 : UInt64)), (.ref qM)]) := by
          intro t kk
          refine k531 t ?_
          refine XS.dstore X467.here hx rfl (hb hby at_112) rfl (l' := #[vi p0, vi p1, vi p2, vi (1 : Int32), vr qM, vi (1 : Int32), vi (-1 : Int32), vi bb, vd (9218868437227405312 : UInt64), ss, vd (18442240474082181120 : UInt64), ss, uu, uu, uu, uu, uu]) rfl ?_
          refine XS.aload X467.here hx rfl (hb hby at_114) rfl rfl ?_
          refine XS.dload X467.here hx rfl (hb hby at_116) rfl ?_
          refine XS.dload X467.here hx rfl (hb hby at_118) rfl ?_
          exact kk
        obtain ⟨cq544, kq545, qa546, qb547, qc548⟩ := isOf hZ e475 E2
        obtain ⟨_, _, ⟨T533, L534, kc535, nc536⟩, -, X537, ⟨Lc538, hQ539, l540, y541, z542⟩, st543⟩ := X467.virtualBack hx (y := mn1) (z := mn1) hown (mvT hZ (tw8 hw)) (mvT hZ (tw9 hw)) (notFace_of_selects (args := #[]) (mvT hZ (tw11 hw))) (mvT hZ (tw11 hw)) (mvT hZ (tw10 hw)) (by decide) (backOf (W := 0) (rm1 l Z a0 hw [] qM (9218868437227405312 : UInt64) (18442240474082181120 : UInt64) qm h0 n0 Z0 S1 own_nnP own_nnN (own_hn_pn)) hZ (tw12 hw) (tw1 hw) (by decide) (by decide)) qa546 qc548 (g := (mkF m 120 #[vi p0, vi p1, vi p2, vi (1 : Int32), vr qM, vi (1 : Int32), vi (-1 : Int32), vi bb, vd (9218868437227405312 : UInt64), ss, vd (18442240474082181120 : UInt64), ss, uu, uu, uu, uu, uu] [(.double (18442240474082181120 : UInt64)), (.double (9218868437227405312 : UInt64)), (.ref qM)])) rfl (by rw [hml]; rfl) (Steps.refl _) (argsL := [(.double (9218868437227405312 : UInt64)), (.double (18442240474082181120 : UInt64))]) (rest := []) (lenOf pd_4 rfl) rfl (by show 2 * 0 + _ ≤ _; exact Nat.le_of_eq rfl) (hb hby at_120) (fun _ _ => ⟨rfl, e475, (by decide : 0 + 0 ≤ _), (by decide : 0 + 0 ≤ _)⟩)
        dsimp only [Pt.U, Pt.locs, Pt.cells, Pt.slots] at X537 l540 y541 z542 st543 hQ539
        subst l540 y541 z542
        obtain ⟨rfl, N549, e550⟩ := hQ539
        have N552 := Fr.app N479 N549
        have k553 : own_G p e below E0 T533 (mkF m 123 #[vi p0, vi p1, vi p2, vi (1 : Int32), vr qM, vi (1 : Int32), vi (-1 : Int32), vi bb, vd (9218868437227405312 : UInt64), ss, vd (18442240474082181120 : UInt64), ss, uu, uu, uu, uu, uu] [(.double (own_lead (qM = qm) (9218868437227405312 : UInt64) (18442240474082181120 : UInt64)))]) := fun t kk => k532 t (st543.trans kk)
        have k554 : own_G p e below E0 T533 (mkF m 167 #[vi p0, vi p1, vi p2, vi (1 : Int32), vr qM, vi (1 : Int32), vi (-1 : Int32), vi bb, vd (9218868437227405312 : UInt64), ss, vd (18442240474082181120 : UInt64), ss, vd (own_lead (qM = qm) (9218868437227405312 : UInt64) (18442240474082181120 : UInt64)), ss, vi (1 : Int32), uu, uu] []) := by
          intro t kk
          refine k553 t ?_
          refine XS.dstore X537.here hx rfl (hb hby at_123) rfl (l' := #[vi p0, vi p1, vi p2, vi (1 : Int32), vr qM, vi (1 : Int32), vi (-1 : Int32), vi bb, vd (9218868437227405312 : UInt64), ss, vd (18442240474082181120 : UInt64), ss, vd (own_lead (qM = qm) (9218868437227405312 : UInt64) (18442240474082181120 : UInt64)), ss, uu, uu, uu]) rfl ?_
          refine XS.iloadN X537.here hx rfl (hb hby at_125) rfl ?_
          refine XS.ifNo X537.here hx rfl (hb hby at_126) rfl (own_if_eqN (by decide)) ?_
          refine XS.iconst X537.here hx rfl (hb hby at_129) ?_
          show Steps p.tables e below (T533.setTop (mkF m 130 #[vi p0, vi p1, vi p2, vi (1 : Int32), vr qM, vi (1 : Int32), vi (-1 : Int32), vi bb, vd (9218868437227405312 : UInt64), ss, vd (18442240474082181120 : UInt64), ss, vd (own_lead (qM = qm) (9218868437227405312 : UInt64) (18442240474082181120 : UInt64)), ss, uu, uu, uu] [(.int (1 : Int32))])) t
          refine XS.goto X537.here hx rfl (pc0 := 130) (pc' := 134) rfl (hb hby at_130) (by decide) (by decide) ?_
          refine XS.istore X537.here hx rfl (hb hby at_134) rfl (l' := #[vi p0, vi p1, vi p2, vi (1 : Int32), vr qM, vi (1 : Int32), vi (-1 : Int32), vi bb, vd (9218868437227405312 : UInt64), ss, vd (18442240474082181120 : UInt64), ss, vd (own_lead (qM = qm) (9218868437227405312 : UInt64) (18442240474082181120 : UInt64)), ss, vi (1 : Int32), uu, uu]) rfl ?_
          refine XS.iload X537.here hx rfl (hb hby at_136) rfl ?_
          refine XS.ifNo X537.here hx rfl (hb hby at_138) rfl (own_if_eqN (by decide)) ?_
          show Steps p.tables e below (T533.setTop (mkF m 141 #[vi p0, vi p1, vi p2, vi (1 : Int32), vr qM, vi (1 : Int32), vi (-1 : Int32), vi bb, vd (9218868437227405312 : UInt64), ss, vd (18442240474082181120 : UInt64), ss, vd (own_lead (qM = qm) (9218868437227405312 : UInt64) (18442240474082181120 : UInt64)), ss, vi (1 : Int32), uu, uu] [])) t
          refine XS.iload X537.here hx rfl (hb hby at_141) rfl ?_
          refine XS.iload X537.here hx rfl (hb hby at_143) rfl ?_
          refine XS.icmpYes X537.here hx rfl (pc0 := 145) (pc' := 154) rfl (hb hby at_145) rfl (own_ic_neY (by decide)) (by decide) (by decide) ?_
          refine XS.iload X537.here hx rfl (hb hby at_154) rfl ?_
          show Steps p.tables e below (T533.setTop (mkF m 156 #[vi p0, vi p1, vi p2, vi (1 : Int32), vr qM, vi (1 : Int32), vi (-1 : Int32), vi bb, vd (9218868437227405312 : UInt64), ss, vd (18442240474082181120 : UInt64), ss, vd (own_lead (qM = qm) (9218868437227405312 : UInt64) (18442240474082181120 : UInt64)), ss, vi (1 : Int32), uu, uu] [(.int (1 : Int32))])) t
          refine XS.ifNo X537.here hx rfl (hb hby at_156) rfl (own_if_eqN (by decide)) ?_
          refine XS.iload X537.here hx rfl (hb hby at_159) rfl ?_
          refine XS.iload X537.here hx rfl (hb hby at_161) rfl ?_
          refine XS.imul X537.here hx rfl (hb hby at_163) rfl ?_
          show Steps p.tables e below (T533.setTop (mkF m 164 #[vi p0, vi p1, vi p2, vi (1 : Int32), vr qM, vi (1 : Int32), vi (-1 : Int32), vi bb, vd (9218868437227405312 : UInt64), ss, vd (18442240474082181120 : UInt64), ss, vd (own_lead (qM = qm) (9218868437227405312 : UInt64) (18442240474082181120 : UInt64)), ss, vi (1 : Int32), uu, uu] [(.int (1 : Int32))])) t
          refine XS.ifNo X537.here hx rfl (hb hby at_164) rfl (own_if_leN (by decide)) ?_
          exact kk
        have st555 := X537.ldc2DoubleC hx hown (mvT hZ (tw7 hw)) (g := (mkF m 167 #[vi p0, vi p1, vi p2, vi (1 : Int32), vr qM, vi (1 : Int32), vi (-1 : Int32), vi bb, vd (9218868437227405312 : UInt64), ss, vd (18442240474082181120 : UInt64), ss, vd (own_lead (qM = qm) (9218868437227405312 : UInt64) (18442240474082181120 : UInt64)), ss, vi (1 : Int32), uu, uu] [])) rfl (hb hby at_167)
        have k556 : own_G p e below E0 T533 (mkF m 170 #[vi p0, vi p1, vi p2, vi (1 : Int32), vr qM, vi (1 : Int32), vi (-1 : Int32), vi bb, vd (9218868437227405312 : UInt64), ss, vd (18442240474082181120 : UInt64), ss, vd (own_lead (qM = qm) (9218868437227405312 : UInt64) (18442240474082181120 : UInt64)), ss, vi (1 : Int32), uu, uu] [(.double (9218868437227405312 : UInt64))]) := fun t kk => k554 t (st555 _ kk)
        have k557 : own_G p e below E0 T533 (mkF m 243 #[vi p0, vi p1, vi p2, vi (1 : Int32), vr qM, vi (1 : Int32), vi (-1 : Int32), vi bb, vd (9218868437227405312 : UInt64), ss, vd (18442240474082181120 : UInt64), ss, vd (own_lead (qM = qm) (9218868437227405312 : UInt64) (18442240474082181120 : UInt64)), ss, vi (1 : Int32), vd (9218868437227405312 : UInt64), ss] [(.int (1 : Int32))]) := by
          intro t kk
          refine k556 t ?_
          refine XS.goto X537.here hx rfl (pc0 := 170) (pc' := 176) rfl (hb hby at_170) (by decide) (by decide) ?_
          refine XS.dstore X537.here hx rfl (hb hby at_176) rfl (l' := #[vi p0, vi p1, vi p2, vi (1 : Int32), vr qM, vi (1 : Int32), vi (-1 : Int32), vi bb, vd (9218868437227405312 : UInt64), ss, vd (18442240474082181120 : UInt64), ss, vd (own_lead (qM = qm) (9218868437227405312 : UInt64) (18442240474082181120 : UInt64)), ss, vi (1 : Int32), vd (9218868437227405312 : UInt64), ss]) rfl ?_
          refine XS.goto X537.here hx rfl (pc0 := 178) (pc' := 230) rfl (hb hby at_178) (by decide) (by decide) ?_
          refine XS.dload X537.here hx rfl (hb hby at_230) rfl ?_
          show Steps p.tables e below (T533.setTop (mkF m 232 #[vi p0, vi p1, vi p2, vi (1 : Int32), vr qM, vi (1 : Int32), vi (-1 : Int32), vi bb, vd (9218868437227405312 : UInt64), ss, vd (18442240474082181120 : UInt64), ss, vd (own_lead (qM = qm) (9218868437227405312 : UInt64) (18442240474082181120 : UInt64)), ss, vi (1 : Int32), vd (9218868437227405312 : UInt64), ss] [(.double (own_lead (qM = qm) (9218868437227405312 : UInt64) (18442240474082181120 : UInt64)))])) t
          refine XS.dload X537.here hx rfl (hb hby at_232) rfl ?_
          refine XS.dcmpS (v := (0 : Int32)) X537.here hx rfl (hb hby at_234) rfl (own_iiN ne1 own_vP own_vN own_vP) ?_
          refine XS.ifNo X537.here hx rfl (hb hby at_235) rfl (own_if_neN (by decide)) ?_
          refine XS.iconst X537.here hx rfl (hb hby at_238) ?_
          show Steps p.tables e below (T533.setTop (mkF m 239 #[vi p0, vi p1, vi p2, vi (1 : Int32), vr qM, vi (1 : Int32), vi (-1 : Int32), vi bb, vd (9218868437227405312 : UInt64), ss, vd (18442240474082181120 : UInt64), ss, vd (own_lead (qM = qm) (9218868437227405312 : UInt64) (18442240474082181120 : UInt64)), ss, vi (1 : Int32), vd (9218868437227405312 : UInt64), ss] [(.int (1 : Int32))])) t
          refine XS.goto X537.here hx rfl (pc0 := 239) (pc' := 243) rfl (hb hby at_239) (by decide) (by decide) ?_
          exact kk
        obtain ⟨fs, hr, hrun, hended, hW, hsame⟩ := X537.leave (v := some (.int (1 : Int32))) (fun h => by rw [Bd.returns] at h; cases h)
        have hrun0 := k557 _ (retOut X537 hx Bd.returns (t := .boolean) rfl (Or.inl ⟨rfl, Or.inr (Or.inl rfl), _, rfl⟩) (hb hby at_243) hr)
        subst hE0
        refine ⟨_, _, hrun0, hrun, hended, _, _, rfl, ?_, ⟨_, rfl⟩, hW, hsame.mono (by decide) (by decide)⟩
        show Qrm0 Z p0 p1 p2 qm qM h0 n0 _ T533.heap _
        rw [e550]
        exact ⟨rfl, N552⟩
      · skip
        have k558 : own_G p e below E0 T463 (mkF m 50 #[vi p0, vi p1, vi p2, vi (1 : Int32), vr qM, vi (1 : Int32), vi (0 : Int32), uu, uu, uu, uu, uu, uu, uu, uu, uu, uu] [(.int (32 : Int32)), (.int p2)]) := by
          intro t kk
          refine k480 t ?_
          refine XS.istore X467.here hx rfl (hb hby at_45) rfl (l' := #[vi p0, vi p1, vi p2, vi (1 : Int32), vr qM, vi (1 : Int32), vi (0 : Int32), uu, uu, uu, uu, uu, uu, uu, uu, uu, uu]) rfl ?_
          refine XS.iloadN X467.here hx rfl (hb hby at_47) rfl ?_
          refine XS.bipush X467.here hx rfl (hb hby at_48) ?_
          exact kk
        have jn564 : ∃ (bb : Int32), ((((p2 &&& (32 : Int32)) = 0) ∧ bb = p1) ∨ (¬ ((p2 &&& (32 : Int32)) = 0) ∧ bb = p0)) ∧ (own_G p e below E0 T463 (mkF m 59 #[vi p0, vi p1, vi p2, vi (1 : Int32), vr qM, vi (1 : Int32), vi (0 : Int32), uu, uu, uu, uu, uu, uu, uu, uu, uu, uu] [(.int bb)])) := by
          have k559 : own_G p e below E0 T463 (mkF m 51 #[vi p0, vi p1, vi p2, vi (1 : Int32), vr qM, vi (1 : Int32), vi (0 : Int32), uu, uu, uu, uu, uu, uu, uu, uu, uu, uu] [(.int (p2 &&& (32 : Int32)))]) := by
            intro t kk
            refine k558 t ?_
            refine XS.iand X467.here hx rfl (hb hby at_50) rfl ?_
            exact kk
          by_cases c560 : (p2 &&& (32 : Int32)) = 0
          · skip
            have k561 : own_G p e below E0 T463 (mkF m 59 #[vi p0, vi p1, vi p2, vi (1 : Int32), vr qM, vi (1 : Int32), vi (0 : Int32), uu, uu, uu, uu, uu, uu, uu, uu, uu, uu] [(.int p1)]) := by
              intro t kk
              refine k559 t ?_
              refine XS.ifYes X467.here hx rfl (pc0 := 51) (pc' := 58) rfl (hb hby at_51) rfl (own_if_eqY c560) (by decide) (by decide) ?_
              refine XS.iloadN X467.here hx rfl (hb hby at_58) rfl ?_
              exact kk
            exact ⟨p1, (Or.inl (⟨c560, rfl⟩)), k561⟩
          · skip
            have k562 : own_G p e below E0 T463 (mkF m 59 #[vi p0, vi p1, vi p2, vi (1 : Int32), vr qM, vi (1 : Int32), vi (0 : Int32), uu, uu, uu, uu, uu, uu, uu, uu, uu, uu] [(.int p0)]) := by
              intro t kk
              refine k559 t ?_
              refine XS.ifNo X467.here hx rfl (hb hby at_51) rfl (own_if_eqN c560) ?_
              refine XS.iloadN X467.here hx rfl (hb hby at_54) rfl ?_
              refine XS.goto X467.here hx rfl (pc0 := 55) (pc' := 59) rfl (hb hby at_55) (by decide) (by decide) ?_
              exact kk
            exact ⟨p0, (Or.inr (⟨c560, rfl⟩)), k562⟩
        obtain ⟨bb, hD565, k563⟩ := jn564
        have k566 : own_G p e below E0 T463 (mkF m 76 #[vi p0, vi p1, vi p2, vi (1 : Int32), vr qM, vi (1 : Int32), vi (0 : Int32), vi bb, uu, uu, uu, uu, uu, uu, uu, uu, uu] []) := by
          intro t kk
          refine k563 t ?_
          refine XS.istore X467.here hx rfl (hb hby at_59) rfl (l' := #[vi p0, vi p1, vi p2, vi (1 : Int32), vr qM, vi (1 : Int32), vi (0 : Int32), vi bb, uu, uu, uu, uu, uu, uu, uu, uu, uu]) rfl ?_
          refine XS.iload X467.here hx rfl (hb hby at_61) rfl ?_
          refine XS.ifYes X467.here hx rfl (pc0 := 63) (pc' := 71) rfl (hb hby at_63) rfl (own_if_neY (by decide)) (by decide) (by decide) ?_
          refine XS.iload X467.here hx rfl (hb hby at_71) rfl ?_
          show Steps p.tables e below (T463.setTop (mkF m 73 #[vi p0, vi p1, vi p2, vi (1 : Int32), vr qM, vi (1 : Int32), vi (0 : Int32), vi bb, uu, uu, uu, uu, uu, uu, uu, uu, uu] [(.int (1 : Int32))])) t
          refine XS.ifNo X467.here hx rfl (hb hby at_73) rfl (own_if_leN (by decide)) ?_
          exact kk
        have st567 := X467.ldc2DoubleC hx hown (mvT hZ (tw7 hw)) (g := (mkF m 76 #[vi p0, vi p1, vi p2, vi (1 : Int32), vr qM, vi (1 : Int32), vi (0 : Int32), vi bb, uu, uu, uu, uu, uu, uu, uu, uu, uu] [])) rfl (hb hby at_76)
        have k568 : own_G p e below E0 T463 (mkF m 79 #[vi p0, vi p1, vi p2, vi (1 : Int32), vr qM, vi (1 : Int32), vi (0 : Int32), vi bb, uu, uu, uu, uu, uu, uu, uu, uu, uu] [(.double (9218868437227405312 : UInt64))]) := fun t kk => k566 t (st567 _ kk)
        have k569 : own_G p e below E0 T463 (mkF m 120 #[vi p0, vi p1, vi p2, vi (1 : Int32), vr qM, vi (1 : Int32), vi (0 : Int32), vi bb, vd (9218868437227405312 : UInt64), ss, vd (FP.i2d bb), ss, uu, uu, uu, uu, uu] [(.double (FP.i2d bb)), (.double (9218868437227405312 : UInt64)), (.ref qM)]) := by
          intro t kk
          refine k568 t ?_
          refine XS.goto X467.here hx rfl (pc0 := 79) (pc' := 85) rfl (hb hby at_79) (by decide) (by decide) ?_
          refine XS.dstore X467.here hx rfl (hb hby at_85) rfl (l' := #[vi p0, vi p1, vi p2, vi (1 : Int32), vr qM, vi (1 : Int32), vi (0 : Int32), vi bb, vd (9218868437227405312 : UInt64), ss, uu, uu, uu, uu, uu, uu, uu]) rfl ?_
          refine XS.iload X467.here hx rfl (hb hby at_87) rfl ?_
          refine XS.ifNo X467.here hx rfl (hb hby at_89) rfl (own_if_neN (by decide)) ?_
          show Steps p.tables e below (T463.setTop (mkF m 92 #[vi p0, vi p1, vi p2, vi (1 : Int32), vr qM, vi (1 : Int32), vi (0 : Int32), vi bb, vd (9218868437227405312 : UInt64), ss, uu, uu, uu, uu, uu, uu, uu] [])) t
          refine XS.iload X467.here hx rfl (hb hby at_92) rfl ?_
          refine XS.i2dS X467.here hx rfl (hb hby at_94) rfl rfl ?_
          refine XS.goto X467.here hx rfl (pc0 := 95) (pc' := 112) rfl (hb hby at_95) (by decide) (by decide) ?_
          refine XS.dstore X467.here hx rfl (hb hby at_112) rfl (l' := #[vi p0, vi p1, vi p2, vi (1 : Int32), vr qM, vi (1 : Int32), vi (0 : Int32), vi bb, vd (9218868437227405312 : UInt64), ss, vd (FP.i2d bb), ss, uu, uu, uu, uu, uu]) rfl ?_
          show Steps p.tables e below (T463.setTop (mkF m 114 #[vi p0, vi p1, vi p2, vi (1 : Int32), vr qM, vi (1 : Int32), vi (0 : Int32), vi bb, vd (9218868437227405312 : UInt64), ss, vd (FP.i2d bb), ss, uu, uu, uu, uu, uu] [])) t
          refine XS.aload X467.here hx rfl (hb hby at_114) rfl rfl ?_
          refine XS.dload X467.here hx rfl (hb hby at_116) rfl ?_
          refine XS.dload X467.here hx rfl (hb hby at_118) rfl ?_
          exact kk
        obtain ⟨cq581, kq582, qa583, qb584, qc585⟩ := isOf hZ e475 E2
        obtain ⟨_, _, ⟨T570, L571, kc572, nc573⟩, -, X574, ⟨Lc575, hQ576, l577, y578, z579⟩, st580⟩ := X467.virtualBack hx (y := mn1) (z := mn1) hown (mvT hZ (tw8 hw)) (mvT hZ (tw9 hw)) (notFace_of_selects (args := #[]) (mvT hZ (tw11 hw))) (mvT hZ (tw11 hw)) (mvT hZ (tw10 hw)) (by decide) (backOf (W := 0) (rm1 l Z a0 hw [] qM (9218868437227405312 : UInt64) (FP.i2d bb) qm h0 n0 Z0 S1 own_nnP (Fl.i2d_fin bb).noNaN (own_hn_if own_vP (Fl.i2d_fin bb))) hZ (tw12 hw) (tw1 hw) (by decide) (by decide)) qa583 qc585 (g := (mkF m 120 #[vi p0, vi p1, vi p2, vi (1 : Int32), vr qM, vi (1 : Int32), vi (0 : Int32), vi bb, vd (9218868437227405312 : UInt64), ss, vd (FP.i2d bb), ss, uu, uu, uu, uu, uu] [(.double (FP.i2d bb)), (.double (9218868437227405312 : UInt64)), (.ref qM)])) rfl (by rw [hml]; rfl) (Steps.refl _) (argsL := [(.double (9218868437227405312 : UInt64)), (.double (FP.i2d bb))]) (rest := []) (lenOf pd_4 rfl) rfl (by show 2 * 0 + _ ≤ _; exact Nat.le_of_eq rfl) (hb hby at_120) (fun _ _ => ⟨rfl, e475, (by decide : 0 + 0 ≤ _), (by decide : 0 + 0 ≤ _)⟩)
        dsimp only [Pt.U, Pt.locs, Pt.cells, Pt.slots] at X574 l577 y578 z579 st580 hQ576
        subst l577 y578 z579
        obtain ⟨rfl, N586, e587⟩ := hQ576
        have N589 := Fr.app N479 N586
        have k590 : own_G p e below E0 T570 (mkF m 123 #[vi p0, vi p1, vi p2, vi (1 : Int32), vr qM, vi (1 : Int32), vi (0 : Int32), vi bb, vd (9218868437227405312 : UInt64), ss, vd (FP.i2d bb), ss, uu, uu, uu, uu, uu] [(.double (own_lead (qM = qm) (9218868437227405312 : UInt64) (FP.i2d bb)))]) := fun t kk => k569 t (st580.trans kk)
        have k591 : own_G p e below E0 T570 (mkF m 167 #[vi p0, vi p1, vi p2, vi (1 : Int32), vr qM, vi (1 : Int32), vi (0 : Int32), vi bb, vd (9218868437227405312 : UInt64), ss, vd (FP.i2d bb), ss, vd (own_lead (qM = qm) (9218868437227405312 : UInt64) (FP.i2d bb)), ss, vi (1 : Int32), uu, uu] []) := by
          intro t kk
          refine k590 t ?_
          refine XS.dstore X574.here hx rfl (hb hby at_123) rfl (l' := #[vi p0, vi p1, vi p2, vi (1 : Int32), vr qM, vi (1 : Int32), vi (0 : Int32), vi bb, vd (9218868437227405312 : UInt64), ss, vd (FP.i2d bb), ss, vd (own_lead (qM = qm) (9218868437227405312 : UInt64) (FP.i2d bb)), ss, uu, uu, uu]) rfl ?_
          refine XS.iloadN X574.here hx rfl (hb hby at_125) rfl ?_
          refine XS.ifNo X574.here hx rfl (hb hby at_126) rfl (own_if_eqN (by decide)) ?_
          refine XS.iconst X574.here hx rfl (hb hby at_129) ?_
          show Steps p.tables e below (T570.setTop (mkF m 130 #[vi p0, vi p1, vi p2, vi (1 : Int32), vr qM, vi (1 : Int32), vi (0 : Int32), vi bb, vd (9218868437227405312 : UInt64), ss, vd (FP.i2d bb), ss, vd (own_lead (qM = qm) (9218868437227405312 : UInt64) (FP.i2d bb)), ss, uu, uu, uu] [(.int (1 : Int32))])) t
          refine XS.goto X574.here hx rfl (pc0 := 130) (pc' := 134) rfl (hb hby at_130) (by decide) (by decide) ?_
          refine XS.istore X574.here hx rfl (hb hby at_134) rfl (l' := #[vi p0, vi p1, vi p2, vi (1 : Int32), vr qM, vi (1 : Int32), vi (0 : Int32), vi bb, vd (9218868437227405312 : UInt64), ss, vd (FP.i2d bb), ss, vd (own_lead (qM = qm) (9218868437227405312 : UInt64) (FP.i2d bb)), ss, vi (1 : Int32), uu, uu]) rfl ?_
          refine XS.iload X574.here hx rfl (hb hby at_136) rfl ?_
          refine XS.ifNo X574.here hx rfl (hb hby at_138) rfl (own_if_eqN (by decide)) ?_
          show Steps p.tables e below (T570.setTop (mkF m 141 #[vi p0, vi p1, vi p2, vi (1 : Int32), vr qM, vi (1 : Int32), vi (0 : Int32), vi bb, vd (9218868437227405312 : UInt64), ss, vd (FP.i2d bb), ss, vd (own_lead (qM = qm) (9218868437227405312 : UInt64) (FP.i2d bb)), ss, vi (1 : Int32), uu, uu] [])) t
          refine XS.iload X574.here hx rfl (hb hby at_141) rfl ?_
          refine XS.iload X574.here hx rfl (hb hby at_143) rfl ?_
          refine XS.icmpYes X574.here hx rfl (pc0 := 145) (pc' := 154) rfl (hb hby at_145) rfl (own_ic_neY (by decide)) (by decide) (by decide) ?_
          refine XS.iload X574.here hx rfl (hb hby at_154) rfl ?_
          show Steps p.tables e below (T570.setTop (mkF m 156 #[vi p0, vi p1, vi p2, vi (1 : Int32), vr qM, vi (1 : Int32), vi (0 : Int32), vi bb, vd (9218868437227405312 : UInt64), ss, vd (FP.i2d bb), ss, vd (own_lead (qM = qm) (9218868437227405312 : UInt64) (FP.i2d bb)), ss, vi (1 : Int32), uu, uu] [(.int (1 : Int32))])) t
          refine XS.ifNo X574.here hx rfl (hb hby at_156) rfl (own_if_eqN (by decide)) ?_
          refine XS.iload X574.here hx rfl (hb hby at_159) rfl ?_
          refine XS.iload X574.here hx rfl (hb hby at_161) rfl ?_
          refine XS.imul X574.here hx rfl (hb hby at_163) rfl ?_
          show Steps p.tables e below (T570.setTop (mkF m 164 #[vi p0, vi p1, vi p2, vi (1 : Int32), vr qM, vi (1 : Int32), vi (0 : Int32), vi bb, vd (9218868437227405312 : UInt64), ss, vd (FP.i2d bb), ss, vd (own_lead (qM = qm) (9218868437227405312 : UInt64) (FP.i2d bb)), ss, vi (1 : Int32), uu, uu] [(.int (1 : Int32))])) t
          refine XS.ifNo X574.here hx rfl (hb hby at_164) rfl (own_if_leN (by decide)) ?_
          exact kk
        have st592 := X574.ldc2DoubleC hx hown (mvT hZ (tw7 hw)) (g := (mkF m 167 #[vi p0, vi p1, vi p2, vi (1 : Int32), vr qM, vi (1 : Int32), vi (0 : Int32), vi bb, vd (9218868437227405312 : UInt64), ss, vd (FP.i2d bb), ss, vd (own_lead (qM = qm) (9218868437227405312 : UInt64) (FP.i2d bb)), ss, vi (1 : Int32), uu, uu] [])) rfl (hb hby at_167)
        have k593 : own_G p e below E0 T570 (mkF m 170 #[vi p0, vi p1, vi p2, vi (1 : Int32), vr qM, vi (1 : Int32), vi (0 : Int32), vi bb, vd (9218868437227405312 : UInt64), ss, vd (FP.i2d bb), ss, vd (own_lead (qM = qm) (9218868437227405312 : UInt64) (FP.i2d bb)), ss, vi (1 : Int32), uu, uu] [(.double (9218868437227405312 : UInt64))]) := fun t kk => k591 t (st592 _ kk)
        have k594 : own_G p e below E0 T570 (mkF m 243 #[vi p0, vi p1, vi p2, vi (1 : Int32), vr qM, vi (1 : Int32), vi (0 : Int32), vi bb, vd (9218868437227405312 : UInt64), ss, vd (FP.i2d bb), ss, vd (own_lead (qM = qm) (9218868437227405312 : UInt64) (FP.i2d bb)), ss, vi (1 : Int32), vd (9218868437227405312 : UInt64), ss] [(.int (1 : Int32))]) := by
          intro t kk
          refine k593 t ?_
          refine XS.goto X574.here hx rfl (pc0 := 170) (pc' := 176) rfl (hb hby at_170) (by decide) (by decide) ?_
          refine XS.dstore X574.here hx rfl (hb hby at_176) rfl (l' := #[vi p0, vi p1, vi p2, vi (1 : Int32), vr qM, vi (1 : Int32), vi (0 : Int32), vi bb, vd (9218868437227405312 : UInt64), ss, vd (FP.i2d bb), ss, vd (own_lead (qM = qm) (9218868437227405312 : UInt64) (FP.i2d bb)), ss, vi (1 : Int32), vd (9218868437227405312 : UInt64), ss]) rfl ?_
          refine XS.goto X574.here hx rfl (pc0 := 178) (pc' := 230) rfl (hb hby at_178) (by decide) (by decide) ?_
          refine XS.dload X574.here hx rfl (hb hby at_230) rfl ?_
          show Steps p.tables e below (T570.setTop (mkF m 232 #[vi p0, vi p1, vi p2, vi (1 : Int32), vr qM, vi (1 : Int32), vi (0 : Int32), vi bb, vd (9218868437227405312 : UInt64), ss, vd (FP.i2d bb), ss, vd (own_lead (qM = qm) (9218868437227405312 : UInt64) (FP.i2d bb)), ss, vi (1 : Int32), vd (9218868437227405312 : UInt64), ss] [(.double (own_lead (qM = qm) (9218868437227405312 : UInt64) (FP.i2d bb)))])) t
          refine XS.dload X574.here hx rfl (hb hby at_232) rfl ?_
          refine XS.dcmpS (v := (0 : Int32)) X574.here hx rfl (hb hby at_234) rfl (own_ifN ne1 own_vP own_vP (Fl.i2d_fin bb)) ?_
          refine XS.ifNo X574.here hx rfl (hb hby at_235) rfl (own_if_neN (by decide)) ?_
          refine XS.iconst X574.here hx rfl (hb hby at_238) ?_
          show Steps p.tables e below (T570.setTop (mkF m 239 #[vi p0, vi p1, vi p2, vi (1 : Int32), vr qM, vi (1 : Int32), vi (0 : Int32), vi bb, vd (9218868437227405312 : UInt64), ss, vd (FP.i2d bb), ss, vd (own_lead (qM = qm) (9218868437227405312 : UInt64) (FP.i2d bb)), ss, vi (1 : Int32), vd (9218868437227405312 : UInt64), ss] [(.int (1 : Int32))])) t
          refine XS.goto X574.here hx rfl (pc0 := 239) (pc' := 243) rfl (hb hby at_239) (by decide) (by decide) ?_
          exact kk
        obtain ⟨fs, hr, hrun, hended, hW, hsame⟩ := X574.leave (v := some (.int (1 : Int32))) (fun h => by rw [Bd.returns] at h; cases h)
        have hrun0 := k594 _ (retOut X574 hx Bd.returns (t := .boolean) rfl (Or.inl ⟨rfl, Or.inr (Or.inl rfl), _, rfl⟩) (hb hby at_243) hr)
        subst hE0
        refine ⟨_, _, hrun0, hrun, hended, _, _, rfl, ?_, ⟨_, rfl⟩, hW, hsame.mono (by decide) (by decide)⟩
        show Qrm0 Z p0 p1 p2 qm qM h0 n0 _ T570.heap _
        rw [e587]
        exact ⟨rfl, N589⟩
    · skip
      have k595 : own_G p e below E0 T444 (mkF m 42 #[vi p0, vi p1, vi p2, vi (1 : Int32), vr qM, vi (-1 : Int32), uu, uu, uu, uu, uu, uu, uu, uu, uu, uu, uu] [(.int ((XT.ushr p2 (3 : Int32)) &&& (3 : Int32)))]) := by
        intro t kk
        refine k461 t ?_
        refine XS.istore X448.here hx rfl (hb hby at_35) rfl (l' := #[vi p0, vi p1, vi p2, vi (1 : Int32), vr qM, vi (-1 : Int32), uu, uu, uu, uu, uu, uu, uu, uu, uu, uu, uu]) rfl ?_
        refine XS.iloadN X448.here hx rfl (hb hby at_37) rfl ?_
        refine XS.iconst X448.here hx rfl (hb hby at_38) ?_
        refine XT.iushr X448.here hx rfl (hb hby at_39) rfl ?_
        show Steps p.tables e below (T444.setTop (mkF m 40 #[vi p0, vi p1, vi p2, vi (1 : Int32), vr qM, vi (-1 : Int32), uu, uu, uu, uu, uu, uu, uu, uu, uu, uu, uu] [(.int (XT.ushr p2 (3 : Int32)))])) t
        refine XS.iconst X448.here hx rfl (hb hby at_40) ?_
        refine XS.iand X448.here hx rfl (hb hby at_41) rfl ?_
        exact kk
      obtain ⟨_, _, ⟨T596, L597, kc598, nc599⟩, -, X600, ⟨Lc601, hQ602, l603, y604, z605⟩, st606⟩ := Jvm.LawKit.callS X448 hx (y := mn0) hown (mvT hZ (tw3 hw)) (mvT hZ (tw4 hw)) (mvT hZ (tw5 hw)) (mvT hZ (tw6 hw)) (by decide) (backOf (W := 0) (rmK l Z a0 hw [] ((XT.ushr p2 (3 : Int32)) &&& (3 : Int32)) h0 n0 Z0 ) hZ (tw6 hw) (tw5 hw) (by decide) (by decide)) (g := (mkF m 42 #[vi p0, vi p1, vi p2, vi (1 : Int32), vr qM, vi (-1 : Int32), uu, uu, uu, uu, uu, uu, uu, uu, uu, uu, uu] [(.int ((XT.ushr p2 (3 : Int32)) &&& (3 : Int32)))])) rfl (by rw [hml]; rfl) (argsL := [(.int ((XT.ushr p2 (3 : Int32)) &&& (3 : Int32)))]) (rest := []) (lenOf pd_3 rfl) rfl (by show 2 * 0 + _ ≤ _; exact Nat.le_of_eq rfl) (hb hby at_42) (fun _ _ => ⟨rfl, e456, (by decide : 0 + 0 ≤ _), (by decide : 0 + 0 ≤ _)⟩)
      dsimp only [Pt.U, Pt.locs, Pt.cells, Pt.slots] at X600 l603 y604 z605 st606 hQ602
      subst l603 y604 z605
      obtain ⟨r610, rfl, N607, e608, g611⟩ := hQ602
      have N612 := Fr.app N460 N607
      have k613 : own_G p e below E0 T596 (mkF m 45 #[vi p0, vi p1, vi p2, vi (1 : Int32), vr qM, vi (-1 : Int32), uu, uu, uu, uu, uu, uu, uu, uu, uu, uu, uu] [(.int r610)]) := fun t kk => k595 t (st606 _ kk)
      rcases g611 with rfl | rfl | rfl
      · skip
        have k614 : own_G p e below E0 T596 (mkF m 50 #[vi p0, vi p1, vi p2, vi (1 : Int32), vr qM, vi (-1 : Int32), vi (1 : Int32), uu, uu, uu, uu, uu, uu, uu, uu, uu, uu] [(.int (32 : Int32)), (.int p2)]) := by
          intro t kk
          refine k613 t ?_
          refine XS.istore X600.here hx rfl (hb hby at_45) rfl (l' := #[vi p0, vi p1, vi p2, vi (1 : Int32), vr qM, vi (-1 : Int32), vi (1 : Int32), uu, uu, uu, uu, uu, uu, uu, uu, uu, uu]) rfl ?_
          refine XS.iloadN X600.here hx rfl (hb hby at_47) rfl ?_
          refine XS.bipush X600.here hx rfl (hb hby at_48) ?_
          exact kk
        have jn620 : ∃ (bb : Int32), ((((p2 &&& (32 : Int32)) = 0) ∧ bb = p1) ∨ (¬ ((p2 &&& (32 : Int32)) = 0) ∧ bb = p0)) ∧ (own_G p e below E0 T596 (mkF m 59 #[vi p0, vi p1, vi p2, vi (1 : Int32), vr qM, vi (-1 : Int32), vi (1 : Int32), uu, uu, uu, uu, uu, uu, uu, uu, uu, uu] [(.int bb)])) := by
          have k615 : own_G p e below E0 T596 (mkF m 51 #[vi p0, vi p1, vi p2, vi (1 : Int32), vr qM, vi (-1 : Int32), vi (1 : Int32), uu, uu, uu, uu, uu, uu, uu, uu, uu, uu] [(.int (p2 &&& (32 : Int32)))]) := by
            intro t kk
            refine k614 t ?_
            refine XS.iand X600.here hx rfl (hb hby at_50) rfl ?_
            exact kk
          by_cases c616 : (p2 &&& (32 : Int32)) = 0
          · skip
            have k617 : own_G p e below E0 T596 (mkF m 59 #[vi p0, vi p1, vi p2, vi (1 : Int32), vr qM, vi (-1 : Int32), vi (1 : Int32), uu, uu, uu, uu, uu, uu, uu, uu, uu, uu] [(.int p1)]) := by
              intro t kk
              refine k615 t ?_
              refine XS.ifYes X600.here hx rfl (pc0 := 51) (pc' := 58) rfl (hb hby at_51) rfl (own_if_eqY c616) (by decide) (by decide) ?_
              refine XS.iloadN X600.here hx rfl (hb hby at_58) rfl ?_
              exact kk
            exact ⟨p1, (Or.inl (⟨c616, rfl⟩)), k617⟩
          · skip
            have k618 : own_G p e below E0 T596 (mkF m 59 #[vi p0, vi p1, vi p2, vi (1 : Int32), vr qM, vi (-1 : Int32), vi (1 : Int32), uu, uu, uu, uu, uu, uu, uu, uu, uu, uu] [(.int p0)]) := by
              intro t kk
              refine k615 t ?_
              refine XS.ifNo X600.here hx rfl (hb hby at_51) rfl (own_if_eqN c616) ?_
              refine XS.iloadN X600.here hx rfl (hb hby at_54) rfl ?_
              refine XS.goto X600.here hx rfl (pc0 := 55) (pc' := 59) rfl (hb hby at_55) (by decide) (by decide) ?_
              exact kk
            exact ⟨p0, (Or.inr (⟨c616, rfl⟩)), k618⟩
        obtain ⟨bb, hD621, k619⟩ := jn620
        have k622 : own_G p e below E0 T596 (mkF m 82 #[vi p0, vi p1, vi p2, vi (1 : Int32), vr qM, vi (-1 : Int32), vi (1 : Int32), vi bb, uu, uu, uu, uu, uu, uu, uu, uu, uu] []) := by
          intro t kk
          refine k619 t ?_
          refine XS.istore X600.here hx rfl (hb hby at_59) rfl (l' := #[vi p0, vi p1, vi p2, vi (1 : Int32), vr qM, vi (-1 : Int32), vi (1 : Int32), vi bb, uu, uu, uu, uu, uu, uu, uu, uu, uu]) rfl ?_
          refine XS.iload X600.here hx rfl (hb hby at_61) rfl ?_
          refine XS.ifYes X600.here hx rfl (pc0 := 63) (pc' := 71) rfl (hb hby at_63) rfl (own_if_neY (by decide)) (by decide) (by decide) ?_
          refine XS.iload X600.here hx rfl (hb hby at_71) rfl ?_
          show Steps p.tables e below (T596.setTop (mkF m 73 #[vi p0, vi p1, vi p2, vi (1 : Int32), vr qM, vi (-1 : Int32), vi (1 : Int32), vi bb, uu, uu, uu, uu, uu, uu, uu, uu, uu] [(.int (-1 : Int32))])) t
          refine XS.ifYes X600.here hx rfl (pc0 := 73) (pc' := 82) rfl (hb hby at_73) rfl (own_if_leY (by decide)) (by decide) (by decide) ?_
          exact kk
        have st623 := X600.ldc2DoubleC hx hown (mvT hZ (tw14 hw)) (g := (mkF m 82 #[vi p0, vi p1, vi p2, vi (1 : Int32), vr qM, vi (-1 : Int32), vi (1 : Int32), vi bb, uu, uu, uu, uu, uu, uu, uu, uu, uu] [])) rfl (hb hby at_82)
        have k624 : own_G p e below E0 T596 (mkF m 85 #[vi p0, vi p1, vi p2, vi (1 : Int32), vr qM, vi (-1 : Int32), vi (1 : Int32), vi bb, uu, uu, uu, uu, uu, uu, uu, uu, uu] [(.double (18442240474082181120 : UInt64))]) := fun t kk => k622 t (st623 _ kk)
        have k625 : own_G p e below E0 T596 (mkF m 103 #[vi p0, vi p1, vi p2, vi (1 : Int32), vr qM, vi (-1 : Int32), vi (1 : Int32), vi bb, vd (18442240474082181120 : UInt64), ss, uu, uu, uu, uu, uu, uu, uu] []) := by
          intro t kk
          refine k624 t ?_
          refine XS.dstore X600.here hx rfl (hb hby at_85) rfl (l' := #[vi p0, vi p1, vi p2, vi (1 : Int32), vr qM, vi (-1 : Int32), vi (1 : Int32), vi bb, vd (18442240474082181120 : UInt64), ss, uu, uu, uu, uu, uu, uu, uu]) rfl ?_
          refine XS.iload X600.here hx rfl (hb hby at_87) rfl ?_
          refine XS.ifYes X600.here hx rfl (pc0 := 89) (pc' := 98) rfl (hb hby at_89) rfl (own_if_neY (by decide)) (by decide) (by decide) ?_
          refine XS.iload X600.here hx rfl (hb hby at_98) rfl ?_
          show Steps p.tables e below (T596.setTop (mkF m 100 #[vi p0, vi p1, vi p2, vi (1 : Int32), vr qM, vi (-1 : Int32), vi (1 : Int32), vi bb, vd (18442240474082181120 : UInt64), ss, uu, uu, uu, uu, uu, uu, uu] [(.int (1 : Int32))])) t
          refine XS.ifNo X600.here hx rfl (hb hby at_100) rfl (own_if_leN (by decide)) ?_
          exact kk
        have st626 := X600.ldc2DoubleC hx hown (mvT hZ (tw7 hw)) (g := (mkF m 103 #[vi p0, vi p1, vi p2, vi (1 : Int32), vr qM, vi (-1 : Int32), vi (1 : Int32), vi bb, vd (18442240474082181120 : UInt64), ss, uu, uu, uu, uu, uu, uu, uu] [])) rfl (hb hby at_103)
        have k627 : own_G p e below E0 T596 (mkF m 106 #[vi p0, vi p1, vi p2, vi (1 : Int32), vr qM, vi (-1 : Int32), vi (1 : Int32), vi bb, vd (18442240474082181120 : UInt64), ss, uu, uu, uu, uu, uu, uu, uu] [(.double (9218868437227405312 : UInt64))]) := fun t kk => k625 t (st626 _ kk)
        have k628 : own_G p e below E0 T596 (mkF m 120 #[vi p0, vi p1, vi p2, vi (1 : Int32), vr qM, vi (-1 : Int32), vi (1 : Int32), vi bb, vd (18442240474082181120 : UInt64), ss, vd (9218868437227405312 : UInt64), ss, uu, uu, uu, uu, uu] [(.double (9218868437227405312 : UInt64)), (.double (18442240474082181120 : UInt64)), (.ref qM)]) := by
          intro t kk
          refine k627 t ?_
          refine XS.goto X600.here hx rfl (pc0 := 106) (pc' := 112) rfl (hb hby at_106) (by decide) (by decide) ?_
          refine XS.dstore X600.here hx rfl (hb hby at_112) rfl (l' := #[vi p0, vi p1, vi p2, vi (1 : Int32), vr qM, vi (-1 : Int32), vi (1 : Int32), vi bb, vd (18442240474082181120 : UInt64), ss, vd (9218868437227405312 : UInt64), ss, uu, uu, uu, uu, uu]) rfl ?_
          refine XS.aload X600.here hx rfl (hb hby at_114) rfl rfl ?_
          refine XS.dload X600.here hx rfl (hb hby at_116) rfl ?_
          show Steps p.tables e below (T596.setTop (mkF m 118 #[vi p0, vi p1, vi p2, vi (1 : Int32), vr qM, vi (-1 : Int32), vi (1 : Int32), vi bb, vd (18442240474082181120 : UInt64), ss, vd (9218868437227405312 : UInt64), ss, uu, uu, uu, uu, uu] [(.double (18442240474082181120 : UInt64)), (.ref qM)])) t
          refine XS.dload X600.here hx rfl (hb hby at_118) rfl ?_
          exact kk
        obtain ⟨cq640, kq641, qa642, qb643, qc644⟩ := isOf hZ e608 E2
        obtain ⟨_, _, ⟨T629, L630, kc631, nc632⟩, -, X633, ⟨Lc634, hQ635, l636, y637, z638⟩, st639⟩ := X600.virtualBack hx (y := mn1) (z := mn1) hown (mvT hZ (tw8 hw)) (mvT hZ (tw9 hw)) (notFace_of_selects (args := #[]) (mvT hZ (tw11 hw))) (mvT hZ (tw11 hw)) (mvT hZ (tw10 hw)) (by decide) (backOf (W := 0) (rm1 l Z a0 hw [] qM (18442240474082181120 : UInt64) (9218868437227405312 : UInt64) qm h0 n0 Z0 S1 own_nnN own_nnP (own_hn_np)) hZ (tw12 hw) (tw1 hw) (by decide) (by decide)) qa642 qc644 (g := (mkF m 120 #[vi p0, vi p1, vi p2, vi (1 : Int32), vr qM, vi (-1 : Int32), vi (1 : Int32), vi bb, vd (18442240474082181120 : UInt64), ss, vd (9218868437227405312 : UInt64), ss, uu, uu, uu, uu, uu] [(.double (9218868437227405312 : UInt64)), (.double (18442240474082181120 : UInt64)), (.ref qM)])) rfl (by rw [hml]; rfl) (Steps.refl _) (argsL := [(.double (18442240474082181120 : UInt64)), (.double (9218868437227405312 : UInt64))]) (rest := []) (lenOf pd_4 rfl) rfl (by show 2 * 0 + _ ≤ _; exact Nat.le_of_eq rfl) (hb hby at_120) (fun _ _ => ⟨rfl, e608, (by decide : 0 + 0 ≤ _), (by decide : 0 + 0 ≤ _)⟩)
        dsimp only [Pt.U, Pt.locs, Pt.cells, Pt.slots] at X633 l636 y637 z638 st639 hQ635
        subst l636 y637 z638
        obtain ⟨rfl, N645, e646⟩ := hQ635
        have N648 := Fr.app N612 N645
        have k649 : own_G p e below E0 T629 (mkF m 123 #[vi p0, vi p1, vi p2, vi (1 : Int32), vr qM, vi (-1 : Int32), vi (1 : Int32), vi bb, vd (18442240474082181120 : UInt64), ss, vd (9218868437227405312 : UInt64), ss, uu, uu, uu, uu, uu] [(.double (own_lead (qM = qm) (18442240474082181120 : UInt64) (9218868437227405312 : UInt64)))]) := fun t kk => k628 t (st639.trans kk)
        have k650 : own_G p e below E0 T629 (mkF m 173 #[vi p0, vi p1, vi p2, vi (1 : Int32), vr qM, vi (-1 : Int32), vi (1 : Int32), vi bb, vd (18442240474082181120 : UInt64), ss, vd (9218868437227405312 : UInt64), ss, vd (own_lead (qM = qm) (18442240474082181120 : UInt64) (9218868437227405312 : UInt64)), ss, vi (1 : Int32), uu, uu] []) := by
          intro t kk
          refine k649 t ?_
          refine XS.dstore X633.here hx rfl (hb hby at_123) rfl (l' := #[vi p0, vi p1, vi p2, vi (1 : Int32), vr qM, vi (-1 : Int32), vi (1 : Int32), vi bb, vd (18442240474082181120 : UInt64), ss, vd (9218868437227405312 : UInt64), ss, vd (own_lead (qM = qm) (18442240474082181120 : UInt64) (9218868437227405312 : UInt64)), ss, uu, uu, uu]) rfl ?_
          refine XS.iloadN X633.here hx rfl (hb hby at_125) rfl ?_
          refine XS.ifNo X633.here hx rfl (hb hby at_126) rfl (own_if_eqN (by decide)) ?_
          refine XS.iconst X633.here hx rfl (hb hby at_129) ?_
          show Steps p.tables e below (T629.setTop (mkF m 130 #[vi p0, vi p1, vi p2, vi (1 : Int32), vr qM, vi (-1 : Int32), vi (1 : Int32), vi bb, vd (18442240474082181120 : UInt64), ss, vd (9218868437227405312 : UInt64), ss, vd (own_lead (qM = qm) (18442240474082181120 : UInt64) (9218868437227405312 : UInt64)), ss, uu, uu, uu] [(.int (1 : Int32))])) t
          refine XS.goto X633.here hx rfl (pc0 := 130) (pc' := 134) rfl (hb hby at_130) (by decide) (by decide) ?_
          refine XS.istore X633.here hx rfl (hb hby at_134) rfl (l' := #[vi p0, vi p1, vi p2, vi (1 : Int32), vr qM, vi (-1 : Int32), vi (1 : Int32), vi bb, vd (18442240474082181120 : UInt64), ss, vd (9218868437227405312 : UInt64), ss, vd (own_lead (qM = qm) (18442240474082181120 : UInt64) (9218868437227405312 : UInt64)), ss, vi (1 : Int32), uu, uu]) rfl ?_
          refine XS.iload X633.here hx rfl (hb hby at_136) rfl ?_
          refine XS.ifNo X633.here hx rfl (hb hby at_138) rfl (own_if_eqN (by decide)) ?_
          show Steps p.tables e below (T629.setTop (mkF m 141 #[vi p0, vi p1, vi p2, vi (1 : Int32), vr qM, vi (-1 : Int32), vi (1 : Int32), vi bb, vd (18442240474082181120 : UInt64), ss, vd (9218868437227405312 : UInt64), ss, vd (own_lead (qM = qm) (18442240474082181120 : UInt64) (9218868437227405312 : UInt64)), ss, vi (1 : Int32), uu, uu] [])) t
          refine XS.iload X633.here hx rfl (hb hby at_141) rfl ?_
          refine XS.iload X633.here hx rfl (hb hby at_143) rfl ?_
          refine XS.icmpYes X633.here hx rfl (pc0 := 145) (pc' := 154) rfl (hb hby at_145) rfl (own_ic_neY (by decide)) (by decide) (by decide) ?_
          refine XS.iload X633.here hx rfl (hb hby at_154) rfl ?_
          show Steps p.tables e below (T629.setTop (mkF m 156 #[vi p0, vi p1, vi p2, vi (1 : Int32), vr qM, vi (-1 : Int32), vi (1 : Int32), vi bb, vd (18442240474082181120 : UInt64), ss, vd (9218868437227405312 : UInt64), ss, vd (own_lead (qM = qm) (18442240474082181120 : UInt64) (9218868437227405312 : UInt64)), ss, vi (1 : Int32), uu, uu] [(.int (-1 : Int32))])) t
          refine XS.ifNo X633.here hx rfl (hb hby at_156) rfl (own_if_eqN (by decide)) ?_
          refine XS.iload X633.here hx rfl (hb hby at_159) rfl ?_
          refine XS.iload X633.here hx rfl (hb hby at_161) rfl ?_
          refine XS.imul X633.here hx rfl (hb hby at_163) rfl ?_
          show Steps p.tables e below (T629.setTop (mkF m 164 #[vi p0, vi p1, vi p2, vi (1 : Int32), vr qM, vi (-1 : Int32), vi (1 : Int32), vi bb, vd (18442240474082181120 : UInt64), ss, vd (9218868437227405312 : UInt64), ss, vd (own_lead (qM = qm) (18442240474082181120 : UInt64) (9218868437227405312 : UInt64)), ss, vi (1 : Int32), uu, uu] [(.int (-1 : Int32))])) t
          refine XS.ifYes X633.here hx rfl (pc0 := 164) (pc' := 173) rfl (hb hby at_164) rfl (own_if_leY (by decide)) (by decide) (by decide) ?_
          exact kk
        have st651 := X633.ldc2DoubleC hx hown (mvT hZ (tw14 hw)) (g := (mkF m 173 #[vi p0, vi p1, vi p2, vi (1 : Int32), vr qM, vi (-1 : Int32), vi (1 : Int32), vi bb, vd (18442240474082181120 : UInt64), ss, vd (9218868437227405312 : UInt64), ss, vd (own_lead (qM = qm) (18442240474082181120 : UInt64) (9218868437227405312 : UInt64)), ss, vi (1 : Int32), uu, uu] [])) rfl (hb hby at_173)
        have k652 : own_G p e below E0 T629 (mkF m 176 #[vi p0, vi p1, vi p2, vi (1 : Int32), vr qM, vi (-1 : Int32), vi (1 : Int32), vi bb, vd (18442240474082181120 : UInt64), ss, vd (9218868437227405312 : UInt64), ss, vd (own_lead (qM = qm) (18442240474082181120 : UInt64) (9218868437227405312 : UInt64)), ss, vi (1 : Int32), uu, uu] [(.double (18442240474082181120 : UInt64))]) := fun t kk => k650 t (st651 _ kk)
        have k653 : own_G p e below E0 T629 (mkF m 243 #[vi p0, vi p1, vi p2, vi (1 : Int32), vr qM, vi (-1 : Int32), vi (1 : Int32), vi bb, vd (18442240474082181120 : UInt64), ss, vd (9218868437227405312 : UInt64), ss, vd (own_lead (qM = qm) (18442240474082181120 : UInt64) (9218868437227405312 : UInt64)), ss, vi (1 : Int32), vd (18442240474082181120 : UInt64), ss] [(.int (1 : Int32))]) := by
          intro t kk
          refine k652 t ?_
          refine XS.dstore X633.here hx rfl (hb hby at_176) rfl (l' := #[vi p0, vi p1, vi p2, vi (1 : Int32), vr qM, vi (-1 : Int32), vi (1 : Int32), vi bb, vd (18442240474082181120 : UInt64), ss, vd (9218868437227405312 : UInt64), ss, vd (own_lead (qM = qm) (18442240474082181120 : UInt64) (9218868437227405312 : UInt64)), ss, vi (1 : Int32), vd (18442240474082181120 : UInt64), ss]) rfl ?_
          refine XS.goto X633.here hx rfl (pc0 := 178) (pc' := 230) rfl (hb hby at_178) (by decide) (by decide) ?_
          refine XS.dload X633.here hx rfl (hb hby at_230) rfl ?_
          refine XS.dload X633.here hx rfl (hb hby at_232) rfl ?_
          show Steps p.tables e below (T629.setTop (mkF m 234 #[vi p0, vi p1, vi p2, vi (1 : Int32), vr qM, vi (-1 : Int32), vi (1 : Int32), vi bb, vd (18442240474082181120 : UInt64), ss, vd (9218868437227405312 : UInt64), ss, vd (own_lead (qM = qm) (18442240474082181120 : UInt64) (9218868437227405312 : UInt64)), ss, vi (1 : Int32), vd (18442240474082181120 : UInt64), ss] [(.double (18442240474082181120 : UInt64)), (.double (own_lead (qM = qm) (18442240474082181120 : UInt64) (9218868437227405312 : UInt64)))])) t
          refine XS.dcmpS (v := (0 : Int32)) X633.here hx rfl (hb hby at_234) rfl (own_iiN ne1 own_vN own_vP own_vN) ?_
          refine XS.ifNo X633.here hx rfl (hb hby at_235) rfl (own_if_neN (by decide)) ?_
          refine XS.iconst X633.here hx rfl (hb hby at_238) ?_
          refine XS.goto X633.here hx rfl (pc0 := 239) (pc' := 243) rfl (hb hby at_239) (by decide) (by decide) ?_
          exact kk
        obtain ⟨fs, hr, hrun, hended, hW, hsame⟩ := X633.leave (v := some (.int (1 : Int32))) (fun h => by rw [Bd.returns] at h; cases h)
        have hrun0 := k653 _ (retOut X633 hx Bd.returns (t := .boolean) rfl (Or.inl ⟨rfl, Or.inr (Or.inl rfl), _, rfl⟩) (hb hby at_243) hr)
        subst hE0
        refine ⟨_, _, hrun0, hrun, hended, _, _, rfl, ?_, ⟨_, rfl⟩, hW, hsame.mono (by decide) (by decide)⟩
        show Qrm0 Z p0 p1 p2 qm qM h0 n0 _ T629.heap _
        rw [e646]
        exact ⟨rfl, N648⟩
      · skip
        have k654 : own_G p e below E0 T596 (mkF m 50 #[vi p0, vi p1, vi p2, vi (1 : Int32), vr qM, vi (-1 : Int32), vi (-1 : Int32), uu, uu, uu, uu, uu, uu, uu, uu, uu, uu] [(.int (32 : Int32)), (.int p2)]) := by
          intro t kk
          refine k613 t ?_
          refine XS.istore X600.here hx rfl (hb hby at_45) rfl (l' := #[vi p0, vi p1, vi p2, vi (1 : Int32), vr qM, vi (-1 : Int32), vi (-1 : Int32), uu, uu, uu, uu, uu, uu, uu, uu, uu, uu]) rfl ?_
          refine XS.iloadN X600.here hx rfl (hb hby at_47) rfl ?_
          refine XS.bipush X600.here hx rfl (hb hby at_48) ?_
          exact kk
        have jn660 : ∃ (bb : Int32), ((((p2 &&& (32 : Int32)) = 0) ∧ bb = p1) ∨ (¬ ((p2 &&& (32 : Int32)) = 0) ∧ bb = p0)) ∧ (own_G p e below E0 T596 (mkF m 59 #[vi p0, vi p1, vi p2, vi (1 : Int32), vr qM, vi (-1 : Int32), vi (-1 : Int32), uu, uu, uu, uu, uu, uu, uu, uu, uu, uu] [(.int bb)])) := by
          have k655 : own_G p e below E0 T596 (mkF m 51 #[vi p0, vi p1, vi p2, vi (1 : Int32), vr qM, vi (-1 : Int32), vi (-1 : Int32), uu, uu, uu, uu, uu, uu, uu, uu, uu, uu] [(.int (p2 &&& (32 : Int32)))]) := by
            intro t kk
            refine k654 t ?_
            refine XS.iand X600.here hx rfl (hb hby at_50) rfl ?_
            exact kk
          by_cases c656 : (p2 &&& (32 : Int32)) = 0
          · skip
            have k657 : own_G p e below E0 T596 (mkF m 59 #[vi p0, vi p1, vi p2, vi (1 : Int32), vr qM, vi (-1 : Int32), vi (-1 : Int32), uu, uu, uu, uu, uu, uu, uu, uu, uu, uu] [(.int p1)]) := by
              intro t kk
              refine k655 t ?_
              refine XS.ifYes X600.here hx rfl (pc0 := 51) (pc' := 58) rfl (hb hby at_51) rfl (own_if_eqY c656) (by decide) (by decide) ?_
              refine XS.iloadN X600.here hx rfl (hb hby at_58) rfl ?_
              exact kk
            exact ⟨p1, (Or.inl (⟨c656, rfl⟩)), k657⟩
          · skip
            have k658 : own_G p e below E0 T596 (mkF m 59 #[vi p0, vi p1, vi p2, vi (1 : Int32), vr qM, vi (-1 : Int32), vi (-1 : Int32), uu, uu, uu, uu, uu, uu, uu, uu, uu, uu] [(.int p0)]) := by
              intro t kk
              refine k655 t ?_
              refine XS.ifNo X600.here hx rfl (hb hby at_51) rfl (own_if_eqN c656) ?_
              refine XS.iloadN X600.here hx rfl (hb hby at_54) rfl ?_
              refine XS.goto X600.here hx rfl (pc0 := 55) (pc' := 59) rfl (hb hby at_55) (by decide) (by decide) ?_
              exact kk
            exact ⟨p0, (Or.inr (⟨c656, rfl⟩)), k658⟩
        obtain ⟨bb, hD661, k659⟩ := jn660
        have k662 : own_G p e below E0 T596 (mkF m 82 #[vi p0, vi p1, vi p2, vi (1 : Int32), vr qM, vi (-1 : Int32), vi (-1 : Int32), vi bb, uu, uu, uu, uu, uu, uu, uu, uu, uu] []) := by
          intro t kk
          refine k659 t ?_
          refine XS.istore X600.here hx rfl (hb hby at_59) rfl (l' := #[vi p0, vi p1, vi p2, vi (1 : Int32), vr qM, vi (-1 : Int32), vi (-1 : Int32), vi bb, uu, uu, uu, uu, uu, uu, uu, uu, uu]) rfl ?_
          refine XS.iload X600.here hx rfl (hb hby at_61) rfl ?_
          refine XS.ifYes X600.here hx rfl (pc0 := 63) (pc' := 71) rfl (hb hby at_63) rfl (own_if_neY (by decide)) (by decide) (by decide) ?_
          refine XS.iload X600.here hx rfl (hb hby at_71) rfl ?_
          show Steps p.tables e below (T596.setTop (mkF m 73 #[vi p0, vi p1, vi p2, vi (1 : Int32), vr qM, vi (-1 : Int32), vi (-1 : Int32), vi bb, uu, uu, uu, uu, uu, uu, uu, uu, uu] [(.int (-1 : Int32))])) t
          refine XS.ifYes X600.here hx rfl (pc0 := 73) (pc' := 82) rfl (hb hby at_73) rfl (own_if_leY (by decide)) (by decide) (by decide) ?_
          exact kk
        have st663 := X600.ldc2DoubleC hx hown (mvT hZ (tw14 hw)) (g := (mkF m 82 #[vi p0, vi p1, vi p2, vi (1 : Int32), vr qM, vi (-1 : Int32), vi (-1 : Int32), vi bb, uu, uu, uu, uu, uu, uu, uu, uu, uu] [])) rfl (hb hby at_82)
        have k664 : own_G p e below E0 T596 (mkF m 85 #[vi p0, vi p1, vi p2, vi (1 : Int32), vr qM, vi (-1 : Int32), vi (-1 : Int32), vi bb, uu, uu, uu, uu, uu, uu, uu, uu, uu] [(.double (18442240474082181120 : UInt64))]) := fun t kk => k662 t (st663 _ kk)
        have k665 : own_G p e below E0 T596 (mkF m 109 #[vi p0, vi p1, vi p2, vi (1 : Int32), vr qM, vi (-1 : Int32), vi (-1 : Int32), vi bb, vd (18442240474082181120 : UInt64), ss, uu, uu, uu, uu, uu, uu, uu] []) := by
          intro t kk
          refine k664 t ?_
          refine XS.dstore X600.here hx rfl (hb hby at_85) rfl (l' := #[vi p0, vi p1, vi p2, vi (1 : Int32), vr qM, vi (-1 : Int32), vi (-1 : Int32), vi bb, vd (18442240474082181120 : UInt64), ss, uu, uu, uu, uu, uu, uu, uu]) rfl ?_
          refine XS.iload X600.here hx rfl (hb hby at_87) rfl ?_
          refine XS.ifYes X600.here hx rfl (pc0 := 89) (pc' := 98) rfl (hb hby at_89) rfl (own_if_neY (by decide)) (by decide) (by decide) ?_
          refine XS.iload X600.here hx rfl (hb hby at_98) rfl ?_
          show Steps p.tables e below (T596.setTop (mkF m 100 #[vi p0, vi p1, vi p2, vi (1 : Int32), vr qM, vi (-1 : Int32), vi (-1 : Int32), vi bb, vd (18442240474082181120 : UInt64), ss, uu, uu, uu, uu, uu, uu, uu] [(.int (-1 : Int32))])) t
          refine XS.ifYes X600.here hx rfl (pc0 := 100) (pc' := 109) rfl (hb hby at_100) rfl (own_if_leY (by decide)) (by decide) (by decide) ?_
          exact kk
        have st666 := X600.ldc2DoubleC hx hown (mvT hZ (tw14 hw)) (g := (mkF m 109 #[vi p0, vi p1, vi p2, vi (1 : Int32), vr qM, vi (-1 : Int32), vi (-1 : Int32), vi bb, vd (18442240474082181120 : UInt64), ss, uu, uu, uu, uu, uu, uu, uu] [])) rfl (hb hby at_109)
        have k667 : own_G p e below E0 T596 (mkF m 112 #[vi p0, vi p1, vi p2, vi (1 : Int32), vr qM, vi (-1 : Int32), vi (-1 : Int32), vi bb, vd (18442240474082181120 : UInt64), ss, uu, uu, uu, uu, uu, uu, uu] [(.double (18442240474082181120 : UInt64))]) := fun t kk => k665 t (st666 _ kk)
        have k668 : own_G p e below E0 T596 (mkF m 120 #[vi p0, vi p1, vi p2, vi (1 : Int32), vr qM, vi (-1 : Int32), vi (-1 : Int32), vi bb, vd (18442240474082181120 : UInt64), ss, vd (18442240474082181120 : UInt64), ss, uu, uu, uu, uu, uu] [(.double (18442240474082181120 : UInt64)), (.double (18442240474082181120 : UInt64)), (.ref qM)]) := by
          intro t kk
          refine k667 t ?_
          refine XS.dstore X600.here hx rfl (hb hby at_112) rfl (l' := #[vi p0, vi p1, vi p2, vi (1 : Int32), vr qM, vi (-1 : Int32), vi (-1 : Int32), vi bb, vd (18442240474082181120 : UInt64), ss, vd (18442240474082181120 : UInt64), ss, uu, uu, uu, uu, uu]) rfl ?_
          refine XS.aload X600.here hx rfl (hb hby at_114) rfl rfl ?_
          refine XS.dload X600.here hx rfl (hb hby at_116) rfl ?_
          refine XS.dload X600.here hx rfl (hb hby at_118) rfl ?_
          exact kk
        obtain ⟨cq680, kq681, qa682, qb683, qc684⟩ := isOf hZ e608 E2
        obtain ⟨_, _, ⟨T669, L670, kc671, nc672⟩, -, X673, ⟨Lc674, hQ675, l676, y677, z678⟩, st679⟩ := X600.virtualBack hx (y := mn1) (z := mn1) hown (mvT hZ (tw8 hw)) (mvT hZ (tw9 hw)) (notFace_of_selects (args := #[]) (mvT hZ (tw11 hw))) (mvT hZ (tw11 hw)) (mvT hZ (tw10 hw)) (by decide) (backOf (W := 0) (rm1 l Z a0 hw [] qM (18442240474082181120 : UInt64) (18442240474082181120 : UInt64) qm h0 n0 Z0 S1 own_nnN own_nnN (fun z => absurd rfl z)) hZ (tw12 hw) (tw1 hw) (by decide) (by decide)) qa682 qc684 (g := (mkF m 120 #[vi p0, vi p1, vi p2, vi (1 : Int32), vr qM, vi (-1 : Int32), vi (-1 : Int32), vi bb, vd (18442240474082181120 : UInt64), ss, vd (18442240474082181120 : UInt64), ss, uu, uu, uu, uu, uu] [(.double (18442240474082181120 : UInt64)), (.double (18442240474082181120 : UInt64)), (.ref qM)])) rfl (by rw [hml]; rfl) (Steps.refl _) (argsL := [(.double (18442240474082181120 : UInt64)), (.double (18442240474082181120 : UInt64))]) (rest := []) (lenOf pd_4 rfl) rfl (by show 2 * 0 + _ ≤ _; exact Nat.le_of_eq rfl) (hb hby at_120) (fun _ _ => ⟨rfl, e608, (by decide : 0 + 0 ≤ _), (by decide : 0 + 0 ≤ _)⟩)
        dsimp only [Pt.U, Pt.locs, Pt.cells, Pt.slots] at X673 l676 y677 z678 st679 hQ675
        subst l676 y677 z678
        obtain ⟨rfl, N685, e686⟩ := hQ675
        have N688 := Fr.app N612 N685
        have k689 : own_G p e below E0 T669 (mkF m 123 #[vi p0, vi p1, vi p2, vi (1 : Int32), vr qM, vi (-1 : Int32), vi (-1 : Int32), vi bb, vd (18442240474082181120 : UInt64), ss, vd (18442240474082181120 : UInt64), ss, uu, uu, uu, uu, uu] [(.double (own_lead (qM = qm) (18442240474082181120 : UInt64) (18442240474082181120 : UInt64)))]) := fun t kk => k668 t (st679.trans kk)
        have k690 : own_G p e below E0 T669 (mkF m 243 #[vi p0, vi p1, vi p2, vi (1 : Int32), vr qM, vi (-1 : Int32), vi (-1 : Int32), vi bb, vd (18442240474082181120 : UInt64), ss, vd (18442240474082181120 : UInt64), ss, vd (own_lead (qM = qm) (18442240474082181120 : UInt64) (18442240474082181120 : UInt64)), ss, vi (1 : Int32), vd FP.dconst0, ss] [(.int (1 : Int32))]) := by
          intro t kk
          refine k689 t ?_
          refine XS.dstore X673.here hx rfl (hb hby at_123) rfl (l' := #[vi p0, vi p1, vi p2, vi (1 : Int32), vr qM, vi (-1 : Int32), vi (-1 : Int32), vi bb, vd (18442240474082181120 : UInt64), ss, vd (18442240474082181120 : UInt64), ss, vd (own_lead (qM = qm) (18442240474082181120 : UInt64) (18442240474082181120 : UInt64)), ss, uu, uu, uu]) rfl ?_
          refine XS.iloadN X673.here hx rfl (hb hby at_125) rfl ?_
          refine XS.ifNo X673.here hx rfl (hb hby at_126) rfl (own_if_eqN (by decide)) ?_
          refine XS.iconst X673.here hx rfl (hb hby at_129) ?_
          show Steps p.tables e below (T669.setTop (mkF m 130 #[vi p0, vi p1, vi p2, vi (1 : Int32), vr qM, vi (-1 : Int32), vi (-1 : Int32), vi bb, vd (18442240474082181120 : UInt64), ss, vd (18442240474082181120 : UInt64), ss, vd (own_lead (qM = qm) (18442240474082181120 : UInt64) (18442240474082181120 : UInt64)), ss, uu, uu, uu] [(.int (1 : Int32))])) t
          refine XS.goto X673.here hx rfl (pc0 := 130) (pc' := 134) rfl (hb hby at_130) (by decide) (by decide) ?_
          refine XS.istore X673.here hx rfl (hb hby at_134) rfl (l' := #[vi p0, vi p1, vi p2, vi (1 : Int32), vr qM, vi (-1 : Int32), vi (-1 : Int32), vi bb, vd (18442240474082181120 : UInt64), ss, vd (18442240474082181120 : UInt64), ss, vd (own_lead (qM = qm) (18442240474082181120 : UInt64) (18442240474082181120 : UInt64)), ss, vi (1 : Int32), uu, uu]) rfl ?_
          refine XS.iload X673.here hx rfl (hb hby at_136) rfl ?_
          refine XS.ifNo X673.here hx rfl (hb hby at_138) rfl (own_if_eqN (by decide)) ?_
          show Steps p.tables e below (T669.setTop (mkF m 141 #[vi p0, vi p1, vi p2, vi (1 : Int32), vr qM, vi (-1 : Int32), vi (-1 : Int32), vi bb, vd (18442240474082181120 : UInt64), ss, vd (18442240474082181120 : UInt64), ss, vd (own_lead (qM = qm) (18442240474082181120 : UInt64) (18442240474082181120 : UInt64)), ss, vi (1 : Int32), uu, uu] [])) t
          refine XS.iload X673.here hx rfl (hb hby at_141) rfl ?_
          refine XS.iload X673.here hx rfl (hb hby at_143) rfl ?_
          refine XS.icmpNo X673.here hx rfl (hb hby at_145) rfl (own_ic_neN (by decide)) ?_
          refine XS.dconst0 X673.here hx rfl (hb hby at_148) rfl ?_
          show Steps p.tables e below (T669.setTop (mkF m 149 #[vi p0, vi p1, vi p2, vi (1 : Int32), vr qM, vi (-1 : Int32), vi (-1 : Int32), vi bb, vd (18442240474082181120 : UInt64), ss, vd (18442240474082181120 : UInt64), ss, vd (own_lead (qM = qm) (18442240474082181120 : UInt64) (18442240474082181120 : UInt64)), ss, vi (1 : Int32), uu, uu] [(.double FP.dconst0)])) t
          refine XS.dstore X673.here hx rfl (hb hby at_149) rfl (l' := #[vi p0, vi p1, vi p2, vi (1 : Int32), vr qM, vi (-1 : Int32), vi (-1 : Int32), vi bb, vd (18442240474082181120 : UInt64), ss, vd (18442240474082181120 : UInt64), ss, vd (own_lead (qM = qm) (18442240474082181120 : UInt64) (18442240474082181120 : UInt64)), ss, vi (1 : Int32), vd FP.dconst0, ss]) rfl ?_
          refine XS.goto X673.here hx rfl (pc0 := 151) (pc' := 230) rfl (hb hby at_151) (by decide) (by decide) ?_
          refine XS.dload X673.here hx rfl (hb hby at_230) rfl ?_
          refine XS.dload X673.here hx rfl (hb hby at_232) rfl ?_
          show Steps p.tables e below (T669.setTop (mkF m 234 #[vi p0, vi p1, vi p2, vi (1 : Int32), vr qM, vi (-1 : Int32), vi (-1 : Int32), vi bb, vd (18442240474082181120 : UInt64), ss, vd (18442240474082181120 : UInt64), ss, vd (own_lead (qM = qm) (18442240474082181120 : UInt64) (18442240474082181120 : UInt64)), ss, vi (1 : Int32), vd FP.dconst0, ss] [(.double FP.dconst0), (.double (own_lead (qM = qm) (18442240474082181120 : UInt64) (18442240474082181120 : UInt64)))])) t
          refine XS.dcmpS (v := (0 : Int32)) X673.here hx rfl (hb hby at_234) rfl (dcmpV_eq (own_lead_same _ _) (own_lead_same (qM = qm) (18442240474082181120 : UInt64) ▸ own_nn own_d0) .l) ?_
          refine XS.ifNo X673.here hx rfl (hb hby at_235) rfl (own_if_neN (by decide)) ?_
          refine XS.iconst X673.here hx rfl (hb hby at_238) ?_
          refine XS.goto X673.here hx rfl (pc0 := 239) (pc' := 243) rfl (hb hby at_239) (by decide) (by decide) ?_
          exact kk
        obtain ⟨fs, hr, hrun, hended, hW, hsame⟩ := X673.leave (v := some (.int (1 : Int32))) (fun h => by rw [Bd.returns] at h; cases h)
        have hrun0 := k690 _ (retOut X673 hx Bd.returns (t := .boolean) rfl (Or.inl ⟨rfl, Or.inr (Or.inl rfl), _, rfl⟩) (hb hby at_243) hr)
        subst hE0
        refine ⟨_, _, hrun0, hrun, hended, _, _, rfl, ?_, ⟨_, rfl⟩, hW, hsame.mono (by decide) (by decide)⟩
        show Qrm0 Z p0 p1 p2 qm qM h0 n0 _ T669.heap _
        rw [e686]
        exact ⟨rfl, N688⟩
      · skip
        have k691 : own_G p e below E0 T596 (mkF m 50 #[vi p0, vi p1, vi p2, vi (1 : Int32), vr qM, vi (-1 : Int32), vi (0 : Int32), uu, uu, uu, uu, uu, uu, uu, uu, uu, uu] [(.int (32 : Int32)), (.int p2)]) := by
          intro t kk
          refine k613 t ?_
          refine XS.istore X600.here hx rfl (hb hby at_45) rfl (l' := #[vi p0, vi p1, vi p2, vi (1 : Int32), vr qM, vi (-1 : Int32), vi (0 : Int32), uu, uu, uu, uu, uu, uu, uu, uu, uu, uu]) rfl ?_
          refine XS.iloadN X600.here hx rfl (hb hby at_47) rfl ?_
          refine XS.bipush X600.here hx rfl (hb hby at_48) ?_
          exact kk
        have jn697 : ∃ (bb : Int32), ((((p2 &&& (32 : Int32)) = 0) ∧ bb = p1) ∨ (¬ ((p2 &&& (32 : Int32)) = 0) ∧ bb = p0)) ∧ (own_G p e below E0 T596 (mkF m 59 #[vi p0, vi p1, vi p2, vi (1 : Int32), vr qM, vi (-1 : Int32), vi (0 : Int32), uu, uu, uu, uu, uu, uu, uu, uu, uu, uu] [(.int bb)])) := by
          have k692 : own_G p e below E0 T596 (mkF m 51 #[vi p0, vi p1, vi p2, vi (1 : Int32), vr qM, vi (-1 : Int32), vi (0 : Int32), uu, uu, uu, uu, uu, uu, uu, uu, uu, uu] [(.int (p2 &&& (32 : Int32)))]) := by
            intro t kk
            refine k691 t ?_
            refine XS.iand X600.here hx rfl (hb hby at_50) rfl ?_
            exact kk
          by_cases c693 : (p2 &&& (32 : Int32)) = 0
          · skip
            have k694 : own_G p e below E0 T596 (mkF m 59 #[vi p0, vi p1, vi p2, vi (1 : Int32), vr qM, vi (-1 : Int32), vi (0 : Int32), uu, uu, uu, uu, uu, uu, uu, uu, uu, uu] [(.int p1)]) := by
              intro t kk
              refine k692 t ?_
              refine XS.ifYes X600.here hx rfl (pc0 := 51) (pc' := 58) rfl (hb hby at_51) rfl (own_if_eqY c693) (by decide) (by decide) ?_
              refine XS.iloadN X600.here hx rfl (hb hby at_58) rfl ?_
              exact kk
            exact ⟨p1, (Or.inl (⟨c693, rfl⟩)), k694⟩
          · skip
            have k695 : own_G p e below E0 T596 (mkF m 59 #[vi p0, vi p1, vi p2, vi (1 : Int32), vr qM, vi (-1 : Int32), vi (0 : Int32), uu, uu, uu, uu, uu, uu, uu, uu, uu, uu] [(.int p0)]) := by
              intro t kk
              refine k692 t ?_
              refine XS.ifNo X600.here hx rfl (hb hby at_51) rfl (own_if_eqN c693) ?_
              refine XS.iloadN X600.here hx rfl (hb hby at_54) rfl ?_
              refine XS.goto X600.here hx rfl (pc0 := 55) (pc' := 59) rfl (hb hby at_55) (by decide) (by decide) ?_
              exact kk
            exact ⟨p0, (Or.inr (⟨c693, rfl⟩)), k695⟩
        obtain ⟨bb, hD698, k696⟩ := jn697
        have k699 : own_G p e below E0 T596 (mkF m 82 #[vi p0, vi p1, vi p2, vi (1 : Int32), vr qM, vi (-1 : Int32), vi (0 : Int32), vi bb, uu, uu, uu, uu, uu, uu, uu, uu, uu] []) := by
          intro t kk
          refine k696 t ?_
          refine XS.istore X600.here hx rfl (hb hby at_59) rfl (l' := #[vi p0, vi p1, vi p2, vi (1 : Int32), vr qM, vi (-1 : Int32), vi (0 : Int32), vi bb, uu, uu, uu, uu, uu, uu, uu, uu, uu]) rfl ?_
          refine XS.iload X600.here hx rfl (hb hby at_61) rfl ?_
          refine XS.ifYes X600.here hx rfl (pc0 := 63) (pc' := 71) rfl (hb hby at_63) rfl (own_if_neY (by decide)) (by decide) (by decide) ?_
          refine XS.iload X600.here hx rfl (hb hby at_71) rfl ?_
          show Steps p.tables e below (T596.setTop (mkF m 73 #[vi p0, vi p1, vi p2, vi (1 : Int32), vr qM, vi (-1 : Int32), vi (0 : Int32), vi bb, uu, uu, uu, uu, uu, uu, uu, uu, uu] [(.int (-1 : Int32))])) t
          refine XS.ifYes X600.here hx rfl (pc0 := 73) (pc' := 82) rfl (hb hby at_73) rfl (own_if_leY (by decide)) (by decide) (by decide) ?_
          exact kk
        have st700 := X600.ldc2DoubleC hx hown (mvT hZ (tw14 hw)) (g := (mkF m 82 #[vi p0, vi p1, vi p2, vi (1 : Int32), vr qM, vi (-1 : Int32), vi (0 : Int32), vi bb, uu, uu, uu, uu, uu, uu, uu, uu, uu] [])) rfl (hb hby at_82)
        have k701 : own_G p e below E0 T596 (mkF m 85 #[vi p0, vi p1, vi p2, vi (1 : Int32), vr qM, vi (-1 : Int32), vi (0 : Int32), vi bb, uu, uu, uu, uu, uu, uu, uu, uu, uu] [(.double (18442240474082181120 : UInt64))]) := fun t kk => k699 t (st700 _ kk)
        have k702 : own_G p e below E0 T596 (mkF m 120 #[vi p0, vi p1, vi p2, vi (1 : Int32), vr qM, vi (-1 : Int32), vi (0 : Int32), vi bb, vd (18442240474082181120 : UInt64), ss, vd (FP.i2d bb), ss, uu, uu, uu, uu, uu] [(.double (FP.i2d bb)), (.double (18442240474082181120 : UInt64)), (.ref qM)]) := by
          intro t kk
          refine k701 t ?_
          refine XS.dstore X600.here hx rfl (hb hby at_85) rfl (l' := #[vi p0, vi p1, vi p2, vi (1 : Int32), vr qM, vi (-1 : Int32), vi (0 : Int32), vi bb, vd (18442240474082181120 : UInt64), ss, uu, uu, uu, uu, uu, uu, uu]) rfl ?_
          refine XS.iload X600.here hx rfl (hb hby at_87) rfl ?_
          refine XS.ifNo X600.here hx rfl (hb hby at_89) rfl (own_if_neN (by decide)) ?_
          refine XS.iload X600.here hx rfl (hb hby at_92) rfl ?_
          show Steps p.tables e below (T596.setTop (mkF m 94 #[vi p0, vi p1, vi p2, vi (1 : Int32), vr qM, vi (-1 : Int32), vi (0 : Int32), vi bb, vd (18442240474082181120 : UInt64), ss, uu, uu, uu, uu, uu, uu, uu] [(.int bb)])) t
          refine XS.i2dS X600.here hx rfl (hb hby at_94) rfl rfl ?_
          refine XS.goto X600.here hx rfl (pc0 := 95) (pc' := 112) rfl (hb hby at_95) (by decide) (by decide) ?_
          refine XS.dstore X600.here hx rfl (hb hby at_112) rfl (l' := #[vi p0, vi p1, vi p2, vi (1 : Int32), vr qM, vi (-1 : Int32), vi (0 : Int32), vi bb, vd (18442240474082181120 : UInt64), ss, vd (FP.i2d bb), ss, uu, uu, uu, uu, uu]) rfl ?_
          refine XS.aload X600.here hx rfl (hb hby at_114) rfl rfl ?_
          show Steps p.tables e below (T596.setTop (mkF m 116 #[vi p0, vi p1, vi p2, vi (1 : Int32), vr qM, vi (-1 : Int32), vi (0 : Int32), vi bb, vd (18442240474082181120 : UInt64), ss, vd (FP.i2d bb), ss, uu, uu, uu, uu, uu] [(.ref qM)])) t
          refine XS.dload X600.here hx rfl (hb hby at_116) rfl ?_
          refine XS.dload X600.here hx rfl (hb hby at_118) rfl ?_
          exact kk
        obtain ⟨cq714, kq715, qa716, qb717, qc718⟩ := isOf hZ e608 E2
        obtain ⟨_, _, ⟨T703, L704, kc705, nc706⟩, -, X707, ⟨Lc708, hQ709, l710, y711, z712⟩, st713⟩ := X600.virtualBack hx (y := mn1) (z := mn1) hown (mvT hZ (tw8 hw)) (mvT hZ (tw9 hw)) (notFace_of_selects (args := #[]) (mvT hZ (tw11 hw))) (mvT hZ (tw11 hw)) (mvT hZ (tw10 hw)) (by decide) (backOf (W := 0) (rm1 l Z a0 hw [] qM (18442240474082181120 : UInt64) (FP.i2d bb) qm h0 n0 Z0 S1 own_nnN (Fl.i2d_fin bb).noNaN (own_hn_if own_vN (Fl.i2d_fin bb))) hZ (tw12 hw) (tw1 hw) (by decide) (by decide)) qa716 qc718 (g := (mkF m 120 #[vi p0, vi p1, vi p2, vi (1 : Int32), vr qM, vi (-1 : Int32), vi (0 : Int32), vi bb, vd (18442240474082181120 : UInt64), ss, vd (FP.i2d bb), ss, uu, uu, uu, uu, uu] [(.double (FP.i2d bb)), (.double (18442240474082181120 : UInt64)), (.ref qM)])) rfl (by rw [hml]; rfl) (Steps.refl _) (argsL := [(.double (18442240474082181120 : UInt64)), (.double (FP.i2d bb))]) (rest := []) (lenOf pd_4 rfl) rfl (by show 2 * 0 + _ ≤ _; exact Nat.le_of_eq rfl) (hb hby at_120) (fun _ _ => ⟨rfl, e608, (by decide : 0 + 0 ≤ _), (by decide : 0 + 0 ≤ _)⟩)
        dsimp only [Pt.U, Pt.locs, Pt.cells, Pt.slots] at X707 l710 y711 z712 st713 hQ709
        subst l710 y711 z712
        obtain ⟨rfl, N719, e720⟩ := hQ709
        have N722 := Fr.app N612 N719
        have k723 : own_G p e below E0 T703 (mkF m 123 #[vi p0, vi p1, vi p2, vi (1 : Int32), vr qM, vi (-1 : Int32), vi (0 : Int32), vi bb, vd (18442240474082181120 : UInt64), ss, vd (FP.i2d bb), ss, uu, uu, uu, uu, uu] [(.double (own_lead (qM = qm) (18442240474082181120 : UInt64) (FP.i2d bb)))]) := fun t kk => k702 t (st713.trans kk)
        have k724 : own_G p e below E0 T703 (mkF m 173 #[vi p0, vi p1, vi p2, vi (1 : Int32), vr qM, vi (-1 : Int32), vi (0 : Int32), vi bb, vd (18442240474082181120 : UInt64), ss, vd (FP.i2d bb), ss, vd (own_lead (qM = qm) (18442240474082181120 : UInt64) (FP.i2d bb)), ss, vi (1 : Int32), uu, uu] []) := by
          intro t kk
          refine k723 t ?_
          refine XS.dstore X707.here hx rfl (hb hby at_123) rfl (l' := #[vi p0, vi p1, vi p2, vi (1 : Int32), vr qM, vi (-1 : Int32), vi (0 : Int32), vi bb, vd (18442240474082181120 : UInt64), ss, vd (FP.i2d bb), ss, vd (own_lead (qM = qm) (18442240474082181120 : UInt64) (FP.i2d bb)), ss, uu, uu, uu]) rfl ?_
          refine XS.iloadN X707.here hx rfl (hb hby at_125) rfl ?_
          refine XS.ifNo X707.here hx rfl (hb hby at_126) rfl (own_if_eqN (by decide)) ?_
          refine XS.iconst X707.here hx rfl (hb hby at_129) ?_
          show Steps p.tables e below (T703.setTop (mkF m 130 #[vi p0, vi p1, vi p2, vi (1 : Int32), vr qM, vi (-1 : Int32), vi (0 : Int32), vi bb, vd (18442240474082181120 : UInt64), ss, vd (FP.i2d bb), ss, vd (own_lead (qM = qm) (18442240474082181120 : UInt64) (FP.i2d bb)), ss, uu, uu, uu] [(.int (1 : Int32))])) t
          refine XS.goto X707.here hx rfl (pc0 := 130) (pc' := 134) rfl (hb hby at_130) (by decide) (by decide) ?_
          refine XS.istore X707.here hx rfl (hb hby at_134) rfl (l' := #[vi p0, vi p1, vi p2, vi (1 : Int32), vr qM, vi (-1 : Int32), vi (0 : Int32), vi bb, vd (18442240474082181120 : UInt64), ss, vd (FP.i2d bb), ss, vd (own_lead (qM = qm) (18442240474082181120 : UInt64) (FP.i2d bb)), ss, vi (1 : Int32), uu, uu]) rfl ?_
          refine XS.iload X707.here hx rfl (hb hby at_136) rfl ?_
          refine XS.ifNo X707.here hx rfl (hb hby at_138) rfl (own_if_eqN (by decide)) ?_
          show Steps p.tables e below (T703.setTop (mkF m 141 #[vi p0, vi p1, vi p2, vi (1 : Int32), vr qM, vi (-1 : Int32), vi (0 : Int32), vi bb, vd (18442240474082181120 : UInt64), ss, vd (FP.i2d bb), ss, vd (own_lead (qM = qm) (18442240474082181120 : UInt64) (FP.i2d bb)), ss, vi (1 : Int32), uu, uu] [])) t
          refine XS.iload X707.here hx rfl (hb hby at_141) rfl ?_
          refine XS.iload X707.here hx rfl (hb hby at_143) rfl ?_
          refine XS.icmpYes X707.here hx rfl (pc0 := 145) (pc' := 154) rfl (hb hby at_145) rfl (own_ic_neY (by decide)) (by decide) (by decide) ?_
          refine XS.iload X707.here hx rfl (hb hby at_154) rfl ?_
          show Steps p.tables e below (T703.setTop (mkF m 156 #[vi p0, vi p1, vi p2, vi (1 : Int32), vr qM, vi (-1 : Int32), vi (0 : Int32), vi bb, vd (18442240474082181120 : UInt64), ss, vd (FP.i2d bb), ss, vd (own_lead (qM = qm) (18442240474082181120 : UInt64) (FP.i2d bb)), ss, vi (1 : Int32), uu, uu] [(.int (-1 : Int32))])) t
          refine XS.ifNo X707.here hx rfl (hb hby at_156) rfl (own_if_eqN (by decide)) ?_
          refine XS.iload X707.here hx rfl (hb hby at_159) rfl ?_
          refine XS.iload X707.here hx rfl (hb hby at_161) rfl ?_
          refine XS.imul X707.here hx rfl (hb hby at_163) rfl ?_
          show Steps p.tables e below (T703.setTop (mkF m 164 #[vi p0, vi p1, vi p2, vi (1 : Int32), vr qM, vi (-1 : Int32), vi (0 : Int32), vi bb, vd (18442240474082181120 : UInt64), ss, vd (FP.i2d bb), ss, vd (own_lead (qM = qm) (18442240474082181120 : UInt64) (FP.i2d bb)), ss, vi (1 : Int32), uu, uu] [(.int (-1 : Int32))])) t
          refine XS.ifYes X707.here hx rfl (pc0 := 164) (pc' := 173) rfl (hb hby at_164) rfl (own_if_leY (by decide)) (by decide) (by decide) ?_
          exact kk
        have st725 := X707.ldc2DoubleC hx hown (mvT hZ (tw14 hw)) (g := (mkF m 173 #[vi p0, vi p1, vi p2, vi (1 : Int32), vr qM, vi (-1 : Int32), vi (0 : Int32), vi bb, vd (18442240474082181120 : UInt64), ss, vd (FP.i2d bb), ss, vd (own_lead (qM = qm) (18442240474082181120 : UInt64) (FP.i2d bb)), ss, vi (1 : Int32), uu, uu] [])) rfl (hb hby at_173)
        have k726 : own_G p e below E0 T703 (mkF m 176 #[vi p0, vi p1, vi p2, vi (1 : Int32), vr qM, vi (-1 : Int32), vi (0 : Int32), vi bb, vd (18442240474082181120 : UInt64), ss, vd (FP.i2d bb), ss, vd (own_lead (qM = qm) (18442240474082181120 : UInt64) (FP.i2d bb)), ss, vi (1 : Int32), uu, uu] [(.double (18442240474082181120 : UInt64))]) := fun t kk => k724 t (st725 _ kk)
        have k727 : own_G p e below E0 T703 (mkF m 243 #[vi p0, vi p1, vi p2, vi (1 : Int32), vr qM, vi (-1 : Int32), vi (0 : Int32), vi bb, vd (18442240474082181120 : UInt64), ss, vd (FP.i2d bb), ss, vd (own_lead (qM = qm) (18442240474082181120 : UInt64) (FP.i2d bb)), ss, vi (1 : Int32), vd (18442240474082181120 : UInt64), ss] [(.int (1 : Int32))]) := by
          intro t kk
          refine k726 t ?_
          refine XS.dstore X707.here hx rfl (hb hby at_176) rfl (l' := #[vi p0, vi p1, vi p2, vi (1 : Int32), vr qM, vi (-1 : Int32), vi (0 : Int32), vi bb, vd (18442240474082181120 : UInt64), ss, vd (FP.i2d bb), ss, vd (own_lead (qM = qm) (18442240474082181120 : UInt64) (FP.i2d bb)), ss, vi (1 : Int32), vd (18442240474082181120 : UInt64), ss]) rfl ?_
          refine XS.goto X707.here hx rfl (pc0 := 178) (pc' := 230) rfl (hb hby at_178) (by decide) (by decide) ?_
          refine XS.dload X707.here hx rfl (hb hby at_230) rfl ?_
          refine XS.dload X707.here hx rfl (hb hby at_232) rfl ?_
          show Steps p.tables e below (T703.setTop (mkF m 234 #[vi p0, vi p1, vi p2, vi (1 : Int32), vr qM, vi (-1 : Int32), vi (0 : Int32), vi bb, vd (18442240474082181120 : UInt64), ss, vd (FP.i2d bb), ss, vd (own_lead (qM = qm) (18442240474082181120 : UInt64) (FP.i2d bb)), ss, vi (1 : Int32), vd (18442240474082181120 : UInt64), ss] [(.double (18442240474082181120 : UInt64)), (.double (own_lead (qM = qm) (18442240474082181120 : UInt64) (FP.i2d bb)))])) t
          refine XS.dcmpS (v := (0 : Int32)) X707.here hx rfl (hb hby at_234) rfl (own_ifN ne1 own_vN own_vN (Fl.i2d_fin bb)) ?_
          refine XS.ifNo X707.here hx rfl (hb hby at_235) rfl (own_if_neN (by decide)) ?_
          refine XS.iconst X707.here hx rfl (hb hby at_238) ?_
          refine XS.goto X707.here hx rfl (pc0 := 239) (pc' := 243) rfl (hb hby at_239) (by decide) (by decide) ?_
          exact kk
        obtain ⟨fs, hr, hrun, hended, hW, hsame⟩ := X707.leave (v := some (.int (1 : Int32))) (fun h => by rw [Bd.returns] at h; cases h)
        have hrun0 := k727 _ (retOut X707 hx Bd.returns (t := .boolean) rfl (Or.inl ⟨rfl, Or.inr (Or.inl rfl), _, rfl⟩) (hb hby at_243) hr)
        subst hE0
        refine ⟨_, _, hrun0, hrun, hended, _, _, rfl, ?_, ⟨_, rfl⟩, hW, hsame.mono (by decide) (by decide)⟩
        show Qrm0 Z p0 p1 p2 qm qM h0 n0 _ T703.heap _
        rw [e720]
        exact ⟨rfl, N722⟩
    · skip
      have k728 : own_G p e below E0 T444 (mkF m 42 #[vi p0, vi p1, vi p2, vi (1 : Int32), vr qM, vi (0 : Int32), uu, uu, uu, uu, uu, uu, uu, uu, uu, uu, uu] [(.int ((XT.ushr p2 (3 : Int32)) &&& (3 : Int32)))]) := by
        intro t kk
        refine k461 t ?_
        refine XS.istore X448.here hx rfl (hb hby at_35) rfl (l' := #[vi p0, vi p1, vi p2, vi (1 : Int32), vr qM, vi (0 : Int32), uu, uu, uu, uu, uu, uu, uu, uu, uu, uu, uu]) rfl ?_
        refine XS.iloadN X448.here hx rfl (hb hby at_37) rfl ?_
        refine XS.iconst X448.here hx rfl (hb hby at_38) ?_
        refine XT.iushr X448.here hx rfl (hb hby at_39) rfl ?_
        show Steps p.tables e below (T444.setTop (mkF m 40 #[vi p0, vi p1, vi p2, vi (1 : Int32), vr qM, vi (0 : Int32), uu, uu, uu, uu, uu, uu, uu, uu, uu, uu, uu] [(.int (XT.ushr p2 (3 : Int32)))])) t
        refine XS.iconst X448.here hx rfl (hb hby at_40) ?_
        refine XS.iand X448.here hx rfl (hb hby at_41) rfl ?_
        exact kk
      obtain ⟨_, _, ⟨T729, L730, kc731, nc732⟩, -, X733, ⟨Lc734, hQ735, l736, y737, z738⟩, st739⟩ := Jvm.LawKit.callS X448 hx (y := mn0) hown (mvT hZ (tw3 hw)) (mvT hZ (tw4 hw)) (mvT hZ (tw5 hw)) (mvT hZ (tw6 hw)) (by decide) (backOf (W := 0) (rmK l Z a0 hw [] ((XT.ushr p2 (3 : Int32)) &&& (3 : Int32)) h0 n0 Z0 ) hZ (tw6 hw) (tw5 hw) (by decide) (by decide)) (g := (mkF m 42 #[vi p0, vi p1, vi p2, vi (1 : Int32), vr qM, vi (0 : Int32), uu, uu, uu, uu, uu, uu, uu, uu, uu, uu, uu] [(.int ((XT.ushr p2 (3 : Int32)) &&& (3 : Int32)))])) rfl (by rw [hml]; rfl) (argsL := [(.int ((XT.ushr p2 (3 : Int32)) &&& (3 : Int32)))]) (rest := []) (lenOf pd_3 rfl) rfl (by show 2 * 0 + _ ≤ _; exact Nat.le_of_eq rfl) (hb hby at_42) (fun _ _ => ⟨rfl, e456, (by decide : 0 + 0 ≤ _), (by decide : 0 + 0 ≤ _)⟩)
      dsimp only [Pt.U, Pt.locs, Pt.cells, Pt.slots] at X733 l736 y737 z738 st739 hQ735
      subst l736 y737 z738
      obtain ⟨r743, rfl, N740, e741, g744⟩ := hQ735
      have N745 := Fr.app N460 N740
      have k746 : own_G p e below E0 T729 (mkF m 45 #[vi p0, vi p1, vi p2, vi (1 : Int32), vr qM, vi (0 : Int32), uu, uu, uu, uu, uu, uu, uu, uu, uu, uu, uu] [(.int r743)]) := fun t kk => k728 t (st739 _ kk)
      rcases g744 with rfl | rfl | rfl
      · skip
        have k747 : own_G p e below E0 T729 (mkF m 50 #[vi p0, vi p1, vi p2, vi (1 : Int32), vr qM, vi (0 : Int32), vi (1 : Int32), uu, uu, uu, uu, uu, uu, uu, uu, uu, uu] [(.int (32 : Int32)), (.int p2)]) := by
          intro t kk
          refine k746 t ?_
          refine XS.istore X733.here hx rfl (hb hby at_45) rfl (l' := #[vi p0, vi p1, vi p2, vi (1 : Int32), vr qM, vi (0 : Int32), vi (1 : Int32), uu, uu, uu, uu, uu, uu, uu, uu, uu, uu]) rfl ?_
          refine XS.iloadN X733.here hx rfl (hb hby at_47) rfl ?_
          refine XS.bipush X733.here hx rfl (hb hby at_48) ?_
          exact kk
        have jn753 : ∃ (bb : Int32), ((((p2 &&& (32 : Int32)) = 0) ∧ bb = p1) ∨ (¬ ((p2 &&& (32 : Int32)) = 0) ∧ bb = p0)) ∧ (own_G p e below E0 T729 (mkF m 59 #[vi p0, vi p1, vi p2, vi (1 : Int32), vr qM, vi (0 : Int32), vi (1 : Int32), uu, uu, uu, uu, uu, uu, uu, uu, uu, uu] [(.int bb)])) := by
          have k748 : own_G p e below E0 T729 (mkF m 51 #[vi p0, vi p1, vi p2, vi (1 : Int32), vr qM, vi (0 : Int32), vi (1 : Int32), uu, uu, uu, uu, uu, uu, uu, uu, uu, uu] [(.int (p2 &&& (32 : Int32)))]) := by
            intro t kk
            refine k747 t ?_
            refine XS.iand X733.here hx rfl (hb hby at_50) rfl ?_
            exact kk
          by_cases c749 : (p2 &&& (32 : Int32)) = 0
          · skip
            have k750 : own_G p e below E0 T729 (mkF m 59 #[vi p0, vi p1, vi p2, vi (1 : Int32), vr qM, vi (0 : Int32), vi (1 : Int32), uu, uu, uu, uu, uu, uu, uu, uu, uu, uu] [(.int p1)]) := by
              intro t kk
              refine k748 t ?_
              refine XS.ifYes X733.here hx rfl (pc0 := 51) (pc' := 58) rfl (hb hby at_51) rfl (own_if_eqY c749) (by decide) (by decide) ?_
              refine XS.iloadN X733.here hx rfl (hb hby at_58) rfl ?_
              exact kk
            exact ⟨p1, (Or.inl (⟨c749, rfl⟩)), k750⟩
          · skip
            have k751 : own_G p e below E0 T729 (mkF m 59 #[vi p0, vi p1, vi p2, vi (1 : Int32), vr qM, vi (0 : Int32), vi (1 : Int32), uu, uu, uu, uu, uu, uu, uu, uu, uu, uu] [(.int p0)]) := by
              intro t kk
              refine k748 t ?_
              refine XS.ifNo X733.here hx rfl (hb hby at_51) rfl (own_if_eqN c749) ?_
              refine XS.iloadN X733.here hx rfl (hb hby at_54) rfl ?_
              refine XS.goto X733.here hx rfl (pc0 := 55) (pc' := 59) rfl (hb hby at_55) (by decide) (by decide) ?_
              exact kk
            exact ⟨p0, (Or.inr (⟨c749, rfl⟩)), k751⟩
        obtain ⟨bb, hD754, k752⟩ := jn753
        have k755 : own_G p e below E0 T729 (mkF m 103 #[vi p0, vi p1, vi p2, vi (1 : Int32), vr qM, vi (0 : Int32), vi (1 : Int32), vi bb, vd (FP.i2d p0), ss, uu, uu, uu, uu, uu, uu, uu] []) := by
          intro t kk
          refine k752 t ?_
          refine XS.istore X733.here hx rfl (hb hby at_59) rfl (l' := #[vi p0, vi p1, vi p2, vi (1 : Int32), vr qM, vi (0 : Int32), vi (1 : Int32), vi bb, uu, uu, uu, uu, uu, uu, uu, uu, uu]) rfl ?_
          refine XS.iload X733.here hx rfl (hb hby at_61) rfl ?_
          refine XS.ifNo X733.here hx rfl (hb hby at_63) rfl (own_if_neN (by decide)) ?_
          refine XS.iloadN X733.here hx rfl (hb hby at_66) rfl ?_
          show Steps p.tables e below (T729.setTop (mkF m 67 #[vi p0, vi p1, vi p2, vi (1 : Int32), vr qM, vi (0 : Int32), vi (1 : Int32), vi bb, uu, uu, uu, uu, uu, uu, uu, uu, uu] [(.int p0)])) t
          refine XS.i2dS X733.here hx rfl (hb hby at_67) rfl rfl ?_
          refine XS.goto X733.here hx rfl (pc0 := 68) (pc' := 85) rfl (hb hby at_68) (by decide) (by decide) ?_
          refine XS.dstore X733.here hx rfl (hb hby at_85) rfl (l' := #[vi p0, vi p1, vi p2, vi (1 : Int32), vr qM, vi (0 : Int32), vi (1 : Int32), vi bb, vd (FP.i2d p0), ss, uu, uu, uu, uu, uu, uu, uu]) rfl ?_
          refine XS.iload X733.here hx rfl (hb hby at_87) rfl ?_
          show Steps p.tables e below (T729.setTop (mkF m 89 #[vi p0, vi p1, vi p2, vi (1 : Int32), vr qM, vi (0 : Int32), vi (1 : Int32), vi bb, vd (FP.i2d p0), ss, uu, uu, uu, uu, uu, uu, uu] [(.int (1 : Int32))])) t
          refine XS.ifYes X733.here hx rfl (pc0 := 89) (pc' := 98) rfl (hb hby at_89) rfl (own_if_neY (by decide)) (by decide) (by decide) ?_
          refine XS.iload X733.here hx rfl (hb hby at_98) rfl ?_
          refine XS.ifNo X733.here hx rfl (hb hby at_100) rfl (own_if_leN (by decide)) ?_
          exact kk
        have st756 := X733.ldc2DoubleC hx hown (mvT hZ (tw7 hw)) (g := (mkF m 103 #[vi p0, vi p1, vi p2, vi (1 : Int32), vr qM, vi (0 : Int32), vi (1 : Int32), vi bb, vd (FP.i2d p0), ss, uu, uu, uu, uu, uu, uu, uu] [])) rfl (hb hby at_103)
        have k757 : own_G p e below E0 T729 (mkF m 106 #[vi p0, vi p1, vi p2, vi (1 : Int32), vr qM, vi (0 : Int32), vi (1 : Int32), vi bb, vd (FP.i2d p0), ss, uu, uu, uu, uu, uu, uu, uu] [(.double (9218868437227405312 : UInt64))]) := fun t kk => k755 t (st756 _ kk)
        have k758 : own_G p e below E0 T729 (mkF m 120 #[vi p0, vi p1, vi p2, vi (1 : Int32), vr qM, vi (0 : Int32), vi (1 : Int32), vi bb, vd (FP.i2d p0), ss, vd (9218868437227405312 : UInt64), ss, uu, uu, uu, uu, uu] [(.double (9218868437227405312 : UInt64)), (.double (FP.i2d p0)), (.ref qM)]) := by
          intro t kk
          refine k757 t ?_
          refine XS.goto X733.here hx rfl (pc0 := 106) (pc' := 112) rfl (hb hby at_106) (by decide) (by decide) ?_
          refine XS.dstore X733.here hx rfl (hb hby at_112) rfl (l' := #[vi p0, vi p1, vi p2, vi (1 : Int32), vr qM, vi (0 : Int32), vi (1 : Int32), vi bb, vd (FP.i2d p0), ss, vd (9218868437227405312 : UInt64), ss, uu, uu, uu, uu, uu]) rfl ?_
          refine XS.aload X733.here hx rfl (hb hby at_114) rfl rfl ?_
          refine XS.dload X733.here hx rfl (hb hby at_116) rfl ?_
          show Steps p.tables e below (T729.setTop (mkF m 118 #[vi p0, vi p1, vi p2, vi (1 : Int32), vr qM, vi (0 : Int32), vi (1 : Int32), vi bb, vd (FP.i2d p0), ss, vd (9218868437227405312 : UInt64), ss, uu, uu, uu, uu, uu] [(.double (FP.i2d p0)), (.ref qM)])) t
          refine XS.dload X733.here hx rfl (hb hby at_118) rfl ?_
          exact kk
        obtain ⟨cq770, kq771, qa772, qb773, qc774⟩ := isOf hZ e741 E2
        obtain ⟨_, _, ⟨T759, L760, kc761, nc762⟩, -, X763, ⟨Lc764, hQ765, l766, y767, z768⟩, st769⟩ := X733.virtualBack hx (y := mn1) (z := mn1) hown (mvT hZ (tw8 hw)) (mvT hZ (tw9 hw)) (notFace_of_selects (args := #[]) (mvT hZ (tw11 hw))) (mvT hZ (tw11 hw)) (mvT hZ (tw10 hw)) (by decide) (backOf (W := 0) (rm1 l Z a0 hw [] qM (FP.i2d p0) (9218868437227405312 : UInt64) qm h0 n0 Z0 S1 (Fl.i2d_fin p0).noNaN own_nnP (own_hn_fi own_vP (Fl.i2d_fin p0))) hZ (tw12 hw) (tw1 hw) (by decide) (by decide)) qa772 qc774 (g := (mkF m 120 #[vi p0, vi p1, vi p2, vi (1 : Int32), vr qM, vi (0 : Int32), vi (1 : Int32), vi bb, vd (FP.i2d p0), ss, vd (9218868437227405312 : UInt64), ss, uu, uu, uu, uu, uu] [(.double (9218868437227405312 : UInt64)), (.double (FP.i2d p0)), (.ref qM)])) rfl (by rw [hml]; rfl) (Steps.refl _) (argsL := [(.double (FP.i2d p0)), (.double (9218868437227405312 : UInt64))]) (rest := []) (lenOf pd_4 rfl) rfl (by show 2 * 0 + _ ≤ _; exact Nat.le_of_eq rfl) (hb hby at_120) (fun _ _ => ⟨rfl, e741, (by decide : 0 + 0 ≤ _), (by decide : 0 + 0 ≤ _)⟩)
        dsimp only [Pt.U, Pt.locs, Pt.cells, Pt.slots] at X763 l766 y767 z768 st769 hQ765
        subst l766 y767 z768
        obtain ⟨rfl, N775, e776⟩ := hQ765
        have N778 := Fr.app N745 N775
        have k779 : own_G p e below E0 T759 (mkF m 123 #[vi p0, vi p1, vi p2, vi (1 : Int32), vr qM, vi (0 : Int32), vi (1 : Int32), vi bb, vd (FP.i2d p0), ss, vd (9218868437227405312 : UInt64), ss, uu, uu, uu, uu, uu] [(.double (own_lead (qM = qm) (FP.i2d p0) (9218868437227405312 : UInt64)))]) := fun t kk => k758 t (st769.trans kk)
        have k780 : own_G p e below E0 T759 (mkF m 194 #[vi p0, vi p1, vi p2, vi (1 : Int32), vr qM, vi (0 : Int32), vi (1 : Int32), vi bb, vd (FP.i2d p0), ss, vd (9218868437227405312 : UInt64), ss, vd (own_lead (qM = qm) (FP.i2d p0) (9218868437227405312 : UInt64)), ss, vi (1 : Int32), uu, uu] []) := by
          intro t kk
          refine k779 t ?_
          refine XS.dstore X763.here hx rfl (hb hby at_123) rfl (l' := #[vi p0, vi p1, vi p2, vi (1 : Int32), vr qM, vi (0 : Int32), vi (1 : Int32), vi bb, vd (FP.i2d p0), ss, vd (9218868437227405312 : UInt64), ss, vd (own_lead (qM = qm) (FP.i2d p0) (9218868437227405312 : UInt64)), ss, uu, uu, uu]) rfl ?_
          refine XS.iloadN X763.here hx rfl (hb hby at_125) rfl ?_
          refine XS.ifNo X763.here hx rfl (hb hby at_126) rfl (own_if_eqN (by decide)) ?_
          refine XS.iconst X763.here hx rfl (hb hby at_129) ?_
          show Steps p.tables e below (T759.setTop (mkF m 130 #[vi p0, vi p1, vi p2, vi (1 : Int32), vr qM, vi (0 : Int32), vi (1 : Int32), vi bb, vd (FP.i2d p0), ss, vd (9218868437227405312 : UInt64), ss, vd (own_lead (qM = qm) (FP.i2d p0) (9218868437227405312 : UInt64)), ss, uu, uu, uu] [(.int (1 : Int32))])) t
          refine XS.goto X763.here hx rfl (pc0 := 130) (pc' := 134) rfl (hb hby at_130) (by decide) (by decide) ?_
          refine XS.istore X763.here hx rfl (hb hby at_134) rfl (l' := #[vi p0, vi p1, vi p2, vi (1 : Int32), vr qM, vi (0 : Int32), vi (1 : Int32), vi bb, vd (FP.i2d p0), ss, vd (9218868437227405312 : UInt64), ss, vd (own_lead (qM = qm) (FP.i2d p0) (9218868437227405312 : UInt64)), ss, vi (1 : Int32), uu, uu]) rfl ?_
          refine XS.iload X763.here hx rfl (hb hby at_136) rfl ?_
          refine XS.ifYes X763.here hx rfl (pc0 := 138) (pc' := 154) rfl (hb hby at_138) rfl (own_if_eqY (by decide)) (by decide) (by decide) ?_
          show Steps p.tables e below (T759.setTop (mkF m 154 #[vi p0, vi p1, vi p2, vi (1 : Int32), vr qM, vi (0 : Int32), vi (1 : Int32), vi bb, vd (FP.i2d p0), ss, vd (9218868437227405312 : UInt64), ss, vd (own_lead (qM = qm) (FP.i2d p0) (9218868437227405312 : UInt64)), ss, vi (1 : Int32), uu, uu] [])) t
          refine XS.iload X763.here hx rfl (hb hby at_154) rfl ?_
          refine XS.ifYes X763.here hx rfl (pc0 := 156) (pc' := 181) rfl (hb hby at_156) rfl (own_if_eqY (by decide)) (by decide) (by decide) ?_
          refine XS.iload X763.here hx rfl (hb hby at_181) rfl ?_
          refine XS.ifNo X763.here hx rfl (hb hby at_183) rfl (own_if_eqN (by decide)) ?_
          show Steps p.tables e below (T759.setTop (mkF m 186 #[vi p0, vi p1, vi p2, vi (1 : Int32), vr qM, vi (0 : Int32), vi (1 : Int32), vi bb, vd (FP.i2d p0), ss, vd (9218868437227405312 : UInt64), ss, vd (own_lead (qM = qm) (FP.i2d p0) (9218868437227405312 : UInt64)), ss, vi (1 : Int32), uu, uu] [])) t
          refine XS.iload X763.here hx rfl (hb hby at_186) rfl ?_
          refine XS.iload X763.here hx rfl (hb hby at_188) rfl ?_
          refine XS.imul X763.here hx rfl (hb hby at_190) rfl ?_
          refine XS.ifNo X763.here hx rfl (hb hby at_191) rfl (own_if_leN (by decide)) ?_
          exact kk
        have st781 := X763.ldc2DoubleC hx hown (mvT hZ (tw14 hw)) (g := (mkF m 194 #[vi p0, vi p1, vi p2, vi (1 : Int32), vr qM, vi (0 : Int32), vi (1 : Int32), vi bb, vd (FP.i2d p0), ss, vd (9218868437227405312 : UInt64), ss, vd (own_lead (qM = qm) (FP.i2d p0) (9218868437227405312 : UInt64)), ss, vi (1 : Int32), uu, uu] [])) rfl (hb hby at_194)
        have k782 : own_G p e below E0 T759 (mkF m 197 #[vi p0, vi p1, vi p2, vi (1 : Int32), vr qM, vi (0 : Int32), vi (1 : Int32), vi bb, vd (FP.i2d p0), ss, vd (9218868437227405312 : UInt64), ss, vd (own_lead (qM = qm) (FP.i2d p0) (9218868437227405312 : UInt64)), ss, vi (1 : Int32), uu, uu] [(.double (18442240474082181120 : UInt64))]) := fun t kk => k780 t (st781 _ kk)
        have k783 : own_G p e below E0 T759 (mkF m 243 #[vi p0, vi p1, vi p2, vi (1 : Int32), vr qM, vi (0 : Int32), vi (1 : Int32), vi bb, vd (FP.i2d p0), ss, vd (9218868437227405312 : UInt64), ss, vd (own_lead (qM = qm) (FP.i2d p0) (9218868437227405312 : UInt64)), ss, vi (1 : Int32), vd (18442240474082181120 : UInt64), ss] [(.int (1 : Int32))]) := by
          intro t kk
          refine k782 t ?_
          refine XS.goto X763.here hx rfl (pc0 := 197) (pc' := 203) rfl (hb hby at_197) (by decide) (by decide) ?_
          refine XS.dstore X763.here hx rfl (hb hby at_203) rfl (l' := #[vi p0, vi p1, vi p2, vi (1 : Int32), vr qM, vi (0 : Int32), vi (1 : Int32), vi bb, vd (FP.i2d p0), ss, vd (9218868437227405312 : UInt64), ss, vd (own_lead (qM = qm) (FP.i2d p0) (9218868437227405312 : UInt64)), ss, vi (1 : Int32), vd (18442240474082181120 : UInt64), ss]) rfl ?_
          refine XS.goto X763.here hx rfl (pc0 := 205) (pc' := 230) rfl (hb hby at_205) (by decide) (by decide) ?_
          refine XS.dload X763.here hx rfl (hb hby at_230) rfl ?_
          show Steps p.tables e below (T759.setTop (mkF m 232 #[vi p0, vi p1, vi p2, vi (1 : Int32), vr qM, vi (0 : Int32), vi (1 : Int32), vi bb, vd (FP.i2d p0), ss, vd (9218868437227405312 : UInt64), ss, vd (own_lead (qM = qm) (FP.i2d p0) (9218868437227405312 : UInt64)), ss, vi (1 : Int32), vd (18442240474082181120 : UInt64), ss] [(.double (own_lead (qM = qm) (FP.i2d p0) (9218868437227405312 : UInt64)))])) t
          refine XS.dload X763.here hx rfl (hb hby at_232) rfl ?_
          refine XS.dcmpS (v := (0 : Int32)) X763.here hx rfl (hb hby at_234) rfl (own_fiN ne1 own_vP own_vN (Fl.i2d_fin p0)) ?_
          refine XS.ifNo X763.here hx rfl (hb hby at_235) rfl (own_if_neN (by decide)) ?_
          refine XS.iconst X763.here hx rfl (hb hby at_238) ?_
          show Steps p.tables e below (T759.setTop (mkF m 239 #[vi p0, vi p1, vi p2, vi (1 : Int32), vr qM, vi (0 : Int32), vi (1 : Int32), vi bb, vd (FP.i2d p0), ss, vd (9218868437227405312 : UInt64), ss, vd (own_lead (qM = qm) (FP.i2d p0) (9218868437227405312 : UInt64)), ss, vi (1 : Int32), vd (18442240474082181120 : UInt64), ss] [(.int (1 : Int32))])) t
          refine XS.goto X763.here hx rfl (pc0 := 239) (pc' := 243) rfl (hb hby at_239) (by decide) (by decide) ?_
          exact kk
        obtain ⟨fs, hr, hrun, hended, hW, hsame⟩ := X763.leave (v := some (.int (1 : Int32))) (fun h => by rw [Bd.returns] at h; cases h)
        have hrun0 := k783 _ (retOut X763 hx Bd.returns (t := .boolean) rfl (Or.inl ⟨rfl, Or.inr (Or.inl rfl), _, rfl⟩) (hb hby at_243) hr)
        subst hE0
        refine ⟨_, _, hrun0, hrun, hended, _, _, rfl, ?_, ⟨_, rfl⟩, hW, hsame.mono (by decide) (by decide)⟩
        show Qrm0 Z p0 p1 p2 qm qM h0 n0 _ T759.heap _
        rw [e776]
        exact ⟨rfl, N778⟩
      · skip
        have k784 : own_G p e below E0 T729 (mkF m 50 #[vi p0, vi p1, vi p2, vi (1 : Int32), vr qM, vi (0 : Int32), vi (-1 : Int32), uu, uu, uu, uu, uu, uu, uu, uu, uu, uu] [(.int (32 : Int32)), (.int p2)]) := by
          intro t kk
          refine k746 t ?_
          refine XS.istore X733.here hx rfl (hb hby at_45) rfl (l' := #[vi p0, vi p1, vi p2, vi (1 : Int32), vr qM, vi (0 : Int32), vi (-1 : Int32), uu, uu, uu, uu, uu, uu, uu, uu, uu, uu]) rfl ?_
          refine XS.iloadN X733.here hx rfl (hb hby at_47) rfl ?_
          refine XS.bipush X733.here hx rfl (hb hby at_48) ?_
          exact kk
        have jn790 : ∃ (bb : Int32), ((((p2 &&& (32 : Int32)) = 0) ∧ bb = p1) ∨ (¬ ((p2 &&& (32 : Int32)) = 0) ∧ bb = p0)) ∧ (own_G p e below E0 T729 (mkF m 59 #[vi p0, vi p1, vi p2, vi (1 : Int32), vr qM, vi (0 : Int32), vi (-1 : Int32), uu, uu, uu, uu, uu, uu, uu, uu, uu, uu] [(.int bb)])) := by
          have k785 : own_G p e below E0 T729 (mkF m 51 #[vi p0, vi p1, vi p2, vi (1 : Int32), vr qM, vi (0 : Int32), vi (-1 : Int32), uu, uu, uu, uu, uu, uu, uu, uu, uu, uu] [(.int (p2 &&& (32 : Int32)))]) := by
            intro t kk
            refine k784 t ?_
            refine XS.iand X733.here hx rfl (hb hby at_50) rfl ?_
            exact kk
          by_cases c786 : (p2 &&& (32 : Int32)) = 0
          · skip
            have k787 : own_G p e below E0 T729 (mkF m 59 #[vi p0, vi p1, vi p2, vi (1 : Int32), vr qM, vi (0 : Int32), vi (-1 : Int32), uu, uu, uu, uu, uu, uu, uu, uu, uu, uu] [(.int p1)]) := by
              intro t kk
              refine k785 t ?_
              refine XS.ifYes X733.here hx rfl (pc0 := 51) (pc' := 58) rfl (hb hby at_51) rfl (own_if_eqY c786) (by decide) (by decide) ?_
              refine XS.iloadN X733.here hx rfl (hb hby at_58) rfl ?_
              exact kk
            exact ⟨p1, (Or.inl (⟨c786, rfl⟩)), k787⟩
          · skip
            have k788 : own_G p e below E0 T729 (mkF m 59 #[vi p0, vi p1, vi p2, vi (1 : Int32), vr qM, vi (0 : Int32), vi (-1 : Int32), uu, uu, uu, uu, uu, uu, uu, uu, uu, uu] [(.int p0)]) := by
              intro t kk
              refine k785 t ?_
              refine XS.ifNo X733.here hx rfl (hb hby at_51) rfl (own_if_eqN c786) ?_
              refine XS.iloadN X733.here hx rfl (hb hby at_54) rfl ?_
              refine XS.goto X733.here hx rfl (pc0 := 55) (pc' := 59) rfl (hb hby at_55) (by decide) (by decide) ?_
              exact kk
            exact ⟨p0, (Or.inr (⟨c786, rfl⟩)), k788⟩
        obtain ⟨bb, hD791, k789⟩ := jn790
        have k792 : own_G p e below E0 T729 (mkF m 109 #[vi p0, vi p1, vi p2, vi (1 : Int32), vr qM, vi (0 : Int32), vi (-1 : Int32), vi bb, vd (FP.i2d p0), ss, uu, uu, uu, uu, uu, uu, uu] []) := by
          intro t kk
          refine k789 t ?_
          refine XS.istore X733.here hx rfl (hb hby at_59) rfl (l' := #[vi p0, vi p1, vi p2, vi (1 : Int32), vr qM, vi (0 : Int32), vi (-1 : Int32), vi bb, uu, uu, uu, uu, uu, uu, uu, uu, uu]) rfl ?_
          refine XS.iload X733.here hx rfl (hb hby at_61) rfl ?_
          refine XS.ifNo X733.here hx rfl (hb hby at_63) rfl (own_if_neN (by decide)) ?_
          refine XS.iloadN X733.here hx rfl (hb hby at_66) rfl ?_
          show Steps p.tables e below (T729.setTop (mkF m 67 #[vi p0, vi p1, vi p2, vi (1 : Int32), vr qM, vi (0 : Int32), vi (-1 : Int32), vi bb, uu, uu, uu, uu, uu, uu, uu, uu, uu] [(.int p0)])) t
          refine XS.i2dS X733.here hx rfl (hb hby at_67) rfl rfl ?_
          refine XS.goto X733.here hx rfl (pc0 := 68) (pc' := 85) rfl (hb hby at_68) (by decide) (by decide) ?_
          refine XS.dstore X733.here hx rfl (hb hby at_85) rfl (l' := #[vi p0, vi p1, vi p2, vi (1 : Int32), vr qM, vi (0 : Int32), vi (-1 : Int32), vi bb, vd (FP.i2d p0), ss, uu, uu, uu, uu, uu, uu, uu]) rfl ?_
          refine XS.iload X733.here hx rfl (hb hby at_87) rfl ?_
          show Steps p.tables e below (T729.setTop (mkF m 89 #[vi p0, vi p1, vi p2, vi (1 : Int32), vr qM, vi (0 : Int32), vi (-1 : Int32), vi bb, vd (FP.i2d p0), ss, uu, uu, uu, uu, uu, uu, uu] [(.int (-1 : Int32))])) t
          refine XS.ifYes X733.here hx rfl (pc0 := 89) (pc' := 98) rfl (hb hby at_89) rfl (own_if_neY (by decide)) (by decide) (by decide) ?_
          refine XS.iload X733.here hx rfl (hb hby at_98) rfl ?_
          refine XS.ifYes X733.here hx rfl (pc0 := 100) (pc' := 109) rfl (hb hby at_100) rfl (own_if_leY (by decide)) (by decide) (by decide) ?_
          exact kk
        have st793 := X733.ldc2DoubleC hx hown (mvT hZ (tw14 hw)) (g := (mkF m 109 #[vi p0, vi p1, vi p2, vi (1 : Int32), vr qM, vi (0 : Int32), vi (-1 : Int32), vi bb, vd (FP.i2d p0), ss, uu, uu, uu, uu, uu, uu, uu] [])) rfl (hb hby at_109)
        have k794 : own_G p e below E0 T729 (mkF m 112 #[vi p0, vi p1, vi p2, vi (1 : Int32), vr qM, vi (0 : Int32), vi (-1 : Int32), vi bb, vd (FP.i2d p0), ss, uu, uu, uu, uu, uu, uu, uu] [(.double (18442240474082181120 : UInt64))]) := fun t kk => k792 t (st793 _ kk)
        have k795 : own_G p e below E0 T729 (mkF m 120 #[vi p0, vi p1, vi p2, vi (1 : Int32), vr qM, vi (0 : Int32), vi (-1 : Int32), vi bb, vd (FP.i2d p0), ss, vd (18442240474082181120 : UInt64), ss, uu, uu, uu, uu, uu] [(.double (18442240474082181120 : UInt64)), (.double (FP.i2d p0)), (.ref qM)]) := by
          intro t kk
          refine k794 t ?_
          refine XS.dstore X733.here hx rfl (hb hby at_112) rfl (l' := #[vi p0, vi p1, vi p2, vi (1 : Int32), vr qM, vi (0 : Int32), vi (-1 : Int32), vi bb, vd (FP.i2d p0), ss, vd (18442240474082181120 : UInt64), ss, uu, uu, uu, uu, uu]) rfl ?_
          refine XS.aload X733.here hx rfl (hb hby at_114) rfl rfl ?_
          refine XS.dload X733.here hx rfl (hb hby at_116) rfl ?_
          refine XS.dload X733.here hx rfl (hb hby at_118) rfl ?_
          exact kk
        obtain ⟨cq807, kq808, qa809, qb810, qc811⟩ := isOf hZ e741 E2
        obtain ⟨_, _, ⟨T796, L797, kc798, nc799⟩, -, X800, ⟨Lc801, hQ802, l803, y804, z805⟩, st806⟩ := X733.virtualBack hx (y := mn1) (z := mn1) hown (mvT hZ (tw8 hw)) (mvT hZ (tw9 hw)) (notFace_of_selects (args := #[]) (mvT hZ (tw11 hw))) (mvT hZ (tw11 hw)) (mvT hZ (tw10 hw)) (by decide) (backOf (W := 0) (rm1 l Z a0 hw [] qM (FP.i2d p0) (18442240474082181120 : UInt64) qm h0 n0 Z0 S1 (Fl.i2d_fin p0).noNaN own_nnN (own_hn_fi own_vN (Fl.i2d_fin p0))) hZ (tw12 hw) (tw1 hw) (by decide) (by decide)) qa809 qc811 (g := (mkF m 120 #[vi p0, vi p1, vi p2, vi (1 : Int32), vr qM, vi (0 : Int32), vi (-1 : Int32), vi bb, vd (FP.i2d p0), ss, vd (18442240474082181120 : UInt64), ss, uu, uu, uu, uu, uu] [(.double (18442240474082181120 : UInt64)), (.double (FP.i2d p0)), (.ref qM)])) rfl (by rw [hml]; rfl) (Steps.refl _) (argsL := [(.double (FP.i2d p0)), (.double (18442240474082181120 : UInt64))]) (rest := []) (lenOf pd_4 rfl) rfl (by show 2 * 0 + _ ≤ _; exact Nat.le_of_eq rfl) (hb hby at_120) (fun _ _ => ⟨rfl, e741, (by decide : 0 + 0 ≤ _), (by decide : 0 + 0 ≤ _)⟩)
        dsimp only [Pt.U, Pt.locs, Pt.cells, Pt.slots] at X800 l803 y804 z805 st806 hQ802
        subst l803 y804 z805
        obtain ⟨rfl, N812, e813⟩ := hQ802
        have N815 := Fr.app N745 N812
        have k816 : own_G p e below E0 T796 (mkF m 123 #[vi p0, vi p1, vi p2, vi (1 : Int32), vr qM, vi (0 : Int32), vi (-1 : Int32), vi bb, vd (FP.i2d p0), ss, vd (18442240474082181120 : UInt64), ss, uu, uu, uu, uu, uu] [(.double (own_lead (qM = qm) (FP.i2d p0) (18442240474082181120 : UInt64)))]) := fun t kk => k795 t (st806.trans kk)
        have k817 : own_G p e below E0 T796 (mkF m 200 #[vi p0, vi p1, vi p2, vi (1 : Int32), vr qM, vi (0 : Int32), vi (-1 : Int32), vi bb, vd (FP.i2d p0), ss, vd (18442240474082181120 : UInt64), ss, vd (own_lead (qM = qm) (FP.i2d p0) (18442240474082181120 : UInt64)), ss, vi (1 : Int32), uu, uu] []) := by
          intro t kk
          refine k816 t ?_
          refine XS.dstore X800.here hx rfl (hb hby at_123) rfl (l' := #[vi p0, vi p1, vi p2, vi (1 : Int32), vr qM, vi (0 : Int32), vi (-1 : Int32), vi bb, vd (FP.i2d p0), ss, vd (18442240474082181120 : UInt64), ss, vd (own_lead (qM = qm) (FP.i2d p0) (18442240474082181120 : UInt64)), ss, uu, uu, uu]) rfl ?_
          refine XS.iloadN X800.here hx rfl (hb hby at_125) rfl ?_
          refine XS.ifNo X800.here hx rfl (hb hby at_126) rfl (own_if_eqN (by decide)) ?_
          refine XS.iconst X800.here hx rfl (hb hby at_129) ?_
          show Steps p.tables e below (T796.setTop (mkF m 130 #[vi p0, vi p1, vi p2, vi (1 : Int32), vr qM, vi (0 : Int32), vi (-1 : Int32), vi bb, vd (FP.i2d p0), ss, vd (18442240474082181120 : UInt64), ss, vd (own_lead (qM = qm) (FP.i2d p0) (18442240474082181120 : UInt64)), ss, uu, uu, uu] [(.int (1 : Int32))])) t
          refine XS.goto X800.here hx rfl (pc0 := 130) (pc' := 134) rfl (hb hby at_130) (by decide) (by decide) ?_
          refine XS.istore X800.here hx rfl (hb hby at_134) rfl (l' := #[vi p0, vi p1, vi p2, vi (1 : Int32), vr qM, vi (0 : Int32), vi (-1 : Int32), vi bb, vd (FP.i2d p0), ss, vd (18442240474082181120 : UInt64), ss, vd (own_lead (qM = qm) (FP.i2d p0) (18442240474082181120 : UInt64)), ss, vi (1 : Int32), uu, uu]) rfl ?_
          refine XS.iload X800.here hx rfl (hb hby at_136) rfl ?_
          refine XS.ifYes X800.here hx rfl (pc0 := 138) (pc' := 154) rfl (hb hby at_138) rfl (own_if_eqY (by decide)) (by decide) (by decide) ?_
          show Steps p.tables e below (T796.setTop (mkF m 154 #[vi p0, vi p1, vi p2, vi (1 : Int32), vr qM, vi (0 : Int32), vi (-1 : Int32), vi bb, vd (FP.i2d p0), ss, vd (18442240474082181120 : UInt64), ss, vd (own_lead (qM = qm) (FP.i2d p0) (18442240474082181120 : UInt64)), ss, vi (1 : Int32), uu, uu] [])) t
          refine XS.iload X800.here hx rfl (hb hby at_154) rfl ?_
          refine XS.ifYes X800.here hx rfl (pc0 := 156) (pc' := 181) rfl (hb hby at_156) rfl (own_if_eqY (by decide)) (by decide) (by decide) ?_
          refine XS.iload X800.here hx rfl (hb hby at_181) rfl ?_
          refine XS.ifNo X800.here hx rfl (hb hby at_183) rfl (own_if_eqN (by decide)) ?_
          show Steps p.tables e below (T796.setTop (mkF m 186 #[vi p0, vi p1, vi p2, vi (1 : Int32), vr qM, vi (0 : Int32), vi (-1 : Int32), vi bb, vd (FP.i2d p0), ss, vd (18442240474082181120 : UInt64), ss, vd (own_lead (qM = qm) (FP.i2d p0) (18442240474082181120 : UInt64)), ss, vi (1 : Int32), uu, uu] [])) t
          refine XS.iload X800.here hx rfl (hb hby at_186) rfl ?_
          refine XS.iload X800.here hx rfl (hb hby at_188) rfl ?_
          refine XS.imul X800.here hx rfl (hb hby at_190) rfl ?_
          refine XS.ifYes X800.here hx rfl (pc0 := 191) (pc' := 200) rfl (hb hby at_191) rfl (own_if_leY (by decide)) (by decide) (by decide) ?_
          exact kk
        have st818 := X800.ldc2DoubleC hx hown (mvT hZ (tw7 hw)) (g := (mkF m 200 #[vi p0, vi p1, vi p2, vi (1 : Int32), vr qM, vi (0 : Int32), vi (-1 : Int32), vi bb, vd (FP.i2d p0), ss, vd (18442240474082181120 : UInt64), ss, vd (own_lead (qM = qm) (FP.i2d p0) (18442240474082181120 : UInt64)), ss, vi (1 : Int32), uu, uu] [])) rfl (hb hby at_200)
        have k819 : own_G p e below E0 T796 (mkF m 203 #[vi p0, vi p1, vi p2, vi (1 : Int32), vr qM, vi (0 : Int32), vi (-1 : Int32), vi bb, vd (FP.i2d p0), ss, vd (18442240474082181120 : UInt64), ss, vd (own_lead (qM = qm) (FP.i2d p0) (18442240474082181120 : UInt64)), ss, vi (1 : Int32), uu, uu] [(.double (9218868437227405312 : UInt64))]) := fun t kk => k817 t (st818 _ kk)
        have k820 : own_G p e below E0 T796 (mkF m 243 #[vi p0, vi p1, vi p2, vi (1 : Int32), vr qM, vi (0 : Int32), vi (-1 : Int32), vi bb, vd (FP.i2d p0), ss, vd (18442240474082181120 : UInt64), ss, vd (own_lead (qM = qm) (FP.i2d p0) (18442240474082181120 : UInt64)), ss, vi (1 : Int32), vd (9218868437227405312 : UInt64), ss] [(.int (1 : Int32))]) := by
          intro t kk
          refine k819 t ?_
          refine XS.dstore X800.here hx rfl (hb hby at_203) rfl (l' := #[vi p0, vi p1, vi p2, vi (1 : Int32), vr qM, vi (0 : Int32), vi (-1 : Int32), vi bb, vd (FP.i2d p0), ss, vd (18442240474082181120 : UInt64), ss, vd (own_lead (qM = qm) (FP.i2d p0) (18442240474082181120 : UInt64)), ss, vi (1 : Int32), vd (9218868437227405312 : UInt64), ss]) rfl ?_
          refine XS.goto X800.here hx rfl (pc0 := 205) (pc' := 230) rfl (hb hby at_205) (by decide) (by decide) ?_
          refine XS.dload X800.here hx rfl (hb hby at_230) rfl ?_
          refine XS.dload X800.here hx rfl (hb hby at_232) rfl ?_
          show Steps p.tables e below (T796.setTop (mkF m 234 #[vi p0, vi p1, vi p2, vi (1 : Int32), vr qM, vi (0 : Int32), vi (-1 : Int32), vi bb, vd (FP.i2d p0), ss, vd (18442240474082181120 : UInt64), ss, vd (own_lead (qM = qm) (FP.i2d p0) (18442240474082181120 : UInt64)), ss, vi (1 : Int32), vd (9218868437227405312 : UInt64), ss] [(.double (9218868437227405312 : UInt64)), (.double (own_lead (qM = qm) (FP.i2d p0) (18442240474082181120 : UInt64)))])) t
          refine XS.dcmpS (v := (0 : Int32)) X800.here hx rfl (hb hby at_234) rfl (own_fiN ne1 own_vN own_vP (Fl.i2d_fin p0)) ?_
          refine XS.ifNo X800.here hx rfl (hb hby at_235) rfl (own_if_neN (by decide)) ?_
          refine XS.iconst X800.here hx rfl (hb hby at_238) ?_
          refine XS.goto X800.here hx rfl (pc0 := 239) (pc' := 243) rfl (hb hby at_239) (by decide) (by decide) ?_
          exact kk
        obtain ⟨fs, hr, hrun, hended, hW, hsame⟩ := X800.leave (v := some (.int (1 : Int32))) (fun h => by rw [Bd.returns] at h; cases h)
        have hrun0 := k820 _ (retOut X800 hx Bd.returns (t := .boolean) rfl (Or.inl ⟨rfl, Or.inr (Or.inl rfl), _, rfl⟩) (hb hby at_243) hr)
        subst hE0
        refine ⟨_, _, hrun0, hrun, hended, _, _, rfl, ?_, ⟨_, rfl⟩, hW, hsame.mono (by decide) (by decide)⟩
        show Qrm0 Z p0 p1 p2 qm qM h0 n0 _ T796.heap _
        rw [e813]
        exact ⟨rfl, N815⟩
      · skip
        have k821 : own_G p e below E0 T729 (mkF m 50 #[vi p0, vi p1, vi p2, vi (1 : Int32), vr qM, vi (0 : Int32), vi (0 : Int32), uu, uu, uu, uu, uu, uu, uu, uu, uu, uu] [(.int (32 : Int32)), (.int p2)]) := by
          intro t kk
          refine k746 t ?_
          refine XS.istore X733.here hx rfl (hb hby at_45) rfl (l' := #[vi p0, vi p1, vi p2, vi (1 : Int32), vr qM, vi (0 : Int32), vi (0 : Int32), uu, uu, uu, uu, uu, uu, uu, uu, uu, uu]) rfl ?_
          refine XS.iloadN X733.here hx rfl (hb hby at_47) rfl ?_
          refine XS.bipush X733.here hx rfl (hb hby at_48) ?_
          exact kk
        have jn827 : ∃ (bb : Int32), ((((p2 &&& (32 : Int32)) = 0) ∧ bb = p1) ∨ (¬ ((p2 &&& (32 : Int32)) = 0) ∧ bb = p0)) ∧ (own_G p e below E0 T729 (mkF m 59 #[vi p0, vi p1, vi p2, vi (1 : Int32), vr qM, vi (0 : Int32), vi (0 : Int32), uu, uu, uu, uu, uu, uu, uu, uu, uu, uu] [(.int bb)])) := by
          have k822 : own_G p e below E0 T729 (mkF m 51 #[vi p0, vi p1, vi p2, vi (1 : Int32), vr qM, vi (0 : Int32), vi (0 : Int32), uu, uu, uu, uu, uu, uu, uu, uu, uu, uu] [(.int (p2 &&& (32 : Int32)))]) := by
            intro t kk
            refine k821 t ?_
            refine XS.iand X733.here hx rfl (hb hby at_50) rfl ?_
            exact kk
          by_cases c823 : (p2 &&& (32 : Int32)) = 0
          · skip
            have k824 : own_G p e below E0 T729 (mkF m 59 #[vi p0, vi p1, vi p2, vi (1 : Int32), vr qM, vi (0 : Int32), vi (0 : Int32), uu, uu, uu, uu, uu, uu, uu, uu, uu, uu] [(.int p1)]) := by
              intro t kk
              refine k822 t ?_
              refine XS.ifYes X733.here hx rfl (pc0 := 51) (pc' := 58) rfl (hb hby at_51) rfl (own_if_eqY c823) (by decide) (by decide) ?_
              refine XS.iloadN X733.here hx rfl (hb hby at_58) rfl ?_
              exact kk
            exact ⟨p1, (Or.inl (⟨c823, rfl⟩)), k824⟩
          · skip
            have k825 : own_G p e below E0 T729 (mkF m 59 #[vi p0, vi p1, vi p2, vi (1 : Int32), vr qM, vi (0 : Int32), vi (0 : Int32), uu, uu, uu, uu, uu, uu, uu, uu, uu, uu] [(.int p0)]) := by
              intro t kk
              refine k822 t ?_
              refine XS.ifNo X733.here hx rfl (hb hby at_51) rfl (own_if_eqN c823) ?_
              refine XS.iloadN X733.here hx rfl (hb hby at_54) rfl ?_
              refine XS.goto X733.here hx rfl (pc0 := 55) (pc' := 59) rfl (hb hby at_55) (by decide) (by decide) ?_
              exact kk
            exact ⟨p0, (Or.inr (⟨c823, rfl⟩)), k825⟩
        obtain ⟨bb, hD828, k826⟩ := jn827
        have k829 : own_G p e below E0 T729 (mkF m 120 #[vi p0, vi p1, vi p2, vi (1 : Int32), vr qM, vi (0 : Int32), vi (0 : Int32), vi bb, vd (FP.i2d p0), ss, vd (FP.i2d bb), ss, uu, uu, uu, uu, uu] [(.double (FP.i2d bb)), (.double (FP.i2d p0)), (.ref qM)]) := by
          intro t kk
          refine k826 t ?_
          refine XS.istore X733.here hx rfl (hb hby at_59) rfl (l' := #[vi p0, vi p1, vi p2, vi (1 : Int32), vr qM, vi (0 : Int32), vi (0 : Int32), vi bb, uu, uu, uu, uu, uu, uu, uu, uu, uu]) rfl ?_
          refine XS.iload X733.here hx rfl (hb hby at_61) rfl ?_
          refine XS.ifNo X733.here hx rfl (hb hby at_63) rfl (own_if_neN (by decide)) ?_
          refine XS.iloadN X733.here hx rfl (hb hby at_66) rfl ?_
          show Steps p.tables e below (T729.setTop (mkF m 67 #[vi p0, vi p1, vi p2, vi (1 : Int32), vr qM, vi (0 : Int32), vi (0 : Int32), vi bb, uu, uu, uu, uu, uu, uu, uu, uu, uu] [(.int p0)])) t
          refine XS.i2dS X733.here hx rfl (hb hby at_67) rfl rfl ?_
          refine XS.goto X733.here hx rfl (pc0 := 68) (pc' := 85) rfl (hb hby at_68) (by decide) (by decide) ?_
          refine XS.dstore X733.here hx rfl (hb hby at_85) rfl (l' := #[vi p0, vi p1, vi p2, vi (1 : Int32), vr qM, vi (0 : Int32), vi (0 : Int32), vi bb, vd (FP.i2d p0), ss, uu, uu, uu, uu, uu, uu, uu]) rfl ?_
          refine XS.iload X733.here hx rfl (hb hby at_87) rfl ?_
          show Steps p.tables e below (T729.setTop (mkF m 89 #[vi p0, vi p1, vi p2, vi (1 : Int32), vr qM, vi (0 : Int32), vi (0 : Int32), vi bb, vd (FP.i2d p0), ss, uu, uu, uu, uu, uu, uu, uu] [(.int (0 : Int32))])) t
          refine XS.ifNo X733.here hx rfl (hb hby at_89) rfl (own_if_neN (by decide)) ?_
          refine XS.iload X733.here hx rfl (hb hby at_92) rfl ?_
          refine XS.i2dS X733.here hx rfl (hb hby at_94) rfl rfl ?_
          refine XS.goto X733.here hx rfl (pc0 := 95) (pc' := 112) rfl (hb hby at_95) (by decide) (by decide) ?_
          show Steps p.tables e below (T729.setTop (mkF m 112 #[vi p0, vi p1, vi p2, vi (1 : Int32), vr qM, vi (0 : Int32), vi (0 : Int32), vi bb, vd (FP.i2d p0), ss, uu, uu, uu, uu, uu, uu, uu] [(.double (FP.i2d bb))])) t
          refine XS.dstore X733.here hx rfl (hb hby at_112) rfl (l' := #[vi p0, vi p1, vi p2, vi (1 : Int32), vr qM, vi (0 : Int32), vi (0 : Int32), vi bb, vd (FP.i2d p0), ss, vd (FP.i2d bb), ss, uu, uu, uu, uu, uu]) rfl ?_
          refine XS.aload X733.here hx rfl (hb hby at_114) rfl rfl ?_
          refine XS.dload X733.here hx rfl (hb hby at_116) rfl ?_
          refine XS.dload X733.here hx rfl (hb hby at_118) rfl ?_
          exact kk
        obtain ⟨cq841, kq842, qa843, qb844, qc845⟩ := isOf hZ e741 E2
        obtain ⟨_, _, ⟨T830, L831, kc832, nc833⟩, -, X834, ⟨Lc835, hQ836, l837, y838, z839⟩, st840⟩ := X733.virtualBack hx (y := mn1) (z := mn1) hown (mvT hZ (tw8 hw)) (mvT hZ (tw9 hw)) (notFace_of_selects (args := #[]) (mvT hZ (tw11 hw))) (mvT hZ (tw11 hw)) (mvT hZ (tw10 hw)) (by decide) (backOf (W := 0) (rm1 l Z a0 hw [] qM (FP.i2d p0) (FP.i2d bb) qm h0 n0 Z0 S1 (Fl.i2d_fin p0).noNaN (Fl.i2d_fin bb).noNaN (own_hn_ff p0 bb)) hZ (tw12 hw) (tw1 hw) (by decide) (by decide)) qa843 qc845 (g := (mkF m 120 #[vi p0, vi p1, vi p2, vi (1 : Int32), vr qM, vi (0 : Int32), vi (0 : Int32), vi bb, vd (FP.i2d p0), ss, vd (FP.i2d bb), ss, uu, uu, uu, uu, uu] [(.double (FP.i2d bb)), (.double (FP.i2d p0)), (.ref qM)])) rfl (by rw [hml]; rfl) (Steps.refl _) (argsL := [(.double (FP.i2d p0)), (.double (FP.i2d bb))]) (rest := []) (lenOf pd_4 rfl) rfl (by show 2 * 0 + _ ≤ _; exact Nat.le_of_eq rfl) (hb hby at_120) (fun _ _ => ⟨rfl, e741, (by decide : 0 + 0 ≤ _), (by decide : 0 + 0 ≤ _)⟩)
        dsimp only [Pt.U, Pt.locs, Pt.cells, Pt.slots] at X834 l837 y838 z839 st840 hQ836
        subst l837 y838 z839
        obtain ⟨rfl, N846, e847⟩ := hQ836
        have N849 := Fr.app N745 N846
        have k850 : own_G p e below E0 T830 (mkF m 123 #[vi p0, vi p1, vi p2, vi (1 : Int32), vr qM, vi (0 : Int32), vi (0 : Int32), vi bb, vd (FP.i2d p0), ss, vd (FP.i2d bb), ss, uu, uu, uu, uu, uu] [(.double (own_lead (qM = qm) (FP.i2d p0) (FP.i2d bb)))]) := fun t kk => k829 t (st840.trans kk)
        have k851 : own_G p e below E0 T830 (mkF m 243 #[vi p0, vi p1, vi p2, vi (1 : Int32), vr qM, vi (0 : Int32), vi (0 : Int32), vi bb, vd (FP.i2d p0), ss, vd (FP.i2d bb), ss, vd (own_lead (qM = qm) (FP.i2d p0) (FP.i2d bb)), ss, vi (1 : Int32), vd (FP.l2d ((p0.toInt64) - (bb.toInt64))), ss] [(.int (1 : Int32))]) := by
          intro t kk
          refine k850 t ?_
          refine XS.dstore X834.here hx rfl (hb hby at_123) rfl (l' := #[vi p0, vi p1, vi p2, vi (1 : Int32), vr qM, vi (0 : Int32), vi (0 : Int32), vi bb, vd (FP.i2d p0), ss, vd (FP.i2d bb), ss, vd (own_lead (qM = qm) (FP.i2d p0) (FP.i2d bb)), ss, uu, uu, uu]) rfl ?_
          refine XS.iloadN X834.here hx rfl (hb hby at_125) rfl ?_
          refine XS.ifNo X834.here hx rfl (hb hby at_126) rfl (own_if_eqN (by decide)) ?_
          refine XS.iconst X834.here hx rfl (hb hby at_129) ?_
          show Steps p.tables e below (T830.setTop (mkF m 130 #[vi p0, vi p1, vi p2, vi (1 : Int32), vr qM, vi (0 : Int32), vi (0 : Int32), vi bb, vd (FP.i2d p0), ss, vd (FP.i2d bb), ss, vd (own_lead (qM = qm) (FP.i2d p0) (FP.i2d bb)), ss, uu, uu, uu] [(.int (1 : Int32))])) t
          refine XS.goto X834.here hx rfl (pc0 := 130) (pc' := 134) rfl (hb hby at_130) (by decide) (by decide) ?_
          refine XS.istore X834.here hx rfl (hb hby at_134) rfl (l' := #[vi p0, vi p1, vi p2, vi (1 : Int32), vr qM, vi (0 : Int32), vi (0 : Int32), vi bb, vd (FP.i2d p0), ss, vd (FP.i2d bb), ss, vd (own_lead (qM = qm) (FP.i2d p0) (FP.i2d bb)), ss, vi (1 : Int32), uu, uu]) rfl ?_
          refine XS.iload X834.here hx rfl (hb hby at_136) rfl ?_
          refine XS.ifYes X834.here hx rfl (pc0 := 138) (pc' := 154) rfl (hb hby at_138) rfl (own_if_eqY (by decide)) (by decide) (by decide) ?_
          show Steps p.tables e below (T830.setTop (mkF m 154 #[vi p0, vi p1, vi p2, vi (1 : Int32), vr qM, vi (0 : Int32), vi (0 : Int32), vi bb, vd (FP.i2d p0), ss, vd (FP.i2d bb), ss, vd (own_lead (qM = qm) (FP.i2d p0) (FP.i2d bb)), ss, vi (1 : Int32), uu, uu] [])) t
          refine XS.iload X834.here hx rfl (hb hby at_154) rfl ?_
          refine XS.ifYes X834.here hx rfl (pc0 := 156) (pc' := 181) rfl (hb hby at_156) rfl (own_if_eqY (by decide)) (by decide) (by decide) ?_
          refine XS.iload X834.here hx rfl (hb hby at_181) rfl ?_
          refine XS.ifYes X834.here hx rfl (pc0 := 183) (pc' := 208) rfl (hb hby at_183) rfl (own_if_eqY (by decide)) (by decide) (by decide) ?_
          show Steps p.tables e below (T830.setTop (mkF m 208 #[vi p0, vi p1, vi p2, vi (1 : Int32), vr qM, vi (0 : Int32), vi (0 : Int32), vi bb, vd (FP.i2d p0), ss, vd (FP.i2d bb), ss, vd (own_lead (qM = qm) (FP.i2d p0) (FP.i2d bb)), ss, vi (1 : Int32), uu, uu] [])) t
          refine XS.iloadN X834.here hx rfl (hb hby at_208) rfl ?_
          refine XS.ifNo X834.here hx rfl (hb hby at_209) rfl (own_if_eqN (by decide)) ?_
          refine XS.iloadN X834.here hx rfl (hb hby at_212) rfl ?_
          refine XT.i2l X834.here hx rfl (hb hby at_213) rfl ?_
          show Steps p.tables e below (T830.setTop (mkF m 214 #[vi p0, vi p1, vi p2, vi (1 : Int32), vr qM, vi (0 : Int32), vi (0 : Int32), vi bb, vd (FP.i2d p0), ss, vd (FP.i2d bb), ss, vd (own_lead (qM = qm) (FP.i2d p0) (FP.i2d bb)), ss, vi (1 : Int32), uu, uu] [(.long (p0.toInt64))])) t
          refine XS.iload X834.here hx rfl (hb hby at_214) rfl ?_
          refine XT.i2l X834.here hx rfl (hb hby at_216) rfl ?_
          refine XT.lsub X834.here hx rfl (hb hby at_217) rfl ?_
          refine XS.goto X834.here hx rfl (pc0 := 218) (pc' := 227) rfl (hb hby at_218) (by decide) (by decide) ?_
          show Steps p.tables e below (T830.setTop (mkF m 227 #[vi p0, vi p1, vi p2, vi (1 : Int32), vr qM, vi (0 : Int32), vi (0 : Int32), vi bb, vd (FP.i2d p0), ss, vd (FP.i2d bb), ss, vd (own_lead (qM = qm) (FP.i2d p0) (FP.i2d bb)), ss, vi (1 : Int32), uu, uu] [(.long ((p0.toInt64) - (bb.toInt64)))])) t
          refine XS.l2dS X834.here hx rfl (hb hby at_227) rfl rfl ?_
          refine XS.dstore X834.here hx rfl (hb hby at_228) rfl (l' := #[vi p0, vi p1, vi p2, vi (1 : Int32), vr qM, vi (0 : Int32), vi (0 : Int32), vi bb, vd (FP.i2d p0), ss, vd (FP.i2d bb), ss, vd (own_lead (qM = qm) (FP.i2d p0) (FP.i2d bb)), ss, vi (1 : Int32), vd (FP.l2d ((p0.toInt64) - (bb.toInt64))), ss]) rfl ?_
          refine XS.dload X834.here hx rfl (hb hby at_230) rfl ?_
          refine XS.dload X834.here hx rfl (hb hby at_232) rfl ?_
          show Steps p.tables e below (T830.setTop (mkF m 234 #[vi p0, vi p1, vi p2, vi (1 : Int32), vr qM, vi (0 : Int32), vi (0 : Int32), vi bb, vd (FP.i2d p0), ss, vd (FP.i2d bb), ss, vd (own_lead (qM = qm) (FP.i2d p0) (FP.i2d bb)), ss, vi (1 : Int32), vd (FP.l2d ((p0.toInt64) - (bb.toInt64))), ss] [(.double (FP.l2d ((p0.toInt64) - (bb.toInt64)))), (.double (own_lead (qM = qm) (FP.i2d p0) (FP.i2d bb)))])) t
          refine XS.dcmpS (v := (0 : Int32)) X834.here hx rfl (hb hby at_234) rfl (own_eq0 .l (own_ffN ne1 p0 bb) (own_ffE p0 bb)) ?_
          refine XS.ifNo X834.here hx rfl (hb hby at_235) rfl (own_if_neN (by decide)) ?_
          refine XS.iconst X834.here hx rfl (hb hby at_238) ?_
          refine XS.goto X834.here hx rfl (pc0 := 239) (pc' := 243) rfl (hb hby at_239) (by decide) (by decide) ?_
          exact kk
        obtain ⟨fs, hr, hrun, hended, hW, hsame⟩ := X834.leave (v := some (.int (1 : Int32))) (fun h => by rw [Bd.returns] at h; cases h)
        have hrun0 := k851 _ (retOut X834 hx Bd.returns (t := .boolean) rfl (Or.inl ⟨rfl, Or.inr (Or.inl rfl), _, rfl⟩) (hb hby at_243) hr)
        subst hE0
        refine ⟨_, _, hrun0, hrun, hended, _, _, rfl, ?_, ⟨_, rfl⟩, hW, hsame.mono (by decide) (by decide)⟩
        show Qrm0 Z p0 p1 p2 qm qM h0 n0 _ T830.heap _
        rw [e847]
        exact ⟨rfl, N849⟩
def tw2 {Z : State} {a0 : Array Value} (hw : ∀ d ∈ tables_1, d.before a0 Z = true) := hw _ (List.mem_of_getElem? (i := 2) rfl)
def tw16 {Z : State} {a0 : Array Value} (hw : ∀ d ∈ tables_1, d.before a0 Z = true) := hw _ (List.mem_of_getElem? (i := 16) rfl)
set_option maxRecDepth 65536 in
set_option maxHeartbeats 40000000 in
theorem comes_1 {Post : Tables → Env → Array Value → State → Outcome → State → Prop} (hpost : ∀ tb e args s v u, (limb_1_1.after args s (.returned v) u = true ∧ limb_1_2.after args s (.returned v) u = true ∧ True) → FrameEnd s (.returned v) u (Jvm.fieldLocs frame_1_writes args s ++ Jvm.arrayLocs frame_1_arrays args s ++ Jvm.staticLocs frame_1_statics s) 0 0 → Post tb e args s (.returned v) u) :
    ArmFor flags0 classFile x code maxLocals ret World_1 tables_1 room_1 Calls_1 rest_1 Pre_1 Post := by
  intro l hfl _ _ p e ha hc hk s m args below hf hA hF happ hP
  obtain ⟨hcalls, hrest, hpre⟩ := hP
  obtain ⟨-, -, -, hnamed, -, -, -, hat⟩ := (Spec.applies_iff hf).mp happ
  obtain ⟨hg, hn⟩ := and_e (Cond.before_iff.mp (show (Jvm.Cond.and given_1 narrow_1).before args s = true from hpre))
  obtain ⟨hct, hr0⟩ := and_e hg
  obtain ⟨ha0, hr1⟩ := and_e hr0
  obtain ⟨ha1, hr2⟩ := and_e hr1
  obtain ⟨w0, w1, w2, rfl⟩ : ∃ w0 w1 w2 : Value, args = #[w0, w1, w2] := by
    have hs : args.size = 3 := by simpa [Cond.value, given_1] using hct
    obtain ⟨L⟩ := args
    match L, hs with
    | [w0, w1, w2], _ => exact ⟨w0, w1, w2, rfl⟩
  have hw := fun d (hd : d ∈ tables_1) => atoms_spec (ws := Jvm.Cond.code x code maxLocals ret :: tables_1) hat d (List.mem_cons_of_mem _ hd)
  have hfit : Fit s := fun {y c} hc i hi => by
    obtain ⟨ha, rfl⟩ := Array.getElem?_eq_some_iff.mp hc
    have q := List.all_eq_true.mp ((Array.all_eq_true_iff_forall_mem.mp hF) _ (Array.getElem_mem ha)) i (List.mem_range.mpr hi)
    simpa [Array.getElem?_eq_getElem hi] using q
  obtain ⟨i0, ev0⟩ := is_v ha0
  obtain rfl : w0 = (.int i0) := Option.some.inj ev0
  obtain ⟨i1, ev1⟩ := is_v ha1
  obtain rfl : w1 = (.int i1) := Option.some.inj ev1
  obtain ⟨i2, ev2⟩ := is_v hr2
  obtain rfl : w2 = (.int i2) := Option.some.inj ev2
  obtain ⟨n1, n2⟩ := and_e hn
  obtain ⟨n3, n4⟩ := and_e n2
  obtain ⟨n5, n6⟩ := and_e n4
  obtain ⟨qm, em⟩ := exa_v n1
  obtain ⟨qM, eM⟩ := exa_v n3
  have hne : qM ≠ qm := fun q => by
    have r := (own_ord eM n5).symm.trans (q ▸ own_ord em n6)
    exact absurd (Value.int.inj (Option.some.inj r)) (by decide)
  obtain ⟨n, o, h1, h2, h3, _, L, rfl, ⟨rfl, N⟩, hq⟩ := rm0 l s _ hw tables_1 i0 i1 i2 qm qM s.heap s.heap.size (Nat.le_refl _) (Sta.start em (Or.inr ⟨(tw1 hw), (tw2 hw)⟩)) (Sta.start eM (Or.inr ⟨(tw1 hw), (tw16 hw)⟩)) (Exa.start em n1) (Exa.start eM n3) hne p e ha hc hk s m _ below hf ((Spec.applies_iff_loose hf).mp happ).1 ⟨rfl, State.Warmed39.refl s, rfl⟩ trivial
  refine ⟨n, _, h1, h2, h3, hpost _ _ _ _ _ _ ⟨Cond.after_iff.mpr rfl, Cond.after_iff.mpr (eq_i res_at (Term.int_eval (1)) rfl), trivial⟩ ⟨hq.1, hq.2.1, (hq.2.2.sift fun y hy => Or.inr (N y hy)).mono (by decide) (by decide)⟩⟩
theorem main_1_1 : Claimed_1_1 := comes_1 fun _ _ _ _ _ _ h hF => ⟨h.1, hF⟩
theorem main_1_2 : Claimed_1_2 := comes_1 fun _ _ _ _ _ _ h hF => ⟨h.2.1, hF⟩
end Jvm.Pilot.@@N@@
namespace Jvm.Pilot.@@N@@
open Jvm Jvm.ClassFile Sem Op Lib Jvm.Free Jvm.Stand Jvm.Pilot.@@N@@.Jvm.D
/-! MADE BY PROGRAM (witnessworld.py) out of the Statement's table words and the real class files: 12 classes; the members and pool entries that the words name. The judged class is class 1, her method 1. -/
namespace start1
open Jvm.ClassFile
def u (s : String) : CpInfo := .utf8 (stringToUtf16 s)
/-- a pool by its gaps: so many unusable entries, then the entry; so many at the end -/
def gap : Nat → List CpInfo → List CpInfo
  | 0, r => r
  | n + 1, r => .unusable :: gap n r
def poolList (es : List (Nat × CpInfo)) (last : Nat) : List CpInfo := es.foldr (fun e r => gap e.1 (e.2 :: r)) (gap last [])
def pool (es : List (Nat × CpInfo)) (last : Nat) : Array CpInfo := ⟨poolList es last⟩
def fileOf (pool : Array CpInfo) (this : Nat) (attrs : Array Attribute := #[]) (ms : Array MethodInfo := #[]) (fl : Nat := 33) (sup : Nat := 0) (ifs : Array Nat := #[]) (fds : Array FieldInfo := #[]) : ClassFile where
  minorVersion := 0
  majorVersion := 65
  constantPool := pool
  accessFlags := fl
  thisClass := this
  superClass := sup
  interfaces := ifs
  fields := fds
  methods := ms
  attributes := attrs
def plain (name : String) (sup : Option ClassId) : Class where
  name := name
  kind := .ordinary
  loader := none
  accessFlags := 33
  super := sup
  interfaces := #[]
  cf := none
  fields := #[]
  methods := #[]
  instanceTypes := #[]
  staticTypes := #[]
  resolved := #[]
  callSites := []
  init := .initialized
  statics := none
  mirror := none

def pool0 : Array CpInfo := pool [(5, u "<init>"), (0, u "()V"), (1, .class_ 10), (1, u "java/lang/Object")] 113

def k0m0 : Method := { name := "<init>", desc := "()V", sig := { parameters := [], returnType := none }, accessFlags := 1, code := none }
/-- java/lang/Object -/
def k0 : Class := { plain "java/lang/Object" none with
  accessFlags := 33
  interfaces := #[]
  cf := some (fileOf pool0 8 #[] #[{ accessFlags := 1, nameIndex := 5, descriptorIndex := 6, attributes := #[] }] 33 0 #[] #[])
  fields := #[]
  methods := #[k0m0]
  instanceTypes := #[]
  staticTypes := #[]
  resolved := Array.replicate 124 none
  statics := none }

def pool1 : Array CpInfo := pool [(2, .class_ 4), (1, u "java/lang/Object"), (0, u "<init>"), (0, u "()V"), (0, .fieldref 8 9), (0, .class_ 10), (0, .nameAndType 11 12), (0, u "com/example/sumbound/sumbound/algebra/Extremum"), (0, u "MAX"), (0, u "Lcom/example/sumbound/sumbound/algebra/Extremum;"), (0, .fieldref 8 14), (0, .nameAndType 15 12), (0, u "MIN"), (0, .methodref 17 18), (0, .class_ 19), (0, .nameAndType 20 21), (0, u "com/example/sumbound/sumbound/algebra/ExtremumLeadPinLaw"), (0, u "kind"), (0, u "(I)I"), (0, .double 9218868437227405312), (1, .double 18442240474082181120), (1, .methodref 8 27), (0, .nameAndType 28 29), (0, u "lead"), (0, u "(DD)D"), (2, u "law"), (0, u "(III)Z")] 3

def k1m0 : Method := { name := "<init>", desc := "()V", sig := { parameters := [], returnType := none }, accessFlags := 1, code := none }
def k1c1 : Code := { maxStack := 5, maxLocals := 17, code := code, exceptionTable := #[], attributes := #[] }
def k1m1 : Method := { name := "law", desc := "(III)Z", sig := { parameters := [.int, .int, .int], returnType := some .boolean }, accessFlags := 9, code := some k1c1 }
def k1c2 : Code := { maxStack := 2, maxLocals := 1, code := method_3_code, exceptionTable := #[], attributes := #[] }
def k1m2 : Method := { name := "kind", desc := "(I)I", sig := { parameters := [.int], returnType := some .int }, accessFlags := 10, code := some k1c2 }
/-- com/example/sumbound/sumbound/algebra/ExtremumLeadPinLaw -/
def k1 : Class := { plain "com/example/sumbound/sumbound/algebra/ExtremumLeadPinLaw" (some 0) with
  accessFlags := 49
  interfaces := #[]
  cf := some (fileOf pool1 17 #[] #[{ accessFlags := 1, nameIndex := 5, descriptorIndex := 6, attributes := #[] }, { accessFlags := 9, nameIndex := 32, descriptorIndex := 33, attributes := #[] }, { accessFlags := 10, nameIndex := 20, descriptorIndex := 21, attributes := #[] }] 49 2 #[] #[])
  fields := #[]
  methods := #[k1m0, k1m1, k1m2]
  instanceTypes := #[]
  staticTypes := #[]
  resolved := Array.replicate 37 none
  statics := none }

def pool2 : Array CpInfo := pool [(1, .class_ 2), (0, u "java/lang/constant/Constable"), (0, .class_ 4), (0, u "java/lang/Object")] 6

/-- java/lang/constant/Constable -/
def k2 : Class := { plain "java/lang/constant/Constable" (some 0) with
  accessFlags := 1537
  interfaces := #[]
  cf := some (fileOf pool2 1 #[] #[] 1537 3 #[] #[])
  fields := #[]
  methods := #[]
  instanceTypes := #[]
  staticTypes := #[]
  resolved := Array.replicate 11 none
  statics := none }

def pool3 : Array CpInfo := pool [(1, .class_ 2), (0, u "java/lang/Comparable"), (0, .class_ 4), (0, u "java/lang/Object")] 7

/-- java/lang/Comparable -/
def k3 : Class := { plain "java/lang/Comparable" (some 0) with
  accessFlags := 1537
  interfaces := #[]
  cf := some (fileOf pool3 1 #[] #[] 1537 3 #[] #[])
  fields := #[]
  methods := #[]
  instanceTypes := #[]
  staticTypes := #[]
  resolved := Array.replicate 12 none
  statics := none }

def pool4 : Array CpInfo := pool [(1, .class_ 2), (0, u "java/io/Serializable"), (0, .class_ 4), (0, u "java/lang/Object")] 2

/-- java/io/Serializable -/
def k4 : Class := { plain "java/io/Serializable" (some 0) with
  accessFlags := 1537
  interfaces := #[]
  cf := some (fileOf pool4 1 #[] #[] 1537 3 #[] #[])
  fields := #[]
  methods := #[]
  instanceTypes := #[]
  staticTypes := #[]
  resolved := Array.replicate 7 none
  statics := none }

def pool5 : Array CpInfo := pool [(2, .class_ 4), (1, u "java/lang/Enum"), (0, u "name"), (0, u "Ljava/lang/String;"), (2, u "ordinal"), (0, u "I"), (1, .class_ 14), (1, u "java/lang/Object"), (4, u "hash"), (86, .class_ 108), (1, u "java/lang/Enum$EnumDesc"), (2, .class_ 112), (0, u "java/lang/constant/Constable"), (0, .class_ 114), (0, u "java/lang/Comparable"), (0, .class_ 116), (0, u "java/io/Serializable")] 87

/-- java/lang/Enum -/
def k5 : Class := { plain "java/lang/Enum" (some 0) with
  accessFlags := 1057
  interfaces := #[2, 3, 4]
  cf := some (fileOf pool5 2 #[.nestMembers #[106]] #[] 1057 12 #[111, 113, 115] #[{ accessFlags := 18, nameIndex := 5, descriptorIndex := 6, attributes := #[] }, { accessFlags := 18, nameIndex := 9, descriptorIndex := 10, attributes := #[] }, { accessFlags := 2, nameIndex := 19, descriptorIndex := 10, attributes := #[] }])
  fields := #[{ name := "name", type := (.object "java/lang/String"), accessFlags := 18, slot := 0, constantValue := 0 }, { name := "ordinal", type := .int, accessFlags := 18, slot := 1, constantValue := 0 }, { name := "hash", type := .int, accessFlags := 2, slot := 2, constantValue := 0 }]
  methods := #[]
  instanceTypes := #[(.object "java/lang/String"), .int, .int]
  staticTypes := #[]
  resolved := Array.replicate 204 none
  statics := none }

def pool6 : Array CpInfo := pool [(1, .class_ 2), (0, u "com/example/sumbound/sumbound/algebra/Extremum"), (0, .fieldref 1 4), (0, .nameAndType 5 6), (0, u "MIN"), (0, u "Lcom/example/sumbound/sumbound/algebra/Extremum;"), (2, u "MAX"), (2, u "$VALUES"), (0, u "[Lcom/example/sumbound/sumbound/algebra/Extremum;"), (6, .class_ 22), (1, u "java/lang/Enum"), (25, u "lead"), (0, u "(DD)D")] 4

def k6c0 : Code := { maxStack := 4, maxLocals := 7, code := prog_2_method_6_code, exceptionTable := #[], attributes := #[] }
def k6m0 : Method := { name := "lead", desc := "(DD)D", sig := { parameters := [.double, .double], returnType := some .double }, accessFlags := 0, code := some k6c0 }
/-- com/example/sumbound/sumbound/algebra/Extremum -/
def k6 : Class := { plain "com/example/sumbound/sumbound/algebra/Extremum" (some 5) with
  accessFlags := 16433
  interfaces := #[]
  cf := some (fileOf pool6 1 #[] #[{ accessFlags := 0, nameIndex := 48, descriptorIndex := 49, attributes := #[] }] 16433 20 #[] #[{ accessFlags := 16409, nameIndex := 5, descriptorIndex := 6, attributes := #[] }, { accessFlags := 16409, nameIndex := 9, descriptorIndex := 6, attributes := #[] }, { accessFlags := 4122, nameIndex := 12, descriptorIndex := 13, attributes := #[] }])
  fields := #[{ name := "MIN", type := (.object "com/example/sumbound/sumbound/algebra/Extremum"), accessFlags := 16409, slot := 0, constantValue := 0 }, { name := "MAX", type := (.object "com/example/sumbound/sumbound/algebra/Extremum"), accessFlags := 16409, slot := 1, constantValue := 0 }, { name := "$VALUES", type := (.array (.object "com/example/sumbound/sumbound/algebra/Extremum")), accessFlags := 4122, slot := 2, constantValue := 0 }]
  methods := #[k6m0]
  instanceTypes := #[(.object "java/lang/String"), .int, .int]
  staticTypes := #[(.object "com/example/sumbound/sumbound/algebra/Extremum"), (.object "com/example/sumbound/sumbound/algebra/Extremum"), (.array (.object "com/example/sumbound/sumbound/algebra/Extremum"))]
  resolved := Array.replicate 54 none
  statics := some 0 }

def pool7 : Array CpInfo := pool [(1, u "java/lang/Cloneable"), (0, .class_ 1), (0, u "java/lang/Object"), (0, .class_ 3)] 3

/-- java/lang/Cloneable -/
def k7 : Class := { plain "java/lang/Cloneable" (some 0) with
  accessFlags := 1537
  interfaces := #[]
  cf := some (fileOf pool7 2 #[] #[] 1537 4 #[] #[])
  fields := #[]
  methods := #[]
  instanceTypes := #[]
  staticTypes := #[]
  resolved := Array.replicate 8 none
  statics := none }

/-- the primitive byte -/
def k8 : Class := { plain "byte" none with kind := .primitive 'B', accessFlags := 0x411 }
/-- [B -/
def k9 : Class := { plain "[B" (some 0) with kind := .array 8 .byte, interfaces := #[7, 4], accessFlags := 1041 }

/-- the primitive int -/
def k10 : Class := { plain "int" none with kind := .primitive 'I', accessFlags := 0x411 }
/-- [I -/
def k11 : Class := { plain "[I" (some 0) with kind := .array 10 .int, interfaces := #[7, 4], accessFlags := 1041 }

def heap : Heap := #[{ cls := 6, slots := #[.ref 1, .ref 2, .null], vm := .statics 6 },
  { cls := 6, slots := #[.null, .int 0, .int 0], vm := .none },
  { cls := 6, slots := #[.null, .int 1, .int 0], vm := .none }]
def classes : Array Class := #[k0, k1, k2, k3, k4, k5, k6, k7, k8, k9, k10, k11]
def interned : List (Array UInt16 × Addr) := []
def slotsUsed : Nat := 9
def theMethod : MethodId := ⟨1, 1⟩
def args0 : Array Value := #[.int 5, .int 3, .int 4]
def aboutOver (below : List Frame) : State where
  vm := { classes := classes, interned := interned.toArray }
  heap := heap
  slotsUsed := slotsUsed
  threads := #[{ frames := .invoking theMethod args0 :: below }]
def below0 : List Frame := [.native { method := ⟨0, 0⟩, args := #[] }]
def about1 : State := aboutOver below0
def p0 : Program := .bare "" "" ""
def e0 : Env := launch0.env 0 0 0
theorem w_frames : about1.frames = Frame.invoking theMethod args0 :: below0 := rfl
set_option maxRecDepth 65536 in
theorem w_args : argsFit about1.vm theMethod args0 = true := by decide +kernel
set_option maxRecDepth 65536 in
theorem w_heap : heapFits about1 = true := by decide +kernel
set_option maxRecDepth 65536 in
theorem w_runnable : about1.curStatus? = some .runnable := by decide +kernel
set_option maxRecDepth 65536 in
theorem w_alone : about1.alone = true := by decide +kernel
set_option maxRecDepth 65536 in
theorem w_named : about1.methodNamed? x = some theMethod := by decide +kernel
set_option maxRecDepth 65536 in
theorem w_hears : about1.hears theMethod below0 = true := by decide +kernel
set_option maxRecDepth 65536 in
theorem w_ripe : about1.ripe theMethod args0 below0 = true := by decide +kernel
theorem w_running : about1.status = .running := rfl
set_option maxRecDepth 65536 in
theorem w_room : about1.hasRoom e0.platform room_1 = true :=
  launch0.hasRoom_least _ room_1 (by decide +kernel) (by decide +kernel) (by decide +kernel) (by decide +kernel) (by decide +kernel) (by decide +kernel)
theorem allAtoms_all (ts : List Jvm.Cond) (a : Array Jvm.Value) (st : Jvm.State) : (allAtoms ts).before a st = ts.all (fun c => c.before a st) := by
  induction ts with
  | nil => rfl
  | cons c t ih =>
    show (Jvm.Cond.and c (allAtoms t)).before a st = _
    rw [Jvm.Cond.before_and, ih, List.all_cons]
def words1 : List Jvm.Cond := Jvm.Cond.code x code maxLocals ret :: tables_1
/-- a 'code' word, met by the world's own term for the bytes: nothing is compared byte by byte -/
theorem code_word {y : MethodName} {bytes : ByteArray} {mx : Nat} {rt : Option FieldType} {a : Array Value} {s : State} {m : MethodId} {meth : Method} {c : Code} (h1 : s.methodNamed? y = some m) (h2 : s.vm.method? m = some meth) (h3 : meth.code = some c) (h4 : c.code = bytes)
    (h5 : (c.maxLocals == mx && c.exceptionTable.isEmpty && decide (c.maxStack ≤ mostOperands) && decide (meth.sig.returnType = rt) && !meth.locks && decide (parseMethodDescriptor y.desc = some meth.sig)) = true) : (Jvm.Cond.code y bytes mx rt).before a s = true := by
  simp only [Bool.and_eq_true, beq_iff_eq, Bool.not_eq_true', decide_eq_true_eq] at h5
  obtain ⟨⟨⟨⟨⟨g1, g2⟩, g3⟩, g4⟩, g5⟩, g6⟩ := h5
  simp [Cond.before, Cond.holds, Cond.value, h1, h2, h3, h4, g1, g2, g3, g4, g5, g6]
def isCode : Jvm.Cond → Bool
  | .code _ _ _ _ => true
  | _ => false
theorem all_split {L : List Jvm.Cond} {P : Jvm.Cond → Bool} (h1 : L.all (fun c => isCode c || P c) = true) (h2 : ∀ c ∈ L.filter isCode, P c = true) : L.all P = true := by
  refine List.all_eq_true.mpr fun c hc => ?_
  have h := List.all_eq_true.mp h1 c hc
  rcases Bool.eq_false_or_eq_true (isCode c) with hi | hi
  · exact h2 c (List.mem_filter.mpr ⟨hc, hi⟩)
  · simpa [hi] using h
set_option maxRecDepth 65536 in
theorem w_c0 : (Jvm.Cond.code x code maxLocals ret).before args0 about1 = true := code_word (m := ⟨1, 1⟩) (meth := k1m1) (c := k1c1) (by decide +kernel) rfl rfl rfl (by decide +kernel)
set_option maxRecDepth 65536 in
theorem w_c1 : (Jvm.Cond.code ({ cls := "com/example/sumbound/sumbound/algebra/ExtremumLeadPinLaw", name := "kind", desc := "(I)I" } : Jvm.MethodName) method_3_code (1 : Nat) (Option.some Jvm.ClassFile.FieldType.int)).before args0 about1 = true := code_word (m := ⟨1, 2⟩) (meth := k1m2) (c := k1c2) (by decide +kernel) rfl rfl rfl (by decide +kernel)
set_option maxRecDepth 65536 in
theorem w_c2 : (Jvm.Cond.code ({ cls := "com/example/sumbound/sumbound/algebra/Extremum", name := "lead", desc := "(DD)D" } : Jvm.MethodName) prog_2_method_6_code (7 : Nat) (Option.some Jvm.ClassFile.FieldType.double)).before args0 about1 = true := code_word (m := ⟨6, 0⟩) (meth := k6m0) (c := k6c0) (by decide +kernel) rfl rfl rfl (by decide +kernel)
def codes1 : List Jvm.Cond := [Jvm.Cond.code x code maxLocals ret, Jvm.Cond.code ({ cls := "com/example/sumbound/sumbound/algebra/ExtremumLeadPinLaw", name := "kind", desc := "(I)I" } : Jvm.MethodName) method_3_code (1 : Nat) (Option.some Jvm.ClassFile.FieldType.int), Jvm.Cond.code ({ cls := "com/example/sumbound/sumbound/algebra/Extremum", name := "lead", desc := "(DD)D" } : Jvm.MethodName) prog_2_method_6_code (7 : Nat) (Option.some Jvm.ClassFile.FieldType.double)]
set_option maxRecDepth 65536 in
theorem codes_eq : words1.filter isCode = codes1 := rfl
theorem w_codes : ∀ c ∈ words1.filter isCode, c.before args0 about1 = true := by
  rw [codes_eq]
  intro c hc
  simp only [codes1, List.mem_cons, List.not_mem_nil, or_false] at hc
  rcases hc with rfl | rfl | rfl
  · exact w_c0
  · exact w_c1
  · exact w_c2
set_option maxRecDepth 65536 in
theorem w_t1 : words1.all (fun c => isCode c || c.before args0 about1) = true := by decide +kernel
theorem w_tables : (allAtoms (Jvm.Cond.code x code maxLocals ret :: tables_1)).before args0 about1 = true := by
  rw [allAtoms_all]
  show words1.all (fun c => c.before args0 about1) = true
  refine all_split ?_ w_codes
  rw [w_t1]
set_option maxRecDepth 65536 in
theorem w_case : (Jvm.Cond.and given_1 narrow_1).before args0 about1 = true := by decide +kernel
theorem w_applies : (headSpec (Jvm.Cond.code x code maxLocals ret :: tables_1) room_1).applies x e0.platform about1 = true :=
  (Spec.applies_iff w_frames).mpr ⟨w_running, w_runnable, w_alone, w_named, w_hears, w_ripe, w_room, w_tables⟩
theorem atStart : AtStart classFile x code maxLocals ret World_1 tables_1 room_1 Calls_1 rest_1 Pre_1 launch0 p0 e0 about1 theMethod args0 below0 :=
  ⟨lists_1, trivial, launch0.admits_env _ _ _, launch0.least_env, fairChoices_fair.cas, fairChoices_fair.clock, w_frames, w_args, w_heap, w_applies, trivial, trivial, w_case⟩
end start1
theorem witness_1 : WitnessClaimed_1 := ⟨start1.p0, start1.e0, start1.about1, start1.theMethod, start1.args0, start1.below0, start1.atStart⟩
end Jvm.Pilot.@@N@@
