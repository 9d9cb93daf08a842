import JvmDerived
import JvmDerived.Pilot.@@N@@Statement
import JvmDerived.Pilot.@@N@@Code
set_option linter.unusedVariables false
set_option linter.unusedSimpArgs false
@@BLOCK:NumsL.lean.txt@@
namespace Jvm.Pilot.@@N@@
open Jvm Jvm.ClassFile Sem Op Lib Jvm.Free Jvm.Stand Jvm.LawKit Jvm.RoadKit Bundle Jvm.Pilot.@@N@@.Jvm.D
open Jvm.Free.Fl (NoNaN64 Fin64 Nz64)
theorem own_lt_ne {a b n : Nat} (h : a < n) (g : b = n) : a ≠ b := by omega
theorem own_lt_ne2 {a b n : Nat} (h : a < n) (g : n ≤ b) : a ≠ b := by omega
theorem own_ge_of {k b n : Nat} (h : k ≤ n) (g : b = n) : k ≤ b := by omega
abbrev uu : Slot := .unset
abbrev ss : Slot := .second
abbrev vi (x : Int32) : Slot := .val (.int x)
abbrev vj (x : Int64) : Slot := .val (.long x)
abbrev vd (x : UInt64) : Slot := .val (.double x)
abbrev vr (x : Addr) : Slot := .val (.ref x)
/-- whatever is reached from here is reached from E -/
abbrev own_G (p : Program) (e : Env) (below : List Frame) (E T : State) (g : JFrame) : Prop := ∀ t, Steps p.tables e below (T.setTop g) t → Steps p.tables e below E t
theorem own_if_eqY {x : Int32} (h : x = 0) : ifCond.holds .eq x = true := by subst h; rfl
theorem own_if_eqN {x : Int32} (h : ¬ x = 0) : ifCond.holds .eq x = false := beq_false_of_ne h
theorem own_if_neY {x : Int32} (h : ¬ x = 0) : ifCond.holds .ne x = true := bne_iff_ne.mpr h
theorem own_if_neN {x : Int32} (h : x = 0) : ifCond.holds .ne x = false := by subst h; rfl
theorem own_if_ltY {x : Int32} (h : x < 0) : ifCond.holds .lt x = true := decide_eq_true h
theorem own_if_ltN {x : Int32} (h : ¬ x < 0) : ifCond.holds .lt x = false := decide_eq_false h
theorem own_if_geY {x : Int32} (h : ¬ x < 0) : ifCond.holds .ge x = true := decide_eq_true (Int32.not_lt.mp h)
theorem own_if_geN {x : Int32} (h : x < 0) : ifCond.holds .ge x = false := decide_eq_false (fun q => Int32.not_le.mpr h q)
theorem own_if_gtY {x : Int32} (h : 0 < x) : ifCond.holds .gt x = true := decide_eq_true h
theorem own_if_gtN {x : Int32} (h : ¬ 0 < x) : ifCond.holds .gt x = false := decide_eq_false h
theorem own_if_leY {x : Int32} (h : ¬ 0 < x) : ifCond.holds .le x = true := decide_eq_true (Int32.not_lt.mp h)
theorem own_if_leN {x : Int32} (h : 0 < x) : ifCond.holds .le x = false := decide_eq_false (fun q => Int32.not_le.mpr h q)
theorem own_ic_eqY {x y : Int32} (h : x = y) : if_icmp.holds .eq x y = true := beq_iff_eq.mpr h
theorem own_ic_eqN {x y : Int32} (h : ¬ x = y) : if_icmp.holds .eq x y = false := beq_false_of_ne h
theorem own_ic_neY {x y : Int32} (h : ¬ x = y) : if_icmp.holds .ne x y = true := bne_iff_ne.mpr h
theorem own_ic_neN {x y : Int32} (h : x = y) : if_icmp.holds .ne x y = false := by subst h; exact bne_self_eq_false x
theorem own_ic_ltY {x y : Int32} (h : x < y) : if_icmp.holds .lt x y = true := decide_eq_true h
theorem own_ic_ltN {x y : Int32} (h : ¬ x < y) : if_icmp.holds .lt x y = false := decide_eq_false h
theorem own_ic_geY {x y : Int32} (h : ¬ x < y) : if_icmp.holds .ge x y = true := decide_eq_true (Int32.not_lt.mp h)
theorem own_ic_geN {x y : Int32} (h : x < y) : if_icmp.holds .ge x y = false := decide_eq_false (fun q => Int32.not_le.mpr h q)
theorem own_ic_gtY {x y : Int32} (h : y < x) : if_icmp.holds .gt x y = true := decide_eq_true h
theorem own_ic_gtN {x y : Int32} (h : ¬ y < x) : if_icmp.holds .gt x y = false := decide_eq_false h
theorem own_ic_leY {x y : Int32} (h : ¬ y < x) : if_icmp.holds .le x y = true := decide_eq_true (Int32.not_lt.mp h)
theorem own_ic_leN {x y : Int32} (h : y < x) : if_icmp.holds .le x y = false := decide_eq_false (fun q => Int32.not_le.mpr h q)
/-- what a comparison of two whole or scaled values pushes -/
def own_c (i j : Int) : Int32 := if i < j then -1 else if i = j then 0 else 1
theorem own_cE (o : CmpOp) {x y : UInt64} {i j : Int} (h : FP.dcmp x y = some (compare i j)) : cmpValue (FP.dcmp x y) o = own_c i j := by
  rw [h, FP.Core.compare_ite, own_c]
  by_cases h1 : i < j
  · rw [if_pos h1, if_pos h1]; cases o <;> rfl
  · rw [if_neg h1, if_neg h1]
    by_cases h2 : i = j
    · rw [if_pos h2, if_pos h2]; cases o <;> rfl
    · rw [if_neg h2, if_neg h2]; cases o <;> rfl
theorem own_c_lt {i j : Int} (h : i < j) : own_c i j = -1 := by rw [own_c, if_pos h]
theorem own_c_eq {i j : Int} (h : i = j) : own_c i j = 0 := by rw [own_c, if_neg (by omega), if_pos h]
theorem own_c_gt {i j : Int} (h : j < i) : own_c i j = 1 := by rw [own_c, if_neg (by omega), if_neg (by omega)]
theorem own_c_cases (i j : Int) : (i < j ∧ own_c i j = -1) ∨ (i = j ∧ own_c i j = 0) ∨ (j < i ∧ own_c i j = 1) := by
  rcases Int.lt_trichotomy i j with h | h | h
  · exact Or.inl ⟨h, own_c_lt h⟩
  · exact Or.inr (Or.inl ⟨h, own_c_eq h⟩)
  · exact Or.inr (Or.inr ⟨h, own_c_gt h⟩)
theorem own_c_ltY {i j : Int} (h : i < j) : ifCond.holds .lt (own_c i j) = true := by rw [own_c_lt h]; rfl
theorem own_c_ltN {i j : Int} (h : ¬ i < j) : ifCond.holds .lt (own_c i j) = false := by rcases own_c_cases i j with q | q | q <;> first | exact absurd q.1 h | (rw [q.2]; rfl)
theorem own_c_geY {i j : Int} (h : ¬ i < j) : ifCond.holds .ge (own_c i j) = true := by rcases own_c_cases i j with q | q | q <;> first | exact absurd q.1 h | (rw [q.2]; rfl)
theorem own_c_geN {i j : Int} (h : i < j) : ifCond.holds .ge (own_c i j) = false := by rw [own_c_lt h]; rfl
theorem own_c_gtY {i j : Int} (h : j < i) : ifCond.holds .gt (own_c i j) = true := by rw [own_c_gt h]; rfl
theorem own_c_gtN {i j : Int} (h : ¬ j < i) : ifCond.holds .gt (own_c i j) = false := by rcases own_c_cases i j with q | q | q <;> first | exact absurd q.1 h | (rw [q.2]; rfl)
theorem own_c_leY {i j : Int} (h : ¬ j < i) : ifCond.holds .le (own_c i j) = true := by rcases own_c_cases i j with q | q | q <;> first | exact absurd q.1 h | (rw [q.2]; rfl)
theorem own_c_leN {i j : Int} (h : j < i) : ifCond.holds .le (own_c i j) = false := by rw [own_c_gt h]; rfl
theorem own_c_eqY {i j : Int} (h : i = j) : ifCond.holds .eq (own_c i j) = true := by rw [own_c_eq h]; rfl
theorem own_c_eqN {i j : Int} (h : ¬ i = j) : ifCond.holds .eq (own_c i j) = false := by rcases own_c_cases i j with q | q | q <;> first | exact absurd q.1 h | (rw [q.2]; rfl)
theorem own_c_neY {i j : Int} (h : ¬ i = j) : ifCond.holds .ne (own_c i j) = true := by rcases own_c_cases i j with q | q | q <;> first | exact absurd q.1 h | (rw [q.2]; rfl)
theorem own_c_neN {i j : Int} (h : i = j) : ifCond.holds .ne (own_c i j) = false := by rw [own_c_eq h]; rfl
theorem own_l_lt {i j : Int64} (h : i < j) : XT.cmpL i j = -1 := by
  rw [XT.cmpL, if_neg (fun q => Int64.lt_irrefl (Int64.lt_trans h q)), if_neg (fun q => Int64.lt_irrefl (q ▸ h))]
theorem own_l_eq {i j : Int64} (h : i = j) : XT.cmpL i j = 0 := by subst h; rw [XT.cmpL, if_neg Int64.lt_irrefl, if_pos rfl]
theorem own_l_gt {i j : Int64} (h : j < i) : XT.cmpL i j = 1 := by rw [XT.cmpL, if_pos h]
theorem own_l_cases (i j : Int64) : (i < j ∧ XT.cmpL i j = -1) ∨ (i = j ∧ XT.cmpL i j = 0) ∨ (j < i ∧ XT.cmpL i j = 1) := by
  by_cases h : i < j
  · exact Or.inl ⟨h, own_l_lt h⟩
  · by_cases h2 : i = j
    · exact Or.inr (Or.inl ⟨h2, own_l_eq h2⟩)
    · have h3 : j < i := by
        rw [Int64.lt_iff_toInt_lt] at h ⊢
        have h4 : i.toInt ≠ j.toInt := fun q => h2 (Int64.toInt_inj.mp q)
        omega
      exact Or.inr (Or.inr ⟨h3, own_l_gt h3⟩)
theorem own_l_ltY {i j : Int64} (h : i < j) : ifCond.holds .lt (XT.cmpL i j) = true := by rw [own_l_lt h]; rfl
theorem own_l_ltN {i j : Int64} (h : ¬ i < j) : ifCond.holds .lt (XT.cmpL i j) = false := by rcases own_l_cases i j with q | q | q <;> first | exact absurd q.1 h | (rw [q.2]; rfl)
theorem own_l_geY {i j : Int64} (h : ¬ i < j) : ifCond.holds .ge (XT.cmpL i j) = true := by rcases own_l_cases i j with q | q | q <;> first | exact absurd q.1 h | (rw [q.2]; rfl)
theorem own_l_geN {i j : Int64} (h : i < j) : ifCond.holds .ge (XT.cmpL i j) = false := by rw [own_l_lt h]; rfl
theorem own_l_gtY {i j : Int64} (h : j < i) : ifCond.holds .gt (XT.cmpL i j) = true := by rw [own_l_gt h]; rfl
theorem own_l_gtN {i j : Int64} (h : ¬ j < i) : ifCond.holds .gt (XT.cmpL i j) = false := by rcases own_l_cases i j with q | q | q <;> first | exact absurd q.1 h | (rw [q.2]; rfl)
theorem own_l_leY {i j : Int64} (h : ¬ j < i) : ifCond.holds .le (XT.cmpL i j) = true := by rcases own_l_cases i j with q | q | q <;> first | exact absurd q.1 h | (rw [q.2]; rfl)
theorem own_l_leN {i j : Int64} (h : j < i) : ifCond.holds .le (XT.cmpL i j) = false := by rw [own_l_gt h]; rfl
theorem own_l_eqY {i j : Int64} (h : i = j) : ifCond.holds .eq (XT.cmpL i j) = true := by rw [own_l_eq h]; rfl
theorem own_l_eqN {i j : Int64} (h : ¬ i = j) : ifCond.holds .eq (XT.cmpL i j) = false := by rcases own_l_cases i j with q | q | q <;> first | exact absurd q.1 h | (rw [q.2]; rfl)
theorem own_l_neY {i j : Int64} (h : ¬ i = j) : ifCond.holds .ne (XT.cmpL i j) = true := by rcases own_l_cases i j with q | q | q <;> first | exact absurd q.1 h | (rw [q.2]; rfl)
theorem own_l_neN {i j : Int64} (h : i = j) : ifCond.holds .ne (XT.cmpL i j) = false := by rw [own_l_eq h]; rfl
theorem own_ac_eq_Y {x y : Value} (h : x = y) : XT.acmp .eq x y = true := decide_eq_true h
theorem own_ac_eq_N {x y : Value} (h : ¬ x = y) : XT.acmp .eq x y = false := decide_eq_false h
theorem own_ac_ne_Y {x y : Value} (h : ¬ x = y) : XT.acmp .ne x y = true := decide_eq_true h
theorem own_ac_ne_N {x y : Value} (h : x = y) : XT.acmp .ne x y = false := decide_eq_false (fun q => q h)
theorem own_ar_eq_Y {x y : Addr} (h : x = y) : XT.acmp .eq (.ref x) (.ref y) = true := own_ac_eq_Y (congrArg Value.ref h)
theorem own_ar_eq_N {x y : Addr} (h : ¬ x = y) : XT.acmp .eq (.ref x) (.ref y) = false := own_ac_eq_N (fun q => h (Value.ref.inj q))
theorem own_ar_ne_Y {x y : Addr} (h : ¬ x = y) : XT.acmp .ne (.ref x) (.ref y) = true := own_ac_ne_Y (fun q => h (Value.ref.inj q))
theorem own_ar_ne_N {x y : Addr} (h : x = y) : XT.acmp .ne (.ref x) (.ref y) = false := own_ac_ne_N (congrArg Value.ref h)
/-- a static's object's field that the case names by a number -/
theorem own_ord {args : Array Value} {s : State} {t : Term} {C n d : String} {k : Int32} {x : Addr} (ev : t.eval args s none [] s = some (.ref x))
    (h : (Jvm.Cond.eq (Term.field t C n d) (Term.int k)).value args s none s [] = some true) : s.fieldOf? x C n d = some (.int k) := by
  obtain ⟨v, u, e1, e2, k1, k2⟩ := cmp_v (Or.inl h)
  have e3 : u = .int k := by have := (Term.int_eval (args := args) (first := s) (o := none) (idx := []) (s := s) k).symm.trans e2; exact (Option.some.inj this).symm
  subst e3
  obtain ⟨z, rfl⟩ := k2
  have q := gotT (Cond.eq_ints e1 e2) h
  rw [← fld_at ev, e1, q]
/-! doubles: exact values in units of the least double -/
def own_z (x : UInt64) : Int := FP.Core.zval FP.Core.b64 (FP.Core.val64 x)
theorem own_nn {i : Int} {x : UInt64} (h : FP.Core.DInt i x) : NoNaN64 x := Fl.val64_no.mpr (FP.Core.DInt_ne_nan h)
theorem own_cmpz {x y : UInt64} (hx : NoNaN64 x) (hy : NoNaN64 y) : FP.dcmp x y = some (compare (own_z x) (own_z y)) := FP.Core.dcmp_zval (Fl.val64_no.mp hx) (Fl.val64_no.mp hy)
theorem own_d0 : FP.Core.DInt 0 FP.dconst0 := by
  have h := FP.Core.l2d_int (a := 0) (by decide)
  rw [FP.Core.l2d_zero] at h; exact h
theorem own_d1 : FP.Core.DInt 1 FP.dconst1 := FP.Core.dint_one
theorem own_zi {i : Int} {x : UInt64} (h : FP.Core.DInt i x) : own_z x = i * (FP.Core.one64 : Int) := FP.Core.DInt_zval h
theorem own_fini {i : Int} {x : UInt64} (h : FP.Core.DInt i x) : Fin64 x := by
  have h' : FP.Core.Whole i (FP.Core.val64 x) := h
  cases hv : FP.Core.val64 x with
  | nan => rw [hv] at h'; exact h'.elim
  | inf s => rw [hv] at h'; exact h'.elim
  | fin s c q => exact Fl.fin64_core.mpr ⟨s, c, q, hv⟩
theorem own_one : (0 : Int) < (FP.Core.one64 : Int) := by have := FP.Core.one64_pos; omega
theorem own_nz {x : UInt64} (h : own_z x ≠ 0) : Nz64 x := Fl.nz64_core.mpr fun ⟨s, q, e⟩ => h (by
  show FP.Core.zval FP.Core.b64 (FP.Core.val64 x) = 0
  rw [e]; show FP.Core.signed s (0 * _) = 0; rw [Nat.zero_mul]; cases s <;> rfl)
theorem own_nzi {i : Int} {x : UInt64} (h : FP.Core.DInt i x) (hi : i ≠ 0) : Nz64 x := own_nz (by
  rw [own_zi h]; intro q; rcases Int.mul_eq_zero.mp q with r | r
  · exact hi r
  · have := own_one; omega)
theorem own_zn (x : UInt64) : (own_z x).natAbs = FP.Core.zmag FP.Core.b64 (FP.Core.val64 x) := FP.Core.natAbs_signed _ _
/-- the quotient, by the two values alone -/
theorem own_quot {x y : UInt64} (hx : Fin64 x) (hy : Fin64 y) (hz : own_z y ≠ 0) :
    FP.Core.val64 (FP.ddiv x y) = FP.Core.roundRatio FP.Core.b64 (FP.Core.sgn (FP.Core.val64 x) != FP.Core.sgn (FP.Core.val64 y)) (own_z x).natAbs (own_z y).natAbs 0 := by
  obtain ⟨s, c, q, ex⟩ := Fl.fin64_core.mp hx
  obtain ⟨t, d, r, ey⟩ := Fl.fin64_core.mp hy
  have fx : FP.Core.fits FP.Core.b64 (.fin s c q) := ex ▸ FP.Core.val64_fits x
  have fy : FP.Core.fits FP.Core.b64 (.fin t d r) := ey ▸ FP.Core.val64_fits y
  have hd : d ≠ 0 := fun h => hz (by
    show FP.Core.zval FP.Core.b64 (FP.Core.val64 y) = 0
    rw [ey, h]; show FP.Core.signed t (0 * _) = 0; rw [Nat.zero_mul]; cases t <;> rfl)
  rw [own_zn, own_zn, show FP.ddiv x y = FP.Core.ddiv x y from rfl, FP.Core.val64_ddiv, ex, ey]
  show (if d = 0 then _ else FP.Core.roundRatio FP.Core.b64 (s != t) c d (q - r)) = FP.Core.roundRatio FP.Core.b64 (s != t) (c * 2 ^ (q - FP.Core.b64.qmin).toNat) (d * 2 ^ (r - FP.Core.b64.qmin).toNat) 0
  rw [if_neg hd]
  refine FP.Core.roundRatio_congr (Nat.pos_of_ne_zero hd) (Nat.mul_pos (Nat.pos_of_ne_zero hd) (Nat.two_pow_pos _)) ?_
  have h1 := fx.2.1
  have h2 := fy.2.1
  have e1 : (r - FP.Core.b64.qmin).toNat + (q - r - 0).toNat = (q - FP.Core.b64.qmin).toNat + (0 - (q - r)).toNat := by omega
  calc c * (d * 2 ^ (r - FP.Core.b64.qmin).toNat) * 2 ^ (q - r - 0).toNat = c * d * (2 ^ (r - FP.Core.b64.qmin).toNat * 2 ^ (q - r - 0).toNat) := by
        rw [Nat.mul_assoc, Nat.mul_assoc, Nat.mul_assoc]
    _ = c * d * (2 ^ (q - FP.Core.b64.qmin).toNat * 2 ^ (0 - (q - r)).toNat) := by rw [← Nat.pow_add, ← Nat.pow_add, e1]
    _ = c * 2 ^ (q - FP.Core.b64.qmin).toNat * d * 2 ^ (0 - (q - r)).toNat := by
        rw [Nat.mul_right_comm c _ d, Nat.mul_assoc (c * d)]
theorem own_noNaN_of {x : UInt64} {s : Bool} {A B : Nat} {e : Int} (h : FP.Core.val64 x = FP.Core.roundRatio FP.Core.b64 s A B e) : NoNaN64 x :=
  Fl.val64_no.mpr (h ▸ FP.Core.roundRatio_ne_nan _ _ _ _ _)
theorem own_div_nn {x y : UInt64} (hx : Fin64 x) (hy : Fin64 y) (hz : own_z y ≠ 0) : NoNaN64 (FP.ddiv x y) := Fl.ddiv_out hx.noNaN hy (own_nz hz)
/-- what is rounded below (above) a double stays there -/
theorem own_rr_le {s : Bool} {A B : Nat} {V : UInt64} (hB : 0 < B) (hV : NoNaN64 V) (h : A * FP.Core.one64 ≤ (own_z V).natAbs * B) :
    FP.Core.zmag FP.Core.b64 (FP.Core.roundRatio FP.Core.b64 s A B 0) ≤ (own_z V).natAbs := by
  rw [own_zn] at h ⊢
  refine FP.Core.zmag_roundRatio_le FP.Core.good_b64 hB (FP.Core.val64_fits V) (Fl.val64_no.mp hV) (e0 := FP.Core.b64.qmin) (Int.le_refl _) (by decide +kernel) ?_
  rw [Int.sub_self]
  show A * 2 ^ (0 - FP.Core.b64.qmin).toNat ≤ _ * 1 * B
  rw [Nat.mul_one, Int.zero_sub, FP.Core.pow_qmin64]; exact h
theorem own_rr_ge {s : Bool} {A B : Nat} {V : UInt64} (hB : 0 < B) (h : (own_z V).natAbs * B ≤ A * FP.Core.one64) :
    (own_z V).natAbs ≤ FP.Core.zmag FP.Core.b64 (FP.Core.roundRatio FP.Core.b64 s A B 0) := by
  rw [own_zn] at h ⊢
  refine FP.Core.zmag_roundRatio_ge FP.Core.good_b64 hB (FP.Core.val64_fits V) (e0 := FP.Core.b64.qmin) (Int.le_refl _) (by decide +kernel) ?_
  rw [Int.sub_self]
  show _ * 1 * B ≤ A * 2 ^ (0 - FP.Core.b64.qmin).toNat
  rw [Nat.mul_one, Int.zero_sub, FP.Core.pow_qmin64]; exact h
theorem own_z_signed {x : UInt64} {s : Bool} {A B : Nat} (h : FP.Core.val64 x = FP.Core.roundRatio FP.Core.b64 s A B 0) :
    own_z x = FP.Core.signed s (FP.Core.zmag FP.Core.b64 (FP.Core.roundRatio FP.Core.b64 s A B 0)) := by
  show FP.Core.signed _ _ = _
  rw [h, FP.Core.sgn_roundRatio]
/-- a quotient of two that are not below nought -/
theorem own_div_ge0 {x y : UInt64} (hx : Fin64 x) (hy : Fin64 y) (hz : own_z y ≠ 0) (h0 : 0 ≤ own_z x) (h1 : 0 ≤ own_z y) : 0 ≤ own_z (FP.ddiv x y) := by
  have hq := own_quot hx hy hz
  rw [own_z_signed hq]
  cases hs : (FP.Core.sgn (FP.Core.val64 x) != FP.Core.sgn (FP.Core.val64 y)) with
  | false => exact Int.natCast_nonneg _
  | true =>
    have hy2 : FP.Core.sgn (FP.Core.val64 y) = false := by
      cases hs2 : FP.Core.sgn (FP.Core.val64 y) with
      | false => rfl
      | true =>
        exfalso; have : own_z y = -(FP.Core.zmag FP.Core.b64 (FP.Core.val64 y) : Int) := by show FP.Core.signed _ _ = _; rw [hs2]; rfl
        omega
    have hx2 : FP.Core.sgn (FP.Core.val64 x) = true := by rw [hy2] at hs; simpa using hs
    have hx3 : own_z x = -(FP.Core.zmag FP.Core.b64 (FP.Core.val64 x) : Int) := by show FP.Core.signed _ _ = _; rw [hx2]; rfl
    have hx4 : (own_z x).natAbs = 0 := by omega
    rw [hx4, FP.Core.roundRatio, if_pos rfl]
    show 0 ≤ FP.Core.signed true (0 * _); rw [Nat.zero_mul]; decide
theorem own_div_le {x y V : UInt64} (hx : Fin64 x) (hy : Fin64 y) (hz : own_z y ≠ 0) (hV : NoNaN64 V) (h0 : 0 ≤ own_z x) (h1 : 0 ≤ own_z y) (h2 : 0 ≤ own_z V)
    (h : own_z x * (FP.Core.one64 : Int) ≤ own_z V * own_z y) : own_z (FP.ddiv x y) ≤ own_z V := by
  have hq := own_quot hx hy hz
  have hge := own_div_ge0 hx hy hz h0 h1
  have hB : 0 < (own_z y).natAbs := by omega
  have h3 : (own_z x).natAbs * FP.Core.one64 ≤ (own_z V).natAbs * (own_z y).natAbs := by
    have e1 : ((own_z x).natAbs : Int) = own_z x := by omega
    have e2 : ((own_z y).natAbs : Int) = own_z y := by omega
    have e3 : ((own_z V).natAbs : Int) = own_z V := by omega
    have : (((own_z x).natAbs * FP.Core.one64 : Nat) : Int) ≤ (((own_z V).natAbs * (own_z y).natAbs : Nat) : Int) := by
      rw [Int.natCast_mul, Int.natCast_mul, e1, e2, e3]; exact h
    exact Int.ofNat_le.mp this
  have := own_rr_le (s := FP.Core.sgn (FP.Core.val64 x) != FP.Core.sgn (FP.Core.val64 y)) hB hV h3
  have h4 : (own_z (FP.ddiv x y)).natAbs ≤ (own_z V).natAbs := by rw [own_zn, hq]; exact this
  omega
/-- two doubles of the same whole value compare as equal -/
theorem own_eq0 {x y : UInt64} {i : Int} (o : CmpOp) (hx : FP.Core.DInt i x) (hy : FP.Core.DInt i y) : cmpValue (FP.dcmp x y) o = 0 := by
  rw [own_cE o (FP.Core.dcmp_int hx hy), own_c_eq rfl]
theorem own_mb {a b A B : Int} (h1 : -A ≤ a) (h2 : a ≤ A) (h3 : -B ≤ b) (h4 : b ≤ B) (h : A * B ≤ 9007199254740992) : (a * b).natAbs ≤ 2 ^ 53 := by
  rw [Int.natAbs_mul]
  have e1 : a.natAbs ≤ A.toNat := by omega
  have e2 : b.natAbs ≤ B.toNat := by omega
  have e3 : a.natAbs * b.natAbs ≤ A.toNat * B.toNat := Nat.mul_le_mul e1 e2
  have e4 : ((A.toNat * B.toNat : Nat) : Int) = A * B := by rw [Int.natCast_mul, Int.toNat_of_nonneg (by omega), Int.toNat_of_nonneg (by omega)]
  have e5 : (2 : Nat) ^ 53 = 9007199254740992 := by decide
  omega
theorem own_dl (a : Int64) {i : Int} (h : a.toInt = i) (hb : i.natAbs ≤ 2 ^ 53) : FP.Core.DInt i (FP.l2d a) := by subst h; exact FP.Core.l2d_int hb
theorem own_lm {a b : Int64} (h : (a.toInt * b.toInt).natAbs ≤ 2 ^ 53) : (a * b).toInt = a.toInt * b.toInt := by
  have e5 : (2 : Nat) ^ 53 = 9007199254740992 := by decide
  exact Jvm.Kit.i64_mul (by omega) (by omega)
theorem own_sgn_mul {s t : Bool} {b : Nat} {k : Int} (hb : 0 < b) (h : FP.Core.signed s (k.natAbs * b) = k * FP.Core.signed t b) : FP.Core.signed (s != t) k.natAbs = k := by
  have hb' : (0 : Int) < (b : Int) := by omega
  have e : ((k.natAbs * b : Nat) : Int) = (k.natAbs : Int) * (b : Int) := Int.natCast_mul _ _
  have key : ∀ z : Int, (k.natAbs : Int) * (b : Int) = z * (b : Int) → (k.natAbs : Int) = z := fun z q => Int.eq_of_mul_eq_mul_right (by omega) q
  cases s <;> cases t
  · show (k.natAbs : Int) = k
    apply key; rw [← e]; exact h
  · show -(k.natAbs : Int) = k
    have h' : ((k.natAbs * b : Nat) : Int) = k * -(b : Int) := h
    have := key (-k) (by rw [← e, h', Int.mul_neg, Int.neg_mul]); omega
  · show -(k.natAbs : Int) = k
    have h' : -((k.natAbs * b : Nat) : Int) = k * (b : Int) := h
    have := key (-k) (by rw [← e, Int.neg_mul, ← h', Int.neg_neg]); omega
  · show (k.natAbs : Int) = k
    have h' : -((k.natAbs * b : Nat) : Int) = k * -(b : Int) := h
    apply key; rw [← e]
    have : -((k.natAbs * b : Nat) : Int) = -(k * (b : Int)) := by rw [h', Int.mul_neg]
    omega
/-- a quotient of whole values that comes out even -/
theorem own_ddiv_int {k j : Int} {x y : UInt64} (hx : FP.Core.DInt (k * j) x) (hy : FP.Core.DInt j y) (hj : j ≠ 0) (hk : k.natAbs ≤ 2 ^ 53) : FP.Core.DInt k (FP.ddiv x y) := by
  have zx := own_zi hx
  have zy := own_zi hy
  have hz : own_z y ≠ 0 := by rw [zy]; exact Int.mul_ne_zero hj (by have := own_one; omega)
  have hq := own_quot (own_fini hx) (own_fini hy) hz
  have ha : (own_z x).natAbs = k.natAbs * (own_z y).natAbs := by rw [zx, zy, Int.mul_assoc, Int.natAbs_mul]
  have hb : 0 < (own_z y).natAbs := by omega
  show FP.Core.Whole k (FP.Core.val64 (FP.ddiv x y))
  rw [hq, ha, FP.Core.roundRatio_congr (A' := k.natAbs) (B' := 1) (e' := 0) hb (by decide) (by rw [Nat.mul_one])]
  refine FP.Core.whole_round FP.Core.good_b64 FP.Core.wide_b64 hk (d := .fin (FP.Core.sgn (FP.Core.val64 x) != FP.Core.sgn (FP.Core.val64 y)) k.natAbs 0) ?_
  show FP.Core.signed _ (k.natAbs * 1) = k * ((1 : Nat) : Int)
  rw [Nat.mul_one, show ((1 : Nat) : Int) = 1 from rfl, Int.mul_one]
  refine own_sgn_mul hb ?_
  have e1 : FP.Core.signed (FP.Core.sgn (FP.Core.val64 x)) (own_z x).natAbs = own_z x := by rw [own_zn]; rfl
  have e2 : FP.Core.signed (FP.Core.sgn (FP.Core.val64 y)) (own_z y).natAbs = own_z y := by rw [own_zn]; rfl
  rw [← ha, e1, e2, zx, zy, Int.mul_assoc]
theorem own_zmag_s (s : Bool) (A B : Nat) (e : Int) : FP.Core.zmag FP.Core.b64 (FP.Core.roundRatio FP.Core.b64 s A B e) = FP.Core.zmag FP.Core.b64 (FP.Core.roundRatio FP.Core.b64 false A B e) := by
  cases s with
  | false => rfl
  | true =>
    rw [show FP.Core.roundRatio FP.Core.b64 true A B e = FP.Core.negate (FP.Core.roundRatio FP.Core.b64 false A B e) from (FP.Core.negate_roundRatio FP.Core.b64 false A B e).symm]
    cases FP.Core.roundRatio FP.Core.b64 false A B e <;> rfl
theorem own_div_n {x y : UInt64} (hx : Fin64 x) (hy : Fin64 y) (hz : own_z y ≠ 0) : (own_z (FP.ddiv x y)).natAbs = FP.Core.zmag FP.Core.b64 (FP.Core.roundRatio FP.Core.b64 false (own_z x).natAbs (own_z y).natAbs 0) := by
  rw [own_zn, own_quot hx hy hz, own_zmag_s]
/-- two quotients of the same ratio, none below nought -/
theorem own_div_congr {x y x' y' : UInt64} (hx : Fin64 x) (hy : Fin64 y) (hz : own_z y ≠ 0) (hx' : Fin64 x') (hy' : Fin64 y') (hz' : own_z y' ≠ 0)
    (g1 : 0 ≤ own_z x) (g2 : 0 ≤ own_z y) (g3 : 0 ≤ own_z x') (g4 : 0 ≤ own_z y') (h : own_z x * own_z y' = own_z x' * own_z y) : own_z (FP.ddiv x y) = own_z (FP.ddiv x' y') := by
  have e1 := own_div_n hx hy hz
  have e2 := own_div_n hx' hy' hz'
  have k1 := own_div_ge0 hx hy hz g1 g2
  have k2 := own_div_ge0 hx' hy' hz' g3 g4
  have h' : (own_z x).natAbs * (own_z y').natAbs = (own_z x').natAbs * (own_z y).natAbs := by rw [← Int.natAbs_mul, ← Int.natAbs_mul, h]
  rw [FP.Core.roundRatio_congr (A' := (own_z x').natAbs) (B' := (own_z y').natAbs) (e' := 0) (by omega) (by omega) (by rw [h'])] at e1
  omega
/-- m * 2^k units is a double -/
theorem own_rep (m k : Nat) (hm : m < 2 ^ 53) (hk : k ≤ 2045) : ∃ V : UInt64, Fin64 V ∧ own_z V = ((m * 2 ^ k : Nat) : Int) := by
  have hq : FP.Core.b64.qmin = -1074 := FP.Core.qmin_b64
  have hq2 : FP.Core.b64.qmax = 971 := by decide
  obtain ⟨c, q, e1, e2⟩ := FP.Core.round_exact FP.Core.good_b64 false (c := m) (q := (k : Int) - 1074) hm (by rw [hq]; omega) (by rw [hq2]; omega)
  have hv : FP.Core.val64 (FP.Core.of64 (FP.Core.round FP.Core.b64 (.fin false m ((k : Int) - 1074)))) = .fin false c q := by
    rw [FP.Core.val64_of64 (FP.Core.round_fits FP.Core.good_b64 _), e1]
  refine ⟨_, Fl.fin64_core.mpr ⟨_, _, _, hv⟩, ?_⟩
  show FP.Core.zval FP.Core.b64 _ = _
  rw [hv]
  show ((FP.Core.inUnits c q FP.Core.b64.qmin : Nat) : Int) = _
  rw [e2, FP.Core.inUnits, hq, show ((k : Int) - 1074 - -1074).toNat = k by omega]
/-- a quotient that comes out even in some binary place -/
theorem own_div_exact {x y : UInt64} (hx : Fin64 x) (hy : Fin64 y) (hz : own_z y ≠ 0) (g1 : 0 ≤ own_z x) (g2 : 0 ≤ own_z y) (m k : Nat) (hm : m < 2 ^ 53) (hk : k ≤ 2045)
    (h : own_z x * (FP.Core.one64 : Int) = ((m * 2 ^ k : Nat) : Int) * own_z y) : own_z (FP.ddiv x y) = ((m * 2 ^ k : Nat) : Int) := by
  obtain ⟨V, fV, zV⟩ := own_rep m k hm hk
  have k1 := own_div_ge0 hx hy hz g1 g2
  have e1 := own_div_n hx hy hz
  have h3 : (own_z x).natAbs * FP.Core.one64 = (own_z V).natAbs * (own_z y).natAbs := by
    have := congrArg Int.natAbs h
    rw [Int.natAbs_mul, Int.natAbs_mul, ← zV] at this
    exact this
  have l1 := own_rr_le (s := false) (A := (own_z x).natAbs) (B := (own_z y).natAbs) (V := V) (by omega) fV.noNaN (Nat.le_of_eq h3)
  have l2 := own_rr_ge (s := false) (A := (own_z x).natAbs) (B := (own_z y).natAbs) (V := V) (by omega) (Nat.le_of_eq h3.symm)
  omega
theorem own_eqz {x y : UInt64} (o : CmpOp) (hx : NoNaN64 x) (hy : NoNaN64 y) (h : own_z x = own_z y) : cmpValue (FP.dcmp x y) o = 0 := by
  rw [own_cE o (own_cmpz hx hy), own_c_eq h]
theorem own_ge0 {x : UInt64} (h : 0 ≤ own_z x) : ¬ own_z x < own_z FP.dconst0 := by rw [own_zi own_d0, Int.zero_mul]; exact Int.not_lt.mpr h
theorem own_le1 {x : UInt64} (h : own_z x ≤ own_z FP.dconst1) : ¬ own_z FP.dconst1 < own_z x := Int.not_lt.mpr h
/-! exact sums, differences, products and quotients in some binary place -/
theorem own_z_neg {x : UInt64} (h : Fin64 x) : own_z (FP.dneg x) = -own_z x ∧ Fin64 (FP.dneg x) := by
  obtain ⟨s, c, q, e⟩ := Fl.fin64_core.mp h
  have hv : FP.Core.val64 (FP.dneg x) = FP.Core.negate (FP.Core.val64 x) := FP.val64_dneg x
  refine ⟨?_, Fl.fin64_core.mpr ⟨!s, c, q, by rw [hv, e]; rfl⟩⟩
  show FP.Core.zval _ _ = -FP.Core.zval _ _
  rw [hv, FP.Core.zval_negate]
theorem own_repI (m : Int) (k : Nat) (hm : m.natAbs < 2 ^ 53) (hk : k ≤ 2045) : ∃ V : UInt64, Fin64 V ∧ own_z V = m * ((2 ^ k : Nat) : Int) := by
  obtain ⟨V, fV, zV⟩ := own_rep m.natAbs k hm hk
  rw [Int.natCast_mul] at zV
  by_cases h : 0 ≤ m
  · exact ⟨V, fV, by rw [zV, Int.natAbs_of_nonneg h]⟩
  · refine ⟨FP.dneg V, (own_z_neg fV).2, ?_⟩
    rw [(own_z_neg fV).1, zV, ← Int.neg_mul]
    congr 1; omega
/-- what is finite and rounds from a value that is a double is that double -/
theorem own_round_exact {x : UInt64} {sg : Bool} {n : Nat} {e : Int} (hv : FP.Core.val64 x = FP.Core.round FP.Core.b64 (.fin sg n e)) (he : FP.Core.b64.qmin ≤ e) {V : UInt64} (fV : Fin64 V) (h : FP.Core.signed sg (FP.Core.inUnits n e FP.Core.b64.qmin) = own_z V) :
    own_z x = own_z V ∧ Fin64 x := by
  have nV := Fl.val64_no.mp fV.noNaN
  have h1 := FP.Core.zval_round_le FP.Core.good_b64 (s := sg) (c := n) (q := e) (V := FP.Core.val64 V) (FP.Core.val64_fits V) nV (e0 := FP.Core.b64.qmin) (Int.le_refl _) he (by
    rw [Int.sub_self]; show _ ≤ _ * ((1 : Nat) : Int); rw [show ((1 : Nat) : Int) = 1 from rfl, Int.mul_one]; exact Int.le_of_eq h)
  have h2 := FP.Core.zval_round_ge FP.Core.good_b64 (s := sg) (c := n) (q := e) (V := FP.Core.val64 V) (FP.Core.val64_fits V) nV (e0 := FP.Core.b64.qmin) (Int.le_refl _) he (by
    rw [Int.sub_self]; show _ * ((1 : Nat) : Int) ≤ _; rw [show ((1 : Nat) : Int) = 1 from rfl, Int.mul_one]; exact Int.le_of_eq h.symm)
  have hz : own_z x = own_z V := by
    show FP.Core.zval _ (FP.Core.val64 x) = FP.Core.zval _ (FP.Core.val64 V)
    rw [hv]; exact Int.le_antisymm h1 h2
  refine ⟨hz, ?_⟩
  have nx : NoNaN64 x := Fl.val64_no.mpr (by rw [hv]; exact fun z => FP.Core.roundRatio_ne_nan _ _ _ _ _ z)
  cases hx : FP.Core.val64 x with
  | nan => exact absurd hx (Fl.val64_no.mp nx)
  | fin s c q => exact Fl.fin64_core.mpr ⟨s, c, q, hx⟩
  | inf s =>
    exfalso
    have b := (Fl.fin64_core.mp fV).zval_lt
    have e1 : (own_z x).natAbs = FP.Core.b64.tails * 2 ^ (FP.Core.b64.exps - 2) := by rw [own_zn, hx]; rfl
    have e2 : (own_z V).natAbs = FP.Core.zmag FP.Core.b64 (FP.Core.val64 V) := own_zn V
    rw [hz, e2] at e1
    omega
theorem own_add_exact {x y : UInt64} (hx : Fin64 x) (hy : Fin64 y) (m : Int) (k : Nat) (hm : m.natAbs < 2 ^ 53) (hk : k ≤ 2045) (h : own_z x + own_z y = m * ((2 ^ k : Nat) : Int)) : own_z (FP.dadd x y) = m * ((2 ^ k : Nat) : Int) ∧ Fin64 (FP.dadd x y) := by
  obtain ⟨V, fV, zV⟩ := own_repI m k hm hk
  obtain ⟨s, c, q, ex⟩ := Fl.fin64_core.mp hx
  obtain ⟨t, d, r, ey⟩ := Fl.fin64_core.mp hy
  obtain ⟨sg, n, e, e1, e2, e3⟩ := FP.Core.sum_units (f := FP.Core.b64) (ex ▸ FP.Core.val64_fits x) (ey ▸ FP.Core.val64_fits y)
  have hv : FP.Core.val64 (FP.dadd x y) = FP.Core.round FP.Core.b64 (.fin sg n e) := by
    rw [show FP.dadd x y = FP.Core.dadd x y from rfl, FP.Core.val64_dadd, ex, ey, e1]
  rw [← ex, ← ey] at e3
  rw [← zV]
  exact own_round_exact hv e2 fV (e3.trans (h.trans zV.symm))
theorem own_sub_exact {x y : UInt64} (hx : Fin64 x) (hy : Fin64 y) (m : Int) (k : Nat) (hm : m.natAbs < 2 ^ 53) (hk : k ≤ 2045) (h : own_z x - own_z y = m * ((2 ^ k : Nat) : Int)) : own_z (FP.dsub x y) = m * ((2 ^ k : Nat) : Int) ∧ Fin64 (FP.dsub x y) := by
  obtain ⟨V, fV, zV⟩ := own_repI m k hm hk
  obtain ⟨s, c, q, ex⟩ := Fl.fin64_core.mp hx
  obtain ⟨t, d, r, ey⟩ := Fl.fin64_core.mp hy
  have fy : FP.Core.fits FP.Core.b64 (.fin (!t) d r) := FP.Core.negate_fits (d := .fin t d r) (ey ▸ FP.Core.val64_fits y)
  obtain ⟨sg, n, e, e1, e2, e3⟩ := FP.Core.sum_units (f := FP.Core.b64) (ex ▸ FP.Core.val64_fits x) fy
  have hv : FP.Core.val64 (FP.dsub x y) = FP.Core.round FP.Core.b64 (.fin sg n e) := by
    rw [show FP.dsub x y = FP.Core.dsub x y from rfl, FP.Core.val64_dsub, ex, ey, ← e1]; rfl
  have hn : FP.Core.zval FP.Core.b64 (.fin (!t) d r) = -own_z y := by
    show FP.Core.zval FP.Core.b64 (FP.Core.negate (.fin t d r)) = -FP.Core.zval FP.Core.b64 (FP.Core.val64 y)
    rw [FP.Core.zval_negate, ey]
  rw [← ex, hn] at e3
  rw [← zV]
  exact own_round_exact hv e2 fV (e3.trans (by rw [zV, ← h]; rfl))
theorem own_fin_of_z {x V : UInt64} (nx : NoNaN64 x) (fV : Fin64 V) (hz : own_z x = own_z V) : Fin64 x := by
  cases hx : FP.Core.val64 x with
  | nan => exact absurd hx (Fl.val64_no.mp nx)
  | fin s c q => exact Fl.fin64_core.mpr ⟨s, c, q, hx⟩
  | inf s =>
    exfalso
    have b := (Fl.fin64_core.mp fV).zval_lt
    have e1 : (own_z x).natAbs = FP.Core.b64.tails * 2 ^ (FP.Core.b64.exps - 2) := by rw [own_zn, hx]; rfl
    have e2 : (own_z V).natAbs = FP.Core.zmag FP.Core.b64 (FP.Core.val64 V) := own_zn V
    rw [hz, e2] at e1
    omega
theorem own_divI_exact {x y : UInt64} (hx : Fin64 x) (hy : Fin64 y) (hz : own_z y ≠ 0) (m : Int) (k : Nat) (hm : m.natAbs < 2 ^ 53) (hk : k ≤ 2045)
    (h : own_z x * (FP.Core.one64 : Int) = m * ((2 ^ k : Nat) : Int) * own_z y) : own_z (FP.ddiv x y) = m * ((2 ^ k : Nat) : Int) ∧ Fin64 (FP.ddiv x y) := by
  obtain ⟨V, fV, zV⟩ := own_repI m k hm hk
  have hq := own_quot hx hy hz
  have nn := own_div_nn hx hy hz
  have hb : 0 < (own_z y).natAbs := by omega
  have h3 : (own_z x).natAbs * FP.Core.one64 = (own_z V).natAbs * (own_z y).natAbs := by
    have := congrArg Int.natAbs h
    rw [Int.natAbs_mul, Int.natAbs_mul, ← zV] at this
    exact this
  have l1 := own_rr_le (s := FP.Core.sgn (FP.Core.val64 x) != FP.Core.sgn (FP.Core.val64 y)) (A := (own_z x).natAbs) (B := (own_z y).natAbs) (V := V) hb fV.noNaN (Nat.le_of_eq h3)
  have l2 := own_rr_ge (s := FP.Core.sgn (FP.Core.val64 x) != FP.Core.sgn (FP.Core.val64 y)) (A := (own_z x).natAbs) (B := (own_z y).natAbs) (V := V) hb (Nat.le_of_eq h3.symm)
  have hz' : own_z (FP.ddiv x y) = own_z V := by
    rw [own_z_signed hq, Nat.le_antisymm l1 l2]
    refine own_sgn_mul hb ?_
    have e1 : FP.Core.signed (FP.Core.sgn (FP.Core.val64 x)) (own_z x).natAbs = own_z x := by rw [own_zn]; rfl
    have e2 : FP.Core.signed (FP.Core.sgn (FP.Core.val64 y)) (own_z y).natAbs = own_z y := by rw [own_zn]; rfl
    rw [← h3, FP.Core.signed_mul, e1, e2, h, zV]
  exact ⟨hz'.trans zV, own_fin_of_z nn fV hz'⟩
/-! products, by the two values alone -/
theorem own_prod {x y : UInt64} (hx : Fin64 x) (hy : Fin64 y) :
    FP.Core.val64 (FP.dmul x y) = FP.Core.roundRatio FP.Core.b64 (FP.Core.sgn (FP.Core.val64 x) != FP.Core.sgn (FP.Core.val64 y)) ((own_z x).natAbs * (own_z y).natAbs) (FP.Core.one64 * FP.Core.one64) 0 := by
  obtain ⟨s, c, q, ex⟩ := Fl.fin64_core.mp hx
  obtain ⟨t, d, r, ey⟩ := Fl.fin64_core.mp hy
  have fx : FP.Core.fits FP.Core.b64 (.fin s c q) := ex ▸ FP.Core.val64_fits x
  have fy : FP.Core.fits FP.Core.b64 (.fin t d r) := ey ▸ FP.Core.val64_fits y
  have hq : 0 < FP.Core.one64 * FP.Core.one64 := Nat.mul_pos FP.Core.one64_pos FP.Core.one64_pos
  rw [own_zn, own_zn, show FP.dmul x y = FP.Core.dmul x y from rfl, FP.Core.val64_dmul, ex, ey]
  show FP.Core.roundRatio FP.Core.b64 (s != t) (c * d) 1 (q + r) = FP.Core.roundRatio FP.Core.b64 (s != t) (c * 2 ^ (q - FP.Core.b64.qmin).toNat * (d * 2 ^ (r - FP.Core.b64.qmin).toNat)) (FP.Core.one64 * FP.Core.one64) 0
  refine FP.Core.roundRatio_congr Nat.one_pos hq ?_
  have h1 := fx.2.1
  have h2 := fy.2.1
  have e1 : (-FP.Core.b64.qmin).toNat + (-FP.Core.b64.qmin).toNat + (q + r - 0).toNat = (q - FP.Core.b64.qmin).toNat + (r - FP.Core.b64.qmin).toNat + (0 - (q + r)).toNat := by
    have hm : FP.Core.b64.qmin = -1074 := by decide
    rw [hm] at h1 h2 ⊢; omega
  rw [← FP.Core.pow_qmin64, Nat.mul_one]
  calc c * d * (2 ^ (-FP.Core.b64.qmin).toNat * 2 ^ (-FP.Core.b64.qmin).toNat) * 2 ^ (q + r - 0).toNat
      = c * d * (2 ^ (-FP.Core.b64.qmin).toNat * 2 ^ (-FP.Core.b64.qmin).toNat * 2 ^ (q + r - 0).toNat) := by rw [Nat.mul_assoc]
    _ = c * d * (2 ^ (q - FP.Core.b64.qmin).toNat * 2 ^ (r - FP.Core.b64.qmin).toNat * 2 ^ (0 - (q + r)).toNat) := by rw [← Nat.pow_add, ← Nat.pow_add, e1, Nat.pow_add, Nat.pow_add]
    _ = c * 2 ^ (q - FP.Core.b64.qmin).toNat * (d * 2 ^ (r - FP.Core.b64.qmin).toNat) * 2 ^ (0 - (q + r)).toNat := by
        rw [← Nat.mul_assoc, ← Nat.mul_assoc, Nat.mul_assoc c d, Nat.mul_comm d, ← Nat.mul_assoc c, Nat.mul_assoc _ d]
theorem own_mul_nn {x y : UInt64} (hx : Fin64 x) (hy : Fin64 y) : NoNaN64 (FP.dmul x y) := own_noNaN_of (own_prod hx hy)
theorem own_sgnz (x : UInt64) : FP.Core.signed (FP.Core.sgn (FP.Core.val64 x)) (own_z x).natAbs = own_z x := by rw [own_zn]; rfl
theorem own_signed2 (s t : Bool) (a b : Nat) : FP.Core.signed (s != t) (a * b) = FP.Core.signed s a * FP.Core.signed t b := by
  cases s <;> cases t <;> simp [FP.Core.signed, Int.natCast_mul, Int.neg_mul, Int.mul_neg]
theorem own_q1 : 0 < FP.Core.one64 * FP.Core.one64 := Nat.mul_pos FP.Core.one64_pos FP.Core.one64_pos
theorem own_prod_le {x y V : UInt64} (hx : Fin64 x) (hy : Fin64 y) (hV : NoNaN64 V) (h : (own_z x).natAbs * (own_z y).natAbs ≤ (own_z V).natAbs * FP.Core.one64) : (own_z (FP.dmul x y)).natAbs ≤ (own_z V).natAbs := by
  rw [own_zn (FP.dmul x y), own_prod hx hy]
  refine own_rr_le own_q1 hV ?_
  rw [← Nat.mul_assoc]; exact Nat.mul_le_mul_right _ h
theorem own_prod_ge {x y V : UInt64} (hx : Fin64 x) (hy : Fin64 y) (h : (own_z V).natAbs * FP.Core.one64 ≤ (own_z x).natAbs * (own_z y).natAbs) : (own_z V).natAbs ≤ (own_z (FP.dmul x y)).natAbs := by
  rw [own_zn (FP.dmul x y), own_prod hx hy]
  refine own_rr_ge own_q1 ?_
  rw [← Nat.mul_assoc]; exact Nat.mul_le_mul_right _ h
theorem own_mul_exact {x y : UInt64} (hx : Fin64 x) (hy : Fin64 y) (m : Int) (k : Nat) (hm : m.natAbs < 2 ^ 53) (hk : k ≤ 2045)
    (h : own_z x * own_z y = m * ((2 ^ k : Nat) : Int) * (FP.Core.one64 : Int)) : own_z (FP.dmul x y) = m * ((2 ^ k : Nat) : Int) ∧ Fin64 (FP.dmul x y) := by
  obtain ⟨V, fV, zV⟩ := own_repI m k hm hk
  have h3 : (own_z x).natAbs * (own_z y).natAbs = (own_z V).natAbs * FP.Core.one64 := by
    have := congrArg Int.natAbs h
    rw [Int.natAbs_mul, Int.natAbs_mul, ← zV] at this
    exact this
  have l1 := own_prod_le hx hy fV.noNaN (Nat.le_of_eq h3)
  have l2 := own_prod_ge hx hy (Nat.le_of_eq h3.symm)
  have l3 := Nat.le_antisymm l1 l2
  have hz' : own_z (FP.dmul x y) = own_z V := by
    rw [own_z_signed (own_prod hx hy)]
    rw [own_zn, own_prod hx hy] at l3
    rw [l3]
    have e1 : FP.Core.signed (FP.Core.sgn (FP.Core.val64 x) != FP.Core.sgn (FP.Core.val64 y)) (own_z V).natAbs * (FP.Core.one64 : Int) = own_z V * (FP.Core.one64 : Int) := by
      rw [← FP.Core.signed_mul, ← h3, own_signed2, own_sgnz, own_sgnz, h, zV]
    have := own_one
    exact Int.eq_of_mul_eq_mul_right (by omega) e1
  exact ⟨hz'.trans zV, own_fin_of_z (own_mul_nn hx hy) fV hz'⟩
/-- a product of two above nought that isn't below a double above nought -/
theorem own_mul_pos {x y : UInt64} (hx : Fin64 x) (hy : Fin64 y) (h0 : 0 < own_z x) (h1 : 0 < own_z y) : 0 ≤ own_z (FP.dmul x y) := by
  have s1 : FP.Core.sgn (FP.Core.val64 x) = false := by
    cases hs : FP.Core.sgn (FP.Core.val64 x) with
    | false => rfl
    | true => exfalso; have := own_sgnz x; rw [hs] at this; simp only [FP.Core.signed, if_true] at this; omega
  have s2 : FP.Core.sgn (FP.Core.val64 y) = false := by
    cases hs : FP.Core.sgn (FP.Core.val64 y) with
    | false => rfl
    | true => exfalso; have := own_sgnz y; rw [hs] at this; simp only [FP.Core.signed, if_true] at this; omega
  rw [own_z_signed (own_prod hx hy), s1, s2]
  exact Int.natCast_nonneg _
/-! rounding, as a factor: own_Q n x y: x and y differ by at most n factors of (K + 1) / K, K = 2^52 - 1 -/
def own_Q (n x y : Nat) : Prop := x * 4503599627370495 ^ n ≤ y * 4503599627370496 ^ n ∧ y * 4503599627370495 ^ n ≤ x * 4503599627370496 ^ n
theorem own_Q.symm {n x y : Nat} (h : own_Q n x y) : own_Q n y x := ⟨h.2, h.1⟩
theorem own_Q.mul {m n x y u v : Nat} (h : own_Q m x y) (g : own_Q n u v) : own_Q (m + n) (x * u) (y * v) := by
  have aux : ∀ {x y u v : Nat}, x * 4503599627370495 ^ m ≤ y * 4503599627370496 ^ m → u * 4503599627370495 ^ n ≤ v * 4503599627370496 ^ n → x * u * 4503599627370495 ^ (m + n) ≤ y * v * 4503599627370496 ^ (m + n) := by
    intro x y u v h1 h2
    rw [Nat.pow_add, Nat.pow_add, Nat.mul_mul_mul_comm x u, Nat.mul_mul_mul_comm y v]
    exact Nat.mul_le_mul h1 h2
  exact ⟨aux h.1 g.1, aux h.2 g.2⟩
theorem own_Q.cancel {n x y z : Nat} (hz : 0 < z) (h : own_Q n (x * z) (y * z)) : own_Q n x y := by
  have aux : ∀ {x y : Nat}, x * z * 4503599627370495 ^ n ≤ y * z * 4503599627370496 ^ n → x * 4503599627370495 ^ n ≤ y * 4503599627370496 ^ n := by
    intro x y h1
    rw [Nat.mul_right_comm x, Nat.mul_right_comm y] at h1
    exact Nat.le_of_mul_le_mul_right h1 hz
  exact ⟨aux h.1, aux h.2⟩
theorem own_U : FP.Core.one64 = 2 ^ 1074 := by rw [FP.Core.one64]
theorem own_rr_err {s : Bool} {A B : Nat} (hB : 0 < B) (h1 : 2 ^ 52 * B ≤ A * FP.Core.one64) (h2 : A * FP.Core.one64 < 2 ^ 2097 * B) :
    own_Q 1 (FP.Core.zmag FP.Core.b64 (FP.Core.roundRatio FP.Core.b64 s A B 0) * B) (A * FP.Core.one64) := by
  generalize hX : A * FP.Core.one64 / B = X
  have x1 : 2 ^ 52 ≤ X := by rw [← hX]; exact (Nat.le_div_iff_mul_le hB).mpr h1
  have x2 : X < 2 ^ 2097 := by rw [← hX]; exact (Nat.div_lt_iff_lt_mul hB).mpr h2
  have hX0 : X ≠ 0 := by have := Nat.two_pow_pos 52; omega
  have l1 := Nat.log2_self_le hX0
  have l2 := @Nat.lt_log2_self X
  have k1 : 52 ≤ X.log2 := (Nat.le_log2 hX0).mpr x1
  have k2 : X.log2 < 2097 := (Nat.log2_lt hX0).mpr x2
  obtain ⟨k, hk⟩ : ∃ k, X.log2 = 52 + k := ⟨X.log2 - 52, by omega⟩
  rw [hk] at l1 l2
  have hp : 0 < 2 ^ k := Nat.two_pow_pos k
  generalize hm : X / 2 ^ k = m
  have m1 : 2 ^ 52 ≤ m := by rw [← hm]; exact (Nat.le_div_iff_mul_le hp).mpr (by rw [← Nat.pow_add]; exact l1)
  have m2 : m < 2 ^ 53 := by rw [← hm]; exact (Nat.div_lt_iff_lt_mul hp).mpr (by rw [← Nat.pow_add, show 53 + k = 52 + k + 1 by omega]; exact l2)
  have b1 : m * 2 ^ k * B ≤ A * FP.Core.one64 := by
    have : m * 2 ^ k ≤ X := by rw [← hm]; exact Nat.div_mul_le_self X (2 ^ k)
    refine Nat.le_trans (Nat.mul_le_mul_right B this) ?_
    rw [← hX]; exact Nat.div_mul_le_self _ _
  have b2 : A * FP.Core.one64 ≤ (m + 1) * 2 ^ k * B := by
    have q1 : X < (m + 1) * 2 ^ k := by rw [← hm]; exact Nat.lt_mul_of_div_lt (Nat.lt_succ_self _) hp
    have q2 : A * FP.Core.one64 < (X + 1) * B := by rw [← hX]; exact Nat.lt_mul_of_div_lt (Nat.lt_succ_self _) hB
    exact Nat.le_of_lt (Nat.lt_of_lt_of_le q2 (Nat.mul_le_mul_right B q1))
  obtain ⟨V1, f1, z1⟩ := own_rep m k m2 (by omega)
  have z1' : (own_z V1).natAbs = m * 2 ^ k := by rw [z1]; rfl
  have c1 := own_rr_ge (s := s) (A := A) (B := B) (V := V1) hB (by rw [z1']; exact b1)
  rw [z1'] at c1
  have hV2 : ∃ V : UInt64, Fin64 V ∧ (own_z V).natAbs = (m + 1) * 2 ^ k := by
    by_cases q : m + 1 < 2 ^ 53
    · obtain ⟨V, f, z⟩ := own_rep (m + 1) k q (by omega)
      exact ⟨V, f, by rw [z]; rfl⟩
    · obtain ⟨V, f, z⟩ := own_rep (2 ^ 52) (k + 1) (by decide) (by omega)
      refine ⟨V, f, ?_⟩
      have q2 : m + 1 = 2 ^ 53 := by omega
      rw [z, q2, Int.natAbs_natCast, ← Nat.pow_add, ← Nat.pow_add]; congr 1; omega
  obtain ⟨V2, f2, z2⟩ := hV2
  have c2 := own_rr_le (s := s) (A := A) (B := B) (V := V2) hB f2.noNaN (by rw [z2]; exact b2)
  rw [z2] at c2
  generalize FP.Core.zmag FP.Core.b64 (FP.Core.roundRatio FP.Core.b64 s A B 0) = c at c1 c2 ⊢
  generalize A * FP.Core.one64 = Y at *
  have e52 : (2 : Nat) ^ 52 = 4503599627370496 := by decide
  rw [e52] at m1
  have key : (m + 1) * 2 ^ k * B * 4503599627370495 ≤ m * 2 ^ k * B * 4503599627370496 := by
    have : (m + 1) * 4503599627370495 ≤ m * 4503599627370496 := by omega
    have := Nat.mul_le_mul_right (2 ^ k * B) this
    calc (m + 1) * 2 ^ k * B * 4503599627370495 = (m + 1) * 4503599627370495 * (2 ^ k * B) := by ac_rfl
      _ ≤ m * 4503599627370496 * (2 ^ k * B) := this
      _ = m * 2 ^ k * B * 4503599627370496 := by ac_rfl
  unfold own_Q
  rw [Nat.pow_one, Nat.pow_one]
  constructor
  · exact Nat.le_trans (Nat.mul_le_mul_right _ (Nat.mul_le_mul_right B c2)) (Nat.le_trans key (Nat.mul_le_mul_right _ b1))
  · exact Nat.le_trans (Nat.mul_le_mul_right _ b2) (Nat.le_trans key (Nat.mul_le_mul_right _ (Nat.mul_le_mul_right B c1)))
/-- size, without the sign -/
def own_P (lo hi : Nat) (x : UInt64) : Prop := Fin64 x ∧ 2 ^ lo ≤ (own_z x).natAbs ∧ (own_z x).natAbs ≤ 2 ^ hi
def own_Pp (lo hi : Nat) (x : UInt64) : Prop := own_P lo hi x ∧ 0 < own_z x
theorem own_P.pos {lo hi : Nat} {x : UInt64} (h : own_P lo hi x) : 0 < (own_z x).natAbs := Nat.lt_of_lt_of_le (Nat.two_pow_pos lo) h.2.1
theorem own_fin_le {x V : UInt64} (nx : NoNaN64 x) (fV : Fin64 V) (hz : (own_z x).natAbs ≤ (own_z V).natAbs) : Fin64 x := by
  cases hx : FP.Core.val64 x with
  | nan => exact absurd hx (Fl.val64_no.mp nx)
  | fin s c q => exact Fl.fin64_core.mpr ⟨s, c, q, hx⟩
  | inf s =>
    exfalso
    have b := (Fl.fin64_core.mp fV).zval_lt
    have e1 : (own_z x).natAbs = FP.Core.b64.tails * 2 ^ (FP.Core.b64.exps - 2) := by rw [own_zn, hx]; rfl
    have e2 : (own_z V).natAbs = FP.Core.zmag FP.Core.b64 (FP.Core.val64 V) := own_zn V
    rw [e1, e2] at hz
    omega
theorem own_two (k : Nat) (hk : k ≤ 2045) : ∃ V : UInt64, Fin64 V ∧ (own_z V).natAbs = 2 ^ k := by
  obtain ⟨V, f, z⟩ := own_rep 1 k (by decide) hk
  exact ⟨V, f, by rw [z, Nat.one_mul]; rfl⟩
theorem own_P.mul {a b c d lo hi : Nat} {x y : UInt64} (hx : own_P a b x) (hy : own_P c d y) (h1 : a + c = lo + 1074) (h2 : b + d = hi + 1074) (h3 : lo ≤ 2045) (h4 : hi ≤ 2045) : own_P lo hi (FP.dmul x y) := by
  obtain ⟨V1, f1, z1⟩ := own_two lo h3
  obtain ⟨V2, f2, z2⟩ := own_two hi h4
  have g1 := own_prod_ge (V := V1) hx.1 hy.1 (by rw [z1, own_U, ← Nat.pow_add, ← h1, Nat.pow_add]; exact Nat.mul_le_mul hx.2.1 hy.2.1)
  have g2 := own_prod_le (V := V2) hx.1 hy.1 f2.noNaN (by rw [z2, own_U, ← Nat.pow_add, ← h2, Nat.pow_add]; exact Nat.mul_le_mul hx.2.2 hy.2.2)
  exact ⟨own_fin_le (own_mul_nn hx.1 hy.1) f2 g2, z1 ▸ g1, z2 ▸ g2⟩
theorem own_P.mulE {a b c d : Nat} {x y : UInt64} (hx : own_P a b x) (hy : own_P c d y) (h1 : 1126 ≤ a + c) (h2 : b + d ≤ 3119) : own_Q 1 ((own_z (FP.dmul x y)).natAbs * FP.Core.one64) ((own_z x).natAbs * (own_z y).natAbs) := by
  have hU := FP.Core.one64_pos
  have h := own_rr_err (s := FP.Core.sgn (FP.Core.val64 x) != FP.Core.sgn (FP.Core.val64 y)) (A := (own_z x).natAbs * (own_z y).natAbs) (B := FP.Core.one64 * FP.Core.one64) own_q1 (by
    rw [← Nat.mul_assoc]
    refine Nat.mul_le_mul_right _ ?_
    rw [own_U, ← Nat.pow_add]
    exact Nat.le_trans (Nat.le_trans (Nat.pow_le_pow_right (by decide) (by omega)) (Nat.le_of_eq (Nat.pow_add 2 a c))) (Nat.mul_le_mul hx.2.1 hy.2.1)) (by
    rw [← Nat.mul_assoc]
    refine Nat.mul_lt_mul_of_pos_right ?_ hU
    rw [own_U, ← Nat.pow_add]
    exact Nat.lt_of_le_of_lt (Nat.le_trans (Nat.mul_le_mul hx.2.2 hy.2.2) (Nat.le_of_eq (Nat.pow_add 2 b d).symm)) (Nat.pow_lt_pow_right (by decide) (by omega)))
  rw [← own_prod hx.1 hy.1, ← own_zn, ← Nat.mul_assoc] at h
  exact h.cancel hU
theorem own_P.div {a b c d lo hi : Nat} {x y : UInt64} (hx : own_P a b x) (hy : own_P c d y) (h1 : lo + d = a + 1074) (h2 : b + 1074 = hi + c) (h3 : lo ≤ 2045) (h4 : hi ≤ 2045) : own_P lo hi (FP.ddiv x y) := by
  have hz : own_z y ≠ 0 := by have := hy.pos; omega
  obtain ⟨V1, f1, z1⟩ := own_two lo h3
  obtain ⟨V2, f2, z2⟩ := own_two hi h4
  have g1 := own_rr_ge (s := false) (A := (own_z x).natAbs) (B := (own_z y).natAbs) (V := V1) hy.pos (by
    rw [z1, own_U]
    refine Nat.le_trans (Nat.mul_le_mul_left _ hy.2.2) (Nat.le_trans ?_ (Nat.mul_le_mul_right _ hx.2.1))
    rw [← Nat.pow_add, ← Nat.pow_add]; exact Nat.pow_le_pow_right (by decide) (by omega))
  have g2 := own_rr_le (s := false) (A := (own_z x).natAbs) (B := (own_z y).natAbs) (V := V2) hy.pos f2.noNaN (by
    rw [z2, own_U]
    refine Nat.le_trans (Nat.mul_le_mul_right _ hx.2.2) (Nat.le_trans ?_ (Nat.mul_le_mul_left _ hy.2.1))
    rw [← Nat.pow_add, ← Nat.pow_add]; exact Nat.pow_le_pow_right (by decide) (by omega))
  rw [← own_div_n hx.1 hy.1 hz] at g1 g2
  exact ⟨own_fin_le (own_div_nn hx.1 hy.1 hz) f2 g2, z1 ▸ g1, z2 ▸ g2⟩
theorem own_P.divE {a b c d : Nat} {x y : UInt64} (hx : own_P a b x) (hy : own_P c d y) (h1 : d + 52 ≤ a + 1074) (h2 : b ≤ c + 1022) : own_Q 1 ((own_z (FP.ddiv x y)).natAbs * (own_z y).natAbs) ((own_z x).natAbs * FP.Core.one64) := by
  have hz : own_z y ≠ 0 := by have := hy.pos; omega
  have h := own_rr_err (s := false) (A := (own_z x).natAbs) (B := (own_z y).natAbs) hy.pos (by
    rw [own_U]
    refine Nat.le_trans (Nat.mul_le_mul_left _ hy.2.2) (Nat.le_trans ?_ (Nat.mul_le_mul_right _ hx.2.1))
    rw [← Nat.pow_add, ← Nat.pow_add]; exact Nat.pow_le_pow_right (by decide) (by omega)) (by
    rw [own_U]
    refine Nat.lt_of_le_of_lt (Nat.mul_le_mul_right _ hx.2.2) (Nat.lt_of_lt_of_le ?_ (Nat.mul_le_mul_left _ hy.2.1))
    rw [← Nat.pow_add, ← Nat.pow_add]; exact Nat.pow_lt_pow_right (by decide) (by omega))
  rw [← own_div_n hx.1 hy.1 hz] at h
  exact h
/-! signs -/
theorem own_sgn_pos {x : UInt64} (h : 0 < own_z x) : FP.Core.sgn (FP.Core.val64 x) = false := by
  cases hs : FP.Core.sgn (FP.Core.val64 x) with
  | false => rfl
  | true => exfalso; have := own_sgnz x; rw [hs] at this; simp only [FP.Core.signed, if_true] at this; omega
theorem own_sgn_neg {x : UInt64} (h : own_z x < 0) : FP.Core.sgn (FP.Core.val64 x) = true := by
  cases hs : FP.Core.sgn (FP.Core.val64 x) with
  | true => rfl
  | false => exfalso; have := own_sgnz x; rw [hs] at this; simp [FP.Core.signed] at this; omega
theorem own_mulsgn {x y : UInt64} (hx : Fin64 x) (hy : Fin64 y) : own_z (FP.dmul x y) = FP.Core.signed (FP.Core.sgn (FP.Core.val64 x) != FP.Core.sgn (FP.Core.val64 y)) (own_z (FP.dmul x y)).natAbs := by
  have h := own_z_signed (own_prod hx hy)
  rw [← own_prod hx hy, ← own_zn] at h; exact h
theorem own_Pp.mul {a b c d lo hi : Nat} {x y : UInt64} (hx : own_Pp a b x) (hy : own_Pp c d y) (h1 : a + c = lo + 1074) (h2 : b + d = hi + 1074) (h3 : lo ≤ 2045) (h4 : hi ≤ 2045) : own_Pp lo hi (FP.dmul x y) := by
  have h := hx.1.mul hy.1 h1 h2 h3 h4
  refine ⟨h, ?_⟩
  have g := own_mul_pos hx.1.1 hy.1.1 hx.2 hy.2
  have := h.pos; omega
theorem own_Pp.div {a b c d lo hi : Nat} {x y : UInt64} (hx : own_Pp a b x) (hy : own_Pp c d y) (h1 : lo + d = a + 1074) (h2 : b + 1074 = hi + c) (h3 : lo ≤ 2045) (h4 : hi ≤ 2045) : own_Pp lo hi (FP.ddiv x y) := by
  have h := hx.1.div hy.1 h1 h2 h3 h4
  have hz : own_z y ≠ 0 := by have := hy.2; omega
  refine ⟨h, ?_⟩
  have g := own_div_ge0 hx.1.1 hy.1.1 hz (Int.le_of_lt hx.2) (Int.le_of_lt hy.2)
  have := h.pos; omega
/-- a product of one above and one below nought; of two below -/
theorem own_mul_pn {x y : UInt64} (hx : Fin64 x) (hy : Fin64 y) (h0 : 0 < own_z x) (h1 : own_z y < 0) : own_z (FP.dmul x y) ≤ 0 := by
  rw [own_mulsgn hx hy, own_sgn_pos h0, own_sgn_neg h1]
  show -((own_z (FP.dmul x y)).natAbs : Int) ≤ 0; omega
theorem own_mul_nneg {x y : UInt64} (hx : Fin64 x) (hy : Fin64 y) (h0 : own_z x < 0) (h1 : own_z y < 0) : 0 ≤ own_z (FP.dmul x y) := by
  rw [own_mulsgn hx hy, own_sgn_neg h0, own_sgn_neg h1]
  exact Int.natCast_nonneg _
/-! sums and differences: monotony -/
theorem own_sub_units {x y : UInt64} (hx : Fin64 x) (hy : Fin64 y) : ∃ sg n e, FP.Core.val64 (FP.dsub x y) = FP.Core.round FP.Core.b64 (.fin sg n e) ∧ FP.Core.b64.qmin ≤ e ∧ FP.Core.signed sg (FP.Core.inUnits n e FP.Core.b64.qmin) = own_z x - own_z y := by
  obtain ⟨s, c, q, ex⟩ := Fl.fin64_core.mp hx
  obtain ⟨t, d, r, ey⟩ := Fl.fin64_core.mp hy
  have fy : FP.Core.fits FP.Core.b64 (.fin (!t) d r) := FP.Core.negate_fits (d := .fin t d r) (ey ▸ FP.Core.val64_fits y)
  obtain ⟨sg, n, e, e1, e2, e3⟩ := FP.Core.sum_units (f := FP.Core.b64) (ex ▸ FP.Core.val64_fits x) fy
  have hv : FP.Core.val64 (FP.dsub x y) = FP.Core.round FP.Core.b64 (.fin sg n e) := by
    rw [show FP.dsub x y = FP.Core.dsub x y from rfl, FP.Core.val64_dsub, ex, ey, ← e1]; rfl
  have hn : FP.Core.zval FP.Core.b64 (.fin (!t) d r) = -own_z y := by
    show FP.Core.zval FP.Core.b64 (FP.Core.negate (.fin t d r)) = -FP.Core.zval FP.Core.b64 (FP.Core.val64 y)
    rw [FP.Core.zval_negate, ey]
  rw [← ex, hn] at e3
  exact ⟨sg, n, e, hv, e2, e3⟩
theorem own_add_units {x y : UInt64} (hx : Fin64 x) (hy : Fin64 y) : ∃ sg n e, FP.Core.val64 (FP.dadd x y) = FP.Core.round FP.Core.b64 (.fin sg n e) ∧ FP.Core.b64.qmin ≤ e ∧ FP.Core.signed sg (FP.Core.inUnits n e FP.Core.b64.qmin) = own_z x + own_z y := by
  obtain ⟨s, c, q, ex⟩ := Fl.fin64_core.mp hx
  obtain ⟨t, d, r, ey⟩ := Fl.fin64_core.mp hy
  obtain ⟨sg, n, e, e1, e2, e3⟩ := FP.Core.sum_units (f := FP.Core.b64) (ex ▸ FP.Core.val64_fits x) (ey ▸ FP.Core.val64_fits y)
  have hv : FP.Core.val64 (FP.dadd x y) = FP.Core.round FP.Core.b64 (.fin sg n e) := by
    rw [show FP.dadd x y = FP.Core.dadd x y from rfl, FP.Core.val64_dadd, ex, ey, e1]
  rw [← ex, ← ey] at e3
  exact ⟨sg, n, e, hv, e2, e3⟩
theorem own_round_le {x V : UInt64} {sg : Bool} {n : Nat} {e : Int} (hv : FP.Core.val64 x = FP.Core.round FP.Core.b64 (.fin sg n e)) (he : FP.Core.b64.qmin ≤ e) (nV : NoNaN64 V) (h : FP.Core.signed sg (FP.Core.inUnits n e FP.Core.b64.qmin) ≤ own_z V) : own_z x ≤ own_z V := by
  have h1 := FP.Core.zval_round_le FP.Core.good_b64 (s := sg) (c := n) (q := e) (V := FP.Core.val64 V) (FP.Core.val64_fits V) (Fl.val64_no.mp nV) (e0 := FP.Core.b64.qmin) (Int.le_refl _) he (by
    rw [Int.sub_self]; show _ ≤ _ * ((1 : Nat) : Int); rw [show ((1 : Nat) : Int) = 1 from rfl, Int.mul_one]; exact h)
  show FP.Core.zval _ (FP.Core.val64 x) ≤ FP.Core.zval _ (FP.Core.val64 V)
  rw [hv]; exact h1
theorem own_round_ge {x V : UInt64} {sg : Bool} {n : Nat} {e : Int} (hv : FP.Core.val64 x = FP.Core.round FP.Core.b64 (.fin sg n e)) (he : FP.Core.b64.qmin ≤ e) (nV : NoNaN64 V) (h : own_z V ≤ FP.Core.signed sg (FP.Core.inUnits n e FP.Core.b64.qmin)) : own_z V ≤ own_z x := by
  have h1 := FP.Core.zval_round_ge FP.Core.good_b64 (s := sg) (c := n) (q := e) (V := FP.Core.val64 V) (FP.Core.val64_fits V) (Fl.val64_no.mp nV) (e0 := FP.Core.b64.qmin) (Int.le_refl _) he (by
    rw [Int.sub_self]; show _ * ((1 : Nat) : Int) ≤ _; rw [show ((1 : Nat) : Int) = 1 from rfl, Int.mul_one]; exact h)
  show FP.Core.zval _ (FP.Core.val64 V) ≤ FP.Core.zval _ (FP.Core.val64 x)
  rw [hv]; exact h1
theorem own_sub_nn {x y : UInt64} (hx : Fin64 x) (hy : Fin64 y) : NoNaN64 (FP.dsub x y) := by
  obtain ⟨sg, n, e, hv, -, -⟩ := own_sub_units hx hy
  exact Fl.val64_no.mpr (by rw [hv]; exact fun z => FP.Core.roundRatio_ne_nan _ _ _ _ _ z)
theorem own_add_nn {x y : UInt64} (hx : Fin64 x) (hy : Fin64 y) : NoNaN64 (FP.dadd x y) := by
  obtain ⟨sg, n, e, hv, -, -⟩ := own_add_units hx hy
  exact Fl.val64_no.mpr (by rw [hv]; exact fun z => FP.Core.roundRatio_ne_nan _ _ _ _ _ z)
theorem own_sub_le {x y V : UInt64} (hx : Fin64 x) (hy : Fin64 y) (nV : NoNaN64 V) (h : own_z x - own_z y ≤ own_z V) : own_z (FP.dsub x y) ≤ own_z V := by
  obtain ⟨sg, n, e, hv, he, h3⟩ := own_sub_units hx hy
  exact own_round_le hv he nV (h3 ▸ h)
theorem own_sub_ge {x y V : UInt64} (hx : Fin64 x) (hy : Fin64 y) (nV : NoNaN64 V) (h : own_z V ≤ own_z x - own_z y) : own_z V ≤ own_z (FP.dsub x y) := by
  obtain ⟨sg, n, e, hv, he, h3⟩ := own_sub_units hx hy
  exact own_round_ge hv he nV (h3 ▸ h)
theorem own_add_le {x y V : UInt64} (hx : Fin64 x) (hy : Fin64 y) (nV : NoNaN64 V) (h : own_z x + own_z y ≤ own_z V) : own_z (FP.dadd x y) ≤ own_z V := by
  obtain ⟨sg, n, e, hv, he, h3⟩ := own_add_units hx hy
  exact own_round_le hv he nV (h3 ▸ h)
theorem own_add_ge {x y V : UInt64} (hx : Fin64 x) (hy : Fin64 y) (nV : NoNaN64 V) (h : own_z V ≤ own_z x + own_z y) : own_z V ≤ own_z (FP.dadd x y) := by
  obtain ⟨sg, n, e, hv, he, h3⟩ := own_add_units hx hy
  exact own_round_ge hv he nV (h3 ▸ h)
theorem own_subV {x y V : UInt64} (hx : Fin64 x) (hy : Fin64 y) (fV : Fin64 V) (h : own_z x - own_z y = own_z V) : own_z (FP.dsub x y) = own_z V :=
  Int.le_antisymm (own_sub_le hx hy fV.noNaN (Int.le_of_eq h)) (own_sub_ge hx hy fV.noNaN (Int.le_of_eq h.symm))
/-! the grid of 2^-51 -/
def own_S (n : Nat) (x : UInt64) : Prop := Fin64 x ∧ ((2 ^ 1023 : Nat) : Int) ∣ own_z x ∧ (own_z x).natAbs ≤ n * FP.Core.one64
theorem own_S.mono {n m : Nat} {x : UInt64} (h : own_S n x) (q : n ≤ m) : own_S m x := ⟨h.1, h.2.1, Nat.le_trans h.2.2 (Nat.mul_le_mul_right _ q)⟩
theorem own_S.neg {n : Nat} {x : UInt64} (h : own_S n x) : own_S n (FP.dneg x) := by
  have g := own_z_neg h.1
  exact ⟨g.2, by rw [g.1]; exact Int.dvd_neg.mpr h.2.1, by rw [g.1, Int.natAbs_neg]; exact h.2.2⟩
theorem own_big {x : UInt64} (fx : Fin64 x) (h : 2 ^ 1076 ≤ (own_z x).natAbs) : ((2 ^ 1023 : Nat) : Int) ∣ own_z x := by
  obtain ⟨s, c, q, ex⟩ := Fl.fin64_core.mp fx
  have f := FP.Core.val64_fits x
  rw [ex] at f
  have hc : c < 2 ^ 53 := f.1
  have e1 : (own_z x).natAbs = c * 2 ^ (q - FP.Core.b64.qmin).toNat := by rw [own_zn, ex]; rfl
  refine Int.dvd_natAbs.mp (Int.natCast_dvd_natCast.mpr ?_)
  rw [e1] at h ⊢
  have hk : 1023 ≤ (q - FP.Core.b64.qmin).toNat := by
    refine Nat.le_of_not_lt fun hlt => ?_
    have h1 : c * 2 ^ (q - FP.Core.b64.qmin).toNat < 2 ^ 53 * 2 ^ 1023 := Nat.lt_of_lt_of_le (Nat.mul_lt_mul_of_pos_right hc (Nat.two_pow_pos _)) (Nat.mul_le_mul_left _ (Nat.pow_le_pow_right (by decide) (Nat.le_of_lt hlt)))
    rw [← Nat.pow_add] at h1
    exact absurd (Nat.lt_of_le_of_lt h h1) (Nat.lt_irrefl _)
  exact Nat.dvd_mul_left_of_dvd (Nat.pow_dvd_pow 2 hk) c
theorem own_S.sub {n m : Nat} {x y : UInt64} (hx : own_S n x) (hy : own_S m y) (hnm : n + m ≤ 1000) : own_S (n + m) (FP.dsub x y) := by
  obtain ⟨w1, h1⟩ := hx.2.1
  obtain ⟨w2, h2⟩ := hy.2.1
  have hD : own_z x - own_z y = (w1 - w2) * ((2 ^ 1023 : Nat) : Int) := by rw [h1, h2, Int.sub_mul, Int.mul_comm w1, Int.mul_comm w2]
  obtain ⟨V, fV, zV⟩ := own_rep (n + m) 1074 (by have : (2 : Nat) ^ 53 = 9007199254740992 := by decide
                                                 omega) (by decide)
  have zV' : own_z V = (((n + m) * FP.Core.one64 : Nat) : Int) := by rw [zV, own_U]
  have a1 := hx.2.2; have a2 := hy.2.2
  have bnd : (own_z x - own_z y).natAbs ≤ (n + m) * FP.Core.one64 := by rw [Nat.add_mul]; omega
  have u1 := own_sub_le hx.1 hy.1 fV.noNaN (by rw [zV']; omega)
  have nV := own_z_neg fV
  have u2 := own_sub_ge hx.1 hy.1 nV.2.noNaN (by rw [nV.1, zV']; omega)
  rw [nV.1] at u2
  rw [zV'] at u1 u2
  have u3 : (own_z (FP.dsub x y)).natAbs ≤ (n + m) * FP.Core.one64 := by omega
  have fin : Fin64 (FP.dsub x y) := own_fin_le (own_sub_nn hx.1 hy.1) fV (by rw [zV', Int.natAbs_natCast]; exact u3)
  refine ⟨fin, ?_, u3⟩
  by_cases q : (w1 - w2).natAbs < 2 ^ 53
  · have e := (own_sub_exact hx.1 hy.1 (w1 - w2) 1023 q (by decide) hD).1
    exact ⟨w1 - w2, by rw [e, Int.mul_comm]⟩
  · refine own_big fin ?_
    obtain ⟨W, fW, zW⟩ := own_rep (2 ^ 52) 1024 (by decide) (by decide)
    have zW' : own_z W = ((2 ^ 1076 : Nat) : Int) := by rw [zW, ← Nat.pow_add]
    have nW := own_z_neg fW
    have hb : 2 ^ 1076 ≤ ((w1 - w2) * ((2 ^ 1023 : Nat) : Int)).natAbs := by
      rw [Int.natAbs_mul, Int.natAbs_natCast, show (1076 : Nat) = 53 + 1023 from rfl, Nat.pow_add]
      exact Nat.mul_le_mul_right _ (Nat.le_of_not_lt q)
    rw [← hD] at hb
    rcases Int.le_total 0 (own_z x - own_z y) with g | g
    · have := own_sub_ge hx.1 hy.1 fW.noNaN (by rw [zW']; omega)
      rw [zW'] at this; omega
    · have := own_sub_le hx.1 hy.1 nW.2.noNaN (by rw [nW.1, zW']; omega)
      rw [nW.1, zW'] at this; omega
theorem own_S.low {n : Nat} {x : UInt64} (h : own_S n x) (h0 : 0 < own_z x) : ((2 ^ 1023 : Nat) : Int) ≤ own_z x := Int.le_of_dvd h0 h.2.1
theorem own_n0 : NoNaN64 FP.dconst0 := own_nn own_d0
theorem own_f1 : Fin64 FP.dconst1 := own_fini own_d1
theorem own_z0 : own_z FP.dconst0 = 0 := by rw [own_zi own_d0, Int.zero_mul]
theorem own_z1 : own_z FP.dconst1 = (FP.Core.one64 : Int) := by rw [own_zi own_d1, Int.one_mul]
theorem own_finc {x : UInt64} (h : x.toNat % 9223372036854775808 < 9218868437227405312) : Fin64 x := (Fl.fin64_iff x).mpr h
/-! the constants -/
theorem own_kP : own_P 1075 1076 (13835105343078251102 : UInt64) := ⟨own_finc (by decide +kernel), by unfold own_z; decide +kernel, by unfold own_z; decide +kernel⟩
theorem own_kPn : own_z (13835105343078251102 : UInt64) < 0 := by unfold own_z; decide +kernel
theorem own_kIS : own_Pp 1066 1067 (4572837751868907892 : UInt64) := ⟨⟨own_finc (by decide +kernel), by unfold own_z; decide +kernel, by unfold own_z; decide +kernel⟩, by unfold own_z; decide +kernel⟩
theorem own_kL : own_Pp 1066 1067 (4571261708172110332 : UInt64) := ⟨⟨own_finc (by decide +kernel), by unfold own_z; decide +kernel, by unfold own_z; decide +kernel⟩, by unfold own_z; decide +kernel⟩
theorem own_kA : own_Pp 1076 1077 (4616284690168792098 : UInt64) := ⟨⟨own_finc (by decide +kernel), by unfold own_z; decide +kernel, by unfold own_z; decide +kernel⟩, by unfold own_z; decide +kernel⟩
theorem own_kB : own_Pp 1067 1068 (4577341351496278388 : UInt64) := ⟨⟨own_finc (by decide +kernel), by unfold own_z; decide +kernel, by unfold own_z; decide +kernel⟩, by unfold own_z; decide +kernel⟩
theorem own_k2 : own_Pp 1075 1075 (4611686018427387904 : UInt64) := ⟨⟨own_finc (by decide +kernel), by unfold own_z; decide +kernel, by unfold own_z; decide +kernel⟩, by unfold own_z; decide +kernel⟩
theorem own_z2 : (own_z (4611686018427387904 : UInt64)).natAbs = 2 * FP.Core.one64 := by unfold own_z; rw [own_U]; decide +kernel
theorem own_kE : own_Pp 1034 1035 (4427486594234968593 : UInt64) := ⟨⟨own_finc (by decide +kernel), by unfold own_z; decide +kernel, by unfold own_z; decide +kernel⟩, by unfold own_z; decide +kernel⟩
theorem own_nE : NoNaN64 (4427486594234968593 : UInt64) := own_kE.1.1.noNaN
theorem own_eEM : (13650858631089744401 : UInt64) = FP.dneg (4427486594234968593 : UInt64) := by decide +kernel
theorem own_nEM : NoNaN64 (13650858631089744401 : UInt64) := by rw [own_eEM]; exact (own_z_neg own_kE.1.1).2.noNaN
theorem own_nI : NoNaN64 (9218868437227405312 : UInt64) := by unfold NoNaN64; decide
theorem own_eB : FP.dmul (4611686018427387904 : UInt64) (4572837751868907892 : UInt64) = (4577341351496278388 : UInt64) := by decide +kernel
theorem own_eA : FP.dmul (13835105343078251102 : UInt64) (13835105343078251102 : UInt64) = (4616284690168792098 : UInt64) := by decide +kernel
theorem own_nB : NoNaN64 (FP.dmul (4611686018427387904 : UInt64) (4572837751868907892 : UInt64)) := by rw [own_eB]; exact own_kB.1.1.noNaN
theorem own_nA : NoNaN64 (FP.dmul (13835105343078251102 : UInt64) (13835105343078251102 : UInt64)) := by rw [own_eA]; exact own_kA.1.1.noNaN
theorem own_kC : own_Pp 1064 1066 (FP.ddiv (4577341351496278388 : UInt64) (4616284690168792098 : UInt64)) := own_kB.div own_kA (by decide) (by decide) (by decide) (by decide)
/-! the grid -/
theorem own_Ssub {n m k : Nat} {x y : UInt64} (hx : own_S n x) (hy : own_S m y) (hk : n + m = k) (h : k ≤ 1000) : own_S k (FP.dsub x y) := by subst hk; exact own_S.sub hx hy h
theorem own_Sp : own_S 3 (13835105343078251102 : UInt64) := ⟨own_kP.1, by unfold own_z; decide +kernel, by unfold own_z; rw [own_U]; decide +kernel⟩
theorem own_Sp20 : own_S 20 (13835105343078251102 : UInt64) := own_Sp.mono (by decide)
theorem own_Sz : own_S 40 (9223372036854775808 : UInt64) := ⟨own_finc (by decide +kernel), by unfold own_z; decide +kernel, by unfold own_z; rw [own_U]; decide +kernel⟩
theorem own_k256 : FP.Core.DInt 256 (4643211215818981376 : UInt64) := by
  have h := FP.Core.i2d_int 256
  rw [show FP.Core.i2d 256 = (4643211215818981376 : UInt64) by decide +kernel] at h; exact h
theorem own_z256 : own_z (4643211215818981376 : UInt64) ≠ 0 := by rw [own_zi own_k256]; have := own_one; omega
theorem own_gn (i : Int32) : NoNaN64 (FP.ddiv (FP.i2d i) (4643211215818981376 : UInt64)) := own_div_nn (Fl.i2d_fin i) (own_fini own_k256) own_z256
theorem own_o256 : (FP.Core.one64 : Int) = 256 * ((2 ^ 1066 : Nat) : Int) := by rw [own_U]; decide +kernel
theorem own_Sg {p : Int32} {x : UInt64} (h : FP.ddiv (FP.i2d (p % (4096 : Int32))) (4643211215818981376 : UInt64) = x) : own_S 20 x := by
  have r := Jvm.Kit.i32_rem p 4096
  have e : (4096 : Int32).toInt = 4096 := by decide
  rw [e] at r
  have b := tmod_bounds (a := p.toInt) (M := 4096) (by decide)
  rw [← r] at b
  generalize hk : (p % (4096 : Int32)).toInt = k at b
  have e53 : (2 : Nat) ^ 53 = 9007199254740992 := by decide
  have hd := own_divI_exact (Fl.i2d_fin (p % (4096 : Int32))) (own_fini own_k256) own_z256 k 1066 (by omega) (by decide) (by
    rw [show own_z (FP.i2d (p % (4096 : Int32))) = (p % (4096 : Int32)).toInt * (FP.Core.one64 : Int) from own_zi (FP.Core.i2d_int _), hk, own_zi own_k256, own_o256]
    generalize ((2 ^ 1066 : Nat) : Int) = W
    simp only [Int.mul_assoc, Int.mul_comm, Int.mul_left_comm])
  rw [h] at hd
  refine ⟨hd.2, ?_, ?_⟩
  · rw [hd.1, show (1066 : Nat) = 1023 + 43 from rfl, Nat.pow_add, Int.natCast_mul, ← Int.mul_assoc, Int.mul_right_comm]
    exact Int.dvd_mul_left _ _
  · rw [hd.1, Int.natAbs_mul, Int.natAbs_natCast]
    have : FP.Core.one64 = 256 * 2 ^ 1066 := by rw [own_U, show (1074 : Nat) = 8 + 1066 from rfl, Nat.pow_add]
    rw [this, ← Nat.mul_assoc]
    exact Nat.mul_le_mul_right _ (by omega)
theorem own_sov {g ov : UInt64} (sg : own_S 60 g) (h : FP.dsub g (13835105343078251102 : UInt64) = ov) : own_S 64 ov := h ▸ (own_S.sub sg own_Sp (by decide)).mono (by decide)
theorem own_dneg0 {n : Nat} {d : UInt64} (sd : own_S n d) (h : own_z d < own_z FP.dconst0) : ¬ own_z (FP.dneg d) < own_z FP.dconst0 := by
  rw [own_z0] at h ⊢; rw [(own_z_neg sd.1).1]; omega
theorem own_rng {n : Nat} {x : UInt64} (sx : own_S n x) (hn : n ≤ 64) (px : 0 < own_z x) : own_Pp 1023 1080 x := by
  have h1 := sx.low px
  have h2 := sx.2.2
  refine ⟨⟨sx.1, by omega, Nat.le_trans h2 (Nat.le_trans (Nat.mul_le_mul_right _ hn) (Nat.le_of_eq ?_))⟩, px⟩
  rw [own_U, show (1080 : Nat) = 6 + 1074 from rfl, Nat.pow_add]
theorem own_nez {lo hi : Nat} {x : UInt64} (h : own_Pp lo hi x) : ¬ own_z x = own_z FP.dconst0 := by rw [own_z0]; have := h.2; omega
/-! what the method gives -/
def own_tri (ov d : UInt64) : UInt64 := FP.ddiv (4616284690168792098 : UInt64) (FP.dmul (4577341351496278388 : UInt64) (FP.dsub ov (FP.ddiv d (4611686018427387904 : UInt64))))
def own_sat (ov d : UInt64) : UInt64 := FP.ddiv (FP.dmul (FP.dmul d (13835105343078251102 : UInt64)) (13835105343078251102 : UInt64)) (FP.dmul (FP.dmul (FP.dmul (4572837751868907892 : UInt64) ov) ov) (FP.dadd FP.dconst1 (FP.dmul (4571261708172110332 : UInt64) d)))
def own_res (ov d : UInt64) : UInt64 := if own_z FP.dconst0 < own_z ov then (if own_z ov < own_z d then own_sat ov d else own_tri ov d) else (9218868437227405312 : UInt64)
theorem own_resI {ov d : UInt64} (c1 : ¬ own_z FP.dconst0 < own_z ov) : (9218868437227405312 : UInt64) = own_res ov d := by rw [own_res, if_neg c1]
theorem own_resT {ov d : UInt64} (c1 : own_z FP.dconst0 < own_z ov) (c2 : ¬ own_z ov < own_z d) : own_tri ov d = own_res ov d := by rw [own_res, if_pos c1, if_neg c2]
theorem own_resS {ov d : UInt64} (c1 : own_z FP.dconst0 < own_z ov) (c2 : own_z ov < own_z d) : own_sat ov d = own_res ov d := by rw [own_res, if_pos c1, if_pos c2]
theorem own_infeq {x : UInt64} (h : x = (9218868437227405312 : UInt64)) : cmpValue (FP.dcmp x (9218868437227405312 : UInt64)) .l = 0 := by subst h; exact own_eqz .l own_nI own_nI rfl
section Jf
variable {ov d : UInt64}
theorem own_po (c1 : own_z FP.dconst0 < own_z ov) : 0 < own_z ov := by rw [own_z0] at c1; exact c1
/-- the half of d -/
theorem own_h (sd : own_S 40 d) : Fin64 (FP.ddiv d (4611686018427387904 : UInt64)) := by
  have hz : own_z (4611686018427387904 : UInt64) ≠ 0 := by have := own_k2.2; omega
  refine own_fin_le (own_div_nn sd.1 own_k2.1.1 hz) sd.1 ?_
  rw [own_div_n sd.1 own_k2.1.1 hz]
  refine own_rr_le own_k2.1.pos sd.1.noNaN ?_
  rw [own_z2]; exact Nat.mul_le_mul_left _ (by omega)
theorem own_hn (sd : own_S 40 d) : NoNaN64 (FP.ddiv d (4611686018427387904 : UInt64)) := (own_h sd).noNaN
theorem own_hb (sd : own_S 40 d) (gd : ¬ own_z d < own_z FP.dconst0) : 0 ≤ own_z (FP.ddiv d (4611686018427387904 : UInt64)) ∧ 4 * own_z (FP.ddiv d (4611686018427387904 : UInt64)) ≤ 3 * own_z d := by
  have hz : own_z (4611686018427387904 : UInt64) ≠ 0 := by have := own_k2.2; omega
  rw [own_z0] at gd
  have g0 := own_div_ge0 sd.1 own_k2.1.1 hz (by omega) (by have := own_k2.2; omega)
  refine ⟨g0, ?_⟩
  by_cases q : own_z d = 0
  · have : (own_z (FP.ddiv d (4611686018427387904 : UInt64))).natAbs ≤ (own_z d).natAbs := by
      rw [own_div_n sd.1 own_k2.1.1 hz]
      refine own_rr_le own_k2.1.pos sd.1.noNaN ?_
      rw [own_z2]; exact Nat.mul_le_mul_left _ (by omega)
    omega
  · have r := own_rng sd (by decide) (by omega)
    have e := (r.1.divE own_k2.1 (by decide) (by decide)).1
    rw [own_z2, Nat.pow_one, Nat.pow_one, Nat.mul_right_comm, ← Nat.mul_assoc, Nat.mul_right_comm (own_z d).natAbs] at e
    have e := Nat.le_of_mul_le_mul_right e FP.Core.one64_pos
    omega
theorem own_t (so : own_S 64 ov) (sd : own_S 40 d) (gd : ¬ own_z d < own_z FP.dconst0) (c1 : own_z FP.dconst0 < own_z ov) (c2 : ¬ own_z ov < own_z d) : own_Pp 1021 1080 (FP.dsub ov (FP.ddiv d (4611686018427387904 : UInt64))) := by
  have po := own_po c1
  have hb := own_hb sd gd
  have hf := own_h sd
  have lo := so.low po
  have r := own_rng so (by decide) po
  obtain ⟨V, fV, zV⟩ := own_rep 1 1021 (by decide) (by decide)
  rw [Nat.one_mul] at zV
  have e4 : ((2 ^ 1023 : Nat) : Int) = 4 * ((2 ^ 1021 : Nat) : Int) := by decide +kernel
  have l := own_sub_ge (V := V) so.1 hf fV.noNaN (by rw [zV]; rw [e4] at lo; generalize ((2 ^ 1021 : Nat) : Int) = W at *; omega)
  have u := own_sub_le (V := ov) so.1 hf so.1.noNaN (by omega)
  rw [zV] at l
  have p1 : (0 : Int) < ((2 ^ 1021 : Nat) : Int) := by have := Nat.two_pow_pos 1021; omega
  have p2 : 0 < own_z (FP.dsub ov (FP.ddiv d (4611686018427387904 : UInt64))) := Int.lt_of_lt_of_le p1 l
  have a : (own_z (FP.dsub ov (FP.ddiv d (4611686018427387904 : UInt64)))).natAbs ≤ (own_z ov).natAbs := by omega
  refine ⟨⟨own_fin_le (own_sub_nn so.1 hf) so.1 a, ?_, Nat.le_trans a r.1.2.2⟩, p2⟩
  have : ((2 ^ 1021 : Nat) : Int) ≤ ((own_z (FP.dsub ov (FP.ddiv d (4611686018427387904 : UInt64)))).natAbs : Int) := by rw [Int.natAbs_of_nonneg (Int.le_of_lt p2)]; exact l
  exact Int.ofNat_le.mp this
theorem own_y {t : UInt64} (h : own_Pp 1021 1080 t) : own_Pp 1014 1074 (FP.dmul (4577341351496278388 : UInt64) t) := own_kB.mul h (by decide) (by decide) (by decide) (by decide)
theorem own_rT0 {y : UInt64} (h : own_Pp 1014 1074 y) : own_Pp 1076 1137 (FP.ddiv (4616284690168792098 : UInt64) y) := own_kA.div h (by decide) (by decide) (by decide) (by decide)
theorem own_pd (c1 : own_z FP.dconst0 < own_z ov) (c2 : own_z ov < own_z d) : 0 < own_z d := by rw [own_z0] at c1; omega
theorem own_sq1 (so : own_S 64 ov) (c1 : own_z FP.dconst0 < own_z ov) : own_Pp 1015 1073 (FP.dmul (4572837751868907892 : UInt64) ov) := own_kIS.mul (own_rng so (by decide) (own_po c1)) (by decide) (by decide) (by decide) (by decide)
theorem own_sq2 (so : own_S 64 ov) (c1 : own_z FP.dconst0 < own_z ov) : own_Pp 964 1079 (FP.dmul (FP.dmul (4572837751868907892 : UInt64) ov) ov) := (own_sq1 so c1).mul (own_rng so (by decide) (own_po c1)) (by decide) (by decide) (by decide) (by decide)
theorem own_sl (sd : own_S 40 d) (pd : 0 < own_z d) : own_Pp 1015 1073 (FP.dmul (4571261708172110332 : UInt64) d) := own_kL.mul (own_rng sd (by decide) pd) (by decide) (by decide) (by decide) (by decide)
theorem own_sM (sd : own_S 40 d) (pd : 0 < own_z d) : own_Pp 1074 1075 (FP.dadd FP.dconst1 (FP.dmul (4571261708172110332 : UInt64) d)) := by
  have hl := own_sl sd pd
  have o := own_one
  obtain ⟨V, fV, zV⟩ := own_rep 1 1075 (by decide) (by decide)
  rw [Nat.one_mul] at zV
  have e : ((2 ^ 1075 : Nat) : Int) = 2 * (FP.Core.one64 : Int) := by rw [own_U]; decide +kernel
  have b : (own_z (FP.dmul (4571261708172110332 : UInt64) d)).natAbs ≤ FP.Core.one64 := Nat.le_trans hl.1.2.2 (by rw [own_U]; exact Nat.pow_le_pow_right (by decide) (by decide))
  have pl := hl.2
  have l := own_add_ge (V := FP.dconst1) own_f1 hl.1.1 own_f1.noNaN (by omega)
  have u := own_add_le (V := V) own_f1 hl.1.1 fV.noNaN (by rw [zV, e, own_z1]; omega)
  rw [own_z1] at l
  rw [zV] at u
  have p2 : 0 < own_z (FP.dadd FP.dconst1 (FP.dmul (4571261708172110332 : UInt64) d)) := by omega
  have zV2 : (own_z V).natAbs = 2 ^ 1075 := by rw [zV]; rfl
  have a : (own_z (FP.dadd FP.dconst1 (FP.dmul (4571261708172110332 : UInt64) d))).natAbs ≤ 2 ^ 1075 := by
    refine Int.ofNat_le.mp ?_
    rw [Int.natAbs_of_nonneg (Int.le_of_lt p2)]; exact u
  refine ⟨⟨own_fin_le (own_add_nn own_f1 hl.1.1) fV (by rw [zV2]; exact a), ?_, a⟩, p2⟩
  rw [← own_U]
  refine Int.ofNat_le.mp ?_
  rw [Int.natAbs_of_nonneg (Int.le_of_lt p2)]; exact l
theorem own_sa1 (so : own_S 64 ov) (sd : own_S 40 d) (c1 : own_z FP.dconst0 < own_z ov) (pd : 0 < own_z d) : own_Pp 964 1080 (FP.dmul (FP.dmul (FP.dmul (4572837751868907892 : UInt64) ov) ov) (FP.dadd FP.dconst1 (FP.dmul (4571261708172110332 : UInt64) d))) :=
  (own_sq2 so c1).mul (own_sM sd pd) (by decide) (by decide) (by decide) (by decide)
theorem own_sd1 (sd : own_S 40 d) (pd : 0 < own_z d) : own_P 1024 1082 (FP.dmul d (13835105343078251102 : UInt64)) := (own_rng sd (by decide) pd).1.mul own_kP (by decide) (by decide) (by decide) (by decide)
theorem own_sd1n (sd : own_S 40 d) (pd : 0 < own_z d) : own_z (FP.dmul d (13835105343078251102 : UInt64)) < 0 := by
  have h := own_mul_pn sd.1 own_kP.1 pd own_kPn
  have := (own_sd1 sd pd).pos; omega
theorem own_sd2 (sd : own_S 40 d) (pd : 0 < own_z d) : own_Pp 1025 1084 (FP.dmul (FP.dmul d (13835105343078251102 : UInt64)) (13835105343078251102 : UInt64)) := by
  have h : own_P 1025 1084 _ := (own_sd1 sd pd).mul own_kP (by decide) (by decide) (by decide) (by decide)
  refine ⟨h, ?_⟩
  have g := own_mul_nneg (own_sd1 sd pd).1 own_kP.1 (own_sd1n sd pd) own_kPn
  have := h.pos; omega
theorem own_rS (so : own_S 64 ov) (sd : own_S 40 d) (c1 : own_z FP.dconst0 < own_z ov) (pd : 0 < own_z d) : own_Pp 1019 1194 (own_sat ov d) := (own_sd2 sd pd).div (own_sa1 so sd c1 pd) (by decide) (by decide) (by decide) (by decide)
theorem own_rT (so : own_S 64 ov) (sd : own_S 40 d) (gd : ¬ own_z d < own_z FP.dconst0) (c1 : own_z FP.dconst0 < own_z ov) (c2 : ¬ own_z ov < own_z d) : own_Pp 1076 1137 (own_tri ov d) := own_rT0 (own_y (own_t so sd gd c1 c2))
/-! the law's currents -/
def own_slope (ov : UInt64) : UInt64 := FP.ddiv (FP.dmul (4577341351496278388 : UInt64) ov) (4616284690168792098 : UInt64)
def own_curT (ov d : UInt64) : UInt64 := FP.dmul (FP.dmul (FP.ddiv (4577341351496278388 : UInt64) (4616284690168792098 : UInt64)) (FP.dsub ov (FP.ddiv d (4611686018427387904 : UInt64)))) d
def own_curS (ov d : UInt64) : UInt64 := FP.dmul (FP.ddiv (FP.dmul (FP.dmul (4572837751868907892 : UInt64) ov) ov) (4616284690168792098 : UInt64)) (FP.dadd FP.dconst1 (FP.dmul (4571261708172110332 : UInt64) d))
theorem own_y2 (so : own_S 64 ov) (c1 : own_z FP.dconst0 < own_z ov) : own_Pp 1016 1074 (FP.dmul (4577341351496278388 : UInt64) ov) := own_kB.mul (own_rng so (by decide) (own_po c1)) (by decide) (by decide) (by decide) (by decide)
theorem own_slp (so : own_S 64 ov) (c1 : own_z FP.dconst0 < own_z ov) : own_Pp 1013 1072 (own_slope ov) := (own_y2 so c1).div own_kA (by decide) (by decide) (by decide) (by decide)
theorem own_wT {t : UInt64} (h : own_Pp 1021 1080 t) : own_Pp 1011 1072 (FP.dmul (FP.ddiv (4577341351496278388 : UInt64) (4616284690168792098 : UInt64)) t) := own_kC.mul h (by decide) (by decide) (by decide) (by decide)
theorem own_cT (so : own_S 64 ov) (sd : own_S 40 d) (gd : ¬ own_z d < own_z FP.dconst0) (pd : 0 < own_z d) (c1 : own_z FP.dconst0 < own_z ov) (c2 : ¬ own_z ov < own_z d) : own_Pp 960 1078 (own_curT ov d) := (own_wT (own_t so sd gd c1 c2)).mul (own_rng sd (by decide) pd) (by decide) (by decide) (by decide) (by decide)
theorem own_bS (so : own_S 64 ov) (c1 : own_z FP.dconst0 < own_z ov) : own_Pp 961 1077 (FP.ddiv (FP.dmul (FP.dmul (4572837751868907892 : UInt64) ov) ov) (4616284690168792098 : UInt64)) := (own_sq2 so c1).div own_kA (by decide) (by decide) (by decide) (by decide)
theorem own_cS (so : own_S 64 ov) (sd : own_S 40 d) (c1 : own_z FP.dconst0 < own_z ov) (pd : 0 < own_z d) : own_Pp 961 1078 (own_curS ov d) := (own_bS so c1).mul (own_sM sd pd) (by decide) (by decide) (by decide) (by decide)
end Jf
/-! chains of roundings -/
theorem own_Q.one {n x y : Nat} (h : own_Q n x y) : own_Q (n + 1) x y := by
  have aux : ∀ {x y : Nat}, x * 4503599627370495 ^ n ≤ y * 4503599627370496 ^ n → x * 4503599627370495 ^ (n + 1) ≤ y * 4503599627370496 ^ (n + 1) := by
    intro x y h1
    rw [Nat.pow_succ, Nat.pow_succ, ← Nat.mul_assoc, ← Nat.mul_assoc]
    exact Nat.mul_le_mul h1 (by decide)
  exact ⟨aux h.1, aux h.2⟩
theorem own_chain2 {P U r y1 sl A y2 B t : Nat} (q1 : own_Q 1 (y1 * U) (B * t)) (q2 : own_Q 1 (r * y1) (A * U)) (q3 : own_Q 1 (y2 * U) (B * t)) (q4 : own_Q 1 (sl * A) (y2 * U)) (q5 : own_Q 1 (P * U) (r * sl))
    (hz : 0 < U * r * y1 * sl * A * y2 * U * B * t) : own_Q 8 P U := by
  have h := (((q5.mul q2).mul q4).mul q3).mul q1.symm
  refine (own_Q.cancel hz (?_ : own_Q 5 _ _)).one.one.one
  rw [show P * (U * r * y1 * sl * A * y2 * U * B * t) = P * U * (r * y1) * (sl * A) * (y2 * U) * (B * t) by simp only [Nat.mul_assoc, Nat.mul_comm, Nat.mul_left_comm],
    show U * (U * r * y1 * sl * A * y2 * U * B * t) = r * sl * (A * U) * (y2 * U) * (B * t) * (y1 * U) by simp only [Nat.mul_assoc, Nat.mul_comm, Nat.mul_left_comm]]
  exact h
theorem own_chain4 {P U r y A B C t w cur d : Nat} (q1 : own_Q 1 (y * U) (B * t)) (q2 : own_Q 1 (r * y) (A * U)) (q3 : own_Q 1 (w * U) (C * t)) (q4 : own_Q 1 (cur * U) (w * d)) (q5 : own_Q 1 (P * U) (r * cur)) (q6 : own_Q 1 (C * A) (B * U))
    (hz : 0 < r * y * w * U * cur * U * U * C * A * B * t) : own_Q 8 P d := by
  have h := ((((q5.mul q2).mul q3).mul q4).mul q6).mul q1.symm
  refine (own_Q.cancel hz (?_ : own_Q 6 _ _)).one.one
  rw [show P * (r * y * w * U * cur * U * U * C * A * B * t) = P * U * (r * y) * (w * U) * (cur * U) * (C * A) * (B * t) by simp only [Nat.mul_assoc, Nat.mul_comm, Nat.mul_left_comm],
    show d * (r * y * w * U * cur * U * U * C * A * B * t) = r * cur * (A * U) * (C * t) * (w * d) * (B * U) * (y * U) by simp only [Nat.mul_assoc, Nat.mul_comm, Nat.mul_left_comm]]
  exact h
theorem own_chain5 {P U r a1 d1 d2 A p Q M b cur d : Nat} (q1 : own_Q 1 (a1 * U) (Q * M)) (q2 : own_Q 1 (d1 * U) (d * p)) (q3 : own_Q 1 (d2 * U) (d1 * p)) (q4 : own_Q 1 (r * a1) (d2 * U)) (q5 : own_Q 1 (b * A) (Q * U)) (q6 : own_Q 1 (cur * U) (b * M)) (q7 : own_Q 1 (P * U) (r * cur)) (q8 : own_Q 1 (A * U) (p * p))
    (hz : 0 < U * r * a1 * cur * U * b * A * d2 * U * d1 * U * Q * M * p * p) : own_Q 8 P d := by
  have h := ((((((q7.mul q4).mul q6).mul q5).mul q3).mul q2).mul q1.symm).mul q8.symm
  refine own_Q.cancel hz ?_
  rw [show P * (U * r * a1 * cur * U * b * A * d2 * U * d1 * U * Q * M * p * p) = P * U * (r * a1) * (cur * U) * (b * A) * (d2 * U) * (d1 * U) * (Q * M) * (p * p) by simp only [Nat.mul_assoc, Nat.mul_comm, Nat.mul_left_comm],
    show d * (U * r * a1 * cur * U * b * A * d2 * U * d1 * U * Q * M * p * p) = r * cur * (d2 * U) * (b * M) * (Q * U) * (d1 * p) * (d * p) * (a1 * U) * (A * U) by simp only [Nat.mul_assoc, Nat.mul_comm, Nat.mul_left_comm]]
  exact h
theorem own_near {P y : Nat} (h : own_Q 8 P y) : 35184372088832 * P ≤ 35184372088833 * y ∧ 35184372088832 * y ≤ 35184372088833 * P := by
  have k : 35184372088832 * 4503599627370496 ^ 8 ≤ 35184372088833 * 4503599627370495 ^ 8 := by decide +kernel
  have hp : 0 < 4503599627370495 ^ 8 := Nat.pow_pos (by decide)
  have aux : ∀ {x y : Nat}, x * 4503599627370495 ^ 8 ≤ y * 4503599627370496 ^ 8 → 35184372088832 * x ≤ 35184372088833 * y := by
    intro x y h1
    refine Nat.le_of_mul_le_mul_right ?_ hp
    have a := Nat.mul_le_mul_left 35184372088832 h1
    have b := Nat.mul_le_mul_left y k
    calc 35184372088832 * x * 4503599627370495 ^ 8 = 35184372088832 * (x * 4503599627370495 ^ 8) := Nat.mul_assoc _ _ _
      _ ≤ 35184372088832 * (y * 4503599627370496 ^ 8) := a
      _ = y * (35184372088832 * 4503599627370496 ^ 8) := Nat.mul_left_comm _ _ _
      _ ≤ y * (35184372088833 * 4503599627370495 ^ 8) := b
      _ = 35184372088833 * y * 4503599627370495 ^ 8 := by rw [Nat.mul_left_comm, Nat.mul_assoc]
  exact ⟨aux h.1, aux h.2⟩
theorem own_final {P y V W : UInt64} (fP : Fin64 P) (fy : Fin64 y) (pP : 0 ≤ own_z P) (py : 0 < own_z y) (h : own_Q 8 (own_z P).natAbs (own_z y).natAbs) (nV : NoNaN64 V) (nW : NoNaN64 W) (hV : own_z y ≤ 4398046511104 * own_z V) (hW : own_z W = -own_z V) :
    ¬ own_z V < own_z (FP.dsub P y) ∧ ¬ own_z (FP.dsub P y) < own_z W := by
  obtain ⟨n1, n2⟩ := own_near h
  have e1 : ((own_z P).natAbs : Int) = own_z P := Int.natAbs_of_nonneg pP
  have e2 : ((own_z y).natAbs : Int) = own_z y := Int.natAbs_of_nonneg (Int.le_of_lt py)
  refine ⟨Int.not_lt.mpr (own_sub_le fP fy nV ?_), Int.not_lt.mpr (own_sub_ge fP fy nW ?_)⟩
  · omega
  · rw [hW]; omega
theorem own_mdn {a b : UInt64} (ha : NoNaN64 a) (hp : NoNaN64 (FP.dmul a b)) : FP.dmul (FP.dneg a) b = FP.dneg (FP.dmul a b) := by
  rw [FP.dneg_core (Fl.noNaN64_no.mp ha), FP.dneg_core (Fl.noNaN64_no.mp hp)]; exact FP.Core.dmul_dneg a b
theorem own_vE {d : UInt64} (sd : own_S 40 d) (pd : 0 < own_z d) : own_Pp 983 1041 (FP.dmul (4427486594234968593 : UInt64) d) ∧ own_z d ≤ 4398046511104 * own_z (FP.dmul (4427486594234968593 : UInt64) d) ∧
    NoNaN64 (FP.dmul (13650858631089744401 : UInt64) d) ∧ own_z (FP.dmul (13650858631089744401 : UInt64) d) = -own_z (FP.dmul (4427486594234968593 : UInt64) d) := by
  have r := own_rng sd (by decide) pd
  have v : own_Pp 983 1041 _ := own_kE.mul r (by decide) (by decide) (by decide) (by decide)
  have e := (own_kE.1.mulE r.1 (by decide) (by decide)).2
  have hn : FP.dmul (13650858631089744401 : UInt64) d = FP.dneg (FP.dmul (4427486594234968593 : UInt64) d) := (congrArg (fun z => FP.dmul z d) own_eEM).trans (own_mdn own_nE v.1.1.noNaN)
  have g := own_z_neg v.1.1
  refine ⟨v, ?_, by rw [hn]; exact g.2.noNaN, by rw [hn]; exact g.1⟩
  rw [Nat.pow_one, Nat.pow_one] at e
  have l : 2 ^ 1034 ≤ (own_z (4427486594234968593 : UInt64)).natAbs := own_kE.1.2.1
  have e2 : 2 ^ 1034 * ((own_z d).natAbs * 4503599627370495) ≤ 2 ^ 1034 * ((own_z (FP.dmul (4427486594234968593 : UInt64) d)).natAbs * 1099511627776 * 4503599627370496) := by
    refine Nat.le_trans (Nat.mul_le_mul_right _ l) ?_
    rw [← Nat.mul_assoc]
    refine Nat.le_trans e (Nat.le_of_eq ?_)
    rw [own_U, show (1074 : Nat) = 1034 + 40 from rfl, Nat.pow_add, show (2 : Nat) ^ 40 = 1099511627776 from rfl]
    generalize (2 : Nat) ^ 1034 = W
    simp only [Nat.mul_assoc, Nat.mul_comm, Nat.mul_left_comm]
  have e3 := Nat.le_of_mul_le_mul_left e2 (Nat.two_pow_pos 1034)
  have a1 : ((own_z d).natAbs : Int) = own_z d := Int.natAbs_of_nonneg (Int.le_of_lt pd)
  have a2 : ((own_z (FP.dmul (4427486594234968593 : UInt64) d)).natAbs : Int) = own_z (FP.dmul (4427486594234968593 : UInt64) d) := Int.natAbs_of_nonneg (Int.le_of_lt v.2)
  omega
section Lv
variable {ov d rr : UInt64}
/-- no drain voltage: the slope -/
theorem own_L2 (so : own_S 64 ov) (sd : own_S 40 d) (cz : own_z d = own_z FP.dconst0) (c1 : own_z FP.dconst0 < own_z ov) (hr : rr = own_res ov d) :
    Fin64 (FP.dmul rr (own_slope ov)) ∧ (¬ own_z (4427486594234968593 : UInt64) < own_z (FP.dsub (FP.dmul rr (own_slope ov)) FP.dconst1) ∧ ¬ own_z (FP.dsub (FP.dmul rr (own_slope ov)) FP.dconst1) < own_z (13650858631089744401 : UInt64)) := by
  have gd : ¬ own_z d < own_z FP.dconst0 := by omega
  have c2 : ¬ own_z ov < own_z d := by rw [cz]; omega
  rw [← own_resT c1 c2] at hr
  subst hr
  have ht := own_t so sd gd c1 c2
  have hy := own_y ht
  have hrr := own_rT so sd gd c1 c2
  have hs := own_slp so c1
  have hP : own_Pp 1015 1135 _ := hrr.mul hs (by decide) (by decide) (by decide) (by decide)
  have hb := own_hb sd gd
  have zt : own_z (FP.dsub ov (FP.ddiv d (4611686018427387904 : UInt64))) = own_z ov := own_subV so.1 (own_h sd) so.1 (by rw [cz, own_z0] at hb; omega)
  have q1 := own_kB.1.mulE ht.1 (by decide) (by decide)
  have q2 := own_kA.1.divE hy.1 (by decide) (by decide)
  have q3 := own_kB.1.mulE (own_rng so (by decide) (own_po c1)).1 (by decide) (by decide)
  have q4 := (own_y2 so c1).1.divE own_kA.1 (by decide) (by decide)
  have q5 := hrr.1.mulE hs.1 (by decide) (by decide)
  rw [zt] at q1
  have hU := FP.Core.one64_pos
  have Q := own_chain2 q1 q2 q3 q4 q5 (by
    have a1 := hrr.1.pos; have a2 := hy.1.pos; have a3 := hs.1.pos; have a4 := own_kA.1.pos; have a5 := (own_y2 so c1).1.pos; have a6 := own_kB.1.pos; have a7 := (own_rng so (by decide) (own_po c1)).1.pos
    exact Nat.mul_pos (Nat.mul_pos (Nat.mul_pos (Nat.mul_pos (Nat.mul_pos (Nat.mul_pos (Nat.mul_pos (Nat.mul_pos hU a1) a2) a3) a4) a5) hU) a6) a7)
  have o := own_one
  refine ⟨hP.1.1, own_final hP.1.1 own_f1 (Int.le_of_lt hP.2) (by rw [own_z1]; exact o) (by rw [own_z1, Int.natAbs_natCast]; exact Q) own_nE own_nEM ?_ ?_⟩
  · unfold own_z; decide +kernel
  · rw [own_eEM]; exact (own_z_neg own_kE.1.1).1
/-- the triode's road -/
theorem own_L4 (so : own_S 64 ov) (sd : own_S 40 d) (gd : ¬ own_z d < own_z FP.dconst0) (pd : 0 < own_z d) (c1 : own_z FP.dconst0 < own_z ov) (c2 : ¬ own_z ov < own_z d) (hr : rr = own_res ov d) :
    Fin64 (FP.dmul rr (own_curT ov d)) ∧ (¬ own_z (FP.dmul (4427486594234968593 : UInt64) d) < own_z (FP.dsub (FP.dmul rr (own_curT ov d)) d) ∧ ¬ own_z (FP.dsub (FP.dmul rr (own_curT ov d)) d) < own_z (FP.dmul (13650858631089744401 : UInt64) d)) := by
  rw [← own_resT c1 c2] at hr
  subst hr
  have ht := own_t so sd gd c1 c2
  have hy := own_y ht
  have hrr := own_rT so sd gd c1 c2
  have hw := own_wT ht
  have hc := own_cT so sd gd pd c1 c2
  have hd := own_rng sd (by decide) pd
  have hP : own_Pp 962 1141 _ := hrr.mul hc (by decide) (by decide) (by decide) (by decide)
  have q1 := own_kB.1.mulE ht.1 (by decide) (by decide)
  have q2 := own_kA.1.divE hy.1 (by decide) (by decide)
  have q3 := own_kC.1.mulE ht.1 (by decide) (by decide)
  have q4 := hw.1.mulE hd.1 (by decide) (by decide)
  have q5 := hrr.1.mulE hc.1 (by decide) (by decide)
  have q6 := own_kB.1.divE own_kA.1 (by decide) (by decide)
  have hU := FP.Core.one64_pos
  have Q := own_chain4 q1 q2 q3 q4 q5 q6 (by
    have a1 := hrr.1.pos; have a2 := hy.1.pos; have a3 := hw.1.pos; have a4 := hc.1.pos; have a5 := own_kC.1.pos; have a6 := own_kA.1.pos; have a7 := own_kB.1.pos; have a8 := ht.1.pos
    exact Nat.mul_pos (Nat.mul_pos (Nat.mul_pos (Nat.mul_pos (Nat.mul_pos (Nat.mul_pos (Nat.mul_pos (Nat.mul_pos (Nat.mul_pos (Nat.mul_pos a1 a2) a3) hU) a4) hU) hU) a5) a6) a7) a8)
  have hv := own_vE sd pd
  exact ⟨hP.1.1, own_final hP.1.1 sd.1 (Int.le_of_lt hP.2) pd Q hv.1.1.1.noNaN hv.2.2.1 hv.2.1 hv.2.2.2⟩
/-- the saturated road -/
theorem own_L5 (so : own_S 64 ov) (sd : own_S 40 d) (pd : 0 < own_z d) (c1 : own_z FP.dconst0 < own_z ov) (c2 : own_z ov < own_z d) (hr : rr = own_res ov d) :
    Fin64 (FP.dmul rr (own_curS ov d)) ∧ (¬ own_z (FP.dmul (4427486594234968593 : UInt64) d) < own_z (FP.dsub (FP.dmul rr (own_curS ov d)) d) ∧ ¬ own_z (FP.dsub (FP.dmul rr (own_curS ov d)) d) < own_z (FP.dmul (13650858631089744401 : UInt64) d)) := by
  rw [← own_resS c1 c2] at hr
  subst hr
  have hrr := own_rS so sd c1 pd
  have hc := own_cS so sd c1 pd
  have hd := own_rng sd (by decide) pd
  have hP : own_Pp 906 1198 _ := hrr.mul hc (by decide) (by decide) (by decide) (by decide)
  have hM := own_sM sd pd
  have hQ := own_sq2 so c1
  have ha := own_sa1 so sd c1 pd
  have q1 := hQ.1.mulE hM.1 (by decide) (by decide)
  have q2 := hd.1.mulE own_kP (by decide) (by decide)
  have q3 := (own_sd1 sd pd).mulE own_kP (by decide) (by decide)
  have q4 := (own_sd2 sd pd).1.divE ha.1 (by decide) (by decide)
  have q5 := hQ.1.divE own_kA.1 (by decide) (by decide)
  have q6 := (own_bS so c1).1.mulE hM.1 (by decide) (by decide)
  have q7 := hrr.1.mulE hc.1 (by decide) (by decide)
  have q8 := own_kP.mulE own_kP (by decide) (by decide)
  rw [own_eA] at q8
  have hU := FP.Core.one64_pos
  have Q := own_chain5 q1 q2 q3 q4 q5 q6 q7 q8 (by
    have a1 := hrr.1.pos; have a2 := ha.1.pos; have a3 := hc.1.pos; have a4 := (own_bS so c1).1.pos; have a5 := own_kA.1.pos; have a6 := (own_sd2 sd pd).1.pos; have a7 := (own_sd1 sd pd).pos; have a8 := hQ.1.pos; have a9 := hM.1.pos; have b1 := own_kP.pos
    exact Nat.mul_pos (Nat.mul_pos (Nat.mul_pos (Nat.mul_pos (Nat.mul_pos (Nat.mul_pos (Nat.mul_pos (Nat.mul_pos (Nat.mul_pos (Nat.mul_pos (Nat.mul_pos (Nat.mul_pos (Nat.mul_pos (Nat.mul_pos hU a1) a2) a3) hU) a4) a5) a6) hU) a7) hU) a8) a9) b1) b1)
  have hv := own_vE sd pd
  exact ⟨hP.1.1, own_final hP.1.1 sd.1 (Int.le_of_lt hP.2) pd Q hv.1.1.1.noNaN hv.2.2.1 hv.2.1 hv.2.2.2⟩
/-- nought times what is finite -/
theorem own_mul_z {x y : UInt64} (hx : Fin64 x) (hy : Fin64 y) (h : own_z x = 0 ∨ own_z y = 0) : Fin64 (FP.dmul x y) ∧ own_z (FP.dmul x y) = 0 := by
  have g := own_prod_le (V := FP.dconst0) hx hy own_n0 (by rcases h with h | h <;> rw [h] <;> simp)
  have f := own_fin_le (V := FP.dconst0) (own_mul_nn hx hy) (own_fini own_d0) g
  rw [own_z0] at g
  exact ⟨f, by have : (0 : Int).natAbs = 0 := rfl
               omega⟩
theorem own_div_z {x y : UInt64} (hx : Fin64 x) (hy : Fin64 y) (hz : own_z y ≠ 0) (h : own_z x = 0) : Fin64 (FP.ddiv x y) ∧ own_z (FP.ddiv x y) = 0 := by
  have g : (own_z (FP.ddiv x y)).natAbs ≤ (own_z FP.dconst0).natAbs := by
    rw [own_div_n hx hy hz]
    refine own_rr_le (by omega) own_n0 ?_
    rw [h]; simp
  have f := own_fin_le (V := FP.dconst0) (own_div_nn hx hy hz) (own_fini own_d0) g
  rw [own_z0] at g
  exact ⟨f, by have : (0 : Int).natAbs = 0 := rfl
               omega⟩
theorem own_zv (so : own_S 64 ov) (h : own_z ov = 0) : Fin64 (FP.dmul (4572837751868907892 : UInt64) ov) ∧ Fin64 (FP.dmul (FP.dmul (4572837751868907892 : UInt64) ov) ov) ∧ Fin64 (FP.ddiv (FP.dmul (FP.dmul (4572837751868907892 : UInt64) ov) ov) (4616284690168792098 : UInt64)) ∧ own_z (FP.ddiv (FP.dmul (FP.dmul (4572837751868907892 : UInt64) ov) ov) (4616284690168792098 : UInt64)) = 0 := by
  have h1 := own_mul_z own_kIS.1.1 so.1 (Or.inr h)
  have h2 := own_mul_z h1.1 so.1 (Or.inr h)
  have h3 := own_div_z h2.1 own_kA.1.1 (by have := own_kA.2; omega) h2.2
  exact ⟨h1.1, h2.1, h3⟩
theorem own_zc (so : own_S 64 ov) (sd : own_S 40 d) (pd : 0 < own_z d) (h : own_z ov = 0) : Fin64 (own_curS ov d) ∧ own_z (own_curS ov d) = own_z FP.dconst0 := by
  have g := own_zv so h
  have k := own_mul_z g.2.2.1 (own_sM sd pd).1.1 (Or.inl g.2.2.2)
  rw [own_z0]; exact k
theorem own_ov0 (cn : ¬ own_z ov < own_z FP.dconst0) : own_z ov = 0 ∨ own_z FP.dconst0 < own_z ov := by rw [own_z0] at cn ⊢; omega
theorem own_pdd (gd : ¬ own_z d < own_z FP.dconst0) (cz : ¬ own_z d = own_z FP.dconst0) : 0 < own_z d := by rw [own_z0] at gd cz; omega
theorem own_c1 (pd : 0 < own_z d) (c2 : ¬ own_z ov < own_z d) : own_z FP.dconst0 < own_z ov := by rw [own_z0]; omega
theorem own_no (h : own_z ov = 0) : ¬ own_z FP.dconst0 < own_z ov := by rw [own_z0]; omega
theorem own_no2 (h : own_z ov < own_z FP.dconst0) : ¬ own_z FP.dconst0 < own_z ov := by omega
end Lv

def QrmP (Z : State) (g : UInt64) (d : UInt64) (h0 : Heap) (n0 : Nat) (vQ : Option Value) (hQ : Heap) (LQ : List Loc) : Prop := vQ = some (.double (own_res (FP.dsub g (13835105343078251102 : UInt64)) d)) ∧ Fr n0 LQ ∧ hQ = h0
theorem ef_rmP (m : MethodId) (g : UInt64) (d : UInt64) : entryFrame m #[(.double g), (.double d)] 6 = mkF m 0 #[vd g, ss, vd d, ss, uu, uu] [] := by first | (simp [entryFrame, mkF, argsToLocals, Value.category]; done) | rfl
abbrev mn0 : MethodName := ⟨"com/example/lampwork/lampwork/JfetResistor", "channelResistance", "(DD)D"⟩
theorem pn_com_example_lampwork_lampwork_JfetResistor : plainName "com/example/lampwork/lampwork/JfetResistor" = true := by first | (simp [plainName, overriddenIn]; done) | decide +kernel
theorem d_prog_14_method_4_code_0 : decode prog_14_method_4_code 0 = .ok (.dload_n 2, 1) := by decide +kernel
theorem d_prog_14_method_4_code_1 : decode prog_14_method_4_code 1 = .ok (.dconst 0, 1) := by decide +kernel
theorem d_prog_14_method_4_code_2 : decode prog_14_method_4_code 2 = .ok (.dcmp .g, 1) := by decide +kernel
theorem d_prog_14_method_4_code_3 : decode prog_14_method_4_code 3 = .ok (.ifCond .ge 12, 3) := by decide +kernel
theorem d_prog_14_method_4_code_15 : decode prog_14_method_4_code 15 = .ok (.dload_n 0, 1) := by decide +kernel
theorem d_prog_14_method_4_code_16 : decode prog_14_method_4_code 16 = .ok (.ldc2_w 22, 3) := by decide +kernel
def tw8 {Z : State} {a0 : Array Value} (hw : ∀ d ∈ tables_1, d.before a0 Z = true) := hw _ (List.mem_of_getElem? (i := 8) rfl)
theorem d_prog_14_method_4_code_19 : decode prog_14_method_4_code 19 = .ok (.dsub, 1) := by decide +kernel
theorem d_prog_14_method_4_code_20 : decode prog_14_method_4_code 20 = .ok (.dstore 4, 2) := by decide +kernel
theorem d_prog_14_method_4_code_22 : decode prog_14_method_4_code 22 = .ok (.dload 4, 2) := by decide +kernel
theorem d_prog_14_method_4_code_24 : decode prog_14_method_4_code 24 = .ok (.dconst 0, 1) := by decide +kernel
theorem d_prog_14_method_4_code_25 : decode prog_14_method_4_code 25 = .ok (.dcmp .g, 1) := by decide +kernel
theorem d_prog_14_method_4_code_26 : decode prog_14_method_4_code 26 = .ok (.ifCond .gt 7, 3) := by decide +kernel
theorem d_prog_14_method_4_code_33 : decode prog_14_method_4_code 33 = .ok (.dload_n 2, 1) := by decide +kernel
theorem d_prog_14_method_4_code_34 : decode prog_14_method_4_code 34 = .ok (.dload 4, 2) := by decide +kernel
theorem d_prog_14_method_4_code_36 : decode prog_14_method_4_code 36 = .ok (.dcmp .g, 1) := by decide +kernel
theorem d_prog_14_method_4_code_37 : decode prog_14_method_4_code 37 = .ok (.ifCond .gt 20, 3) := by decide +kernel
theorem d_prog_14_method_4_code_57 : decode prog_14_method_4_code 57 = .ok (.dload_n 2, 1) := by decide +kernel
theorem d_prog_14_method_4_code_58 : decode prog_14_method_4_code 58 = .ok (.ldc2_w 22, 3) := by decide +kernel
theorem d_prog_14_method_4_code_61 : decode prog_14_method_4_code 61 = .ok (.dmul, 1) := by decide +kernel
theorem d_prog_14_method_4_code_62 : decode prog_14_method_4_code 62 = .ok (.ldc2_w 22, 3) := by decide +kernel
theorem d_prog_14_method_4_code_65 : decode prog_14_method_4_code 65 = .ok (.dmul, 1) := by decide +kernel
theorem d_prog_14_method_4_code_66 : decode prog_14_method_4_code 66 = .ok (.ldc2_w 32, 3) := by decide +kernel
def tw19 {Z : State} {a0 : Array Value} (hw : ∀ d ∈ tables_1, d.before a0 Z = true) := hw _ (List.mem_of_getElem? (i := 19) rfl)
theorem d_prog_14_method_4_code_69 : decode prog_14_method_4_code 69 = .ok (.dload 4, 2) := by decide +kernel
theorem d_prog_14_method_4_code_71 : decode prog_14_method_4_code 71 = .ok (.dmul, 1) := by decide +kernel
theorem d_prog_14_method_4_code_72 : decode prog_14_method_4_code 72 = .ok (.dload 4, 2) := by decide +kernel
theorem d_prog_14_method_4_code_74 : decode prog_14_method_4_code 74 = .ok (.dmul, 1) := by decide +kernel
theorem d_prog_14_method_4_code_75 : decode prog_14_method_4_code 75 = .ok (.dconst 1, 1) := by decide +kernel
theorem d_prog_14_method_4_code_76 : decode prog_14_method_4_code 76 = .ok (.ldc2_w 34, 3) := by decide +kernel
def tw20 {Z : State} {a0 : Array Value} (hw : ∀ d ∈ tables_1, d.before a0 Z = true) := hw _ (List.mem_of_getElem? (i := 20) rfl)
theorem d_prog_14_method_4_code_79 : decode prog_14_method_4_code 79 = .ok (.dload_n 2, 1) := by decide +kernel
theorem d_prog_14_method_4_code_80 : decode prog_14_method_4_code 80 = .ok (.dmul, 1) := by decide +kernel
theorem d_prog_14_method_4_code_81 : decode prog_14_method_4_code 81 = .ok (.dadd, 1) := by decide +kernel
theorem d_prog_14_method_4_code_82 : decode prog_14_method_4_code 82 = .ok (.dmul, 1) := by decide +kernel
theorem d_prog_14_method_4_code_83 : decode prog_14_method_4_code 83 = .ok (.ddiv, 1) := by decide +kernel
theorem d_prog_14_method_4_code_84 : decode prog_14_method_4_code 84 = .ok (.dreturn, 1) := by decide +kernel
theorem d_prog_14_method_4_code_40 : decode prog_14_method_4_code 40 = .ok (.ldc2_w 28, 3) := by decide +kernel
def tw12 {Z : State} {a0 : Array Value} (hw : ∀ d ∈ tables_1, d.before a0 Z = true) := hw _ (List.mem_of_getElem? (i := 12) rfl)
theorem d_prog_14_method_4_code_43 : decode prog_14_method_4_code 43 = .ok (.ldc2_w 30, 3) := by decide +kernel
def tw13 {Z : State} {a0 : Array Value} (hw : ∀ d ∈ tables_1, d.before a0 Z = true) := hw _ (List.mem_of_getElem? (i := 13) rfl)
theorem d_prog_14_method_4_code_46 : decode prog_14_method_4_code 46 = .ok (.dload 4, 2) := by decide +kernel
theorem d_prog_14_method_4_code_48 : decode prog_14_method_4_code 48 = .ok (.dload_n 2, 1) := by decide +kernel
theorem d_prog_14_method_4_code_49 : decode prog_14_method_4_code 49 = .ok (.ldc2_w 7, 3) := by decide +kernel
def tw14 {Z : State} {a0 : Array Value} (hw : ∀ d ∈ tables_1, d.before a0 Z = true) := hw _ (List.mem_of_getElem? (i := 14) rfl)
theorem d_prog_14_method_4_code_52 : decode prog_14_method_4_code 52 = .ok (.ddiv, 1) := by decide +kernel
theorem d_prog_14_method_4_code_53 : decode prog_14_method_4_code 53 = .ok (.dsub, 1) := by decide +kernel
theorem d_prog_14_method_4_code_54 : decode prog_14_method_4_code 54 = .ok (.dmul, 1) := by decide +kernel
theorem d_prog_14_method_4_code_55 : decode prog_14_method_4_code 55 = .ok (.ddiv, 1) := by decide +kernel
theorem d_prog_14_method_4_code_56 : decode prog_14_method_4_code 56 = .ok (.dreturn, 1) := by decide +kernel
theorem d_prog_14_method_4_code_29 : decode prog_14_method_4_code 29 = .ok (.ldc2_w 26, 3) := by decide +kernel
def tw9 {Z : State} {a0 : Array Value} (hw : ∀ d ∈ tables_1, d.before a0 Z = true) := hw _ (List.mem_of_getElem? (i := 9) rfl)
theorem d_prog_14_method_4_code_32 : decode prog_14_method_4_code 32 = .ok (.dreturn, 1) := by decide +kernel
set_option maxRecDepth 65536 in
set_option maxHeartbeats 40000000 in
theorem rmP (l : Launch) (Z : State) (a0 : Array Value) (hw : ∀ d ∈ tables_1, d.before a0 Z = true) (ws : List Jvm.Cond) (g : UInt64) (d : UInt64) (h0 : Heap) (n0 : Nat) (Z0 : n0 ≤ h0.size) (sg : own_S 60 g) (sd : own_S 40 d) (gd : ¬ own_z d < (own_z FP.dconst0)) :
    MetFree l mn0 (head1 (Jvm.Cond.code mn0 prog_14_method_4_code 6 (some .double) :: ws) ({ frames := 0, cells := 0, slots := 0, locals := 0 } : Room)) (fun aA U => aA = #[(.double g), (.double d)] ∧ Z.Warmed39 U.vm ∧ U.heap = h0) (fun _ _ _ _ _ => True) (fun _ U o U' => ∃ vR LR, o = .returned vR ∧ QrmP Z g d h0 n0 vR U'.heap LR ∧ FrameEnd U o U' LR ({ frames := 0, cells := 0, slots := 0, locals := 0 } : Room).cells ({ frames := 0, cells := 0, slots := 0, locals := 0 } : Room).slots) := by
  refine MetFree.of_bodySF (plainFor_of_name pn_com_example_lampwork_lampwork_JfetResistor) hisR ?_
  intro p e s m args below meth c s₁ Bd hml0 hPre hKk
  obtain ⟨rfl, hZ, hh⟩ := hPre
  have hx := Bd.exec
  have hby := Bd.bytes
  skip
  have hml : c.maxLocals = 6 := hml0
  have hown : s.vm.findClass "com/example/lampwork/lampwork/JfetResistor" = some m.cls := findClass_of_methodNamed Bd.named
  have hnm := (name_of_methodNamed Bd.named Bd.method).1
  have X0 : Stand p l e ({ frames := 0, cells := 0, slots := 0, locals := 0 } : Room) s m #[(.double g), (.double d)] below meth c s₁ [] 0 0 := Stand.of_body Bd
  have e0 : s₁.heap = h0 := by rw [← hh, Bd.state]; rfl
  have N0 := Fr.nil n0
  obtain ⟨E0, hE0⟩ : ∃ zE : State, zE = s₁.setTop (entryFrame m #[(.double g), (.double d)] 6) := ⟨_, rfl⟩
  have k0 : own_G p e below E0 s₁ (mkF m 0 #[vd g, ss, vd d, ss, uu, uu] []) := fun tz kz => hE0 ▸ castTop (ef_rmP m g d) kz
  have so := own_sov sg rfl
  have k1 : own_G p e below E0 s₁ (mkF m 16 #[vd g, ss, vd d, ss, uu, uu] [(.double g)]) := by
    intro tQ kk
    refine k0 tQ ?_
    refine XS.dloadN X0.here hx rfl (hb hby d_prog_14_method_4_code_0) rfl ?_
    refine XS.dconst0 X0.here hx rfl (hb hby d_prog_14_method_4_code_1) rfl ?_
    refine XS.dcmpS (v := (own_c (own_z d) (own_z FP.dconst0))) X0.here hx rfl (hb hby d_prog_14_method_4_code_2) rfl (own_cE .g (own_cmpz sd.1.noNaN own_n0)) ?_
    refine XS.ifYes X0.here hx rfl (pc0 := 3) (pc' := 15) rfl (hb hby d_prog_14_method_4_code_3) rfl (own_c_geY gd) (by decide) (by decide) ?_
    show Steps p.tables e below (s₁.setTop (mkF m 15 #[vd g, ss, vd d, ss, uu, uu] [])) tQ
    refine XS.dloadN X0.here hx rfl (hb hby d_prog_14_method_4_code_15) rfl ?_
    exact kk
  clear k0
  have st2 := X0.ldc2DoubleC hx hown (mvT hZ (tw8 hw)) (g := (mkF m 16 #[vd g, ss, vd d, ss, uu, uu] [(.double g)])) rfl (hb hby d_prog_14_method_4_code_16)
  have k3 : own_G p e below E0 s₁ (mkF m 19 #[vd g, ss, vd d, ss, uu, uu] [(.double (13835105343078251102 : UInt64)), (.double g)]) := fun tQ kk => k1 tQ (st2 _ kk)
  clear k1 st2
  have k4 : own_G p e below E0 s₁ (mkF m 26 #[vd g, ss, vd d, ss, vd (FP.dsub g (13835105343078251102 : UInt64)), ss] [(.int (own_c (own_z (FP.dsub g (13835105343078251102 : UInt64))) (own_z FP.dconst0)))]) := by
    intro tQ kk
    refine k3 tQ ?_
    refine XS.dsubS X0.here hx rfl (hb hby d_prog_14_method_4_code_19) rfl so.1.noNaN rfl ?_
    refine XS.dstore X0.here hx rfl (hb hby d_prog_14_method_4_code_20) rfl (l' := #[vd g, ss, vd d, ss, vd (FP.dsub g (13835105343078251102 : UInt64)), ss]) rfl ?_
    refine XS.dload X0.here hx rfl (hb hby d_prog_14_method_4_code_22) rfl ?_
    refine XS.dconst0 X0.here hx rfl (hb hby d_prog_14_method_4_code_24) rfl ?_
    show Steps p.tables e below (s₁.setTop (mkF m 25 #[vd g, ss, vd d, ss, vd (FP.dsub g (13835105343078251102 : UInt64)), ss] [(.double FP.dconst0), (.double (FP.dsub g (13835105343078251102 : UInt64)))])) tQ
    refine XS.dcmpS (v := (own_c (own_z (FP.dsub g (13835105343078251102 : UInt64))) (own_z FP.dconst0))) X0.here hx rfl (hb hby d_prog_14_method_4_code_25) rfl (own_cE .g (own_cmpz so.1.noNaN own_n0)) ?_
    exact kk
  clear k3
  by_cases c1 : (own_z FP.dconst0) < (own_z (FP.dsub g (13835105343078251102 : UInt64)))
  · skip
    have k6 : own_G p e below E0 s₁ (mkF m 37 #[vd g, ss, vd d, ss, vd (FP.dsub g (13835105343078251102 : UInt64)), ss] [(.int (own_c (own_z d) (own_z (FP.dsub g (13835105343078251102 : UInt64)))))]) := by
      intro tQ kk
      refine k4 tQ ?_
      refine XS.ifYes X0.here hx rfl (pc0 := 26) (pc' := 33) rfl (hb hby d_prog_14_method_4_code_26) rfl (own_c_gtY c1) (by decide) (by decide) ?_
      refine XS.dloadN X0.here hx rfl (hb hby d_prog_14_method_4_code_33) rfl ?_
      refine XS.dload X0.here hx rfl (hb hby d_prog_14_method_4_code_34) rfl ?_
      refine XS.dcmpS (v := (own_c (own_z d) (own_z (FP.dsub g (13835105343078251102 : UInt64))))) X0.here hx rfl (hb hby d_prog_14_method_4_code_36) rfl (own_cE .g (own_cmpz sd.1.noNaN so.1.noNaN)) ?_
      exact kk
    clear k4
    by_cases c2 : (own_z (FP.dsub g (13835105343078251102 : UInt64))) < (own_z d)
    · skip
      have pd := own_pd c1 c2
      have k8 : own_G p e below E0 s₁ (mkF m 58 #[vd g, ss, vd d, ss, vd (FP.dsub g (13835105343078251102 : UInt64)), ss] [(.double d)]) := by
        intro tQ kk
        refine k6 tQ ?_
        refine XS.ifYes X0.here hx rfl (pc0 := 37) (pc' := 57) rfl (hb hby d_prog_14_method_4_code_37) rfl (own_c_gtY c2) (by decide) (by decide) ?_
        refine XS.dloadN X0.here hx rfl (hb hby d_prog_14_method_4_code_57) rfl ?_
        exact kk
      clear k6
      have st9 := X0.ldc2DoubleC hx hown (mvT hZ (tw8 hw)) (g := (mkF m 58 #[vd g, ss, vd d, ss, vd (FP.dsub g (13835105343078251102 : UInt64)), ss] [(.double d)])) rfl (hb hby d_prog_14_method_4_code_58)
      have k10 : own_G p e below E0 s₁ (mkF m 61 #[vd g, ss, vd d, ss, vd (FP.dsub g (13835105343078251102 : UInt64)), ss] [(.double (13835105343078251102 : UInt64)), (.double d)]) := fun tQ kk => k8 tQ (st9 _ kk)
      clear k8 st9
      have k11 : own_G p e below E0 s₁ (mkF m 62 #[vd g, ss, vd d, ss, vd (FP.dsub g (13835105343078251102 : UInt64)), ss] [(.double (FP.dmul d (13835105343078251102 : UInt64)))]) := by
        intro tQ kk
        refine k10 tQ ?_
        refine XS.dmulS X0.here hx rfl (hb hby d_prog_14_method_4_code_61) rfl (own_sd1 sd pd).1.noNaN rfl ?_
        exact kk
      clear k10
      have st12 := X0.ldc2DoubleC hx hown (mvT hZ (tw8 hw)) (g := (mkF m 62 #[vd g, ss, vd d, ss, vd (FP.dsub g (13835105343078251102 : UInt64)), ss] [(.double (FP.dmul d (13835105343078251102 : UInt64)))])) rfl (hb hby d_prog_14_method_4_code_62)
      have k13 : own_G p e below E0 s₁ (mkF m 65 #[vd g, ss, vd d, ss, vd (FP.dsub g (13835105343078251102 : UInt64)), ss] [(.double (13835105343078251102 : UInt64)), (.double (FP.dmul d (13835105343078251102 : UInt64)))]) := fun tQ kk => k11 tQ (st12 _ kk)
      clear k11 st12
      have k14 : own_G p e below E0 s₁ (mkF m 66 #[vd g, ss, vd d, ss, vd (FP.dsub g (13835105343078251102 : UInt64)), ss] [(.double (FP.dmul (FP.dmul d (13835105343078251102 : UInt64)) (13835105343078251102 : UInt64)))]) := by
        intro tQ kk
        refine k13 tQ ?_
        refine XS.dmulS X0.here hx rfl (hb hby d_prog_14_method_4_code_65) rfl (own_sd2 sd pd).1.1.noNaN rfl ?_
        exact kk
      clear k13
      have st15 := X0.ldc2DoubleC hx hown (mvT hZ (tw19 hw)) (g := (mkF m 66 #[vd g, ss, vd d, ss, vd (FP.dsub g (13835105343078251102 : UInt64)), ss] [(.double (FP.dmul (FP.dmul d (13835105343078251102 : UInt64)) (13835105343078251102 : UInt64)))])) rfl (hb hby d_prog_14_method_4_code_66)
      have k16 : own_G p e below E0 s₁ (mkF m 69 #[vd g, ss, vd d, ss, vd (FP.dsub g (13835105343078251102 : UInt64)), ss] [(.double (4572837751868907892 : UInt64)), (.double (FP.dmul (FP.dmul d (13835105343078251102 : UInt64)) (13835105343078251102 : UInt64)))]) := fun tQ kk => k14 tQ (st15 _ kk)
      clear k14 st15
      have k17 : own_G p e below E0 s₁ (mkF m 76 #[vd g, ss, vd d, ss, vd (FP.dsub g (13835105343078251102 : UInt64)), ss] [(.double FP.dconst1), (.double (FP.dmul (FP.dmul (4572837751868907892 : UInt64) (FP.dsub g (13835105343078251102 : UInt64))) (FP.dsub g (13835105343078251102 : UInt64)))), (.double (FP.dmul (FP.dmul d (13835105343078251102 : UInt64)) (13835105343078251102 : UInt64)))]) := by
        intro tQ kk
        refine k16 tQ ?_
        refine XS.dload X0.here hx rfl (hb hby d_prog_14_method_4_code_69) rfl ?_
        refine XS.dmulS X0.here hx rfl (hb hby d_prog_14_method_4_code_71) rfl (own_sq1 so c1).1.1.noNaN rfl ?_
        refine XS.dload X0.here hx rfl (hb hby d_prog_14_method_4_code_72) rfl ?_
        refine XS.dmulS X0.here hx rfl (hb hby d_prog_14_method_4_code_74) rfl (own_sq2 so c1).1.1.noNaN rfl ?_
        show Steps p.tables e below (s₁.setTop (mkF m 75 #[vd g, ss, vd d, ss, vd (FP.dsub g (13835105343078251102 : UInt64)), ss] [(.double (FP.dmul (FP.dmul (4572837751868907892 : UInt64) (FP.dsub g (13835105343078251102 : UInt64))) (FP.dsub g (13835105343078251102 : UInt64)))), (.double (FP.dmul (FP.dmul d (13835105343078251102 : UInt64)) (13835105343078251102 : UInt64)))])) tQ
        refine XS.dconst1 X0.here hx rfl (hb hby d_prog_14_method_4_code_75) rfl ?_
        exact kk
      clear k16
      have st18 := X0.ldc2DoubleC hx hown (mvT hZ (tw20 hw)) (g := (mkF m 76 #[vd g, ss, vd d, ss, vd (FP.dsub g (13835105343078251102 : UInt64)), ss] [(.double FP.dconst1), (.double (FP.dmul (FP.dmul (4572837751868907892 : UInt64) (FP.dsub g (13835105343078251102 : UInt64))) (FP.dsub g (13835105343078251102 : UInt64)))), (.double (FP.dmul (FP.dmul d (13835105343078251102 : UInt64)) (13835105343078251102 : UInt64)))])) rfl (hb hby d_prog_14_method_4_code_76)
      have k19 : own_G p e below E0 s₁ (mkF m 79 #[vd g, ss, vd d, ss, vd (FP.dsub g (13835105343078251102 : UInt64)), ss] [(.double (4571261708172110332 : UInt64)), (.double FP.dconst1), (.double (FP.dmul (FP.dmul (4572837751868907892 : UInt64) (FP.dsub g (13835105343078251102 : UInt64))) (FP.dsub g (13835105343078251102 : UInt64)))), (.double (FP.dmul (FP.dmul d (13835105343078251102 : UInt64)) (13835105343078251102 : UInt64)))]) := fun tQ kk => k17 tQ (st18 _ kk)
      clear k17 st18
      have k20 : own_G p e below E0 s₁ (mkF m 84 #[vd g, ss, vd d, ss, vd (FP.dsub g (13835105343078251102 : UInt64)), ss] [(.double (own_sat (FP.dsub g (13835105343078251102 : UInt64)) d))]) := by
        intro tQ kk
        refine k19 tQ ?_
        refine XS.dloadN X0.here hx rfl (hb hby d_prog_14_method_4_code_79) rfl ?_
        refine XS.dmulS X0.here hx rfl (hb hby d_prog_14_method_4_code_80) rfl (own_sl sd pd).1.1.noNaN rfl ?_
        refine XS.daddS X0.here hx rfl (hb hby d_prog_14_method_4_code_81) rfl (own_sM sd pd).1.1.noNaN rfl ?_
        refine XS.dmulS X0.here hx rfl (hb hby d_prog_14_method_4_code_82) rfl (own_sa1 so sd c1 pd).1.1.noNaN rfl ?_
        show Steps p.tables e below (s₁.setTop (mkF m 83 #[vd g, ss, vd d, ss, vd (FP.dsub g (13835105343078251102 : UInt64)), ss] [(.double (FP.dmul (FP.dmul (FP.dmul (4572837751868907892 : UInt64) (FP.dsub g (13835105343078251102 : UInt64))) (FP.dsub g (13835105343078251102 : UInt64))) (FP.dadd FP.dconst1 (FP.dmul (4571261708172110332 : UInt64) d)))), (.double (FP.dmul (FP.dmul d (13835105343078251102 : UInt64)) (13835105343078251102 : UInt64)))])) tQ
        refine XS.ddivS (v := (own_sat (FP.dsub g (13835105343078251102 : UInt64)) d)) X0.here hx rfl (hb hby d_prog_14_method_4_code_83) rfl (own_rS so sd c1 pd).1.1.noNaN rfl ?_
        exact kk
      clear k19
      obtain ⟨fs, hr, hrun, hended, hW, hsame⟩ := X0.leave (v := some (.double (own_sat (FP.dsub g (13835105343078251102 : UInt64)) d))) (fun h => by rw [Bd.returns] at h; cases h)
      have hrun0 := k20 _ (retOut X0 hx Bd.returns (t := .double) rfl (Or.inr (Or.inr (Or.inl ⟨rfl, rfl, _, rfl⟩))) (hb hby d_prog_14_method_4_code_84) hr)
      subst hE0
      refine ⟨_, _, hrun0, hrun, hended, _, _, rfl, ?_, ⟨_, rfl⟩, hW, hsame.mono (by decide) (by decide)⟩
      show QrmP Z g d h0 n0 _ s₁.heap _
      rw [e0]
      exact ⟨(congrArg (fun z => some (Value.double z)) (own_resS c1 c2)), N0, rfl⟩
    · skip
      have k21 : own_G p e below E0 s₁ (mkF m 40 #[vd g, ss, vd d, ss, vd (FP.dsub g (13835105343078251102 : UInt64)), ss] []) := by
        intro tQ kk
        refine k6 tQ ?_
        refine XS.ifNo X0.here hx rfl (hb hby d_prog_14_method_4_code_37) rfl (own_c_gtN c2) ?_
        exact kk
      clear k6
      have st22 := X0.ldc2DoubleC hx hown (mvT hZ (tw12 hw)) (g := (mkF m 40 #[vd g, ss, vd d, ss, vd (FP.dsub g (13835105343078251102 : UInt64)), ss] [])) rfl (hb hby d_prog_14_method_4_code_40)
      have k23 : own_G p e below E0 s₁ (mkF m 43 #[vd g, ss, vd d, ss, vd (FP.dsub g (13835105343078251102 : UInt64)), ss] [(.double (4616284690168792098 : UInt64))]) := fun tQ kk => k21 tQ (st22 _ kk)
      clear k21 st22
      have st24 := X0.ldc2DoubleC hx hown (mvT hZ (tw13 hw)) (g := (mkF m 43 #[vd g, ss, vd d, ss, vd (FP.dsub g (13835105343078251102 : UInt64)), ss] [(.double (4616284690168792098 : UInt64))])) rfl (hb hby d_prog_14_method_4_code_43)
      have k25 : own_G p e below E0 s₁ (mkF m 46 #[vd g, ss, vd d, ss, vd (FP.dsub g (13835105343078251102 : UInt64)), ss] [(.double (4577341351496278388 : UInt64)), (.double (4616284690168792098 : UInt64))]) := fun tQ kk => k23 tQ (st24 _ kk)
      clear k23 st24
      have k26 : own_G p e below E0 s₁ (mkF m 49 #[vd g, ss, vd d, ss, vd (FP.dsub g (13835105343078251102 : UInt64)), ss] [(.double d), (.double (FP.dsub g (13835105343078251102 : UInt64))), (.double (4577341351496278388 : UInt64)), (.double (4616284690168792098 : UInt64))]) := by
        intro tQ kk
        refine k25 tQ ?_
        refine XS.dload X0.here hx rfl (hb hby d_prog_14_method_4_code_46) rfl ?_
        refine XS.dloadN X0.here hx rfl (hb hby d_prog_14_method_4_code_48) rfl ?_
        exact kk
      clear k25
      have st27 := X0.ldc2DoubleC hx hown (mvT hZ (tw14 hw)) (g := (mkF m 49 #[vd g, ss, vd d, ss, vd (FP.dsub g (13835105343078251102 : UInt64)), ss] [(.double d), (.double (FP.dsub g (13835105343078251102 : UInt64))), (.double (4577341351496278388 : UInt64)), (.double (4616284690168792098 : UInt64))])) rfl (hb hby d_prog_14_method_4_code_49)
      have k28 : own_G p e below E0 s₁ (mkF m 52 #[vd g, ss, vd d, ss, vd (FP.dsub g (13835105343078251102 : UInt64)), ss] [(.double (4611686018427387904 : UInt64)), (.double d), (.double (FP.dsub g (13835105343078251102 : UInt64))), (.double (4577341351496278388 : UInt64)), (.double (4616284690168792098 : UInt64))]) := fun tQ kk => k26 tQ (st27 _ kk)
      clear k26 st27
      have k29 : own_G p e below E0 s₁ (mkF m 56 #[vd g, ss, vd d, ss, vd (FP.dsub g (13835105343078251102 : UInt64)), ss] [(.double (own_tri (FP.dsub g (13835105343078251102 : UInt64)) d))]) := by
        intro tQ kk
        refine k28 tQ ?_
        refine XS.ddivS X0.here hx rfl (hb hby d_prog_14_method_4_code_52) rfl (own_hn sd) rfl ?_
        refine XS.dsubS X0.here hx rfl (hb hby d_prog_14_method_4_code_53) rfl (own_t so sd gd c1 c2).1.1.noNaN rfl ?_
        refine XS.dmulS X0.here hx rfl (hb hby d_prog_14_method_4_code_54) rfl (own_y (own_t so sd gd c1 c2)).1.1.noNaN rfl ?_
        refine XS.ddivS (v := (own_tri (FP.dsub g (13835105343078251102 : UInt64)) d)) X0.here hx rfl (hb hby d_prog_14_method_4_code_55) rfl (own_rT so sd gd c1 c2).1.1.noNaN rfl ?_
        exact kk
      clear k28
      obtain ⟨fs, hr, hrun, hended, hW, hsame⟩ := X0.leave (v := some (.double (own_tri (FP.dsub g (13835105343078251102 : UInt64)) d))) (fun h => by rw [Bd.returns] at h; cases h)
      have hrun0 := k29 _ (retOut X0 hx Bd.returns (t := .double) rfl (Or.inr (Or.inr (Or.inl ⟨rfl, rfl, _, rfl⟩))) (hb hby d_prog_14_method_4_code_56) hr)
      subst hE0
      refine ⟨_, _, hrun0, hrun, hended, _, _, rfl, ?_, ⟨_, rfl⟩, hW, hsame.mono (by decide) (by decide)⟩
      show QrmP Z g d h0 n0 _ s₁.heap _
      rw [e0]
      exact ⟨(congrArg (fun z => some (Value.double z)) (own_resT c1 c2)), N0, rfl⟩
  · skip
    have k30 : own_G p e below E0 s₁ (mkF m 29 #[vd g, ss, vd d, ss, vd (FP.dsub g (13835105343078251102 : UInt64)), ss] []) := by
      intro tQ kk
      refine k4 tQ ?_
      refine XS.ifNo X0.here hx rfl (hb hby d_prog_14_method_4_code_26) rfl (own_c_gtN c1) ?_
      exact kk
    clear k4
    have st31 := X0.ldc2DoubleC hx hown (mvT hZ (tw9 hw)) (g := (mkF m 29 #[vd g, ss, vd d, ss, vd (FP.dsub g (13835105343078251102 : UInt64)), ss] [])) rfl (hb hby d_prog_14_method_4_code_29)
    have k32 : own_G p e below E0 s₁ (mkF m 32 #[vd g, ss, vd d, ss, vd (FP.dsub g (13835105343078251102 : UInt64)), ss] [(.double (9218868437227405312 : UInt64))]) := fun tQ kk => k30 tQ (st31 _ kk)
    clear k30 st31
    obtain ⟨fs, hr, hrun, hended, hW, hsame⟩ := X0.leave (v := some (.double (9218868437227405312 : UInt64))) (fun h => by rw [Bd.returns] at h; cases h)
    have hrun0 := k32 _ (retOut X0 hx Bd.returns (t := .double) rfl (Or.inr (Or.inr (Or.inl ⟨rfl, rfl, _, rfl⟩))) (hb hby d_prog_14_method_4_code_32) hr)
    subst hE0
    refine ⟨_, _, hrun0, hrun, hended, _, _, rfl, ?_, ⟨_, rfl⟩, hW, hsame.mono (by decide) (by decide)⟩
    show QrmP Z g d h0 n0 _ s₁.heap _
    rw [e0]
    exact ⟨(congrArg (fun z => some (Value.double z)) (own_resI c1)), N0, rfl⟩
def QrmN (Z : State) (g : UInt64) (d : UInt64) (h0 : Heap) (n0 : Nat) (vQ : Option Value) (hQ : Heap) (LQ : List Loc) : Prop := vQ = some (.double (own_res (FP.dsub (FP.dsub g d) (13835105343078251102 : UInt64)) (FP.dneg d))) ∧ Fr n0 LQ ∧ hQ = h0
theorem ef_rmN (m : MethodId) (g : UInt64) (d : UInt64) : entryFrame m #[(.double g), (.double d)] 6 = mkF m 0 #[vd g, ss, vd d, ss, uu, uu] [] := by first | (simp [entryFrame, mkF, argsToLocals, Value.category]; done) | rfl
theorem d_prog_14_method_4_code_6 : decode prog_14_method_4_code 6 = .ok (.dload_n 0, 1) := by decide +kernel
theorem d_prog_14_method_4_code_7 : decode prog_14_method_4_code 7 = .ok (.dload_n 2, 1) := by decide +kernel
theorem d_prog_14_method_4_code_8 : decode prog_14_method_4_code 8 = .ok (.dsub, 1) := by decide +kernel
theorem d_prog_14_method_4_code_9 : decode prog_14_method_4_code 9 = .ok (.dload_n 2, 1) := by decide +kernel
theorem d_prog_14_method_4_code_10 : decode prog_14_method_4_code 10 = .ok (.dneg, 1) := by decide +kernel
theorem d_prog_14_method_4_code_11 : decode prog_14_method_4_code 11 = .ok (.invokestatic 18, 3) := by decide +kernel
def tw18 {Z : State} {a0 : Array Value} (hw : ∀ d ∈ tables_1, d.before a0 Z = true) := hw _ (List.mem_of_getElem? (i := 18) rfl)
def tw7 {Z : State} {a0 : Array Value} (hw : ∀ d ∈ tables_1, d.before a0 Z = true) := hw _ (List.mem_of_getElem? (i := 7) rfl)
def tw6 {Z : State} {a0 : Array Value} (hw : ∀ d ∈ tables_1, d.before a0 Z = true) := hw _ (List.mem_of_getElem? (i := 6) rfl)
theorem pd_1 : parseMethodDescriptor "(DD)D" = some ⟨[.double, .double], some .double⟩ := by decide +kernel
def tw5 {Z : State} {a0 : Array Value} (hw : ∀ d ∈ tables_1, d.before a0 Z = true) := hw _ (List.mem_of_getElem? (i := 5) rfl)
theorem d_prog_14_method_4_code_14 : decode prog_14_method_4_code 14 = .ok (.dreturn, 1) := by decide +kernel
set_option maxRecDepth 65536 in
set_option maxHeartbeats 40000000 in
theorem rmN (l : Launch) (Z : State) (a0 : Array Value) (hw : ∀ d ∈ tables_1, d.before a0 Z = true) (ws : List Jvm.Cond) (g : UInt64) (d : UInt64) (h0 : Heap) (n0 : Nat) (Z0 : n0 ≤ h0.size) (sg : own_S 20 g) (sd : own_S 40 d) (gd : own_z d < (own_z FP.dconst0)) :
    MetFree l mn0 (head1 (Jvm.Cond.code mn0 prog_14_method_4_code 6 (some .double) :: ws) ({ frames := 1, cells := 0, slots := 0, locals := 24 } : Room)) (fun aA U => aA = #[(.double g), (.double d)] ∧ Z.Warmed39 U.vm ∧ U.heap = h0) (fun _ _ _ _ _ => True) (fun _ U o U' => ∃ vR LR, o = .returned vR ∧ QrmN Z g d h0 n0 vR U'.heap LR ∧ FrameEnd U o U' LR ({ frames := 1, cells := 0, slots := 0, locals := 24 } : Room).cells ({ frames := 1, cells := 0, slots := 0, locals := 24 } : Room).slots) := by
  refine MetFree.of_bodySF (plainFor_of_name pn_com_example_lampwork_lampwork_JfetResistor) hisR ?_
  intro p e s m args below meth c s₁ Bd hml0 hPre hKk
  obtain ⟨rfl, hZ, hh⟩ := hPre
  have hx := Bd.exec
  have hby := Bd.bytes
  skip
  have hml : c.maxLocals = 6 := hml0
  have hown : s.vm.findClass "com/example/lampwork/lampwork/JfetResistor" = some m.cls := findClass_of_methodNamed Bd.named
  have hnm := (name_of_methodNamed Bd.named Bd.method).1
  have X0 : Stand p l e ({ frames := 1, cells := 0, slots := 0, locals := 24 } : Room) s m #[(.double g), (.double d)] below meth c s₁ [] 0 0 := Stand.of_body Bd
  have e0 : s₁.heap = h0 := by rw [← hh, Bd.state]; rfl
  have N0 := Fr.nil n0
  obtain ⟨E0, hE0⟩ : ∃ zE : State, zE = s₁.setTop (entryFrame m #[(.double g), (.double d)] 6) := ⟨_, rfl⟩
  have k0 : own_G p e below E0 s₁ (mkF m 0 #[vd g, ss, vd d, ss, uu, uu] []) := fun tz kz => hE0 ▸ castTop (ef_rmN m g d) kz
  have k33 : own_G p e below E0 s₁ (mkF m 11 #[vd g, ss, vd d, ss, uu, uu] [(.double (FP.dneg d)), (.double (FP.dsub g d))]) := by
    intro tQ kk
    refine k0 tQ ?_
    refine XS.dloadN X0.here hx rfl (hb hby d_prog_14_method_4_code_0) rfl ?_
    refine XS.dconst0 X0.here hx rfl (hb hby d_prog_14_method_4_code_1) rfl ?_
    refine XS.dcmpS (v := (own_c (own_z d) (own_z FP.dconst0))) X0.here hx rfl (hb hby d_prog_14_method_4_code_2) rfl (own_cE .g (own_cmpz sd.1.noNaN own_n0)) ?_
    refine XS.ifNo X0.here hx rfl (hb hby d_prog_14_method_4_code_3) rfl (own_c_geN gd) ?_
    show Steps p.tables e below (s₁.setTop (mkF m 6 #[vd g, ss, vd d, ss, uu, uu] [])) tQ
    refine XS.dloadN X0.here hx rfl (hb hby d_prog_14_method_4_code_6) rfl ?_
    refine XS.dloadN X0.here hx rfl (hb hby d_prog_14_method_4_code_7) rfl ?_
    refine XS.dsubS X0.here hx rfl (hb hby d_prog_14_method_4_code_8) rfl (own_S.sub sg sd (by decide)).1.noNaN rfl ?_
    refine XS.dloadN X0.here hx rfl (hb hby d_prog_14_method_4_code_9) rfl ?_
    show Steps p.tables e below (s₁.setTop (mkF m 10 #[vd g, ss, vd d, ss, uu, uu] [(.double d), (.double (FP.dsub g d))])) tQ
    refine XS.dnegS X0.here hx rfl (hb hby d_prog_14_method_4_code_10) rfl rfl ?_
    exact kk
  clear k0
  obtain ⟨_, _, ⟨T34, L35, kc36, nc37⟩, -, X38, ⟨Lc39, hQ40, l41, y42, z43⟩, st44⟩ := Jvm.LawKit.callS X0 hx (y := mn0) hown (mvT hZ (tw18 hw)) (mvT hZ (tw5 hw)) (mvT hZ (tw6 hw)) (mvT hZ (tw7 hw)) (by decide) (backOf (W := 0) (rmP l Z a0 hw [] (FP.dsub g d) (FP.dneg d) h0 n0 Z0 (own_Ssub sg sd (by decide) (by decide)) sd.neg (own_dneg0 sd gd)) hZ (tw7 hw) (tw6 hw) (by decide) (by decide)) (g := (mkF m 11 #[vd g, ss, vd d, ss, uu, uu] [(.double (FP.dneg d)), (.double (FP.dsub g d))])) rfl (by rw [hml]; rfl) (argsL := [(.double (FP.dsub g d)), (.double (FP.dneg d))]) (rest := []) (lenOf pd_1 rfl) rfl (by show 2 * 0 + _ ≤ _; exact Nat.le_of_eq rfl) (hb hby d_prog_14_method_4_code_11) (fun _ _ => ⟨rfl, e0, (by decide : 0 + 0 ≤ _), (by decide : 0 + 0 ≤ _)⟩)
  dsimp only [Pt.U, Pt.locs, Pt.cells, Pt.slots] at X38 l41 y42 z43 st44 hQ40
  subst y42 z43
  obtain ⟨rfl, N45, e46⟩ := hQ40
  have N48 : Fr n0 L35 := by rw [l41]; exact Fr.app N0 N45
  clear l41 N45
  have k49 : own_G p e below E0 T34 (mkF m 14 #[vd g, ss, vd d, ss, uu, uu] [(.double (own_res (FP.dsub (FP.dsub g d) (13835105343078251102 : UInt64)) (FP.dneg d)))]) := fun tQ kk => k33 tQ (st44 _ kk)
  clear k33 st44
  obtain ⟨fs, hr, hrun, hended, hW, hsame⟩ := X38.leave (v := some (.double (own_res (FP.dsub (FP.dsub g d) (13835105343078251102 : UInt64)) (FP.dneg d)))) (fun h => by rw [Bd.returns] at h; cases h)
  have hrun0 := k49 _ (retOut X38 hx Bd.returns (t := .double) rfl (Or.inr (Or.inr (Or.inl ⟨rfl, rfl, _, rfl⟩))) (hb hby d_prog_14_method_4_code_14) hr)
  subst hE0
  refine ⟨_, _, hrun0, hrun, hended, _, _, rfl, ?_, ⟨_, rfl⟩, hW, hsame.mono (by decide) (by decide)⟩
  show QrmN Z g d h0 n0 _ T34.heap _
  rw [e46]
  exact ⟨rfl, N48, rfl⟩
def Qrm0 (Z : State) (p0 : Int32) (p1 : Int32) (p2 : Int32) (h0 : Heap) (n0 : Nat) (vQ : Option Value) (hQ : Heap) (LQ : List Loc) : Prop := vQ = some (.int (1 : Int32)) ∧ Fr n0 LQ
theorem ef_rm0 (m : MethodId) (p0 : Int32) (p1 : Int32) (p2 : Int32) : entryFrame m #[(.int p0), (.int p1), (.int p2)] maxLocals = mkF m 0 #[vi p0, vi p1, vi p2, uu, uu, uu, uu, uu, uu, uu, uu, uu, uu, uu, uu, uu, uu, uu, uu, uu, uu, uu, uu, uu, uu, uu, uu, uu] [] := by first | (simp [entryFrame, mkF, argsToLocals, Value.category, maxLocals]; done) | rfl
theorem pn_com_example_lampwork_lampwork_JfetResistorChannelResistancePinLaw : plainName "com/example/lampwork/lampwork/JfetResistorChannelResistancePinLaw" = true := by first | (simp [plainName, overriddenIn]; done) | decide +kernel
def tw0 {Z : State} {a0 : Array Value} (hw : ∀ d ∈ tables_1, d.before a0 Z = true) := hw _ (List.mem_of_getElem? (i := 0) rfl)
def tw1 {Z : State} {a0 : Array Value} (hw : ∀ d ∈ tables_1, d.before a0 Z = true) := hw _ (List.mem_of_getElem? (i := 1) rfl)
def tw2 {Z : State} {a0 : Array Value} (hw : ∀ d ∈ tables_1, d.before a0 Z = true) := hw _ (List.mem_of_getElem? (i := 2) rfl)
def tw3 {Z : State} {a0 : Array Value} (hw : ∀ d ∈ tables_1, d.before a0 Z = true) := hw _ (List.mem_of_getElem? (i := 3) rfl)
def tw11 {Z : State} {a0 : Array Value} (hw : ∀ d ∈ tables_1, d.before a0 Z = true) := hw _ (List.mem_of_getElem? (i := 11) rfl)
def tw4 {Z : State} {a0 : Array Value} (hw : ∀ d ∈ tables_1, d.before a0 Z = true) := hw _ (List.mem_of_getElem? (i := 4) rfl)
def tw10 {Z : State} {a0 : Array Value} (hw : ∀ d ∈ tables_1, d.before a0 Z = true) := hw _ (List.mem_of_getElem? (i := 10) rfl)
def tw15 {Z : State} {a0 : Array Value} (hw : ∀ d ∈ tables_1, d.before a0 Z = true) := hw _ (List.mem_of_getElem? (i := 15) rfl)
def tw16 {Z : State} {a0 : Array Value} (hw : ∀ d ∈ tables_1, d.before a0 Z = true) := hw _ (List.mem_of_getElem? (i := 16) rfl)
def tw17 {Z : State} {a0 : Array Value} (hw : ∀ d ∈ tables_1, d.before a0 Z = true) := hw _ (List.mem_of_getElem? (i := 17) rfl)
set_option maxRecDepth 65536 in
set_option maxHeartbeats 40000000 in
theorem rm0 (l : Launch) (Z : State) (a0 : Array Value) (hw : ∀ d ∈ tables_1, d.before a0 Z = true) (ws : List Jvm.Cond) (p0 : Int32) (p1 : Int32) (p2 : Int32) (h0 : Heap) (n0 : Nat) (Z0 : n0 ≤ h0.size)  :
    MetFree l x (head1 (Jvm.Cond.code x code maxLocals ret :: ws) room_1) (fun aA U => aA = #[(.int p0), (.int p1), (.int p2)] ∧ Z.Warmed39 U.vm ∧ U.heap = h0) (fun _ _ _ _ _ => True) (fun _ U o U' => ∃ vR LR, o = .returned vR ∧ Qrm0 Z p0 p1 p2 h0 n0 vR U'.heap LR ∧ FrameEnd U o U' LR 0 0) := by
  refine MetFree.of_bodySF (plainFor_of_name pn_com_example_lampwork_lampwork_JfetResistorChannelResistancePinLaw) hisR ?_
  intro p e s m args below meth c s₁ Bd hml0 hPre hKk
  obtain ⟨rfl, hZ, hh⟩ := hPre
  have hx := Bd.exec
  have hby := Bd.bytes
  skip
  have hml : c.maxLocals = 28 := hml0
  have hown : s.vm.findClass "com/example/lampwork/lampwork/JfetResistorChannelResistancePinLaw" = some m.cls := findClass_of_methodNamed Bd.named
  have hnm := (name_of_methodNamed Bd.named Bd.method).1
  have X0 : Stand p l e room_1 s m #[(.int p0), (.int p1), (.int p2)] below meth c s₁ [] 0 0 := Stand.of_body Bd
  have e0 : s₁.heap = h0 := by rw [← hh, Bd.state]; rfl
  have N0 := Fr.nil n0
  obtain ⟨E0, hE0⟩ : ∃ zE : State, zE = s₁.setTop (entryFrame m #[(.int p0), (.int p1), (.int p2)] maxLocals) := ⟨_, rfl⟩
  have k0 : own_G p e below E0 s₁ (mkF m 0 #[vi p0, vi p1, vi p2, uu, uu, uu, uu, uu, uu, uu, uu, uu, uu, uu, uu, uu, uu, uu, uu, uu, uu, uu, uu, uu, uu, uu, uu, uu] []) := fun tz kz => hE0 ▸ castTop (ef_rm0 m p0 p1 p2) kz
  have st50 := X0.ldc2DoubleC hx hown (mvT hZ (tw0 hw)) (g := (mkF m 0 #[vi p0, vi p1, vi p2, uu, uu, uu, uu, uu, uu, uu, uu, uu, uu, uu, uu, uu, uu, uu, uu, uu, uu, uu, uu, uu, uu, uu, uu, uu] [])) rfl (hb hby at_0)
  have k51 : own_G p e below E0 s₁ (mkF m 3 #[vi p0, vi p1, vi p2, uu, uu, uu, uu, uu, uu, uu, uu, uu, uu, uu, uu, uu, uu, uu, uu, uu, uu, uu, uu, uu, uu, uu, uu, uu] [(.double (13835105343078251102 : UInt64))]) := fun tQ kk => k0 tQ (st50 _ kk)
  clear k0 st50
  have k52 : own_G p e below E0 s₁ (mkF m 4 #[vi p0, vi p1, vi p2, vd (13835105343078251102 : UInt64), ss, uu, uu, uu, uu, uu, uu, uu, uu, uu, uu, uu, uu, uu, uu, uu, uu, uu, uu, uu, uu, uu, uu, uu] []) := by
    intro tQ kk
    refine k51 tQ ?_
    refine XS.dstoreN X0.here hx rfl (hb hby at_3) rfl (l' := #[vi p0, vi p1, vi p2, vd (13835105343078251102 : UInt64), ss, uu, uu, uu, uu, uu, uu, uu, uu, uu, uu, uu, uu, uu, uu, uu, uu, uu, uu, uu, uu, uu, uu, uu]) rfl ?_
    exact kk
  clear k51
  have st53 := X0.ldc2DoubleC hx hown (mvT hZ (tw1 hw)) (g := (mkF m 4 #[vi p0, vi p1, vi p2, vd (13835105343078251102 : UInt64), ss, uu, uu, uu, uu, uu, uu, uu, uu, uu, uu, uu, uu, uu, uu, uu, uu, uu, uu, uu, uu, uu, uu, uu] [])) rfl (hb hby at_4)
  have k54 : own_G p e below E0 s₁ (mkF m 7 #[vi p0, vi p1, vi p2, vd (13835105343078251102 : UInt64), ss, uu, uu, uu, uu, uu, uu, uu, uu, uu, uu, uu, uu, uu, uu, uu, uu, uu, uu, uu, uu, uu, uu, uu] [(.double (4572837751868907892 : UInt64))]) := fun tQ kk => k52 tQ (st53 _ kk)
  clear k52 st53
  have k55 : own_G p e below E0 s₁ (mkF m 9 #[vi p0, vi p1, vi p2, vd (13835105343078251102 : UInt64), ss, vd (4572837751868907892 : UInt64), ss, uu, uu, uu, uu, uu, uu, uu, uu, uu, uu, uu, uu, uu, uu, uu, uu, uu, uu, uu, uu, uu] []) := by
    intro tQ kk
    refine k54 tQ ?_
    refine XS.dstore X0.here hx rfl (hb hby at_7) rfl (l' := #[vi p0, vi p1, vi p2, vd (13835105343078251102 : UInt64), ss, vd (4572837751868907892 : UInt64), ss, uu, uu, uu, uu, uu, uu, uu, uu, uu, uu, uu, uu, uu, uu, uu, uu, uu, uu, uu, uu, uu]) rfl ?_
    exact kk
  clear k54
  have st56 := X0.ldc2DoubleC hx hown (mvT hZ (tw2 hw)) (g := (mkF m 9 #[vi p0, vi p1, vi p2, vd (13835105343078251102 : UInt64), ss, vd (4572837751868907892 : UInt64), ss, uu, uu, uu, uu, uu, uu, uu, uu, uu, uu, uu, uu, uu, uu, uu, uu, uu, uu, uu, uu, uu] [])) rfl (hb hby at_9)
  have k57 : own_G p e below E0 s₁ (mkF m 12 #[vi p0, vi p1, vi p2, vd (13835105343078251102 : UInt64), ss, vd (4572837751868907892 : UInt64), ss, uu, uu, uu, uu, uu, uu, uu, uu, uu, uu, uu, uu, uu, uu, uu, uu, uu, uu, uu, uu, uu] [(.double (4571261708172110332 : UInt64))]) := fun tQ kk => k55 tQ (st56 _ kk)
  clear k55 st56
  have k58 : own_G p e below E0 s₁ (mkF m 25 #[vi p0, vi p1, vi p2, vd (13835105343078251102 : UInt64), ss, vd (4572837751868907892 : UInt64), ss, vd (4571261708172110332 : UInt64), ss, vi (p2 &&& (3 : Int32)), uu, uu, uu, uu, uu, uu, uu, uu, uu, uu, uu, uu, uu, uu, uu, uu, uu, uu] [(.double (FP.i2d (p0 % (4096 : Int32))))]) := by
    intro tQ kk
    refine k57 tQ ?_
    refine XS.dstore X0.here hx rfl (hb hby at_12) rfl (l' := #[vi p0, vi p1, vi p2, vd (13835105343078251102 : UInt64), ss, vd (4572837751868907892 : UInt64), ss, vd (4571261708172110332 : UInt64), ss, uu, uu, uu, uu, uu, uu, uu, uu, uu, uu, uu, uu, uu, uu, uu, uu, uu, uu, uu]) rfl ?_
    refine XS.iloadN X0.here hx rfl (hb hby at_14) rfl ?_
    refine XS.iconst X0.here hx rfl (hb hby at_15) ?_
    refine XS.iand X0.here hx rfl (hb hby at_16) rfl ?_
    show Steps p.tables e below (s₁.setTop (mkF m 17 #[vi p0, vi p1, vi p2, vd (13835105343078251102 : UInt64), ss, vd (4572837751868907892 : UInt64), ss, vd (4571261708172110332 : UInt64), ss, uu, uu, uu, uu, uu, uu, uu, uu, uu, uu, uu, uu, uu, uu, uu, uu, uu, uu, uu] [(.int (p2 &&& (3 : Int32)))])) tQ
    refine XS.istore X0.here hx rfl (hb hby at_17) rfl (l' := #[vi p0, vi p1, vi p2, vd (13835105343078251102 : UInt64), ss, vd (4572837751868907892 : UInt64), ss, vd (4571261708172110332 : UInt64), ss, vi (p2 &&& (3 : Int32)), uu, uu, uu, uu, uu, uu, uu, uu, uu, uu, uu, uu, uu, uu, uu, uu, uu, uu]) rfl ?_
    refine XS.iloadN X0.here hx rfl (hb hby at_19) rfl ?_
    refine XS.sipush X0.here hx rfl (hb hby at_20) ?_
    refine iremM X0 hx rfl (hb hby at_23) rfl (by decide) ?_
    show Steps p.tables e below (s₁.setTop (mkF m 24 #[vi p0, vi p1, vi p2, vd (13835105343078251102 : UInt64), ss, vd (4572837751868907892 : UInt64), ss, vd (4571261708172110332 : UInt64), ss, vi (p2 &&& (3 : Int32)), uu, uu, uu, uu, uu, uu, uu, uu, uu, uu, uu, uu, uu, uu, uu, uu, uu, uu] [(.int (p0 % (4096 : Int32)))])) tQ
    refine XS.i2dS X0.here hx rfl (hb hby at_24) rfl rfl ?_
    exact kk
  clear k57
  have st59 := X0.ldc2DoubleC hx hown (mvT hZ (tw3 hw)) (g := (mkF m 25 #[vi p0, vi p1, vi p2, vd (13835105343078251102 : UInt64), ss, vd (4572837751868907892 : UInt64), ss, vd (4571261708172110332 : UInt64), ss, vi (p2 &&& (3 : Int32)), uu, uu, uu, uu, uu, uu, uu, uu, uu, uu, uu, uu, uu, uu, uu, uu, uu, uu] [(.double (FP.i2d (p0 % (4096 : Int32))))])) rfl (hb hby at_25)
  have k60 : own_G p e below E0 s₁ (mkF m 28 #[vi p0, vi p1, vi p2, vd (13835105343078251102 : UInt64), ss, vd (4572837751868907892 : UInt64), ss, vd (4571261708172110332 : UInt64), ss, vi (p2 &&& (3 : Int32)), uu, uu, uu, uu, uu, uu, uu, uu, uu, uu, uu, uu, uu, uu, uu, uu, uu, uu] [(.double (4643211215818981376 : UInt64)), (.double (FP.i2d (p0 % (4096 : Int32))))]) := fun tQ kk => k58 tQ (st59 _ kk)
  clear k58 st59
  obtain ⟨g0, hg⟩ : ∃ vA, FP.ddiv (FP.i2d (p0 % (4096 : Int32))) (4643211215818981376 : UInt64) = vA := ⟨_, rfl⟩
  have k61 : own_G p e below E0 s₁ (mkF m 37 #[vi p0, vi p1, vi p2, vd (13835105343078251102 : UInt64), ss, vd (4572837751868907892 : UInt64), ss, vd (4571261708172110332 : UInt64), ss, vi (p2 &&& (3 : Int32)), vd g0, ss, uu, uu, uu, uu, uu, uu, uu, uu, uu, uu, uu, uu, uu, uu, uu, uu] [(.double (FP.i2d (p1 % (4096 : Int32))))]) := by
    intro tQ kk
    refine k60 tQ ?_
    refine XS.ddivS X0.here hx rfl (hb hby at_28) rfl (own_gn _) hg ?_
    refine XS.dstore X0.here hx rfl (hb hby at_29) rfl (l' := #[vi p0, vi p1, vi p2, vd (13835105343078251102 : UInt64), ss, vd (4572837751868907892 : UInt64), ss, vd (4571261708172110332 : UInt64), ss, vi (p2 &&& (3 : Int32)), vd g0, ss, uu, uu, uu, uu, uu, uu, uu, uu, uu, uu, uu, uu, uu, uu, uu, uu]) rfl ?_
    refine XS.iloadN X0.here hx rfl (hb hby at_31) rfl ?_
    refine XS.sipush X0.here hx rfl (hb hby at_32) ?_
    show Steps p.tables e below (s₁.setTop (mkF m 35 #[vi p0, vi p1, vi p2, vd (13835105343078251102 : UInt64), ss, vd (4572837751868907892 : UInt64), ss, vd (4571261708172110332 : UInt64), ss, vi (p2 &&& (3 : Int32)), vd g0, ss, uu, uu, uu, uu, uu, uu, uu, uu, uu, uu, uu, uu, uu, uu, uu, uu] [(.int (4096 : Int32)), (.int p1)])) tQ
    refine iremM X0 hx rfl (hb hby at_35) rfl (by decide) ?_
    refine XS.i2dS X0.here hx rfl (hb hby at_36) rfl rfl ?_
    exact kk
  clear k60
  have st62 := X0.ldc2DoubleC hx hown (mvT hZ (tw3 hw)) (g := (mkF m 37 #[vi p0, vi p1, vi p2, vd (13835105343078251102 : UInt64), ss, vd (4572837751868907892 : UInt64), ss, vd (4571261708172110332 : UInt64), ss, vi (p2 &&& (3 : Int32)), vd g0, ss, uu, uu, uu, uu, uu, uu, uu, uu, uu, uu, uu, uu, uu, uu, uu, uu] [(.double (FP.i2d (p1 % (4096 : Int32))))])) rfl (hb hby at_37)
  have k63 : own_G p e below E0 s₁ (mkF m 40 #[vi p0, vi p1, vi p2, vd (13835105343078251102 : UInt64), ss, vd (4572837751868907892 : UInt64), ss, vd (4571261708172110332 : UInt64), ss, vi (p2 &&& (3 : Int32)), vd g0, ss, uu, uu, uu, uu, uu, uu, uu, uu, uu, uu, uu, uu, uu, uu, uu, uu] [(.double (4643211215818981376 : UInt64)), (.double (FP.i2d (p1 % (4096 : Int32))))]) := fun tQ kk => k61 tQ (st62 _ kk)
  clear k61 st62
  obtain ⟨d0, hd⟩ : ∃ vA, FP.ddiv (FP.i2d (p1 % (4096 : Int32))) (4643211215818981376 : UInt64) = vA := ⟨_, rfl⟩
  have k64 : own_G p e below E0 s₁ (mkF m 43 #[vi p0, vi p1, vi p2, vd (13835105343078251102 : UInt64), ss, vd (4572837751868907892 : UInt64), ss, vd (4571261708172110332 : UInt64), ss, vi (p2 &&& (3 : Int32)), vd g0, ss, vd d0, ss, uu, uu, uu, uu, uu, uu, uu, uu, uu, uu, uu, uu, uu, uu] []) := by
    intro tQ kk
    refine k63 tQ ?_
    refine XS.ddivS X0.here hx rfl (hb hby at_40) rfl (own_gn _) hd ?_
    refine XS.dstore X0.here hx rfl (hb hby at_41) rfl (l' := #[vi p0, vi p1, vi p2, vd (13835105343078251102 : UInt64), ss, vd (4572837751868907892 : UInt64), ss, vd (4571261708172110332 : UInt64), ss, vi (p2 &&& (3 : Int32)), vd g0, ss, vd d0, ss, uu, uu, uu, uu, uu, uu, uu, uu, uu, uu, uu, uu, uu, uu]) rfl ?_
    exact kk
  clear k63
  have jn79 : ∃ (gq : UInt64), ∃ (dq : UInt64), (own_S 20 gq ∧ own_S 40 dq) ∧ (own_G p e below E0 s₁ (mkF m 81 #[vi p0, vi p1, vi p2, vd (13835105343078251102 : UInt64), ss, vd (4572837751868907892 : UInt64), ss, vd (4571261708172110332 : UInt64), ss, vi (p2 &&& (3 : Int32)), vd gq, ss, vd dq, ss, uu, uu, uu, uu, uu, uu, uu, uu, uu, uu, uu, uu, uu, uu] [])) := by
    have k65 : own_G p e below E0 s₁ (mkF m 46 #[vi p0, vi p1, vi p2, vd (13835105343078251102 : UInt64), ss, vd (4572837751868907892 : UInt64), ss, vd (4571261708172110332 : UInt64), ss, vi (p2 &&& (3 : Int32)), vd g0, ss, vd d0, ss, uu, uu, uu, uu, uu, uu, uu, uu, uu, uu, uu, uu, uu, uu] [(.int (1 : Int32)), (.int (p2 &&& (3 : Int32)))]) := by
      intro tQ kk
      refine k64 tQ ?_
      refine XS.iload X0.here hx rfl (hb hby at_43) rfl ?_
      refine XS.iconst X0.here hx rfl (hb hby at_45) ?_
      exact kk
    clear k64
    by_cases c66 : (p2 &&& (3 : Int32)) = (1 : Int32)
    · skip
      have k67 : own_G p e below E0 s₁ (mkF m 81 #[vi p0, vi p1, vi p2, vd (13835105343078251102 : UInt64), ss, vd (4572837751868907892 : UInt64), ss, vd (4571261708172110332 : UInt64), ss, vi (p2 &&& (3 : Int32)), vd g0, ss, vd (FP.dsub g0 (13835105343078251102 : UInt64)), ss, uu, uu, uu, uu, uu, uu, uu, uu, uu, uu, uu, uu, uu, uu] []) := by
        intro tQ kk
        refine k65 tQ ?_
        refine XS.icmpNo X0.here hx rfl (hb hby at_46) rfl (own_ic_neN c66) ?_
        refine XS.dload X0.here hx rfl (hb hby at_49) rfl ?_
        refine XS.dloadN X0.here hx rfl (hb hby at_51) rfl ?_
        refine XS.dsubS X0.here hx rfl (hb hby at_52) rfl (own_S.sub (own_Sg hg) own_Sp (by decide)).1.noNaN rfl ?_
        show Steps p.tables e below (s₁.setTop (mkF m 53 #[vi p0, vi p1, vi p2, vd (13835105343078251102 : UInt64), ss, vd (4572837751868907892 : UInt64), ss, vd (4571261708172110332 : UInt64), ss, vi (p2 &&& (3 : Int32)), vd g0, ss, vd d0, ss, uu, uu, uu, uu, uu, uu, uu, uu, uu, uu, uu, uu, uu, uu] [(.double (FP.dsub g0 (13835105343078251102 : UInt64)))])) tQ
        refine XS.dstore X0.here hx rfl (hb hby at_53) rfl (l' := #[vi p0, vi p1, vi p2, vd (13835105343078251102 : UInt64), ss, vd (4572837751868907892 : UInt64), ss, vd (4571261708172110332 : UInt64), ss, vi (p2 &&& (3 : Int32)), vd g0, ss, vd (FP.dsub g0 (13835105343078251102 : UInt64)), ss, uu, uu, uu, uu, uu, uu, uu, uu, uu, uu, uu, uu, uu, uu]) rfl ?_
        refine XS.goto X0.here hx rfl (pc0 := 55) (pc' := 81) rfl (hb hby at_55) (by decide) (by decide) ?_
        exact kk
      clear k65
      exact ⟨g0, (FP.dsub g0 (13835105343078251102 : UInt64)), (⟨(own_Sg hg), ((own_S.sub (own_Sg hg) own_Sp (by decide)).mono (by decide))⟩), k67⟩
    · skip
      have k68 : own_G p e below E0 s₁ (mkF m 61 #[vi p0, vi p1, vi p2, vd (13835105343078251102 : UInt64), ss, vd (4572837751868907892 : UInt64), ss, vd (4571261708172110332 : UInt64), ss, vi (p2 &&& (3 : Int32)), vd g0, ss, vd d0, ss, uu, uu, uu, uu, uu, uu, uu, uu, uu, uu, uu, uu, uu, uu] [(.int (2 : Int32)), (.int (p2 &&& (3 : Int32)))]) := by
        intro tQ kk
        refine k65 tQ ?_
        refine XS.icmpYes X0.here hx rfl (pc0 := 46) (pc' := 58) rfl (hb hby at_46) rfl (own_ic_neY c66) (by decide) (by decide) ?_
        refine XS.iload X0.here hx rfl (hb hby at_58) rfl ?_
        refine XS.iconst X0.here hx rfl (hb hby at_60) ?_
        exact kk
      clear k65
      by_cases c69 : (p2 &&& (3 : Int32)) = (2 : Int32)
      · skip
        have k70 : own_G p e below E0 s₁ (mkF m 81 #[vi p0, vi p1, vi p2, vd (13835105343078251102 : UInt64), ss, vd (4572837751868907892 : UInt64), ss, vd (4571261708172110332 : UInt64), ss, vi (p2 &&& (3 : Int32)), vd (13835105343078251102 : UInt64), ss, vd d0, ss, uu, uu, uu, uu, uu, uu, uu, uu, uu, uu, uu, uu, uu, uu] []) := by
          intro tQ kk
          refine k68 tQ ?_
          refine XS.icmpNo X0.here hx rfl (hb hby at_61) rfl (own_ic_neN c69) ?_
          refine XS.dloadN X0.here hx rfl (hb hby at_64) rfl ?_
          refine XS.dstore X0.here hx rfl (hb hby at_65) rfl (l' := #[vi p0, vi p1, vi p2, vd (13835105343078251102 : UInt64), ss, vd (4572837751868907892 : UInt64), ss, vd (4571261708172110332 : UInt64), ss, vi (p2 &&& (3 : Int32)), vd (13835105343078251102 : UInt64), ss, vd d0, ss, uu, uu, uu, uu, uu, uu, uu, uu, uu, uu, uu, uu, uu, uu]) rfl ?_
          refine XS.goto X0.here hx rfl (pc0 := 67) (pc' := 81) rfl (hb hby at_67) (by decide) (by decide) ?_
          exact kk
        clear k68
        exact ⟨(13835105343078251102 : UInt64), d0, (⟨own_Sp20, ((own_Sg hd).mono (by decide))⟩), k70⟩
      · skip
        have k71 : own_G p e below E0 s₁ (mkF m 73 #[vi p0, vi p1, vi p2, vd (13835105343078251102 : UInt64), ss, vd (4572837751868907892 : UInt64), ss, vd (4571261708172110332 : UInt64), ss, vi (p2 &&& (3 : Int32)), vd g0, ss, vd d0, ss, uu, uu, uu, uu, uu, uu, uu, uu, uu, uu, uu, uu, uu, uu] [(.int (3 : Int32)), (.int (p2 &&& (3 : Int32)))]) := by
          intro tQ kk
          refine k68 tQ ?_
          refine XS.icmpYes X0.here hx rfl (pc0 := 61) (pc' := 70) rfl (hb hby at_61) rfl (own_ic_neY c69) (by decide) (by decide) ?_
          refine XS.iload X0.here hx rfl (hb hby at_70) rfl ?_
          refine XS.iconst X0.here hx rfl (hb hby at_72) ?_
          exact kk
        clear k68
        by_cases c72 : (p2 &&& (3 : Int32)) = (3 : Int32)
        · skip
          have k73 : own_G p e below E0 s₁ (mkF m 76 #[vi p0, vi p1, vi p2, vd (13835105343078251102 : UInt64), ss, vd (4572837751868907892 : UInt64), ss, vd (4571261708172110332 : UInt64), ss, vi (p2 &&& (3 : Int32)), vd g0, ss, vd d0, ss, uu, uu, uu, uu, uu, uu, uu, uu, uu, uu, uu, uu, uu, uu] []) := by
            intro tQ kk
            refine k71 tQ ?_
            refine XS.icmpNo X0.here hx rfl (hb hby at_73) rfl (own_ic_neN c72) ?_
            exact kk
          clear k71
          have st74 := X0.ldc2DoubleC hx hown (mvT hZ (tw11 hw)) (g := (mkF m 76 #[vi p0, vi p1, vi p2, vd (13835105343078251102 : UInt64), ss, vd (4572837751868907892 : UInt64), ss, vd (4571261708172110332 : UInt64), ss, vi (p2 &&& (3 : Int32)), vd g0, ss, vd d0, ss, uu, uu, uu, uu, uu, uu, uu, uu, uu, uu, uu, uu, uu, uu] [])) rfl (hb hby at_76)
          have k75 : own_G p e below E0 s₁ (mkF m 79 #[vi p0, vi p1, vi p2, vd (13835105343078251102 : UInt64), ss, vd (4572837751868907892 : UInt64), ss, vd (4571261708172110332 : UInt64), ss, vi (p2 &&& (3 : Int32)), vd g0, ss, vd d0, ss, uu, uu, uu, uu, uu, uu, uu, uu, uu, uu, uu, uu, uu, uu] [(.double (9223372036854775808 : UInt64))]) := fun tQ kk => k73 tQ (st74 _ kk)
          clear k73 st74
          have k76 : own_G p e below E0 s₁ (mkF m 81 #[vi p0, vi p1, vi p2, vd (13835105343078251102 : UInt64), ss, vd (4572837751868907892 : UInt64), ss, vd (4571261708172110332 : UInt64), ss, vi (p2 &&& (3 : Int32)), vd g0, ss, vd (9223372036854775808 : UInt64), ss, uu, uu, uu, uu, uu, uu, uu, uu, uu, uu, uu, uu, uu, uu] []) := by
            intro tQ kk
            refine k75 tQ ?_
            refine XS.dstore X0.here hx rfl (hb hby at_79) rfl (l' := #[vi p0, vi p1, vi p2, vd (13835105343078251102 : UInt64), ss, vd (4572837751868907892 : UInt64), ss, vd (4571261708172110332 : UInt64), ss, vi (p2 &&& (3 : Int32)), vd g0, ss, vd (9223372036854775808 : UInt64), ss, uu, uu, uu, uu, uu, uu, uu, uu, uu, uu, uu, uu, uu, uu]) rfl ?_
            exact kk
          clear k75
          exact ⟨g0, (9223372036854775808 : UInt64), (⟨(own_Sg hg), own_Sz⟩), k76⟩
        · skip
          have k77 : own_G p e below E0 s₁ (mkF m 81 #[vi p0, vi p1, vi p2, vd (13835105343078251102 : UInt64), ss, vd (4572837751868907892 : UInt64), ss, vd (4571261708172110332 : UInt64), ss, vi (p2 &&& (3 : Int32)), vd g0, ss, vd d0, ss, uu, uu, uu, uu, uu, uu, uu, uu, uu, uu, uu, uu, uu, uu] []) := by
            intro tQ kk
            refine k71 tQ ?_
            refine XS.icmpYes X0.here hx rfl (pc0 := 73) (pc' := 81) rfl (hb hby at_73) rfl (own_ic_neY c72) (by decide) (by decide) ?_
            exact kk
          clear k71
          exact ⟨g0, d0, (⟨(own_Sg hg), ((own_Sg hd).mono (by decide))⟩), k77⟩
  obtain ⟨gq, dq, hD80, k78⟩ := jn79
  obtain ⟨sg, sd⟩ := hD80
  have jn123 : ∃ (T117 : State), ∃ (L120 : List Loc), ∃ (rr : UInt64), ∃ (gg : UInt64), ∃ (dd : UInt64), (own_S 60 gg ∧ own_S 40 dd ∧ ¬ own_z dd < (own_z FP.dconst0) ∧ rr = own_res (FP.dsub gg (13835105343078251102 : UInt64)) dd) ∧ (Stand p l e room_1 s m #[(.int p0), (.int p1), (.int p2)] below meth c T117 L120 0 0) ∧ (T117.heap = h0) ∧ (Fr n0 L120) ∧ (own_G p e below E0 T117 (mkF m 117 #[vi p0, vi p1, vi p2, vd (13835105343078251102 : UInt64), ss, vd (4572837751868907892 : UInt64), ss, vd (4571261708172110332 : UInt64), ss, vi (p2 &&& (3 : Int32)), vd gq, ss, vd dq, ss, vd rr, ss, vd gg, ss, vd dd, ss, uu, uu, uu, uu, uu, uu, uu, uu] [])) := by
    rcases (Decidable.em (own_z dq < (own_z FP.dconst0))) with cd | cd
    · skip
      have k81 : own_G p e below E0 s₁ (mkF m 85 #[vi p0, vi p1, vi p2, vd (13835105343078251102 : UInt64), ss, vd (4572837751868907892 : UInt64), ss, vd (4571261708172110332 : UInt64), ss, vi (p2 &&& (3 : Int32)), vd gq, ss, vd dq, ss, uu, uu, uu, uu, uu, uu, uu, uu, uu, uu, uu, uu, uu, uu] [(.double dq), (.double gq)]) := by
        intro tQ kk
        refine k78 tQ ?_
        refine XS.dload X0.here hx rfl (hb hby at_81) rfl ?_
        refine XS.dload X0.here hx rfl (hb hby at_83) rfl ?_
        exact kk
      clear k78
      obtain ⟨_, _, ⟨T82, L83, kc84, nc85⟩, -, X86, ⟨Lc87, hQ88, l89, y90, z91⟩, st92⟩ := Jvm.LawKit.callS X0 hx (y := mn0) hown (mvT hZ (tw4 hw)) (mvT hZ (tw5 hw)) (mvT hZ (tw6 hw)) (mvT hZ (tw7 hw)) (by decide) (backOf (W := 0) (rmN l Z a0 hw [] gq dq h0 n0 Z0 sg sd cd) hZ (tw7 hw) (tw6 hw) (by decide) (by decide)) (g := (mkF m 85 #[vi p0, vi p1, vi p2, vd (13835105343078251102 : UInt64), ss, vd (4572837751868907892 : UInt64), ss, vd (4571261708172110332 : UInt64), ss, vi (p2 &&& (3 : Int32)), vd gq, ss, vd dq, ss, uu, uu, uu, uu, uu, uu, uu, uu, uu, uu, uu, uu, uu, uu] [(.double dq), (.double gq)])) rfl (by rw [hml]; rfl) (argsL := [(.double gq), (.double dq)]) (rest := []) (lenOf pd_1 rfl) rfl (by show 2 * 0 + _ ≤ _; exact Nat.le_of_eq rfl) (hb hby at_85) (fun _ _ => ⟨rfl, e0, (by decide : 0 + 0 ≤ _), (by decide : 0 + 0 ≤ _)⟩)
      dsimp only [Pt.U, Pt.locs, Pt.cells, Pt.slots] at X86 l89 y90 z91 st92 hQ88
      subst y90 z91
      obtain ⟨rfl, N93, e94⟩ := hQ88
      have N96 : Fr n0 L83 := by rw [l89]; exact Fr.app N0 N93
      clear l89 N93
      have k97 : own_G p e below E0 T82 (mkF m 88 #[vi p0, vi p1, vi p2, vd (13835105343078251102 : UInt64), ss, vd (4572837751868907892 : UInt64), ss, vd (4571261708172110332 : UInt64), ss, vi (p2 &&& (3 : Int32)), vd gq, ss, vd dq, ss, uu, uu, uu, uu, uu, uu, uu, uu, uu, uu, uu, uu, uu, uu] [(.double (own_res (FP.dsub (FP.dsub gq dq) (13835105343078251102 : UInt64)) (FP.dneg dq)))]) := fun tQ kk => k81 tQ (st92 _ kk)
      clear k81 st92
      have k98 : own_G p e below E0 T82 (mkF m 117 #[vi p0, vi p1, vi p2, vd (13835105343078251102 : UInt64), ss, vd (4572837751868907892 : UInt64), ss, vd (4571261708172110332 : UInt64), ss, vi (p2 &&& (3 : Int32)), vd gq, ss, vd dq, ss, vd (own_res (FP.dsub (FP.dsub gq dq) (13835105343078251102 : UInt64)) (FP.dneg dq)), ss, vd (FP.dsub gq dq), ss, vd (FP.dneg dq), ss, uu, uu, uu, uu, uu, uu, uu, uu] []) := by
        intro tQ kk
        refine k97 tQ ?_
        refine XS.dstore X86.here hx rfl (hb hby at_88) rfl (l' := #[vi p0, vi p1, vi p2, vd (13835105343078251102 : UInt64), ss, vd (4572837751868907892 : UInt64), ss, vd (4571261708172110332 : UInt64), ss, vi (p2 &&& (3 : Int32)), vd gq, ss, vd dq, ss, vd (own_res (FP.dsub (FP.dsub gq dq) (13835105343078251102 : UInt64)) (FP.dneg dq)), ss, uu, uu, uu, uu, uu, uu, uu, uu, uu, uu, uu, uu]) rfl ?_
        refine XS.dload X86.here hx rfl (hb hby at_90) rfl ?_
        refine XS.dstore X86.here hx rfl (hb hby at_92) rfl (l' := #[vi p0, vi p1, vi p2, vd (13835105343078251102 : UInt64), ss, vd (4572837751868907892 : UInt64), ss, vd (4571261708172110332 : UInt64), ss, vi (p2 &&& (3 : Int32)), vd gq, ss, vd dq, ss, vd (own_res (FP.dsub (FP.dsub gq dq) (13835105343078251102 : UInt64)) (FP.dneg dq)), ss, vd gq, ss, uu, uu, uu, uu, uu, uu, uu, uu, uu, uu]) rfl ?_
        refine XS.dload X86.here hx rfl (hb hby at_94) rfl ?_
        show Steps p.tables e below (T82.setTop (mkF m 96 #[vi p0, vi p1, vi p2, vd (13835105343078251102 : UInt64), ss, vd (4572837751868907892 : UInt64), ss, vd (4571261708172110332 : UInt64), ss, vi (p2 &&& (3 : Int32)), vd gq, ss, vd dq, ss, vd (own_res (FP.dsub (FP.dsub gq dq) (13835105343078251102 : UInt64)) (FP.dneg dq)), ss, vd gq, ss, uu, uu, uu, uu, uu, uu, uu, uu, uu, uu] [(.double dq)])) tQ
        refine XS.dstore X86.here hx rfl (hb hby at_96) rfl (l' := #[vi p0, vi p1, vi p2, vd (13835105343078251102 : UInt64), ss, vd (4572837751868907892 : UInt64), ss, vd (4571261708172110332 : UInt64), ss, vi (p2 &&& (3 : Int32)), vd gq, ss, vd dq, ss, vd (own_res (FP.dsub (FP.dsub gq dq) (13835105343078251102 : UInt64)) (FP.dneg dq)), ss, vd gq, ss, vd dq, ss, uu, uu, uu, uu, uu, uu, uu, uu]) rfl ?_
        refine XS.dload X86.here hx rfl (hb hby at_98) rfl ?_
        refine XS.dconst0 X86.here hx rfl (hb hby at_100) rfl ?_
        refine XS.dcmpS (v := (own_c (own_z dq) (own_z FP.dconst0))) X86.here hx rfl (hb hby at_101) rfl (own_cE .g (own_cmpz sd.1.noNaN own_n0)) ?_
        show Steps p.tables e below (T82.setTop (mkF m 102 #[vi p0, vi p1, vi p2, vd (13835105343078251102 : UInt64), ss, vd (4572837751868907892 : UInt64), ss, vd (4571261708172110332 : UInt64), ss, vi (p2 &&& (3 : Int32)), vd gq, ss, vd dq, ss, vd (own_res (FP.dsub (FP.dsub gq dq) (13835105343078251102 : UInt64)) (FP.dneg dq)), ss, vd gq, ss, vd dq, ss, uu, uu, uu, uu, uu, uu, uu, uu] [(.int (own_c (own_z dq) (own_z FP.dconst0)))])) tQ
        refine XS.ifNo X86.here hx rfl (hb hby at_102) rfl (own_c_geN cd) ?_
        refine XS.dload X86.here hx rfl (hb hby at_105) rfl ?_
        refine XS.dload X86.here hx rfl (hb hby at_107) rfl ?_
        refine XS.dsubS X86.here hx rfl (hb hby at_109) rfl (own_S.sub sg sd (by decide)).1.noNaN rfl ?_
        show Steps p.tables e below (T82.setTop (mkF m 110 #[vi p0, vi p1, vi p2, vd (13835105343078251102 : UInt64), ss, vd (4572837751868907892 : UInt64), ss, vd (4571261708172110332 : UInt64), ss, vi (p2 &&& (3 : Int32)), vd gq, ss, vd dq, ss, vd (own_res (FP.dsub (FP.dsub gq dq) (13835105343078251102 : UInt64)) (FP.dneg dq)), ss, vd gq, ss, vd dq, ss, uu, uu, uu, uu, uu, uu, uu, uu] [(.double (FP.dsub gq dq))])) tQ
        refine XS.dstore X86.here hx rfl (hb hby at_110) rfl (l' := #[vi p0, vi p1, vi p2, vd (13835105343078251102 : UInt64), ss, vd (4572837751868907892 : UInt64), ss, vd (4571261708172110332 : UInt64), ss, vi (p2 &&& (3 : Int32)), vd gq, ss, vd dq, ss, vd (own_res (FP.dsub (FP.dsub gq dq) (13835105343078251102 : UInt64)) (FP.dneg dq)), ss, vd (FP.dsub gq dq), ss, vd dq, ss, uu, uu, uu, uu, uu, uu, uu, uu]) rfl ?_
        refine XS.dload X86.here hx rfl (hb hby at_112) rfl ?_
        refine XS.dnegS X86.here hx rfl (hb hby at_114) rfl rfl ?_
        refine XS.dstore X86.here hx rfl (hb hby at_115) rfl (l' := #[vi p0, vi p1, vi p2, vd (13835105343078251102 : UInt64), ss, vd (4572837751868907892 : UInt64), ss, vd (4571261708172110332 : UInt64), ss, vi (p2 &&& (3 : Int32)), vd gq, ss, vd dq, ss, vd (own_res (FP.dsub (FP.dsub gq dq) (13835105343078251102 : UInt64)) (FP.dneg dq)), ss, vd (FP.dsub gq dq), ss, vd (FP.dneg dq), ss, uu, uu, uu, uu, uu, uu, uu, uu]) rfl ?_
        exact kk
      clear k97
      exact ⟨T82, _, (own_res (FP.dsub (FP.dsub gq dq) (13835105343078251102 : UInt64)) (FP.dneg dq)), (FP.dsub gq dq), (FP.dneg dq), (⟨(own_Ssub sg sd (by decide) (by decide)), sd.neg, own_dneg0 sd cd, rfl⟩), X86, e94, N96, k98⟩
    · skip
      have k99 : own_G p e below E0 s₁ (mkF m 85 #[vi p0, vi p1, vi p2, vd (13835105343078251102 : UInt64), ss, vd (4572837751868907892 : UInt64), ss, vd (4571261708172110332 : UInt64), ss, vi (p2 &&& (3 : Int32)), vd gq, ss, vd dq, ss, uu, uu, uu, uu, uu, uu, uu, uu, uu, uu, uu, uu, uu, uu] [(.double dq), (.double gq)]) := by
        intro tQ kk
        refine k78 tQ ?_
        refine XS.dload X0.here hx rfl (hb hby at_81) rfl ?_
        refine XS.dload X0.here hx rfl (hb hby at_83) rfl ?_
        exact kk
      clear k78
      obtain ⟨_, _, ⟨T100, L101, kc102, nc103⟩, -, X104, ⟨Lc105, hQ106, l107, y108, z109⟩, st110⟩ := Jvm.LawKit.callS X0 hx (y := mn0) hown (mvT hZ (tw4 hw)) (mvT hZ (tw5 hw)) (mvT hZ (tw6 hw)) (mvT hZ (tw7 hw)) (by decide) (backOf (W := 0) (rmP l Z a0 hw [] gq dq h0 n0 Z0 (sg.mono (by decide)) sd cd) hZ (tw7 hw) (tw6 hw) (by decide) (by decide)) (g := (mkF m 85 #[vi p0, vi p1, vi p2, vd (13835105343078251102 : UInt64), ss, vd (4572837751868907892 : UInt64), ss, vd (4571261708172110332 : UInt64), ss, vi (p2 &&& (3 : Int32)), vd gq, ss, vd dq, ss, uu, uu, uu, uu, uu, uu, uu, uu, uu, uu, uu, uu, uu, uu] [(.double dq), (.double gq)])) rfl (by rw [hml]; rfl) (argsL := [(.double gq), (.double dq)]) (rest := []) (lenOf pd_1 rfl) rfl (by show 2 * 0 + _ ≤ _; exact Nat.le_of_eq rfl) (hb hby at_85) (fun _ _ => ⟨rfl, e0, (by decide : 0 + 0 ≤ _), (by decide : 0 + 0 ≤ _)⟩)
      dsimp only [Pt.U, Pt.locs, Pt.cells, Pt.slots] at X104 l107 y108 z109 st110 hQ106
      subst y108 z109
      obtain ⟨rfl, N111, e112⟩ := hQ106
      have N114 : Fr n0 L101 := by rw [l107]; exact Fr.app N0 N111
      clear l107 N111
      have k115 : own_G p e below E0 T100 (mkF m 88 #[vi p0, vi p1, vi p2, vd (13835105343078251102 : UInt64), ss, vd (4572837751868907892 : UInt64), ss, vd (4571261708172110332 : UInt64), ss, vi (p2 &&& (3 : Int32)), vd gq, ss, vd dq, ss, uu, uu, uu, uu, uu, uu, uu, uu, uu, uu, uu, uu, uu, uu] [(.double (own_res (FP.dsub gq (13835105343078251102 : UInt64)) dq))]) := fun tQ kk => k99 tQ (st110 _ kk)
      clear k99 st110
      have k116 : own_G p e below E0 T100 (mkF m 117 #[vi p0, vi p1, vi p2, vd (13835105343078251102 : UInt64), ss, vd (4572837751868907892 : UInt64), ss, vd (4571261708172110332 : UInt64), ss, vi (p2 &&& (3 : Int32)), vd gq, ss, vd dq, ss, vd (own_res (FP.dsub gq (13835105343078251102 : UInt64)) dq), ss, vd gq, ss, vd dq, ss, uu, uu, uu, uu, uu, uu, uu, uu] []) := by
        intro tQ kk
        refine k115 tQ ?_
        refine XS.dstore X104.here hx rfl (hb hby at_88) rfl (l' := #[vi p0, vi p1, vi p2, vd (13835105343078251102 : UInt64), ss, vd (4572837751868907892 : UInt64), ss, vd (4571261708172110332 : UInt64), ss, vi (p2 &&& (3 : Int32)), vd gq, ss, vd dq, ss, vd (own_res (FP.dsub gq (13835105343078251102 : UInt64)) dq), ss, uu, uu, uu, uu, uu, uu, uu, uu, uu, uu, uu, uu]) rfl ?_
        refine XS.dload X104.here hx rfl (hb hby at_90) rfl ?_
        refine XS.dstore X104.here hx rfl (hb hby at_92) rfl (l' := #[vi p0, vi p1, vi p2, vd (13835105343078251102 : UInt64), ss, vd (4572837751868907892 : UInt64), ss, vd (4571261708172110332 : UInt64), ss, vi (p2 &&& (3 : Int32)), vd gq, ss, vd dq, ss, vd (own_res (FP.dsub gq (13835105343078251102 : UInt64)) dq), ss, vd gq, ss, uu, uu, uu, uu, uu, uu, uu, uu, uu, uu]) rfl ?_
        refine XS.dload X104.here hx rfl (hb hby at_94) rfl ?_
        show Steps p.tables e below (T100.setTop (mkF m 96 #[vi p0, vi p1, vi p2, vd (13835105343078251102 : UInt64), ss, vd (4572837751868907892 : UInt64), ss, vd (4571261708172110332 : UInt64), ss, vi (p2 &&& (3 : Int32)), vd gq, ss, vd dq, ss, vd (own_res (FP.dsub gq (13835105343078251102 : UInt64)) dq), ss, vd gq, ss, uu, uu, uu, uu, uu, uu, uu, uu, uu, uu] [(.double dq)])) tQ
        refine XS.dstore X104.here hx rfl (hb hby at_96) rfl (l' := #[vi p0, vi p1, vi p2, vd (13835105343078251102 : UInt64), ss, vd (4572837751868907892 : UInt64), ss, vd (4571261708172110332 : UInt64), ss, vi (p2 &&& (3 : Int32)), vd gq, ss, vd dq, ss, vd (own_res (FP.dsub gq (13835105343078251102 : UInt64)) dq), ss, vd gq, ss, vd dq, ss, uu, uu, uu, uu, uu, uu, uu, uu]) rfl ?_
        refine XS.dload X104.here hx rfl (hb hby at_98) rfl ?_
        refine XS.dconst0 X104.here hx rfl (hb hby at_100) rfl ?_
        refine XS.dcmpS (v := (own_c (own_z dq) (own_z FP.dconst0))) X104.here hx rfl (hb hby at_101) rfl (own_cE .g (own_cmpz sd.1.noNaN own_n0)) ?_
        show Steps p.tables e below (T100.setTop (mkF m 102 #[vi p0, vi p1, vi p2, vd (13835105343078251102 : UInt64), ss, vd (4572837751868907892 : UInt64), ss, vd (4571261708172110332 : UInt64), ss, vi (p2 &&& (3 : Int32)), vd gq, ss, vd dq, ss, vd (own_res (FP.dsub gq (13835105343078251102 : UInt64)) dq), ss, vd gq, ss, vd dq, ss, uu, uu, uu, uu, uu, uu, uu, uu] [(.int (own_c (own_z dq) (own_z FP.dconst0)))])) tQ
        refine XS.ifYes X104.here hx rfl (pc0 := 102) (pc' := 117) rfl (hb hby at_102) rfl (own_c_geY cd) (by decide) (by decide) ?_
        exact kk
      clear k115
      exact ⟨T100, _, (own_res (FP.dsub gq (13835105343078251102 : UInt64)) dq), gq, dq, (⟨sg.mono (by decide), sd, cd, rfl⟩), X104, e112, N114, k116⟩
  obtain ⟨T117, L120, rr, gg, dd, hD124, X118, e119, N121, k122⟩ := jn123
  obtain ⟨sgg, sdd, gdd, hr⟩ := hD124
  have k125 : own_G p e below E0 T117 (mkF m 120 #[vi p0, vi p1, vi p2, vd (13835105343078251102 : UInt64), ss, vd (4572837751868907892 : UInt64), ss, vd (4571261708172110332 : UInt64), ss, vi (p2 &&& (3 : Int32)), vd gq, ss, vd dq, ss, vd rr, ss, vd gg, ss, vd dd, ss, uu, uu, uu, uu, uu, uu, uu, uu] [(.double (13835105343078251102 : UInt64)), (.double gg)]) := by
    intro tQ kk
    refine k122 tQ ?_
    refine XS.dload X118.here hx rfl (hb hby at_117) rfl ?_
    refine XS.dloadN X118.here hx rfl (hb hby at_119) rfl ?_
    exact kk
  clear k122
  obtain ⟨ov, hov⟩ : ∃ vA, FP.dsub gg (13835105343078251102 : UInt64) = vA := ⟨_, rfl⟩
  have sov := own_sov sgg hov
  have hrr : rr = own_res ov dd := by rw [hr, hov]
  have k126 : own_G p e below E0 T117 (mkF m 123 #[vi p0, vi p1, vi p2, vd (13835105343078251102 : UInt64), ss, vd (4572837751868907892 : UInt64), ss, vd (4571261708172110332 : UInt64), ss, vi (p2 &&& (3 : Int32)), vd gq, ss, vd dq, ss, vd rr, ss, vd gg, ss, vd dd, ss, vd ov, ss, uu, uu, uu, uu, uu, uu] []) := by
    intro tQ kk
    refine k125 tQ ?_
    refine XS.dsubS X118.here hx rfl (hb hby at_120) rfl (own_S.sub sgg own_Sp (by decide)).1.noNaN hov ?_
    refine XS.dstore X118.here hx rfl (hb hby at_121) rfl (l' := #[vi p0, vi p1, vi p2, vd (13835105343078251102 : UInt64), ss, vd (4572837751868907892 : UInt64), ss, vd (4571261708172110332 : UInt64), ss, vi (p2 &&& (3 : Int32)), vd gq, ss, vd dq, ss, vd rr, ss, vd gg, ss, vd dd, ss, vd ov, ss, uu, uu, uu, uu, uu, uu]) rfl ?_
    exact kk
  clear k125
  have st127 := X118.ldc2DoubleC hx hown (mvT hZ (tw10 hw)) (g := (mkF m 123 #[vi p0, vi p1, vi p2, vd (13835105343078251102 : UInt64), ss, vd (4572837751868907892 : UInt64), ss, vd (4571261708172110332 : UInt64), ss, vi (p2 &&& (3 : Int32)), vd gq, ss, vd dq, ss, vd rr, ss, vd gg, ss, vd dd, ss, vd ov, ss, uu, uu, uu, uu, uu, uu] [])) rfl (hb hby at_123)
  have k128 : own_G p e below E0 T117 (mkF m 126 #[vi p0, vi p1, vi p2, vd (13835105343078251102 : UInt64), ss, vd (4572837751868907892 : UInt64), ss, vd (4571261708172110332 : UInt64), ss, vi (p2 &&& (3 : Int32)), vd gq, ss, vd dq, ss, vd rr, ss, vd gg, ss, vd dd, ss, vd ov, ss, uu, uu, uu, uu, uu, uu] [(.double (9218868437227405312 : UInt64))]) := fun tQ kk => k126 tQ (st127 _ kk)
  clear k126 st127
  have k129 : own_G p e below E0 T117 (mkF m 132 #[vi p0, vi p1, vi p2, vd (13835105343078251102 : UInt64), ss, vd (4572837751868907892 : UInt64), ss, vd (4571261708172110332 : UInt64), ss, vi (p2 &&& (3 : Int32)), vd gq, ss, vd dq, ss, vd rr, ss, vd gg, ss, vd dd, ss, vd ov, ss, vd (9218868437227405312 : UInt64), ss, uu, uu, uu, uu] [(.int (own_c (own_z dd) (own_z FP.dconst0)))]) := by
    intro tQ kk
    refine k128 tQ ?_
    refine XS.dstore X118.here hx rfl (hb hby at_126) rfl (l' := #[vi p0, vi p1, vi p2, vd (13835105343078251102 : UInt64), ss, vd (4572837751868907892 : UInt64), ss, vd (4571261708172110332 : UInt64), ss, vi (p2 &&& (3 : Int32)), vd gq, ss, vd dq, ss, vd rr, ss, vd gg, ss, vd dd, ss, vd ov, ss, vd (9218868437227405312 : UInt64), ss, uu, uu, uu, uu]) rfl ?_
    refine XS.dload X118.here hx rfl (hb hby at_128) rfl ?_
    refine XS.dconst0 X118.here hx rfl (hb hby at_130) rfl ?_
    refine XS.dcmpS (v := (own_c (own_z dd) (own_z FP.dconst0))) X118.here hx rfl (hb hby at_131) rfl (own_cE .l (own_cmpz sdd.1.noNaN own_n0)) ?_
    exact kk
  clear k128
  by_cases cz : (own_z dd) = (own_z FP.dconst0)
  · skip
    have k131 : own_G p e below E0 T117 (mkF m 142 #[vi p0, vi p1, vi p2, vd (13835105343078251102 : UInt64), ss, vd (4572837751868907892 : UInt64), ss, vd (4571261708172110332 : UInt64), ss, vi (p2 &&& (3 : Int32)), vd gq, ss, vd dq, ss, vd rr, ss, vd gg, ss, vd dd, ss, vd ov, ss, vd (9218868437227405312 : UInt64), ss, vd FP.dconst0, ss, uu, uu] [(.int (own_c (own_z ov) (own_z FP.dconst0)))]) := by
      intro tQ kk
      refine k129 tQ ?_
      refine XS.ifNo X118.here hx rfl (hb hby at_132) rfl (own_c_neN cz) ?_
      refine XS.dconst0 X118.here hx rfl (hb hby at_135) rfl ?_
      refine XS.dstore X118.here hx rfl (hb hby at_136) rfl (l' := #[vi p0, vi p1, vi p2, vd (13835105343078251102 : UInt64), ss, vd (4572837751868907892 : UInt64), ss, vd (4571261708172110332 : UInt64), ss, vi (p2 &&& (3 : Int32)), vd gq, ss, vd dq, ss, vd rr, ss, vd gg, ss, vd dd, ss, vd ov, ss, vd (9218868437227405312 : UInt64), ss, vd FP.dconst0, ss, uu, uu]) rfl ?_
      refine XS.dload X118.here hx rfl (hb hby at_138) rfl ?_
      show Steps p.tables e below (T117.setTop (mkF m 140 #[vi p0, vi p1, vi p2, vd (13835105343078251102 : UInt64), ss, vd (4572837751868907892 : UInt64), ss, vd (4571261708172110332 : UInt64), ss, vi (p2 &&& (3 : Int32)), vd gq, ss, vd dq, ss, vd rr, ss, vd gg, ss, vd dd, ss, vd ov, ss, vd (9218868437227405312 : UInt64), ss, vd FP.dconst0, ss, uu, uu] [(.double ov)])) tQ
      refine XS.dconst0 X118.here hx rfl (hb hby at_140) rfl ?_
      refine XS.dcmpS (v := (own_c (own_z ov) (own_z FP.dconst0))) X118.here hx rfl (hb hby at_141) rfl (own_cE .l (own_cmpz sov.1.noNaN own_n0)) ?_
      exact kk
    clear k129
    by_cases c1 : (own_z FP.dconst0) < (own_z ov)
    · skip
      have k133 : own_G p e below E0 T117 (mkF m 145 #[vi p0, vi p1, vi p2, vd (13835105343078251102 : UInt64), ss, vd (4572837751868907892 : UInt64), ss, vd (4571261708172110332 : UInt64), ss, vi (p2 &&& (3 : Int32)), vd gq, ss, vd dq, ss, vd rr, ss, vd gg, ss, vd dd, ss, vd ov, ss, vd (9218868437227405312 : UInt64), ss, vd FP.dconst0, ss, uu, uu] []) := by
        intro tQ kk
        refine k131 tQ ?_
        refine XS.ifNo X118.here hx rfl (hb hby at_142) rfl (own_c_leN c1) ?_
        exact kk
      clear k131
      have st134 := X118.ldc2DoubleC hx hown (mvT hZ (tw15 hw)) (g := (mkF m 145 #[vi p0, vi p1, vi p2, vd (13835105343078251102 : UInt64), ss, vd (4572837751868907892 : UInt64), ss, vd (4571261708172110332 : UInt64), ss, vi (p2 &&& (3 : Int32)), vd gq, ss, vd dq, ss, vd rr, ss, vd gg, ss, vd dd, ss, vd ov, ss, vd (9218868437227405312 : UInt64), ss, vd FP.dconst0, ss, uu, uu] [])) rfl (hb hby at_145)
      have k135 : own_G p e below E0 T117 (mkF m 148 #[vi p0, vi p1, vi p2, vd (13835105343078251102 : UInt64), ss, vd (4572837751868907892 : UInt64), ss, vd (4571261708172110332 : UInt64), ss, vi (p2 &&& (3 : Int32)), vd gq, ss, vd dq, ss, vd rr, ss, vd gg, ss, vd dd, ss, vd ov, ss, vd (9218868437227405312 : UInt64), ss, vd FP.dconst0, ss, uu, uu] [(.double (4611686018427387904 : UInt64))]) := fun tQ kk => k133 tQ (st134 _ kk)
      clear k133 st134
      have k136 : own_G p e below E0 T117 (mkF m 192 #[vi p0, vi p1, vi p2, vd (13835105343078251102 : UInt64), ss, vd (4572837751868907892 : UInt64), ss, vd (4571261708172110332 : UInt64), ss, vi (p2 &&& (3 : Int32)), vd gq, ss, vd dq, ss, vd rr, ss, vd gg, ss, vd dd, ss, vd ov, ss, vd (9218868437227405312 : UInt64), ss, vd (own_slope ov), ss, vd (FP.dsub (FP.dmul rr (own_slope ov)) FP.dconst1), ss] [(.double (FP.dsub (FP.dmul rr (own_slope ov)) FP.dconst1))]) := by
        intro tQ kk
        refine k135 tQ ?_
        refine XS.dload X118.here hx rfl (hb hby at_148) rfl ?_
        refine XS.dmulS (v := (4577341351496278388 : UInt64)) X118.here hx rfl (hb hby at_150) rfl own_nB own_eB ?_
        refine XS.dload X118.here hx rfl (hb hby at_151) rfl ?_
        refine XS.dmulS X118.here hx rfl (hb hby at_153) rfl (own_y2 sov c1).1.1.noNaN rfl ?_
        show Steps p.tables e below (T117.setTop (mkF m 154 #[vi p0, vi p1, vi p2, vd (13835105343078251102 : UInt64), ss, vd (4572837751868907892 : UInt64), ss, vd (4571261708172110332 : UInt64), ss, vi (p2 &&& (3 : Int32)), vd gq, ss, vd dq, ss, vd rr, ss, vd gg, ss, vd dd, ss, vd ov, ss, vd (9218868437227405312 : UInt64), ss, vd FP.dconst0, ss, uu, uu] [(.double (FP.dmul (4577341351496278388 : UInt64) ov))])) tQ
        refine XS.dloadN X118.here hx rfl (hb hby at_154) rfl ?_
        refine XS.dloadN X118.here hx rfl (hb hby at_155) rfl ?_
        refine XS.dmulS (v := (4616284690168792098 : UInt64)) X118.here hx rfl (hb hby at_156) rfl own_nA own_eA ?_
        refine XS.ddivS (v := (own_slope ov)) X118.here hx rfl (hb hby at_157) rfl (own_slp sov c1).1.1.noNaN rfl ?_
        show Steps p.tables e below (T117.setTop (mkF m 158 #[vi p0, vi p1, vi p2, vd (13835105343078251102 : UInt64), ss, vd (4572837751868907892 : UInt64), ss, vd (4571261708172110332 : UInt64), ss, vi (p2 &&& (3 : Int32)), vd gq, ss, vd dq, ss, vd rr, ss, vd gg, ss, vd dd, ss, vd ov, ss, vd (9218868437227405312 : UInt64), ss, vd FP.dconst0, ss, uu, uu] [(.double (own_slope ov))])) tQ
        refine XS.dstore X118.here hx rfl (hb hby at_158) rfl (l' := #[vi p0, vi p1, vi p2, vd (13835105343078251102 : UInt64), ss, vd (4572837751868907892 : UInt64), ss, vd (4571261708172110332 : UInt64), ss, vi (p2 &&& (3 : Int32)), vd gq, ss, vd dq, ss, vd rr, ss, vd gg, ss, vd dd, ss, vd ov, ss, vd (9218868437227405312 : UInt64), ss, vd (own_slope ov), ss, uu, uu]) rfl ?_
        refine XS.dload X118.here hx rfl (hb hby at_160) rfl ?_
        refine XS.dconst0 X118.here hx rfl (hb hby at_162) rfl ?_
        refine XS.dcmpS (v := (own_c (own_z (own_slope ov)) (own_z FP.dconst0))) X118.here hx rfl (hb hby at_163) rfl (own_cE .l (own_cmpz (own_slp sov c1).1.1.noNaN own_n0)) ?_
        show Steps p.tables e below (T117.setTop (mkF m 164 #[vi p0, vi p1, vi p2, vd (13835105343078251102 : UInt64), ss, vd (4572837751868907892 : UInt64), ss, vd (4571261708172110332 : UInt64), ss, vi (p2 &&& (3 : Int32)), vd gq, ss, vd dq, ss, vd rr, ss, vd gg, ss, vd dd, ss, vd ov, ss, vd (9218868437227405312 : UInt64), ss, vd (own_slope ov), ss, uu, uu] [(.int (own_c (own_z (own_slope ov)) (own_z FP.dconst0)))])) tQ
        refine XS.ifYes X118.here hx rfl (pc0 := 164) (pc' := 181) rfl (hb hby at_164) rfl (own_c_neY (own_nez (own_slp sov c1))) (by decide) (by decide) ?_
        refine XS.dload X118.here hx rfl (hb hby at_181) rfl ?_
        refine XS.dload X118.here hx rfl (hb hby at_183) rfl ?_
        refine XS.dmulS X118.here hx rfl (hb hby at_185) rfl (own_L2 sov sdd cz c1 hrr).1.noNaN rfl ?_
        show Steps p.tables e below (T117.setTop (mkF m 186 #[vi p0, vi p1, vi p2, vd (13835105343078251102 : UInt64), ss, vd (4572837751868907892 : UInt64), ss, vd (4571261708172110332 : UInt64), ss, vi (p2 &&& (3 : Int32)), vd gq, ss, vd dq, ss, vd rr, ss, vd gg, ss, vd dd, ss, vd ov, ss, vd (9218868437227405312 : UInt64), ss, vd (own_slope ov), ss, uu, uu] [(.double (FP.dmul rr (own_slope ov)))])) tQ
        refine XS.dconst1 X118.here hx rfl (hb hby at_186) rfl ?_
        refine XS.dsubS X118.here hx rfl (hb hby at_187) rfl (own_sub_nn (own_L2 sov sdd cz c1 hrr).1 own_f1) rfl ?_
        refine XS.dstore X118.here hx rfl (hb hby at_188) rfl (l' := #[vi p0, vi p1, vi p2, vd (13835105343078251102 : UInt64), ss, vd (4572837751868907892 : UInt64), ss, vd (4571261708172110332 : UInt64), ss, vi (p2 &&& (3 : Int32)), vd gq, ss, vd dq, ss, vd rr, ss, vd gg, ss, vd dd, ss, vd ov, ss, vd (9218868437227405312 : UInt64), ss, vd (own_slope ov), ss, vd (FP.dsub (FP.dmul rr (own_slope ov)) FP.dconst1), ss]) rfl ?_
        refine XS.dload X118.here hx rfl (hb hby at_190) rfl ?_
        exact kk
      clear k135
      have st137 := X118.ldc2DoubleC hx hown (mvT hZ (tw16 hw)) (g := (mkF m 192 #[vi p0, vi p1, vi p2, vd (13835105343078251102 : UInt64), ss, vd (4572837751868907892 : UInt64), ss, vd (4571261708172110332 : UInt64), ss, vi (p2 &&& (3 : Int32)), vd gq, ss, vd dq, ss, vd rr, ss, vd gg, ss, vd dd, ss, vd ov, ss, vd (9218868437227405312 : UInt64), ss, vd (own_slope ov), ss, vd (FP.dsub (FP.dmul rr (own_slope ov)) FP.dconst1), ss] [(.double (FP.dsub (FP.dmul rr (own_slope ov)) FP.dconst1))])) rfl (hb hby at_192)
      have k138 : own_G p e below E0 T117 (mkF m 195 #[vi p0, vi p1, vi p2, vd (13835105343078251102 : UInt64), ss, vd (4572837751868907892 : UInt64), ss, vd (4571261708172110332 : UInt64), ss, vi (p2 &&& (3 : Int32)), vd gq, ss, vd dq, ss, vd rr, ss, vd gg, ss, vd dd, ss, vd ov, ss, vd (9218868437227405312 : UInt64), ss, vd (own_slope ov), ss, vd (FP.dsub (FP.dmul rr (own_slope ov)) FP.dconst1), ss] [(.double (4427486594234968593 : UInt64)), (.double (FP.dsub (FP.dmul rr (own_slope ov)) FP.dconst1))]) := fun tQ kk => k136 tQ (st137 _ kk)
      clear k136 st137
      have k139 : own_G p e below E0 T117 (mkF m 201 #[vi p0, vi p1, vi p2, vd (13835105343078251102 : UInt64), ss, vd (4572837751868907892 : UInt64), ss, vd (4571261708172110332 : UInt64), ss, vi (p2 &&& (3 : Int32)), vd gq, ss, vd dq, ss, vd rr, ss, vd gg, ss, vd dd, ss, vd ov, ss, vd (9218868437227405312 : UInt64), ss, vd (own_slope ov), ss, vd (FP.dsub (FP.dmul rr (own_slope ov)) FP.dconst1), ss] [(.double (FP.dsub (FP.dmul rr (own_slope ov)) FP.dconst1))]) := by
        intro tQ kk
        refine k138 tQ ?_
        refine XS.dcmpS (v := (own_c (own_z (FP.dsub (FP.dmul rr (own_slope ov)) FP.dconst1)) (own_z (4427486594234968593 : UInt64)))) X118.here hx rfl (hb hby at_195) rfl (own_cE .g (own_cmpz (own_sub_nn (own_L2 sov sdd cz c1 hrr).1 own_f1) own_nE)) ?_
        refine XS.ifNo X118.here hx rfl (hb hby at_196) rfl (own_c_gtN (own_L2 sov sdd cz c1 hrr).2.1) ?_
        refine XS.dload X118.here hx rfl (hb hby at_199) rfl ?_
        exact kk
      clear k138
      have st140 := X118.ldc2DoubleC hx hown (mvT hZ (tw17 hw)) (g := (mkF m 201 #[vi p0, vi p1, vi p2, vd (13835105343078251102 : UInt64), ss, vd (4572837751868907892 : UInt64), ss, vd (4571261708172110332 : UInt64), ss, vi (p2 &&& (3 : Int32)), vd gq, ss, vd dq, ss, vd rr, ss, vd gg, ss, vd dd, ss, vd ov, ss, vd (9218868437227405312 : UInt64), ss, vd (own_slope ov), ss, vd (FP.dsub (FP.dmul rr (own_slope ov)) FP.dconst1), ss] [(.double (FP.dsub (FP.dmul rr (own_slope ov)) FP.dconst1))])) rfl (hb hby at_201)
      have k141 : own_G p e below E0 T117 (mkF m 204 #[vi p0, vi p1, vi p2, vd (13835105343078251102 : UInt64), ss, vd (4572837751868907892 : UInt64), ss, vd (4571261708172110332 : UInt64), ss, vi (p2 &&& (3 : Int32)), vd gq, ss, vd dq, ss, vd rr, ss, vd gg, ss, vd dd, ss, vd ov, ss, vd (9218868437227405312 : UInt64), ss, vd (own_slope ov), ss, vd (FP.dsub (FP.dmul rr (own_slope ov)) FP.dconst1), ss] [(.double (13650858631089744401 : UInt64)), (.double (FP.dsub (FP.dmul rr (own_slope ov)) FP.dconst1))]) := fun tQ kk => k139 tQ (st140 _ kk)
      clear k139 st140
      have k142 : own_G p e below E0 T117 (mkF m 213 #[vi p0, vi p1, vi p2, vd (13835105343078251102 : UInt64), ss, vd (4572837751868907892 : UInt64), ss, vd (4571261708172110332 : UInt64), ss, vi (p2 &&& (3 : Int32)), vd gq, ss, vd dq, ss, vd rr, ss, vd gg, ss, vd dd, ss, vd ov, ss, vd (9218868437227405312 : UInt64), ss, vd (own_slope ov), ss, vd (FP.dsub (FP.dmul rr (own_slope ov)) FP.dconst1), ss] [(.int (1 : Int32))]) := by
        intro tQ kk
        refine k141 tQ ?_
        refine XS.dcmpS (v := (own_c (own_z (FP.dsub (FP.dmul rr (own_slope ov)) FP.dconst1)) (own_z (13650858631089744401 : UInt64)))) X118.here hx rfl (hb hby at_204) rfl (own_cE .l (own_cmpz (own_sub_nn (own_L2 sov sdd cz c1 hrr).1 own_f1) own_nEM)) ?_
        refine XS.ifNo X118.here hx rfl (hb hby at_205) rfl (own_c_ltN (own_L2 sov sdd cz c1 hrr).2.2) ?_
        refine XS.iconst X118.here hx rfl (hb hby at_208) ?_
        refine XS.goto X118.here hx rfl (pc0 := 209) (pc' := 213) rfl (hb hby at_209) (by decide) (by decide) ?_
        exact kk
      clear k141
      obtain ⟨fs, hr, hrun, hended, hW, hsame⟩ := X118.leave (v := some (.int (1 : Int32))) (fun h => by rw [Bd.returns] at h; cases h)
      have hrun0 := k142 _ (retOut X118 hx Bd.returns (t := .boolean) rfl (Or.inl ⟨rfl, Or.inr (Or.inl rfl), _, rfl⟩) (hb hby at_213) hr)
      subst hE0
      refine ⟨_, _, hrun0, hrun, hended, _, _, rfl, ?_, ⟨_, rfl⟩, hW, hsame.mono (by decide) (by decide)⟩
      show Qrm0 Z p0 p1 p2 h0 n0 _ T117.heap _
      rw [e119]
      exact ⟨rfl, N121⟩
    · skip
      have k143 : own_G p e below E0 T117 (mkF m 180 #[vi p0, vi p1, vi p2, vd (13835105343078251102 : UInt64), ss, vd (4572837751868907892 : UInt64), ss, vd (4571261708172110332 : UInt64), ss, vi (p2 &&& (3 : Int32)), vd gq, ss, vd dq, ss, vd rr, ss, vd gg, ss, vd dd, ss, vd ov, ss, vd (9218868437227405312 : UInt64), ss, vd FP.dconst0, ss, uu, uu] [(.int (1 : Int32))]) := by
        intro tQ kk
        refine k131 tQ ?_
        refine XS.ifYes X118.here hx rfl (pc0 := 142) (pc' := 160) rfl (hb hby at_142) rfl (own_c_leY c1) (by decide) (by decide) ?_
        refine XS.dload X118.here hx rfl (hb hby at_160) rfl ?_
        refine XS.dconst0 X118.here hx rfl (hb hby at_162) rfl ?_
        refine XS.dcmpS (v := (0 : Int32)) X118.here hx rfl (hb hby at_163) rfl (own_eqz .l own_n0 own_n0 rfl) ?_
        show Steps p.tables e below (T117.setTop (mkF m 164 #[vi p0, vi p1, vi p2, vd (13835105343078251102 : UInt64), ss, vd (4572837751868907892 : UInt64), ss, vd (4571261708172110332 : UInt64), ss, vi (p2 &&& (3 : Int32)), vd gq, ss, vd dq, ss, vd rr, ss, vd gg, ss, vd dd, ss, vd ov, ss, vd (9218868437227405312 : UInt64), ss, vd FP.dconst0, ss, uu, uu] [(.int (0 : Int32))])) tQ
        refine XS.ifNo X118.here hx rfl (hb hby at_164) rfl (own_if_neN (by decide)) ?_
        refine XS.dload X118.here hx rfl (hb hby at_167) rfl ?_
        refine XS.dload X118.here hx rfl (hb hby at_169) rfl ?_
        refine XS.dcmpS (v := (0 : Int32)) X118.here hx rfl (hb hby at_171) rfl (own_infeq (hrr.trans (own_resI c1).symm)) ?_
        show Steps p.tables e below (T117.setTop (mkF m 172 #[vi p0, vi p1, vi p2, vd (13835105343078251102 : UInt64), ss, vd (4572837751868907892 : UInt64), ss, vd (4571261708172110332 : UInt64), ss, vi (p2 &&& (3 : Int32)), vd gq, ss, vd dq, ss, vd rr, ss, vd gg, ss, vd dd, ss, vd ov, ss, vd (9218868437227405312 : UInt64), ss, vd FP.dconst0, ss, uu, uu] [(.int (0 : Int32))])) tQ
        refine XS.ifNo X118.here hx rfl (hb hby at_172) rfl (own_if_neN (by decide)) ?_
        refine XS.iconst X118.here hx rfl (hb hby at_175) ?_
        refine XS.goto X118.here hx rfl (pc0 := 176) (pc' := 180) rfl (hb hby at_176) (by decide) (by decide) ?_
        exact kk
      clear k131
      obtain ⟨fs, hr, hrun, hended, hW, hsame⟩ := X118.leave (v := some (.int (1 : Int32))) (fun h => by rw [Bd.returns] at h; cases h)
      have hrun0 := k143 _ (retOut X118 hx Bd.returns (t := .boolean) rfl (Or.inl ⟨rfl, Or.inr (Or.inl rfl), _, rfl⟩) (hb hby at_180) hr)
      subst hE0
      refine ⟨_, _, hrun0, hrun, hended, _, _, rfl, ?_, ⟨_, rfl⟩, hW, hsame.mono (by decide) (by decide)⟩
      show Qrm0 Z p0 p1 p2 h0 n0 _ T117.heap _
      rw [e119]
      exact ⟨rfl, N121⟩
  · skip
    have pd := own_pdd gdd cz
    have k144 : own_G p e below E0 T117 (mkF m 221 #[vi p0, vi p1, vi p2, vd (13835105343078251102 : UInt64), ss, vd (4572837751868907892 : UInt64), ss, vd (4571261708172110332 : UInt64), ss, vi (p2 &&& (3 : Int32)), vd gq, ss, vd dq, ss, vd rr, ss, vd gg, ss, vd dd, ss, vd ov, ss, vd (9218868437227405312 : UInt64), ss, vd FP.dconst0, ss, uu, uu] [(.int (own_c (own_z ov) (own_z FP.dconst0)))]) := by
      intro tQ kk
      refine k129 tQ ?_
      refine XS.ifYes X118.here hx rfl (pc0 := 132) (pc' := 214) rfl (hb hby at_132) rfl (own_c_neY cz) (by decide) (by decide) ?_
      refine XS.dconst0 X118.here hx rfl (hb hby at_214) rfl ?_
      refine XS.dstore X118.here hx rfl (hb hby at_215) rfl (l' := #[vi p0, vi p1, vi p2, vd (13835105343078251102 : UInt64), ss, vd (4572837751868907892 : UInt64), ss, vd (4571261708172110332 : UInt64), ss, vi (p2 &&& (3 : Int32)), vd gq, ss, vd dq, ss, vd rr, ss, vd gg, ss, vd dd, ss, vd ov, ss, vd (9218868437227405312 : UInt64), ss, vd FP.dconst0, ss, uu, uu]) rfl ?_
      refine XS.dload X118.here hx rfl (hb hby at_217) rfl ?_
      show Steps p.tables e below (T117.setTop (mkF m 219 #[vi p0, vi p1, vi p2, vd (13835105343078251102 : UInt64), ss, vd (4572837751868907892 : UInt64), ss, vd (4571261708172110332 : UInt64), ss, vi (p2 &&& (3 : Int32)), vd gq, ss, vd dq, ss, vd rr, ss, vd gg, ss, vd dd, ss, vd ov, ss, vd (9218868437227405312 : UInt64), ss, vd FP.dconst0, ss, uu, uu] [(.double ov)])) tQ
      refine XS.dconst0 X118.here hx rfl (hb hby at_219) rfl ?_
      refine XS.dcmpS (v := (own_c (own_z ov) (own_z FP.dconst0))) X118.here hx rfl (hb hby at_220) rfl (own_cE .l (own_cmpz sov.1.noNaN own_n0)) ?_
      exact kk
    clear k129
    by_cases cn : (own_z ov) < (own_z FP.dconst0)
    · skip
      have k146 : own_G p e below E0 T117 (mkF m 302 #[vi p0, vi p1, vi p2, vd (13835105343078251102 : UInt64), ss, vd (4572837751868907892 : UInt64), ss, vd (4571261708172110332 : UInt64), ss, vi (p2 &&& (3 : Int32)), vd gq, ss, vd dq, ss, vd rr, ss, vd gg, ss, vd dd, ss, vd ov, ss, vd (9218868437227405312 : UInt64), ss, vd FP.dconst0, ss, uu, uu] [(.int (1 : Int32))]) := by
        intro tQ kk
        refine k144 tQ ?_
        refine XS.ifYes X118.here hx rfl (pc0 := 221) (pc' := 282) rfl (hb hby at_221) rfl (own_c_ltY cn) (by decide) (by decide) ?_
        refine XS.dload X118.here hx rfl (hb hby at_282) rfl ?_
        refine XS.dconst0 X118.here hx rfl (hb hby at_284) rfl ?_
        refine XS.dcmpS (v := (0 : Int32)) X118.here hx rfl (hb hby at_285) rfl (own_eqz .l own_n0 own_n0 rfl) ?_
        show Steps p.tables e below (T117.setTop (mkF m 286 #[vi p0, vi p1, vi p2, vd (13835105343078251102 : UInt64), ss, vd (4572837751868907892 : UInt64), ss, vd (4571261708172110332 : UInt64), ss, vi (p2 &&& (3 : Int32)), vd gq, ss, vd dq, ss, vd rr, ss, vd gg, ss, vd dd, ss, vd ov, ss, vd (9218868437227405312 : UInt64), ss, vd FP.dconst0, ss, uu, uu] [(.int (0 : Int32))])) tQ
        refine XS.ifNo X118.here hx rfl (hb hby at_286) rfl (own_if_neN (by decide)) ?_
        refine XS.dload X118.here hx rfl (hb hby at_289) rfl ?_
        refine XS.dload X118.here hx rfl (hb hby at_291) rfl ?_
        refine XS.dcmpS (v := (0 : Int32)) X118.here hx rfl (hb hby at_293) rfl (own_infeq (hrr.trans (own_resI (own_no2 cn)).symm)) ?_
        show Steps p.tables e below (T117.setTop (mkF m 294 #[vi p0, vi p1, vi p2, vd (13835105343078251102 : UInt64), ss, vd (4572837751868907892 : UInt64), ss, vd (4571261708172110332 : UInt64), ss, vi (p2 &&& (3 : Int32)), vd gq, ss, vd dq, ss, vd rr, ss, vd gg, ss, vd dd, ss, vd ov, ss, vd (9218868437227405312 : UInt64), ss, vd FP.dconst0, ss, uu, uu] [(.int (0 : Int32))])) tQ
        refine XS.ifNo X118.here hx rfl (hb hby at_294) rfl (own_if_neN (by decide)) ?_
        refine XS.iconst X118.here hx rfl (hb hby at_297) ?_
        refine XS.goto X118.here hx rfl (pc0 := 298) (pc' := 302) rfl (hb hby at_298) (by decide) (by decide) ?_
        exact kk
      clear k144
      obtain ⟨fs, hr, hrun, hended, hW, hsame⟩ := X118.leave (v := some (.int (1 : Int32))) (fun h => by rw [Bd.returns] at h; cases h)
      have hrun0 := k146 _ (retOut X118 hx Bd.returns (t := .boolean) rfl (Or.inl ⟨rfl, Or.inr (Or.inl rfl), _, rfl⟩) (hb hby at_302) hr)
      subst hE0
      refine ⟨_, _, hrun0, hrun, hended, _, _, rfl, ?_, ⟨_, rfl⟩, hW, hsame.mono (by decide) (by decide)⟩
      show Qrm0 Z p0 p1 p2 h0 n0 _ T117.heap _
      rw [e119]
      exact ⟨rfl, N121⟩
    · skip
      have k147 : own_G p e below E0 T117 (mkF m 229 #[vi p0, vi p1, vi p2, vd (13835105343078251102 : UInt64), ss, vd (4572837751868907892 : UInt64), ss, vd (4571261708172110332 : UInt64), ss, vi (p2 &&& (3 : Int32)), vd gq, ss, vd dq, ss, vd rr, ss, vd gg, ss, vd dd, ss, vd ov, ss, vd (9218868437227405312 : UInt64), ss, vd FP.dconst0, ss, uu, uu] [(.int (own_c (own_z ov) (own_z dd)))]) := by
        intro tQ kk
        refine k144 tQ ?_
        refine XS.ifNo X118.here hx rfl (hb hby at_221) rfl (own_c_ltN cn) ?_
        refine XS.dload X118.here hx rfl (hb hby at_224) rfl ?_
        refine XS.dload X118.here hx rfl (hb hby at_226) rfl ?_
        refine XS.dcmpS (v := (own_c (own_z ov) (own_z dd))) X118.here hx rfl (hb hby at_228) rfl (own_cE .l (own_cmpz sov.1.noNaN sdd.1.noNaN)) ?_
        exact kk
      clear k144
      by_cases c2 : (own_z ov) < (own_z dd)
      · skip
        have k149 : own_G p e below E0 T117 (mkF m 260 #[vi p0, vi p1, vi p2, vd (13835105343078251102 : UInt64), ss, vd (4572837751868907892 : UInt64), ss, vd (4571261708172110332 : UInt64), ss, vi (p2 &&& (3 : Int32)), vd gq, ss, vd dq, ss, vd rr, ss, vd gg, ss, vd dd, ss, vd ov, ss, vd (9218868437227405312 : UInt64), ss, vd FP.dconst0, ss, uu, uu] []) := by
          intro tQ kk
          refine k147 tQ ?_
          refine XS.ifYes X118.here hx rfl (pc0 := 229) (pc' := 260) rfl (hb hby at_229) rfl (own_c_ltY c2) (by decide) (by decide) ?_
          exact kk
        clear k147
        rcases (own_ov0 cn) with hz0 | c1
        · skip
          have k150 : own_G p e below E0 T117 (mkF m 302 #[vi p0, vi p1, vi p2, vd (13835105343078251102 : UInt64), ss, vd (4572837751868907892 : UInt64), ss, vd (4571261708172110332 : UInt64), ss, vi (p2 &&& (3 : Int32)), vd gq, ss, vd dq, ss, vd rr, ss, vd gg, ss, vd dd, ss, vd ov, ss, vd (9218868437227405312 : UInt64), ss, vd (own_curS ov dd), ss, uu, uu] [(.int (1 : Int32))]) := by
            intro tQ kk
            refine k149 tQ ?_
            refine XS.dload X118.here hx rfl (hb hby at_260) rfl ?_
            refine XS.dload X118.here hx rfl (hb hby at_262) rfl ?_
            refine XS.dmulS X118.here hx rfl (hb hby at_264) rfl (own_zv sov hz0).1.noNaN rfl ?_
            refine XS.dload X118.here hx rfl (hb hby at_265) rfl ?_
            show Steps p.tables e below (T117.setTop (mkF m 267 #[vi p0, vi p1, vi p2, vd (13835105343078251102 : UInt64), ss, vd (4572837751868907892 : UInt64), ss, vd (4571261708172110332 : UInt64), ss, vi (p2 &&& (3 : Int32)), vd gq, ss, vd dq, ss, vd rr, ss, vd gg, ss, vd dd, ss, vd ov, ss, vd (9218868437227405312 : UInt64), ss, vd FP.dconst0, ss, uu, uu] [(.double ov), (.double (FP.dmul (4572837751868907892 : UInt64) ov))])) tQ
            refine XS.dmulS X118.here hx rfl (hb hby at_267) rfl (own_zv sov hz0).2.1.noNaN rfl ?_
            refine XS.dloadN X118.here hx rfl (hb hby at_268) rfl ?_
            refine XS.dloadN X118.here hx rfl (hb hby at_269) rfl ?_
            refine XS.dmulS (v := (4616284690168792098 : UInt64)) X118.here hx rfl (hb hby at_270) rfl own_nA own_eA ?_
            show Steps p.tables e below (T117.setTop (mkF m 271 #[vi p0, vi p1, vi p2, vd (13835105343078251102 : UInt64), ss, vd (4572837751868907892 : UInt64), ss, vd (4571261708172110332 : UInt64), ss, vi (p2 &&& (3 : Int32)), vd gq, ss, vd dq, ss, vd rr, ss, vd gg, ss, vd dd, ss, vd ov, ss, vd (9218868437227405312 : UInt64), ss, vd FP.dconst0, ss, uu, uu] [(.double (4616284690168792098 : UInt64)), (.double (FP.dmul (FP.dmul (4572837751868907892 : UInt64) ov) ov))])) tQ
            refine XS.ddivS X118.here hx rfl (hb hby at_271) rfl (own_zv sov hz0).2.2.1.noNaN rfl ?_
            refine XS.dconst1 X118.here hx rfl (hb hby at_272) rfl ?_
            refine XS.dload X118.here hx rfl (hb hby at_273) rfl ?_
            refine XS.dload X118.here hx rfl (hb hby at_275) rfl ?_
            show Steps p.tables e below (T117.setTop (mkF m 277 #[vi p0, vi p1, vi p2, vd (13835105343078251102 : UInt64), ss, vd (4572837751868907892 : UInt64), ss, vd (4571261708172110332 : UInt64), ss, vi (p2 &&& (3 : Int32)), vd gq, ss, vd dq, ss, vd rr, ss, vd gg, ss, vd dd, ss, vd ov, ss, vd (9218868437227405312 : UInt64), ss, vd FP.dconst0, ss, uu, uu] [(.double dd), (.double (4571261708172110332 : UInt64)), (.double FP.dconst1), (.double (FP.ddiv (FP.dmul (FP.dmul (4572837751868907892 : UInt64) ov) ov) (4616284690168792098 : UInt64)))])) tQ
            refine XS.dmulS X118.here hx rfl (hb hby at_277) rfl (own_sl sdd pd).1.1.noNaN rfl ?_
            refine XS.daddS X118.here hx rfl (hb hby at_278) rfl (own_sM sdd pd).1.1.noNaN rfl ?_
            refine XS.dmulS (v := (own_curS ov dd)) X118.here hx rfl (hb hby at_279) rfl (own_zc sov sdd pd hz0).1.noNaN rfl ?_
            refine XS.dstore X118.here hx rfl (hb hby at_280) rfl (l' := #[vi p0, vi p1, vi p2, vd (13835105343078251102 : UInt64), ss, vd (4572837751868907892 : UInt64), ss, vd (4571261708172110332 : UInt64), ss, vi (p2 &&& (3 : Int32)), vd gq, ss, vd dq, ss, vd rr, ss, vd gg, ss, vd dd, ss, vd ov, ss, vd (9218868437227405312 : UInt64), ss, vd (own_curS ov dd), ss, uu, uu]) rfl ?_
            show Steps p.tables e below (T117.setTop (mkF m 282 #[vi p0, vi p1, vi p2, vd (13835105343078251102 : UInt64), ss, vd (4572837751868907892 : UInt64), ss, vd (4571261708172110332 : UInt64), ss, vi (p2 &&& (3 : Int32)), vd gq, ss, vd dq, ss, vd rr, ss, vd gg, ss, vd dd, ss, vd ov, ss, vd (9218868437227405312 : UInt64), ss, vd (own_curS ov dd), ss, uu, uu] [])) tQ
            refine XS.dload X118.here hx rfl (hb hby at_282) rfl ?_
            refine XS.dconst0 X118.here hx rfl (hb hby at_284) rfl ?_
            refine XS.dcmpS (v := (own_c (own_z (own_curS ov dd)) (own_z FP.dconst0))) X118.here hx rfl (hb hby at_285) rfl (own_cE .l (own_cmpz (own_zc sov sdd pd hz0).1.noNaN own_n0)) ?_
            refine XS.ifNo X118.here hx rfl (hb hby at_286) rfl (own_c_neN (own_zc sov sdd pd hz0).2) ?_
            show Steps p.tables e below (T117.setTop (mkF m 289 #[vi p0, vi p1, vi p2, vd (13835105343078251102 : UInt64), ss, vd (4572837751868907892 : UInt64), ss, vd (4571261708172110332 : UInt64), ss, vi (p2 &&& (3 : Int32)), vd gq, ss, vd dq, ss, vd rr, ss, vd gg, ss, vd dd, ss, vd ov, ss, vd (9218868437227405312 : UInt64), ss, vd (own_curS ov dd), ss, uu, uu] [])) tQ
            refine XS.dload X118.here hx rfl (hb hby at_289) rfl ?_
            refine XS.dload X118.here hx rfl (hb hby at_291) rfl ?_
            refine XS.dcmpS (v := (0 : Int32)) X118.here hx rfl (hb hby at_293) rfl (own_infeq (hrr.trans (own_resI (own_no hz0)).symm)) ?_
            refine XS.ifNo X118.here hx rfl (hb hby at_294) rfl (own_if_neN (by decide)) ?_
            show Steps p.tables e below (T117.setTop (mkF m 297 #[vi p0, vi p1, vi p2, vd (13835105343078251102 : UInt64), ss, vd (4572837751868907892 : UInt64), ss, vd (4571261708172110332 : UInt64), ss, vi (p2 &&& (3 : Int32)), vd gq, ss, vd dq, ss, vd rr, ss, vd gg, ss, vd dd, ss, vd ov, ss, vd (9218868437227405312 : UInt64), ss, vd (own_curS ov dd), ss, uu, uu] [])) tQ
            refine XS.iconst X118.here hx rfl (hb hby at_297) ?_
            refine XS.goto X118.here hx rfl (pc0 := 298) (pc' := 302) rfl (hb hby at_298) (by decide) (by decide) ?_
            exact kk
          clear k149
          obtain ⟨fs, hr, hrun, hended, hW, hsame⟩ := X118.leave (v := some (.int (1 : Int32))) (fun h => by rw [Bd.returns] at h; cases h)
          have hrun0 := k150 _ (retOut X118 hx Bd.returns (t := .boolean) rfl (Or.inl ⟨rfl, Or.inr (Or.inl rfl), _, rfl⟩) (hb hby at_302) hr)
          subst hE0
          refine ⟨_, _, hrun0, hrun, hended, _, _, rfl, ?_, ⟨_, rfl⟩, hW, hsame.mono (by decide) (by decide)⟩
          show Qrm0 Z p0 p1 p2 h0 n0 _ T117.heap _
          rw [e119]
          exact ⟨rfl, N121⟩
        · skip
          have k151 : own_G p e below E0 T117 (mkF m 315 #[vi p0, vi p1, vi p2, vd (13835105343078251102 : UInt64), ss, vd (4572837751868907892 : UInt64), ss, vd (4571261708172110332 : UInt64), ss, vi (p2 &&& (3 : Int32)), vd gq, ss, vd dq, ss, vd rr, ss, vd gg, ss, vd dd, ss, vd ov, ss, vd (9218868437227405312 : UInt64), ss, vd (own_curS ov dd), ss, vd (FP.dsub (FP.dmul rr (own_curS ov dd)) dd), ss] [(.double (FP.dsub (FP.dmul rr (own_curS ov dd)) dd))]) := by
            intro tQ kk
            refine k149 tQ ?_
            refine XS.dload X118.here hx rfl (hb hby at_260) rfl ?_
            refine XS.dload X118.here hx rfl (hb hby at_262) rfl ?_
            refine XS.dmulS X118.here hx rfl (hb hby at_264) rfl (own_sq1 sov c1).1.1.noNaN rfl ?_
            refine XS.dload X118.here hx rfl (hb hby at_265) rfl ?_
            show Steps p.tables e below (T117.setTop (mkF m 267 #[vi p0, vi p1, vi p2, vd (13835105343078251102 : UInt64), ss, vd (4572837751868907892 : UInt64), ss, vd (4571261708172110332 : UInt64), ss, vi (p2 &&& (3 : Int32)), vd gq, ss, vd dq, ss, vd rr, ss, vd gg, ss, vd dd, ss, vd ov, ss, vd (9218868437227405312 : UInt64), ss, vd FP.dconst0, ss, uu, uu] [(.double ov), (.double (FP.dmul (4572837751868907892 : UInt64) ov))])) tQ
            refine XS.dmulS X118.here hx rfl (hb hby at_267) rfl (own_sq2 sov c1).1.1.noNaN rfl ?_
            refine XS.dloadN X118.here hx rfl (hb hby at_268) rfl ?_
            refine XS.dloadN X118.here hx rfl (hb hby at_269) rfl ?_
            refine XS.dmulS (v := (4616284690168792098 : UInt64)) X118.here hx rfl (hb hby at_270) rfl own_nA own_eA ?_
            show Steps p.tables e below (T117.setTop (mkF m 271 #[vi p0, vi p1, vi p2, vd (13835105343078251102 : UInt64), ss, vd (4572837751868907892 : UInt64), ss, vd (4571261708172110332 : UInt64), ss, vi (p2 &&& (3 : Int32)), vd gq, ss, vd dq, ss, vd rr, ss, vd gg, ss, vd dd, ss, vd ov, ss, vd (9218868437227405312 : UInt64), ss, vd FP.dconst0, ss, uu, uu] [(.double (4616284690168792098 : UInt64)), (.double (FP.dmul (FP.dmul (4572837751868907892 : UInt64) ov) ov))])) tQ
            refine XS.ddivS X118.here hx rfl (hb hby at_271) rfl (own_bS sov c1).1.1.noNaN rfl ?_
            refine XS.dconst1 X118.here hx rfl (hb hby at_272) rfl ?_
            refine XS.dload X118.here hx rfl (hb hby at_273) rfl ?_
            refine XS.dload X118.here hx rfl (hb hby at_275) rfl ?_
            show Steps p.tables e below (T117.setTop (mkF m 277 #[vi p0, vi p1, vi p2, vd (13835105343078251102 : UInt64), ss, vd (4572837751868907892 : UInt64), ss, vd (4571261708172110332 : UInt64), ss, vi (p2 &&& (3 : Int32)), vd gq, ss, vd dq, ss, vd rr, ss, vd gg, ss, vd dd, ss, vd ov, ss, vd (9218868437227405312 : UInt64), ss, vd FP.dconst0, ss, uu, uu] [(.double dd), (.double (4571261708172110332 : UInt64)), (.double FP.dconst1), (.double (FP.ddiv (FP.dmul (FP.dmul (4572837751868907892 : UInt64) ov) ov) (4616284690168792098 : UInt64)))])) tQ
            refine XS.dmulS X118.here hx rfl (hb hby at_277) rfl (own_sl sdd pd).1.1.noNaN rfl ?_
            refine XS.daddS X118.here hx rfl (hb hby at_278) rfl (own_sM sdd pd).1.1.noNaN rfl ?_
            refine XS.dmulS (v := (own_curS ov dd)) X118.here hx rfl (hb hby at_279) rfl (own_cS sov sdd c1 pd).1.1.noNaN rfl ?_
            refine XS.dstore X118.here hx rfl (hb hby at_280) rfl (l' := #[vi p0, vi p1, vi p2, vd (13835105343078251102 : UInt64), ss, vd (4572837751868907892 : UInt64), ss, vd (4571261708172110332 : UInt64), ss, vi (p2 &&& (3 : Int32)), vd gq, ss, vd dq, ss, vd rr, ss, vd gg, ss, vd dd, ss, vd ov, ss, vd (9218868437227405312 : UInt64), ss, vd (own_curS ov dd), ss, uu, uu]) rfl ?_
            show Steps p.tables e below (T117.setTop (mkF m 282 #[vi p0, vi p1, vi p2, vd (13835105343078251102 : UInt64), ss, vd (4572837751868907892 : UInt64), ss, vd (4571261708172110332 : UInt64), ss, vi (p2 &&& (3 : Int32)), vd gq, ss, vd dq, ss, vd rr, ss, vd gg, ss, vd dd, ss, vd ov, ss, vd (9218868437227405312 : UInt64), ss, vd (own_curS ov dd), ss, uu, uu] [])) tQ
            refine XS.dload X118.here hx rfl (hb hby at_282) rfl ?_
            refine XS.dconst0 X118.here hx rfl (hb hby at_284) rfl ?_
            refine XS.dcmpS (v := (own_c (own_z (own_curS ov dd)) (own_z FP.dconst0))) X118.here hx rfl (hb hby at_285) rfl (own_cE .l (own_cmpz (own_cS sov sdd c1 pd).1.1.noNaN own_n0)) ?_
            refine XS.ifYes X118.here hx rfl (pc0 := 286) (pc' := 303) rfl (hb hby at_286) rfl (own_c_neY (own_nez (own_cS sov sdd c1 pd))) (by decide) (by decide) ?_
            show Steps p.tables e below (T117.setTop (mkF m 303 #[vi p0, vi p1, vi p2, vd (13835105343078251102 : UInt64), ss, vd (4572837751868907892 : UInt64), ss, vd (4571261708172110332 : UInt64), ss, vi (p2 &&& (3 : Int32)), vd gq, ss, vd dq, ss, vd rr, ss, vd gg, ss, vd dd, ss, vd ov, ss, vd (9218868437227405312 : UInt64), ss, vd (own_curS ov dd), ss, uu, uu] [])) tQ
            refine XS.dload X118.here hx rfl (hb hby at_303) rfl ?_
            refine XS.dload X118.here hx rfl (hb hby at_305) rfl ?_
            refine XS.dmulS X118.here hx rfl (hb hby at_307) rfl (own_L5 sov sdd pd c1 c2 hrr).1.noNaN rfl ?_
            refine XS.dload X118.here hx rfl (hb hby at_308) rfl ?_
            show Steps p.tables e below (T117.setTop (mkF m 310 #[vi p0, vi p1, vi p2, vd (13835105343078251102 : UInt64), ss, vd (4572837751868907892 : UInt64), ss, vd (4571261708172110332 : UInt64), ss, vi (p2 &&& (3 : Int32)), vd gq, ss, vd dq, ss, vd rr, ss, vd gg, ss, vd dd, ss, vd ov, ss, vd (9218868437227405312 : UInt64), ss, vd (own_curS ov dd), ss, uu, uu] [(.double dd), (.double (FP.dmul rr (own_curS ov dd)))])) tQ
            refine XS.dsubS X118.here hx rfl (hb hby at_310) rfl (own_sub_nn (own_L5 sov sdd pd c1 c2 hrr).1 sdd.1) rfl ?_
            refine XS.dstore X118.here hx rfl (hb hby at_311) rfl (l' := #[vi p0, vi p1, vi p2, vd (13835105343078251102 : UInt64), ss, vd (4572837751868907892 : UInt64), ss, vd (4571261708172110332 : UInt64), ss, vi (p2 &&& (3 : Int32)), vd gq, ss, vd dq, ss, vd rr, ss, vd gg, ss, vd dd, ss, vd ov, ss, vd (9218868437227405312 : UInt64), ss, vd (own_curS ov dd), ss, vd (FP.dsub (FP.dmul rr (own_curS ov dd)) dd), ss]) rfl ?_
            refine XS.dload X118.here hx rfl (hb hby at_313) rfl ?_
            exact kk
          clear k149
          have st152 := X118.ldc2DoubleC hx hown (mvT hZ (tw16 hw)) (g := (mkF m 315 #[vi p0, vi p1, vi p2, vd (13835105343078251102 : UInt64), ss, vd (4572837751868907892 : UInt64), ss, vd (4571261708172110332 : UInt64), ss, vi (p2 &&& (3 : Int32)), vd gq, ss, vd dq, ss, vd rr, ss, vd gg, ss, vd dd, ss, vd ov, ss, vd (9218868437227405312 : UInt64), ss, vd (own_curS ov dd), ss, vd (FP.dsub (FP.dmul rr (own_curS ov dd)) dd), ss] [(.double (FP.dsub (FP.dmul rr (own_curS ov dd)) dd))])) rfl (hb hby at_315)
          have k153 : own_G p e below E0 T117 (mkF m 318 #[vi p0, vi p1, vi p2, vd (13835105343078251102 : UInt64), ss, vd (4572837751868907892 : UInt64), ss, vd (4571261708172110332 : UInt64), ss, vi (p2 &&& (3 : Int32)), vd gq, ss, vd dq, ss, vd rr, ss, vd gg, ss, vd dd, ss, vd ov, ss, vd (9218868437227405312 : UInt64), ss, vd (own_curS ov dd), ss, vd (FP.dsub (FP.dmul rr (own_curS ov dd)) dd), ss] [(.double (4427486594234968593 : UInt64)), (.double (FP.dsub (FP.dmul rr (own_curS ov dd)) dd))]) := fun tQ kk => k151 tQ (st152 _ kk)
          clear k151 st152
          have k154 : own_G p e below E0 T117 (mkF m 327 #[vi p0, vi p1, vi p2, vd (13835105343078251102 : UInt64), ss, vd (4572837751868907892 : UInt64), ss, vd (4571261708172110332 : UInt64), ss, vi (p2 &&& (3 : Int32)), vd gq, ss, vd dq, ss, vd rr, ss, vd gg, ss, vd dd, ss, vd ov, ss, vd (9218868437227405312 : UInt64), ss, vd (own_curS ov dd), ss, vd (FP.dsub (FP.dmul rr (own_curS ov dd)) dd), ss] [(.double (FP.dsub (FP.dmul rr (own_curS ov dd)) dd))]) := by
            intro tQ kk
            refine k153 tQ ?_
            refine XS.dload X118.here hx rfl (hb hby at_318) rfl ?_
            refine XS.dmulS X118.here hx rfl (hb hby at_320) rfl (own_vE sdd pd).1.1.1.noNaN rfl ?_
            refine XS.dcmpS (v := (own_c (own_z (FP.dsub (FP.dmul rr (own_curS ov dd)) dd)) (own_z (FP.dmul (4427486594234968593 : UInt64) dd)))) X118.here hx rfl (hb hby at_321) rfl (own_cE .g (own_cmpz (own_sub_nn (own_L5 sov sdd pd c1 c2 hrr).1 sdd.1) (own_vE sdd pd).1.1.1.noNaN)) ?_
            refine XS.ifNo X118.here hx rfl (hb hby at_322) rfl (own_c_gtN (own_L5 sov sdd pd c1 c2 hrr).2.1) ?_
            show Steps p.tables e below (T117.setTop (mkF m 325 #[vi p0, vi p1, vi p2, vd (13835105343078251102 : UInt64), ss, vd (4572837751868907892 : UInt64), ss, vd (4571261708172110332 : UInt64), ss, vi (p2 &&& (3 : Int32)), vd gq, ss, vd dq, ss, vd rr, ss, vd gg, ss, vd dd, ss, vd ov, ss, vd (9218868437227405312 : UInt64), ss, vd (own_curS ov dd), ss, vd (FP.dsub (FP.dmul rr (own_curS ov dd)) dd), ss] [])) tQ
            refine XS.dload X118.here hx rfl (hb hby at_325) rfl ?_
            exact kk
          clear k153
          have st155 := X118.ldc2DoubleC hx hown (mvT hZ (tw17 hw)) (g := (mkF m 327 #[vi p0, vi p1, vi p2, vd (13835105343078251102 : UInt64), ss, vd (4572837751868907892 : UInt64), ss, vd (4571261708172110332 : UInt64), ss, vi (p2 &&& (3 : Int32)), vd gq, ss, vd dq, ss, vd rr, ss, vd gg, ss, vd dd, ss, vd ov, ss, vd (9218868437227405312 : UInt64), ss, vd (own_curS ov dd), ss, vd (FP.dsub (FP.dmul rr (own_curS ov dd)) dd), ss] [(.double (FP.dsub (FP.dmul rr (own_curS ov dd)) dd))])) rfl (hb hby at_327)
          have k156 : own_G p e below E0 T117 (mkF m 330 #[vi p0, vi p1, vi p2, vd (13835105343078251102 : UInt64), ss, vd (4572837751868907892 : UInt64), ss, vd (4571261708172110332 : UInt64), ss, vi (p2 &&& (3 : Int32)), vd gq, ss, vd dq, ss, vd rr, ss, vd gg, ss, vd dd, ss, vd ov, ss, vd (9218868437227405312 : UInt64), ss, vd (own_curS ov dd), ss, vd (FP.dsub (FP.dmul rr (own_curS ov dd)) dd), ss] [(.double (13650858631089744401 : UInt64)), (.double (FP.dsub (FP.dmul rr (own_curS ov dd)) dd))]) := fun tQ kk => k154 tQ (st155 _ kk)
          clear k154 st155
          have k157 : own_G p e below E0 T117 (mkF m 342 #[vi p0, vi p1, vi p2, vd (13835105343078251102 : UInt64), ss, vd (4572837751868907892 : UInt64), ss, vd (4571261708172110332 : UInt64), ss, vi (p2 &&& (3 : Int32)), vd gq, ss, vd dq, ss, vd rr, ss, vd gg, ss, vd dd, ss, vd ov, ss, vd (9218868437227405312 : UInt64), ss, vd (own_curS ov dd), ss, vd (FP.dsub (FP.dmul rr (own_curS ov dd)) dd), ss] [(.int (1 : Int32))]) := by
            intro tQ kk
            refine k156 tQ ?_
            refine XS.dload X118.here hx rfl (hb hby at_330) rfl ?_
            refine XS.dmulS X118.here hx rfl (hb hby at_332) rfl (own_vE sdd pd).2.2.1 rfl ?_
            refine XS.dcmpS (v := (own_c (own_z (FP.dsub (FP.dmul rr (own_curS ov dd)) dd)) (own_z (FP.dmul (13650858631089744401 : UInt64) dd)))) X118.here hx rfl (hb hby at_333) rfl (own_cE .l (own_cmpz (own_sub_nn (own_L5 sov sdd pd c1 c2 hrr).1 sdd.1) (own_vE sdd pd).2.2.1)) ?_
            refine XS.ifNo X118.here hx rfl (hb hby at_334) rfl (own_c_ltN (own_L5 sov sdd pd c1 c2 hrr).2.2) ?_
            show Steps p.tables e below (T117.setTop (mkF m 337 #[vi p0, vi p1, vi p2, vd (13835105343078251102 : UInt64), ss, vd (4572837751868907892 : UInt64), ss, vd (4571261708172110332 : UInt64), ss, vi (p2 &&& (3 : Int32)), vd gq, ss, vd dq, ss, vd rr, ss, vd gg, ss, vd dd, ss, vd ov, ss, vd (9218868437227405312 : UInt64), ss, vd (own_curS ov dd), ss, vd (FP.dsub (FP.dmul rr (own_curS ov dd)) dd), ss] [])) tQ
            refine XS.iconst X118.here hx rfl (hb hby at_337) ?_
            refine XS.goto X118.here hx rfl (pc0 := 338) (pc' := 342) rfl (hb hby at_338) (by decide) (by decide) ?_
            exact kk
          clear k156
          obtain ⟨fs, hr, hrun, hended, hW, hsame⟩ := X118.leave (v := some (.int (1 : Int32))) (fun h => by rw [Bd.returns] at h; cases h)
          have hrun0 := k157 _ (retOut X118 hx Bd.returns (t := .boolean) rfl (Or.inl ⟨rfl, Or.inr (Or.inl rfl), _, rfl⟩) (hb hby at_342) hr)
          subst hE0
          refine ⟨_, _, hrun0, hrun, hended, _, _, rfl, ?_, ⟨_, rfl⟩, hW, hsame.mono (by decide) (by decide)⟩
          show Qrm0 Z p0 p1 p2 h0 n0 _ T117.heap _
          rw [e119]
          exact ⟨rfl, N121⟩
      · skip
        have c1 := own_c1 pd c2
        have k158 : own_G p e below E0 T117 (mkF m 232 #[vi p0, vi p1, vi p2, vd (13835105343078251102 : UInt64), ss, vd (4572837751868907892 : UInt64), ss, vd (4571261708172110332 : UInt64), ss, vi (p2 &&& (3 : Int32)), vd gq, ss, vd dq, ss, vd rr, ss, vd gg, ss, vd dd, ss, vd ov, ss, vd (9218868437227405312 : UInt64), ss, vd FP.dconst0, ss, uu, uu] []) := by
          intro tQ kk
          refine k147 tQ ?_
          refine XS.ifNo X118.here hx rfl (hb hby at_229) rfl (own_c_ltN c2) ?_
          exact kk
        clear k147
        have st159 := X118.ldc2DoubleC hx hown (mvT hZ (tw15 hw)) (g := (mkF m 232 #[vi p0, vi p1, vi p2, vd (13835105343078251102 : UInt64), ss, vd (4572837751868907892 : UInt64), ss, vd (4571261708172110332 : UInt64), ss, vi (p2 &&& (3 : Int32)), vd gq, ss, vd dq, ss, vd rr, ss, vd gg, ss, vd dd, ss, vd ov, ss, vd (9218868437227405312 : UInt64), ss, vd FP.dconst0, ss, uu, uu] [])) rfl (hb hby at_232)
        have k160 : own_G p e below E0 T117 (mkF m 235 #[vi p0, vi p1, vi p2, vd (13835105343078251102 : UInt64), ss, vd (4572837751868907892 : UInt64), ss, vd (4571261708172110332 : UInt64), ss, vi (p2 &&& (3 : Int32)), vd gq, ss, vd dq, ss, vd rr, ss, vd gg, ss, vd dd, ss, vd ov, ss, vd (9218868437227405312 : UInt64), ss, vd FP.dconst0, ss, uu, uu] [(.double (4611686018427387904 : UInt64))]) := fun tQ kk => k158 tQ (st159 _ kk)
        clear k158 st159
        have k161 : own_G p e below E0 T117 (mkF m 246 #[vi p0, vi p1, vi p2, vd (13835105343078251102 : UInt64), ss, vd (4572837751868907892 : UInt64), ss, vd (4571261708172110332 : UInt64), ss, vi (p2 &&& (3 : Int32)), vd gq, ss, vd dq, ss, vd rr, ss, vd gg, ss, vd dd, ss, vd ov, ss, vd (9218868437227405312 : UInt64), ss, vd FP.dconst0, ss, uu, uu] [(.double dd), (.double ov), (.double (FP.ddiv (4577341351496278388 : UInt64) (4616284690168792098 : UInt64)))]) := by
          intro tQ kk
          refine k160 tQ ?_
          refine XS.dload X118.here hx rfl (hb hby at_235) rfl ?_
          refine XS.dmulS (v := (4577341351496278388 : UInt64)) X118.here hx rfl (hb hby at_237) rfl own_nB own_eB ?_
          refine XS.dloadN X118.here hx rfl (hb hby at_238) rfl ?_
          refine XS.dloadN X118.here hx rfl (hb hby at_239) rfl ?_
          show Steps p.tables e below (T117.setTop (mkF m 240 #[vi p0, vi p1, vi p2, vd (13835105343078251102 : UInt64), ss, vd (4572837751868907892 : UInt64), ss, vd (4571261708172110332 : UInt64), ss, vi (p2 &&& (3 : Int32)), vd gq, ss, vd dq, ss, vd rr, ss, vd gg, ss, vd dd, ss, vd ov, ss, vd (9218868437227405312 : UInt64), ss, vd FP.dconst0, ss, uu, uu] [(.double (13835105343078251102 : UInt64)), (.double (13835105343078251102 : UInt64)), (.double (4577341351496278388 : UInt64))])) tQ
          refine XS.dmulS (v := (4616284690168792098 : UInt64)) X118.here hx rfl (hb hby at_240) rfl own_nA own_eA ?_
          refine XS.ddivS X118.here hx rfl (hb hby at_241) rfl own_kC.1.1.noNaN rfl ?_
          refine XS.dload X118.here hx rfl (hb hby at_242) rfl ?_
          refine XS.dload X118.here hx rfl (hb hby at_244) rfl ?_
          exact kk
        clear k160
        have st162 := X118.ldc2DoubleC hx hown (mvT hZ (tw15 hw)) (g := (mkF m 246 #[vi p0, vi p1, vi p2, vd (13835105343078251102 : UInt64), ss, vd (4572837751868907892 : UInt64), ss, vd (4571261708172110332 : UInt64), ss, vi (p2 &&& (3 : Int32)), vd gq, ss, vd dq, ss, vd rr, ss, vd gg, ss, vd dd, ss, vd ov, ss, vd (9218868437227405312 : UInt64), ss, vd FP.dconst0, ss, uu, uu] [(.double dd), (.double ov), (.double (FP.ddiv (4577341351496278388 : UInt64) (4616284690168792098 : UInt64)))])) rfl (hb hby at_246)
        have k163 : own_G p e below E0 T117 (mkF m 249 #[vi p0, vi p1, vi p2, vd (13835105343078251102 : UInt64), ss, vd (4572837751868907892 : UInt64), ss, vd (4571261708172110332 : UInt64), ss, vi (p2 &&& (3 : Int32)), vd gq, ss, vd dq, ss, vd rr, ss, vd gg, ss, vd dd, ss, vd ov, ss, vd (9218868437227405312 : UInt64), ss, vd FP.dconst0, ss, uu, uu] [(.double (4611686018427387904 : UInt64)), (.double dd), (.double ov), (.double (FP.ddiv (4577341351496278388 : UInt64) (4616284690168792098 : UInt64)))]) := fun tQ kk => k161 tQ (st162 _ kk)
        clear k161 st162
        have k164 : own_G p e below E0 T117 (mkF m 315 #[vi p0, vi p1, vi p2, vd (13835105343078251102 : UInt64), ss, vd (4572837751868907892 : UInt64), ss, vd (4571261708172110332 : UInt64), ss, vi (p2 &&& (3 : Int32)), vd gq, ss, vd dq, ss, vd rr, ss, vd gg, ss, vd dd, ss, vd ov, ss, vd (9218868437227405312 : UInt64), ss, vd (own_curT ov dd), ss, vd (FP.dsub (FP.dmul rr (own_curT ov dd)) dd), ss] [(.double (FP.dsub (FP.dmul rr (own_curT ov dd)) dd))]) := by
          intro tQ kk
          refine k163 tQ ?_
          refine XS.ddivS X118.here hx rfl (hb hby at_249) rfl (own_hn sdd) rfl ?_
          refine XS.dsubS X118.here hx rfl (hb hby at_250) rfl (own_t sov sdd gdd c1 c2).1.1.noNaN rfl ?_
          refine XS.dmulS X118.here hx rfl (hb hby at_251) rfl (own_wT (own_t sov sdd gdd c1 c2)).1.1.noNaN rfl ?_
          refine XS.dload X118.here hx rfl (hb hby at_252) rfl ?_
          show Steps p.tables e below (T117.setTop (mkF m 254 #[vi p0, vi p1, vi p2, vd (13835105343078251102 : UInt64), ss, vd (4572837751868907892 : UInt64), ss, vd (4571261708172110332 : UInt64), ss, vi (p2 &&& (3 : Int32)), vd gq, ss, vd dq, ss, vd rr, ss, vd gg, ss, vd dd, ss, vd ov, ss, vd (9218868437227405312 : UInt64), ss, vd FP.dconst0, ss, uu, uu] [(.double dd), (.double (FP.dmul (FP.ddiv (4577341351496278388 : UInt64) (4616284690168792098 : UInt64)) (FP.dsub ov (FP.ddiv dd (4611686018427387904 : UInt64)))))])) tQ
          refine XS.dmulS (v := (own_curT ov dd)) X118.here hx rfl (hb hby at_254) rfl (own_cT sov sdd gdd pd c1 c2).1.1.noNaN rfl ?_
          refine XS.dstore X118.here hx rfl (hb hby at_255) rfl (l' := #[vi p0, vi p1, vi p2, vd (13835105343078251102 : UInt64), ss, vd (4572837751868907892 : UInt64), ss, vd (4571261708172110332 : UInt64), ss, vi (p2 &&& (3 : Int32)), vd gq, ss, vd dq, ss, vd rr, ss, vd gg, ss, vd dd, ss, vd ov, ss, vd (9218868437227405312 : UInt64), ss, vd (own_curT ov dd), ss, uu, uu]) rfl ?_
          refine XS.goto X118.here hx rfl (pc0 := 257) (pc' := 282) rfl (hb hby at_257) (by decide) (by decide) ?_
          refine XS.dload X118.here hx rfl (hb hby at_282) rfl ?_
          show Steps p.tables e below (T117.setTop (mkF m 284 #[vi p0, vi p1, vi p2, vd (13835105343078251102 : UInt64), ss, vd (4572837751868907892 : UInt64), ss, vd (4571261708172110332 : UInt64), ss, vi (p2 &&& (3 : Int32)), vd gq, ss, vd dq, ss, vd rr, ss, vd gg, ss, vd dd, ss, vd ov, ss, vd (9218868437227405312 : UInt64), ss, vd (own_curT ov dd), ss, uu, uu] [(.double (own_curT ov dd))])) tQ
          refine XS.dconst0 X118.here hx rfl (hb hby at_284) rfl ?_
          refine XS.dcmpS (v := (own_c (own_z (own_curT ov dd)) (own_z FP.dconst0))) X118.here hx rfl (hb hby at_285) rfl (own_cE .l (own_cmpz (own_cT sov sdd gdd pd c1 c2).1.1.noNaN own_n0)) ?_
          refine XS.ifYes X118.here hx rfl (pc0 := 286) (pc' := 303) rfl (hb hby at_286) rfl (own_c_neY (own_nez (own_cT sov sdd gdd pd c1 c2))) (by decide) (by decide) ?_
          refine XS.dload X118.here hx rfl (hb hby at_303) rfl ?_
          show Steps p.tables e below (T117.setTop (mkF m 305 #[vi p0, vi p1, vi p2, vd (13835105343078251102 : UInt64), ss, vd (4572837751868907892 : UInt64), ss, vd (4571261708172110332 : UInt64), ss, vi (p2 &&& (3 : Int32)), vd gq, ss, vd dq, ss, vd rr, ss, vd gg, ss, vd dd, ss, vd ov, ss, vd (9218868437227405312 : UInt64), ss, vd (own_curT ov dd), ss, uu, uu] [(.double rr)])) tQ
          refine XS.dload X118.here hx rfl (hb hby at_305) rfl ?_
          refine XS.dmulS X118.here hx rfl (hb hby at_307) rfl (own_L4 sov sdd gdd pd c1 c2 hrr).1.noNaN rfl ?_
          refine XS.dload X118.here hx rfl (hb hby at_308) rfl ?_
          refine XS.dsubS X118.here hx rfl (hb hby at_310) rfl (own_sub_nn (own_L4 sov sdd gdd pd c1 c2 hrr).1 sdd.1) rfl ?_
          show Steps p.tables e below (T117.setTop (mkF m 311 #[vi p0, vi p1, vi p2, vd (13835105343078251102 : UInt64), ss, vd (4572837751868907892 : UInt64), ss, vd (4571261708172110332 : UInt64), ss, vi (p2 &&& (3 : Int32)), vd gq, ss, vd dq, ss, vd rr, ss, vd gg, ss, vd dd, ss, vd ov, ss, vd (9218868437227405312 : UInt64), ss, vd (own_curT ov dd), ss, uu, uu] [(.double (FP.dsub (FP.dmul rr (own_curT ov dd)) dd))])) tQ
          refine XS.dstore X118.here hx rfl (hb hby at_311) rfl (l' := #[vi p0, vi p1, vi p2, vd (13835105343078251102 : UInt64), ss, vd (4572837751868907892 : UInt64), ss, vd (4571261708172110332 : UInt64), ss, vi (p2 &&& (3 : Int32)), vd gq, ss, vd dq, ss, vd rr, ss, vd gg, ss, vd dd, ss, vd ov, ss, vd (9218868437227405312 : UInt64), ss, vd (own_curT ov dd), ss, vd (FP.dsub (FP.dmul rr (own_curT ov dd)) dd), ss]) rfl ?_
          refine XS.dload X118.here hx rfl (hb hby at_313) rfl ?_
          exact kk
        clear k163
        have st165 := X118.ldc2DoubleC hx hown (mvT hZ (tw16 hw)) (g := (mkF m 315 #[vi p0, vi p1, vi p2, vd (13835105343078251102 : UInt64), ss, vd (4572837751868907892 : UInt64), ss, vd (4571261708172110332 : UInt64), ss, vi (p2 &&& (3 : Int32)), vd gq, ss, vd dq, ss, vd rr, ss, vd gg, ss, vd dd, ss, vd ov, ss, vd (9218868437227405312 : UInt64), ss, vd (own_curT ov dd), ss, vd (FP.dsub (FP.dmul rr (own_curT ov dd)) dd), ss] [(.double (FP.dsub (FP.dmul rr (own_curT ov dd)) dd))])) rfl (hb hby at_315)
        have k166 : own_G p e below E0 T117 (mkF m 318 #[vi p0, vi p1, vi p2, vd (13835105343078251102 : UInt64), ss, vd (4572837751868907892 : UInt64), ss, vd (4571261708172110332 : UInt64), ss, vi (p2 &&& (3 : Int32)), vd gq, ss, vd dq, ss, vd rr, ss, vd gg, ss, vd dd, ss, vd ov, ss, vd (9218868437227405312 : UInt64), ss, vd (own_curT ov dd), ss, vd (FP.dsub (FP.dmul rr (own_curT ov dd)) dd), ss] [(.double (4427486594234968593 : UInt64)), (.double (FP.dsub (FP.dmul rr (own_curT ov dd)) dd))]) := fun tQ kk => k164 tQ (st165 _ kk)
        clear k164 st165
        have k167 : own_G p e below E0 T117 (mkF m 327 #[vi p0, vi p1, vi p2, vd (13835105343078251102 : UInt64), ss, vd (4572837751868907892 : UInt64), ss, vd (4571261708172110332 : UInt64), ss, vi (p2 &&& (3 : Int32)), vd gq, ss, vd dq, ss, vd rr, ss, vd gg, ss, vd dd, ss, vd ov, ss, vd (9218868437227405312 : UInt64), ss, vd (own_curT ov dd), ss, vd (FP.dsub (FP.dmul rr (own_curT ov dd)) dd), ss] [(.double (FP.dsub (FP.dmul rr (own_curT ov dd)) dd))]) := by
          intro tQ kk
          refine k166 tQ ?_
          refine XS.dload X118.here hx rfl (hb hby at_318) rfl ?_
          refine XS.dmulS X118.here hx rfl (hb hby at_320) rfl (own_vE sdd pd).1.1.1.noNaN rfl ?_
          refine XS.dcmpS (v := (own_c (own_z (FP.dsub (FP.dmul rr (own_curT ov dd)) dd)) (own_z (FP.dmul (4427486594234968593 : UInt64) dd)))) X118.here hx rfl (hb hby at_321) rfl (own_cE .g (own_cmpz (own_sub_nn (own_L4 sov sdd gdd pd c1 c2 hrr).1 sdd.1) (own_vE sdd pd).1.1.1.noNaN)) ?_
          refine XS.ifNo X118.here hx rfl (hb hby at_322) rfl (own_c_gtN (own_L4 sov sdd gdd pd c1 c2 hrr).2.1) ?_
          show Steps p.tables e below (T117.setTop (mkF m 325 #[vi p0, vi p1, vi p2, vd (13835105343078251102 : UInt64), ss, vd (4572837751868907892 : UInt64), ss, vd (4571261708172110332 : UInt64), ss, vi (p2 &&& (3 : Int32)), vd gq, ss, vd dq, ss, vd rr, ss, vd gg, ss, vd dd, ss, vd ov, ss, vd (9218868437227405312 : UInt64), ss, vd (own_curT ov dd), ss, vd (FP.dsub (FP.dmul rr (own_curT ov dd)) dd), ss] [])) tQ
          refine XS.dload X118.here hx rfl (hb hby at_325) rfl ?_
          exact kk
        clear k166
        have st168 := X118.ldc2DoubleC hx hown (mvT hZ (tw17 hw)) (g := (mkF m 327 #[vi p0, vi p1, vi p2, vd (13835105343078251102 : UInt64), ss, vd (4572837751868907892 : UInt64), ss, vd (4571261708172110332 : UInt64), ss, vi (p2 &&& (3 : Int32)), vd gq, ss, vd dq, ss, vd rr, ss, vd gg, ss, vd dd, ss, vd ov, ss, vd (9218868437227405312 : UInt64), ss, vd (own_curT ov dd), ss, vd (FP.dsub (FP.dmul rr (own_curT ov dd)) dd), ss] [(.double (FP.dsub (FP.dmul rr (own_curT ov dd)) dd))])) rfl (hb hby at_327)
        have k169 : own_G p e below E0 T117 (mkF m 330 #[vi p0, vi p1, vi p2, vd (13835105343078251102 : UInt64), ss, vd (4572837751868907892 : UInt64), ss, vd (4571261708172110332 : UInt64), ss, vi (p2 &&& (3 : Int32)), vd gq, ss, vd dq, ss, vd rr, ss, vd gg, ss, vd dd, ss, vd ov, ss, vd (9218868437227405312 : UInt64), ss, vd (own_curT ov dd), ss, vd (FP.dsub (FP.dmul rr (own_curT ov dd)) dd), ss] [(.double (13650858631089744401 : UInt64)), (.double (FP.dsub (FP.dmul rr (own_curT ov dd)) dd))]) := fun tQ kk => k167 tQ (st168 _ kk)
        clear k167 st168
        have k170 : own_G p e below E0 T117 (mkF m 342 #[vi p0, vi p1, vi p2, vd (13835105343078251102 : UInt64), ss, vd (4572837751868907892 : UInt64), ss, vd (4571261708172110332 : UInt64), ss, vi (p2 &&& (3 : Int32)), vd gq, ss, vd dq, ss, vd rr, ss, vd gg, ss, vd dd, ss, vd ov, ss, vd (9218868437227405312 : UInt64), ss, vd (own_curT ov dd), ss, vd (FP.dsub (FP.dmul rr (own_curT ov dd)) dd), ss] [(.int (1 : Int32))]) := by
          intro tQ kk
          refine k169 tQ ?_
          refine XS.dload X118.here hx rfl (hb hby at_330) rfl ?_
          refine XS.dmulS X118.here hx rfl (hb hby at_332) rfl (own_vE sdd pd).2.2.1 rfl ?_
          refine XS.dcmpS (v := (own_c (own_z (FP.dsub (FP.dmul rr (own_curT ov dd)) dd)) (own_z (FP.dmul (13650858631089744401 : UInt64) dd)))) X118.here hx rfl (hb hby at_333) rfl (own_cE .l (own_cmpz (own_sub_nn (own_L4 sov sdd gdd pd c1 c2 hrr).1 sdd.1) (own_vE sdd pd).2.2.1)) ?_
          refine XS.ifNo X118.here hx rfl (hb hby at_334) rfl (own_c_ltN (own_L4 sov sdd gdd pd c1 c2 hrr).2.2) ?_
          show Steps p.tables e below (T117.setTop (mkF m 337 #[vi p0, vi p1, vi p2, vd (13835105343078251102 : UInt64), ss, vd (4572837751868907892 : UInt64), ss, vd (4571261708172110332 : UInt64), ss, vi (p2 &&& (3 : Int32)), vd gq, ss, vd dq, ss, vd rr, ss, vd gg, ss, vd dd, ss, vd ov, ss, vd (9218868437227405312 : UInt64), ss, vd (own_curT ov dd), ss, vd (FP.dsub (FP.dmul rr (own_curT ov dd)) dd), ss] [])) tQ
          refine XS.iconst X118.here hx rfl (hb hby at_337) ?_
          refine XS.goto X118.here hx rfl (pc0 := 338) (pc' := 342) rfl (hb hby at_338) (by decide) (by decide) ?_
          exact kk
        clear k169
        obtain ⟨fs, hr, hrun, hended, hW, hsame⟩ := X118.leave (v := some (.int (1 : Int32))) (fun h => by rw [Bd.returns] at h; cases h)
        have hrun0 := k170 _ (retOut X118 hx Bd.returns (t := .boolean) rfl (Or.inl ⟨rfl, Or.inr (Or.inl rfl), _, rfl⟩) (hb hby at_342) hr)
        subst hE0
        refine ⟨_, _, hrun0, hrun, hended, _, _, rfl, ?_, ⟨_, rfl⟩, hW, hsame.mono (by decide) (by decide)⟩
        show Qrm0 Z p0 p1 p2 h0 n0 _ T117.heap _
        rw [e119]
        exact ⟨rfl, N121⟩
set_option maxRecDepth 65536 in
set_option maxHeartbeats 40000000 in
theorem comes_1 {Post : Tables → Env → Array Value → State → Outcome → State → Prop} (hpost : ∀ tb e args s v u, (limb_1_1.after args s (.returned v) u = true ∧ limb_1_2.after args s (.returned v) u = true ∧ True) → FrameEnd s (.returned v) u (Jvm.fieldLocs frame_1_writes args s ++ Jvm.arrayLocs frame_1_arrays args s ++ Jvm.staticLocs frame_1_statics s) 0 0 → Post tb e args s (.returned v) u) :
    ArmFor flags0 classFile x code maxLocals ret World_1 tables_1 room_1 Calls_1 rest_1 Pre_1 Post := by
  intro l hfl _ _ p e ha hc hk s m args below hf hA hF happ hP
  obtain ⟨hcalls, hrest, hpre⟩ := hP
  obtain ⟨-, -, -, hnamed, -, -, -, hat⟩ := (Spec.applies_iff hf).mp happ
  obtain ⟨hg, hn⟩ := and_e (Cond.before_iff.mp (show (Jvm.Cond.and given_1 narrow_1).before args s = true from hpre))
  obtain ⟨hct, hr0⟩ := and_e hg
  obtain ⟨ha0, hr1⟩ := and_e hr0
  obtain ⟨ha1, hr2⟩ := and_e hr1
  obtain ⟨w0, w1, w2, rfl⟩ : ∃ w0 w1 w2 : Value, args = #[w0, w1, w2] := by
    have hs : args.size = 3 := by simpa [Cond.value, given_1] using hct
    obtain ⟨L⟩ := args
    match L, hs with
    | [w0, w1, w2], _ => exact ⟨w0, w1, w2, rfl⟩
  have hw := fun d (hd : d ∈ tables_1) => atoms_spec (ws := Jvm.Cond.code x code maxLocals ret :: tables_1) hat d (List.mem_cons_of_mem _ hd)
  have hfit : Fit s := fun {y c} hc i hi => by
    obtain ⟨ha, rfl⟩ := Array.getElem?_eq_some_iff.mp hc
    have q := List.all_eq_true.mp ((Array.all_eq_true_iff_forall_mem.mp hF) _ (Array.getElem_mem ha)) i (List.mem_range.mpr hi)
    simpa [Array.getElem?_eq_getElem hi] using q
  obtain ⟨i0, ev0⟩ := is_v ha0
  obtain rfl : w0 = (.int i0) := Option.some.inj ev0
  obtain ⟨i1, ev1⟩ := is_v ha1
  obtain rfl : w1 = (.int i1) := Option.some.inj ev1
  obtain ⟨i2, ev2⟩ := is_v hr2
  obtain rfl : w2 = (.int i2) := Option.some.inj ev2
  obtain ⟨n, o, h1, h2, h3, _, L, rfl, ⟨rfl, N⟩, hq⟩ := rm0 l s _ hw tables_1 i0 i1 i2 s.heap s.heap.size (Nat.le_refl _) p e ha hc hk s m _ below hf ((Spec.applies_iff_loose hf).mp happ).1 ⟨rfl, State.Warmed39.refl s, rfl⟩ trivial
  refine ⟨n, _, h1, h2, h3, hpost _ _ _ _ _ _ ⟨Cond.after_iff.mpr rfl, Cond.after_iff.mpr (eq_i res_at (Term.int_eval (1)) rfl), trivial⟩ ⟨hq.1, hq.2.1, (hq.2.2.sift fun y hy => Or.inr (N y hy)).mono (by decide) (by decide)⟩⟩
theorem main_1_1 : Claimed_1_1 := comes_1 fun _ _ _ _ _ _ h hF => ⟨h.1, hF⟩
theorem main_1_2 : Claimed_1_2 := comes_1 fun _ _ _ _ _ _ h hF => ⟨h.2.1, hF⟩
end Jvm.Pilot.@@N@@
namespace Jvm.Pilot.@@N@@
open Jvm Jvm.ClassFile Sem Op Lib Jvm.Free Jvm.Stand Jvm.Pilot.@@N@@.Jvm.D
/-! MADE BY PROGRAM (witnessworld.py) out of the Statement's table words and the real class files: 9 classes; the members and pool entries that the words name. The judged class is class 1, her method 1. -/
namespace start1
open Jvm.ClassFile
def u (s : String) : CpInfo := .utf8 (stringToUtf16 s)
/-- a pool by its gaps: so many unusable entries, then the entry; so many at the end -/
def gap : Nat → List CpInfo → List CpInfo
  | 0, r => r
  | n + 1, r => .unusable :: gap n r
def poolList (es : List (Nat × CpInfo)) (last : Nat) : List CpInfo := es.foldr (fun e r => gap e.1 (e.2 :: r)) (gap last [])
def pool (es : List (Nat × CpInfo)) (last : Nat) : Array CpInfo := ⟨poolList es last⟩
def fileOf (pool : Array CpInfo) (this : Nat) (attrs : Array Attribute := #[]) (ms : Array MethodInfo := #[]) (fl : Nat := 33) (sup : Nat := 0) (ifs : Array Nat := #[]) (fds : Array FieldInfo := #[]) : ClassFile where
  minorVersion := 0
  majorVersion := 65
  constantPool := pool
  accessFlags := fl
  thisClass := this
  superClass := sup
  interfaces := ifs
  fields := fds
  methods := ms
  attributes := attrs
def plain (name : String) (sup : Option ClassId) : Class where
  name := name
  kind := .ordinary
  loader := none
  accessFlags := 33
  super := sup
  interfaces := #[]
  cf := none
  fields := #[]
  methods := #[]
  instanceTypes := #[]
  staticTypes := #[]
  resolved := #[]
  callSites := []
  init := .initialized
  statics := none
  mirror := none

def pool0 : Array CpInfo := pool [(5, u "<init>"), (0, u "()V"), (1, .class_ 10), (1, u "java/lang/Object")] 113

def k0m0 : Method := { name := "<init>", desc := "()V", sig := { parameters := [], returnType := none }, accessFlags := 1, code := none }
/-- java/lang/Object -/
def k0 : Class := { plain "java/lang/Object" none with
  accessFlags := 33
  interfaces := #[]
  cf := some (fileOf pool0 8 #[] #[{ accessFlags := 1, nameIndex := 5, descriptorIndex := 6, attributes := #[] }] 33 0 #[] #[])
  fields := #[]
  methods := #[k0m0]
  instanceTypes := #[]
  staticTypes := #[]
  resolved := Array.replicate 124 none
  statics := none }

def pool1 : Array CpInfo := pool [(2, .class_ 4), (1, u "java/lang/Object"), (0, u "<init>"), (0, u "()V"), (0, .double 13835105343078251102), (1, .double 4572837751868907892), (1, .double 4571261708172110332), (1, .double 4643211215818981376), (1, .double 9223372036854775808), (1, .methodref 18 19), (0, .class_ 20), (0, .nameAndType 21 22), (0, u "com/example/lampwork/lampwork/JfetResistor"), (0, u "channelResistance"), (0, u "(DD)D"), (0, .double 9218868437227405312), (1, .double 4611686018427387904), (1, .double 4427486594234968593), (1, .double 13650858631089744401), (1, .class_ 32), (0, u "com/example/lampwork/lampwork/JfetResistorChannelResistancePinLaw"), (2, u "law"), (0, u "(III)Z")] 3

def k1m0 : Method := { name := "<init>", desc := "()V", sig := { parameters := [], returnType := none }, accessFlags := 1, code := none }
def k1c1 : Code := { maxStack := 8, maxLocals := 28, code := code, exceptionTable := #[], attributes := #[] }
def k1m1 : Method := { name := "law", desc := "(III)Z", sig := { parameters := [.int, .int, .int], returnType := some .boolean }, accessFlags := 9, code := some k1c1 }
/-- com/example/lampwork/lampwork/JfetResistorChannelResistancePinLaw -/
def k1 : Class := { plain "com/example/lampwork/lampwork/JfetResistorChannelResistancePinLaw" (some 0) with
  accessFlags := 49
  interfaces := #[]
  cf := some (fileOf pool1 31 #[] #[{ accessFlags := 1, nameIndex := 5, descriptorIndex := 6, attributes := #[] }, { accessFlags := 9, nameIndex := 35, descriptorIndex := 36, attributes := #[] }] 49 2 #[] #[])
  fields := #[]
  methods := #[k1m0, k1m1]
  instanceTypes := #[]
  staticTypes := #[]
  resolved := Array.replicate 40 none
  statics := none }

def pool2 : Array CpInfo := pool [(2, .class_ 4), (1, u "java/lang/Object"), (0, u "<init>"), (0, u "()V"), (0, .double 4611686018427387904), (2, .class_ 12), (1, u "com/example/lampwork/lampwork/JfetResistor"), (0, u "previousDrainSource"), (0, u "D"), (2, u "earlierDrainSource"), (0, .methodref 10 19), (0, .nameAndType 20 21), (0, u "channelResistance"), (0, u "(DD)D"), (0, .double 13835105343078251102), (3, .double 9218868437227405312), (1, .double 4616284690168792098), (1, .double 4577341351496278388), (1, .double 4572837751868907892), (1, .double 4571261708172110332), (1, u "PINCH_OFF"), (1, u "SATURATION_CURRENT"), (0, u "LAMBDA")] 9

def k2m0 : Method := { name := "<init>", desc := "()V", sig := { parameters := [], returnType := none }, accessFlags := 0, code := none }
def k2c1 : Code := { maxStack := 10, maxLocals := 6, code := prog_14_method_4_code, exceptionTable := #[], attributes := #[] }
def k2m1 : Method := { name := "channelResistance", desc := "(DD)D", sig := { parameters := [.double, .double], returnType := some .double }, accessFlags := 8, code := some k2c1 }
/-- com/example/lampwork/lampwork/JfetResistor -/
def k2 : Class := { plain "com/example/lampwork/lampwork/JfetResistor" (some 0) with
  accessFlags := 48
  interfaces := #[]
  cf := some (fileOf pool2 10 #[] #[{ accessFlags := 0, nameIndex := 5, descriptorIndex := 6, attributes := #[] }, { accessFlags := 8, nameIndex := 20, descriptorIndex := 21, attributes := #[] }] 48 2 #[] #[{ accessFlags := 26, nameIndex := 36, descriptorIndex := 14, attributes := #[] }, { accessFlags := 26, nameIndex := 38, descriptorIndex := 14, attributes := #[] }, { accessFlags := 26, nameIndex := 39, descriptorIndex := 14, attributes := #[] }, { accessFlags := 2, nameIndex := 13, descriptorIndex := 14, attributes := #[] }, { accessFlags := 2, nameIndex := 17, descriptorIndex := 14, attributes := #[] }])
  fields := #[{ name := "PINCH_OFF", type := .double, accessFlags := 26, slot := 0, constantValue := 0 }, { name := "SATURATION_CURRENT", type := .double, accessFlags := 26, slot := 1, constantValue := 0 }, { name := "LAMBDA", type := .double, accessFlags := 26, slot := 2, constantValue := 0 }, { name := "previousDrainSource", type := .double, accessFlags := 2, slot := 0, constantValue := 0 }, { name := "earlierDrainSource", type := .double, accessFlags := 2, slot := 1, constantValue := 0 }]
  methods := #[k2m0, k2m1]
  instanceTypes := #[.double, .double]
  staticTypes := #[.double, .double, .double]
  resolved := Array.replicate 49 none
  statics := none }

def pool3 : Array CpInfo := pool [(1, u "java/lang/Cloneable"), (0, .class_ 1), (0, u "java/lang/Object"), (0, .class_ 3)] 3

/-- java/lang/Cloneable -/
def k3 : Class := { plain "java/lang/Cloneable" (some 0) with
  accessFlags := 1537
  interfaces := #[]
  cf := some (fileOf pool3 2 #[] #[] 1537 4 #[] #[])
  fields := #[]
  methods := #[]
  instanceTypes := #[]
  staticTypes := #[]
  resolved := Array.replicate 8 none
  statics := none }

def pool4 : Array CpInfo := pool [(1, u "java/io/Serializable"), (0, .class_ 1), (0, u "java/lang/Object"), (0, .class_ 3)] 3

/-- java/io/Serializable -/
def k4 : Class := { plain "java/io/Serializable" (some 0) with
  accessFlags := 1537
  interfaces := #[]
  cf := some (fileOf pool4 2 #[] #[] 1537 4 #[] #[])
  fields := #[]
  methods := #[]
  instanceTypes := #[]
  staticTypes := #[]
  resolved := Array.replicate 8 none
  statics := none }

/-- the primitive byte -/
def k5 : Class := { plain "byte" none with kind := .primitive 'B', accessFlags := 0x411 }
/-- [B -/
def k6 : Class := { plain "[B" (some 0) with kind := .array 5 .byte, interfaces := #[3, 4], accessFlags := 1041 }

/-- the primitive int -/
def k7 : Class := { plain "int" none with kind := .primitive 'I', accessFlags := 0x411 }
/-- [I -/
def k8 : Class := { plain "[I" (some 0) with kind := .array 7 .int, interfaces := #[3, 4], accessFlags := 1041 }

def heap : Heap := #[]
def classes : Array Class := #[k0, k1, k2, k3, k4, k5, k6, k7, k8]
def interned : List (Array UInt16 × Addr) := []
def slotsUsed : Nat := 0
def theMethod : MethodId := ⟨1, 1⟩
def args0 : Array Value := #[.int 3, .int 4, .int 0]
def aboutOver (below : List Frame) : State where
  vm := { classes := classes, interned := interned.toArray }
  heap := heap
  slotsUsed := slotsUsed
  threads := #[{ frames := .invoking theMethod args0 :: below }]
def below0 : List Frame := [.native { method := ⟨0, 0⟩, args := #[] }]
def about1 : State := aboutOver below0
def p0 : Program := .bare "" "" ""
def e0 : Env := launch0.env 0 0 0
theorem w_frames : about1.frames = Frame.invoking theMethod args0 :: below0 := rfl
set_option maxRecDepth 65536 in
theorem w_args : argsFit about1.vm theMethod args0 = true := by decide +kernel
set_option maxRecDepth 65536 in
theorem w_heap : heapFits about1 = true := by decide +kernel
set_option maxRecDepth 65536 in
theorem w_runnable : about1.curStatus? = some .runnable := by decide +kernel
set_option maxRecDepth 65536 in
theorem w_alone : about1.alone = true := by decide +kernel
set_option maxRecDepth 65536 in
theorem w_named : about1.methodNamed? x = some theMethod := by decide +kernel
set_option maxRecDepth 65536 in
theorem w_hears : about1.hears theMethod below0 = true := by decide +kernel
set_option maxRecDepth 65536 in
theorem w_ripe : about1.ripe theMethod args0 below0 = true := by decide +kernel
theorem w_running : about1.status = .running := rfl
set_option maxRecDepth 65536 in
theorem w_room : about1.hasRoom e0.platform room_1 = true :=
  launch0.hasRoom_least _ room_1 (by decide +kernel) (by decide +kernel) (by decide +kernel) (by decide +kernel) (by decide +kernel) (by decide +kernel)
theorem allAtoms_all (ts : List Jvm.Cond) (a : Array Jvm.Value) (st : Jvm.State) : (allAtoms ts).before a st = ts.all (fun c => c.before a st) := by
  induction ts with
  | nil => rfl
  | cons c t ih =>
    show (Jvm.Cond.and c (allAtoms t)).before a st = _
    rw [Jvm.Cond.before_and, ih, List.all_cons]
def words1 : List Jvm.Cond := Jvm.Cond.code x code maxLocals ret :: tables_1
/-- a 'code' word, met by the world's own term for the bytes: nothing is compared byte by byte -/
theorem code_word {y : MethodName} {bytes : ByteArray} {mx : Nat} {rt : Option FieldType} {a : Array Value} {s : State} {m : MethodId} {meth : Method} {c : Code} (h1 : s.methodNamed? y = some m) (h2 : s.vm.method? m = some meth) (h3 : meth.code = some c) (h4 : c.code = bytes)
    (h5 : (c.maxLocals == mx && c.exceptionTable.isEmpty && decide (c.maxStack ≤ mostOperands) && decide (meth.sig.returnType = rt) && !meth.locks && decide (parseMethodDescriptor y.desc = some meth.sig)) = true) : (Jvm.Cond.code y bytes mx rt).before a s = true := by
  simp only [Bool.and_eq_true, beq_iff_eq, Bool.not_eq_true', decide_eq_true_eq] at h5
  obtain ⟨⟨⟨⟨⟨g1, g2⟩, g3⟩, g4⟩, g5⟩, g6⟩ := h5
  simp [Cond.before, Cond.holds, Cond.value, h1, h2, h3, h4, g1, g2, g3, g4, g5, g6]
def isCode : Jvm.Cond → Bool
  | .code _ _ _ _ => true
  | _ => false
theorem all_split {L : List Jvm.Cond} {P : Jvm.Cond → Bool} (h1 : L.all (fun c => isCode c || P c) = true) (h2 : ∀ c ∈ L.filter isCode, P c = true) : L.all P = true := by
  refine List.all_eq_true.mpr fun c hc => ?_
  have h := List.all_eq_true.mp h1 c hc
  rcases Bool.eq_false_or_eq_true (isCode c) with hi | hi
  · exact h2 c (List.mem_filter.mpr ⟨hc, hi⟩)
  · simpa [hi] using h
set_option maxRecDepth 65536 in
theorem w_c0 : (Jvm.Cond.code x code maxLocals ret).before args0 about1 = true := code_word (m := ⟨1, 1⟩) (meth := k1m1) (c := k1c1) (by decide +kernel) rfl rfl rfl (by decide +kernel)
set_option maxRecDepth 65536 in
theorem w_c1 : (Jvm.Cond.code ({ cls := "com/example/lampwork/lampwork/JfetResistor", name := "channelResistance", desc := "(DD)D" } : Jvm.MethodName) prog_14_method_4_code (6 : Nat) (Option.some Jvm.ClassFile.FieldType.double)).before args0 about1 = true := code_word (m := ⟨2, 1⟩) (meth := k2m1) (c := k2c1) (by decide +kernel) rfl rfl rfl (by decide +kernel)
def codes1 : List Jvm.Cond := [Jvm.Cond.code x code maxLocals ret, Jvm.Cond.code ({ cls := "com/example/lampwork/lampwork/JfetResistor", name := "channelResistance", desc := "(DD)D" } : Jvm.MethodName) prog_14_method_4_code (6 : Nat) (Option.some Jvm.ClassFile.FieldType.double)]
set_option maxRecDepth 65536 in
theorem codes_eq : words1.filter isCode = codes1 := rfl
theorem w_codes : ∀ c ∈ words1.filter isCode, c.before args0 about1 = true := by
  rw [codes_eq]
  intro c hc
  simp only [codes1, List.mem_cons, List.not_mem_nil, or_false] at hc
  rcases hc with rfl | rfl
  · exact w_c0
  · exact w_c1
set_option maxRecDepth 65536 in
theorem w_t1 : words1.all (fun c => isCode c || c.before args0 about1) = true := by decide +kernel
theorem w_tables : (allAtoms (Jvm.Cond.code x code maxLocals ret :: tables_1)).before args0 about1 = true := by
  rw [allAtoms_all]
  show words1.all (fun c => c.before args0 about1) = true
  refine all_split ?_ w_codes
  rw [w_t1]
set_option maxRecDepth 65536 in
theorem w_case : (Jvm.Cond.and given_1 narrow_1).before args0 about1 = true := by decide +kernel
theorem w_applies : (headSpec (Jvm.Cond.code x code maxLocals ret :: tables_1) room_1).applies x e0.platform about1 = true :=
  (Spec.applies_iff w_frames).mpr ⟨w_running, w_runnable, w_alone, w_named, w_hears, w_ripe, w_room, w_tables⟩
theorem atStart : AtStart classFile x code maxLocals ret World_1 tables_1 room_1 Calls_1 rest_1 Pre_1 launch0 p0 e0 about1 theMethod args0 below0 :=
  ⟨lists_1, trivial, launch0.admits_env _ _ _, launch0.least_env, fairChoices_fair.cas, fairChoices_fair.clock, w_frames, w_args, w_heap, w_applies, trivial, trivial, w_case⟩
end start1
theorem witness_1 : WitnessClaimed_1 := ⟨start1.p0, start1.e0, start1.about1, start1.theMethod, start1.args0, start1.below0, start1.atStart⟩
end Jvm.Pilot.@@N@@
