import JvmDerived
import JvmDerived.Pilot.@@N@@Statement
import JvmDerived.Pilot.@@N@@Code
set_option linter.unusedVariables false
set_option linter.unusedSimpArgs false
@@BLOCK:NumsL.lean.txt@@
namespace Jvm.Pilot.@@N@@
open Jvm Jvm.ClassFile Sem Op Lib Jvm.Free Jvm.Stand Jvm.LawKit Jvm.RoadKit Bundle Jvm.Pilot.@@N@@.Jvm.D
open Jvm.Free.Fl (NoNaN64 Fin64 Nz64)
theorem own_lt_ne {a b n : Nat} (h : a < n) (g : b = n) : a ≠ b := by omega
theorem own_lt_ne2 {a b n : Nat} (h : a < n) (g : n ≤ b) : a ≠ b := by omega
theorem own_ge_of {k b n : Nat} (h : k ≤ n) (g : b = n) : k ≤ b := by omega
abbrev uu : Slot := .unset
abbrev ss : Slot := .second
abbrev vi (x : Int32) : Slot := .val (.int x)
abbrev vj (x : Int64) : Slot := .val (.long x)
abbrev vd (x : UInt64) : Slot := .val (.double x)
abbrev vr (x : Addr) : Slot := .val (.ref x)
/-- whatever is reached from here is reached from E -/
abbrev own_G (p : Program) (e : Env) (below : List Frame) (E T : State) (g : JFrame) : Prop := ∀ t, Steps p.tables e below (T.setTop g) t → Steps p.tables e below E t
theorem own_if_eqY {x : Int32} (h : x = 0) : ifCond.holds .eq x = true := by subst h; rfl
theorem own_if_eqN {x : Int32} (h : ¬ x = 0) : ifCond.holds .eq x = false := beq_false_of_ne h
theorem own_if_neY {x : Int32} (h : ¬ x = 0) : ifCond.holds .ne x = true := bne_iff_ne.mpr h
theorem own_if_neN {x : Int32} (h : x = 0) : ifCond.holds .ne x = false := by subst h; rfl
theorem own_if_ltY {x : Int32} (h : x < 0) : ifCond.holds .lt x = true := decide_eq_true h
theorem own_if_ltN {x : Int32} (h : ¬ x < 0) : ifCond.holds .lt x = false := decide_eq_false h
theorem own_if_geY {x : Int32} (h : ¬ x < 0) : ifCond.holds .ge x = true := decide_eq_true (Int32.not_lt.mp h)
theorem own_if_geN {x : Int32} (h : x < 0) : ifCond.holds .ge x = false := decide_eq_false (fun q => Int32.not_le.mpr h q)
theorem own_if_gtY {x : Int32} (h : 0 < x) : ifCond.holds .gt x = true := decide_eq_true h
theorem own_if_gtN {x : Int32} (h : ¬ 0 < x) : ifCond.holds .gt x = false := decide_eq_false h
theorem own_if_leY {x : Int32} (h : ¬ 0 < x) : ifCond.holds .le x = true := decide_eq_true (Int32.not_lt.mp h)
theorem own_if_leN {x : Int32} (h : 0 < x) : ifCond.holds .le x = false := decide_eq_false (fun q => Int32.not_le.mpr h q)
theorem own_ic_eqY {x y : Int32} (h : x = y) : if_icmp.holds .eq x y = true := beq_iff_eq.mpr h
theorem own_ic_eqN {x y : Int32} (h : ¬ x = y) : if_icmp.holds .eq x y = false := beq_false_of_ne h
theorem own_ic_neY {x y : Int32} (h : ¬ x = y) : if_icmp.holds .ne x y = true := bne_iff_ne.mpr h
theorem own_ic_neN {x y : Int32} (h : x = y) : if_icmp.holds .ne x y = false := by subst h; exact bne_self_eq_false x
theorem own_ic_ltY {x y : Int32} (h : x < y) : if_icmp.holds .lt x y = true := decide_eq_true h
theorem own_ic_ltN {x y : Int32} (h : ¬ x < y) : if_icmp.holds .lt x y = false := decide_eq_false h
theorem own_ic_geY {x y : Int32} (h : ¬ x < y) : if_icmp.holds .ge x y = true := decide_eq_true (Int32.not_lt.mp h)
theorem own_ic_geN {x y : Int32} (h : x < y) : if_icmp.holds .ge x y = false := decide_eq_false (fun q => Int32.not_le.mpr h q)
theorem own_ic_gtY {x y : Int32} (h : y < x) : if_icmp.holds .gt x y = true := decide_eq_true h
theorem own_ic_gtN {x y : Int32} (h : ¬ y < x) : if_icmp.holds .gt x y = false := decide_eq_false h
theorem own_ic_leY {x y : Int32} (h : ¬ y < x) : if_icmp.holds .le x y = true := decide_eq_true (Int32.not_lt.mp h)
theorem own_ic_leN {x y : Int32} (h : y < x) : if_icmp.holds .le x y = false := decide_eq_false (fun q => Int32.not_le.mpr h q)
/-- what a comparison of two whole or scaled values pushes -/
def own_c (i j : Int) : Int32 := if i < j then -1 else if i = j then 0 else 1
theorem own_cE (o : CmpOp) {x y : UInt64} {i j : Int} (h : FP.dcmp x y = some (compare i j)) : cmpValue (FP.dcmp x y) o = own_c i j := by
  rw [h, FP.Core.compare_ite, own_c]
  by_cases h1 : i < j
  · rw [if_pos h1, if_pos h1]; cases o <;> rfl
  · rw [if_neg h1, if_neg h1]
    by_cases h2 : i = j
    · rw [if_pos h2, if_pos h2]; cases o <;> rfl
    · rw [if_neg h2, if_neg h2]; cases o <;> rfl
theorem own_c_lt {i j : Int} (h : i < j) : own_c i j = -1 := by rw [own_c, if_pos h]
theorem own_c_eq {i j : Int} (h : i = j) : own_c i j = 0 := by rw [own_c, if_neg (by omega), if_pos h]
theorem own_c_gt {i j : Int} (h : j < i) : own_c i j = 1 := by rw [own_c, if_neg (by omega), if_neg (by omega)]
theorem own_c_cases (i j : Int) : (i < j ∧ own_c i j = -1) ∨ (i = j ∧ own_c i j = 0) ∨ (j < i ∧ own_c i j = 1) := by
  rcases Int.lt_trichotomy i j with h | h | h
  · exact Or.inl ⟨h, own_c_lt h⟩
  · exact Or.inr (Or.inl ⟨h, own_c_eq h⟩)
  · exact Or.inr (Or.inr ⟨h, own_c_gt h⟩)
theorem own_c_ltY {i j : Int} (h : i < j) : ifCond.holds .lt (own_c i j) = true := by rw [own_c_lt h]; rfl
theorem own_c_ltN {i j : Int} (h : ¬ i < j) : ifCond.holds .lt (own_c i j) = false := by rcases own_c_cases i j with q | q | q <;> first | exact absurd q.1 h | (rw [q.2]; rfl)
theorem own_c_geY {i j : Int} (h : ¬ i < j) : ifCond.holds .ge (own_c i j) = true := by rcases own_c_cases i j with q | q | q <;> first | exact absurd q.1 h | (rw [q.2]; rfl)
theorem own_c_geN {i j : Int} (h : i < j) : ifCond.holds .ge (own_c i j) = false := by rw [own_c_lt h]; rfl
theorem own_c_gtY {i j : Int} (h : j < i) : ifCond.holds .gt (own_c i j) = true := by rw [own_c_gt h]; rfl
theorem own_c_gtN {i j : Int} (h : ¬ j < i) : ifCond.holds .gt (own_c i j) = false := by rcases own_c_cases i j with q | q | q <;> first | exact absurd q.1 h | (rw [q.2]; rfl)
theorem own_c_leY {i j : Int} (h : ¬ j < i) : ifCond.holds .le (own_c i j) = true := by rcases own_c_cases i j with q | q | q <;> first | exact absurd q.1 h | (rw [q.2]; rfl)
theorem own_c_leN {i j : Int} (h : j < i) : ifCond.holds .le (own_c i j) = false := by rw [own_c_gt h]; rfl
theorem own_c_eqY {i j : Int} (h : i = j) : ifCond.holds .eq (own_c i j) = true := by rw [own_c_eq h]; rfl
theorem own_c_eqN {i j : Int} (h : ¬ i = j) : ifCond.holds .eq (own_c i j) = false := by rcases own_c_cases i j with q | q | q <;> first | exact absurd q.1 h | (rw [q.2]; rfl)
theorem own_c_neY {i j : Int} (h : ¬ i = j) : ifCond.holds .ne (own_c i j) = true := by rcases own_c_cases i j with q | q | q <;> first | exact absurd q.1 h | (rw [q.2]; rfl)
theorem own_c_neN {i j : Int} (h : i = j) : ifCond.holds .ne (own_c i j) = false := by rw [own_c_eq h]; rfl
theorem own_l_lt {i j : Int64} (h : i < j) : XT.cmpL i j = -1 := by
  rw [XT.cmpL, if_neg (fun q => Int64.lt_irrefl (Int64.lt_trans h q)), if_neg (fun q => Int64.lt_irrefl (q ▸ h))]
theorem own_l_eq {i j : Int64} (h : i = j) : XT.cmpL i j = 0 := by subst h; rw [XT.cmpL, if_neg Int64.lt_irrefl, if_pos rfl]
theorem own_l_gt {i j : Int64} (h : j < i) : XT.cmpL i j = 1 := by rw [XT.cmpL, if_pos h]
theorem own_l_cases (i j : Int64) : (i < j ∧ XT.cmpL i j = -1) ∨ (i = j ∧ XT.cmpL i j = 0) ∨ (j < i ∧ XT.cmpL i j = 1) := by
  by_cases h : i < j
  · exact Or.inl ⟨h, own_l_lt h⟩
  · by_cases h2 : i = j
    · exact Or.inr (Or.inl ⟨h2, own_l_eq h2⟩)
    · have h3 : j < i := by
        rw [Int64.lt_iff_toInt_lt] at h ⊢
        have h4 : i.toInt ≠ j.toInt := fun q => h2 (Int64.toInt_inj.mp q)
        omega
      exact Or.inr (Or.inr ⟨h3, own_l_gt h3⟩)
theorem own_l_ltY {i j : Int64} (h : i < j) : ifCond.holds .lt (XT.cmpL i j) = true := by rw [own_l_lt h]; rfl
theorem own_l_ltN {i j : Int64} (h : ¬ i < j) : ifCond.holds .lt (XT.cmpL i j) = false := by rcases own_l_cases i j with q | q | q <;> first | exact absurd q.1 h | (rw [q.2]; rfl)
theorem own_l_geY {i j : Int64} (h : ¬ i < j) : ifCond.holds .ge (XT.cmpL i j) = true := by rcases own_l_cases i j with q | q | q <;> first | exact absurd q.1 h | (rw [q.2]; rfl)
theorem own_l_geN {i j : Int64} (h : i < j) : ifCond.holds .ge (XT.cmpL i j) = false := by rw [own_l_lt h]; rfl
theorem own_l_gtY {i j : Int64} (h : j < i) : ifCond.holds .gt (XT.cmpL i j) = true := by rw [own_l_gt h]; rfl
theorem own_l_gtN {i j : Int64} (h : ¬ j < i) : ifCond.holds .gt (XT.cmpL i j) = false := by rcases own_l_cases i j with q | q | q <;> first | exact absurd q.1 h | (rw [q.2]; rfl)
theorem own_l_leY {i j : Int64} (h : ¬ j < i) : ifCond.holds .le (XT.cmpL i j) = true := by rcases own_l_cases i j with q | q | q <;> first | exact absurd q.1 h | (rw [q.2]; rfl)
theorem own_l_leN {i j : Int64} (h : j < i) : ifCond.holds .le (XT.cmpL i j) = false := by rw [own_l_gt h]; rfl
theorem own_l_eqY {i j : Int64} (h : i = j) : ifCond.holds .eq (XT.cmpL i j) = true := by rw [own_l_eq h]; rfl
theorem own_l_eqN {i j : Int64} (h : ¬ i = j) : ifCond.holds .eq (XT.cmpL i j) = false := by rcases own_l_cases i j with q | q | q <;> first | exact absurd q.1 h | (rw [q.2]; rfl)
theorem own_l_neY {i j : Int64} (h : ¬ i = j) : ifCond.holds .ne (XT.cmpL i j) = true := by rcases own_l_cases i j with q | q | q <;> first | exact absurd q.1 h | (rw [q.2]; rfl)
theorem own_l_neN {i j : Int64} (h : i = j) : ifCond.holds .ne (XT.cmpL i j) = false := by rw [own_l_eq h]; rfl
theorem own_ac_eq_Y {x y : Value} (h : x = y) : XT.acmp .eq x y = true := decide_eq_true h
theorem own_ac_eq_N {x y : Value} (h : ¬ x = y) : XT.acmp .eq x y = false := decide_eq_false h
theorem own_ac_ne_Y {x y : Value} (h : ¬ x = y) : XT.acmp .ne x y = true := decide_eq_true h
theorem own_ac_ne_N {x y : Value} (h : x = y) : XT.acmp .ne x y = false := decide_eq_false (fun q => q h)
theorem own_ar_eq_Y {x y : Addr} (h : x = y) : XT.acmp .eq (.ref x) (.ref y) = true := own_ac_eq_Y (congrArg Value.ref h)
theorem own_ar_eq_N {x y : Addr} (h : ¬ x = y) : XT.acmp .eq (.ref x) (.ref y) = false := own_ac_eq_N (fun q => h (Value.ref.inj q))
theorem own_ar_ne_Y {x y : Addr} (h : ¬ x = y) : XT.acmp .ne (.ref x) (.ref y) = true := own_ac_ne_Y (fun q => h (Value.ref.inj q))
theorem own_ar_ne_N {x y : Addr} (h : x = y) : XT.acmp .ne (.ref x) (.ref y) = false := own_ac_ne_N (congrArg Value.ref h)
/-- a static's object's field that the case names by a number -/
theorem own_ord {args : Array Value} {s : State} {t : Term} {C n d : String} {k : Int32} {x : Addr} (ev : t.eval args s none [] s = some (.ref x))
    (h : (Jvm.Cond.eq (Term.field t C n d) (Term.int k)).value args s none s [] = some true) : s.fieldOf? x C n d = some (.int k) := by
  obtain ⟨v, u, e1, e2, k1, k2⟩ := cmp_v (Or.inl h)
  have e3 : u = .int k := by have := (Term.int_eval (args := args) (first := s) (o := none) (idx := []) (s := s) k).symm.trans e2; exact (Option.some.inj this).symm
  subst e3
  obtain ⟨z, rfl⟩ := k2
  have q := gotT (Cond.eq_ints e1 e2) h
  rw [← fld_at ev, e1, q]
/-! doubles: exact values in units of the least double -/
def own_z (x : UInt64) : Int := FP.Core.zval FP.Core.b64 (FP.Core.val64 x)
theorem own_nn {i : Int} {x : UInt64} (h : FP.Core.DInt i x) : NoNaN64 x := Fl.val64_no.mpr (FP.Core.DInt_ne_nan h)
theorem own_cmpz {x y : UInt64} (hx : NoNaN64 x) (hy : NoNaN64 y) : FP.dcmp x y = some (compare (own_z x) (own_z y)) := FP.Core.dcmp_zval (Fl.val64_no.mp hx) (Fl.val64_no.mp hy)
theorem own_d0 : FP.Core.DInt 0 FP.dconst0 := by
  have h := FP.Core.l2d_int (a := 0) (by decide)
  rw [FP.Core.l2d_zero] at h; exact h
theorem own_d1 : FP.Core.DInt 1 FP.dconst1 := FP.Core.dint_one
theorem own_zi {i : Int} {x : UInt64} (h : FP.Core.DInt i x) : own_z x = i * (FP.Core.one64 : Int) := FP.Core.DInt_zval h
theorem own_fini {i : Int} {x : UInt64} (h : FP.Core.DInt i x) : Fin64 x := by
  have h' : FP.Core.Whole i (FP.Core.val64 x) := h
  cases hv : FP.Core.val64 x with
  | nan => rw [hv] at h'; exact h'.elim
  | inf s => rw [hv] at h'; exact h'.elim
  | fin s c q => exact Fl.fin64_core.mpr ⟨s, c, q, hv⟩
theorem own_one : (0 : Int) < (FP.Core.one64 : Int) := by have := FP.Core.one64_pos; omega
theorem own_nz {x : UInt64} (h : own_z x ≠ 0) : Nz64 x := Fl.nz64_core.mpr fun ⟨s, q, e⟩ => h (by
  show FP.Core.zval FP.Core.b64 (FP.Core.val64 x) = 0
  rw [e]; show FP.Core.signed s (0 * _) = 0; rw [Nat.zero_mul]; cases s <;> rfl)
theorem own_nzi {i : Int} {x : UInt64} (h : FP.Core.DInt i x) (hi : i ≠ 0) : Nz64 x := own_nz (by
  rw [own_zi h]; intro q; rcases Int.mul_eq_zero.mp q with r | r
  · exact hi r
  · have := own_one; omega)
theorem own_zn (x : UInt64) : (own_z x).natAbs = FP.Core.zmag FP.Core.b64 (FP.Core.val64 x) := FP.Core.natAbs_signed _ _
/-- the quotient, by the two values alone -/
theorem own_quot {x y : UInt64} (hx : Fin64 x) (hy : Fin64 y) (hz : own_z y ≠ 0) :
    FP.Core.val64 (FP.ddiv x y) = FP.Core.roundRatio FP.Core.b64 (FP.Core.sgn (FP.Core.val64 x) != FP.Core.sgn (FP.Core.val64 y)) (own_z x).natAbs (own_z y).natAbs 0 := by
  obtain ⟨s, c, q, ex⟩ := Fl.fin64_core.mp hx
  obtain ⟨t, d, r, ey⟩ := Fl.fin64_core.mp hy
  have fx : FP.Core.fits FP.Core.b64 (.fin s c q) := ex ▸ FP.Core.val64_fits x
  have fy : FP.Core.fits FP.Core.b64 (.fin t d r) := ey ▸ FP.Core.val64_fits y
  have hd : d ≠ 0 := fun h => hz (by
    show FP.Core.zval FP.Core.b64 (FP.Core.val64 y) = 0
    rw [ey, h]; show FP.Core.signed t (0 * _) = 0; rw [Nat.zero_mul]; cases t <;> rfl)
  rw [own_zn, own_zn, show FP.ddiv x y = FP.Core.ddiv x y from rfl, FP.Core.val64_ddiv, ex, ey]
  show (if d = 0 then _ else FP.Core.roundRatio FP.Core.b64 (s != t) c d (q - r)) = FP.Core.roundRatio FP.Core.b64 (s != t) (c * 2 ^ (q - FP.Core.b64.qmin).toNat) (d * 2 ^ (r - FP.Core.b64.qmin).toNat) 0
  rw [if_neg hd]
  refine FP.Core.roundRatio_congr (Nat.pos_of_ne_zero hd) (Nat.mul_pos (Nat.pos_of_ne_zero hd) (Nat.two_pow_pos _)) ?_
  have h1 := fx.2.1
  have h2 := fy.2.1
  have e1 : (r - FP.Core.b64.qmin).toNat + (q - r - 0).toNat = (q - FP.Core.b64.qmin).toNat + (0 - (q - r)).toNat := by omega
  calc c * (d * 2 ^ (r - FP.Core.b64.qmin).toNat) * 2 ^ (q - r - 0).toNat = c * d * (2 ^ (r - FP.Core.b64.qmin).toNat * 2 ^ (q - r - 0).toNat) := by
        rw [Nat.mul_assoc, Nat.mul_assoc, Nat.mul_assoc]
    _ = c * d * (2 ^ (q - FP.Core.b64.qmin).toNat * 2 ^ (0 - (q - r)).toNat) := by rw [← Nat.pow_add, ← Nat.pow_add, e1]
    _ = c * 2 ^ (q - FP.Core.b64.qmin).toNat * d * 2 ^ (0 - (q - r)).toNat := by
        rw [Nat.mul_right_comm c _ d, Nat.mul_assoc (c * d)]
theorem own_noNaN_of {x : UInt64} {s : Bool} {A B : Nat} {e : Int} (h : FP.Core.val64 x = FP.Core.roundRatio FP.Core.b64 s A B e) : NoNaN64 x :=
  Fl.val64_no.mpr (h ▸ FP.Core.roundRatio_ne_nan _ _ _ _ _)
theorem own_div_nn {x y : UInt64} (hx : Fin64 x) (hy : Fin64 y) (hz : own_z y ≠ 0) : NoNaN64 (FP.ddiv x y) := Fl.ddiv_out hx.noNaN hy (own_nz hz)
/-- what is rounded below (above) a double stays there -/
theorem own_rr_le {s : Bool} {A B : Nat} {V : UInt64} (hB : 0 < B) (hV : NoNaN64 V) (h : A * FP.Core.one64 ≤ (own_z V).natAbs * B) :
    FP.Core.zmag FP.Core.b64 (FP.Core.roundRatio FP.Core.b64 s A B 0) ≤ (own_z V).natAbs := by
  rw [own_zn] at h ⊢
  refine FP.Core.zmag_roundRatio_le FP.Core.good_b64 hB (FP.Core.val64_fits V) (Fl.val64_no.mp hV) (e0 := FP.Core.b64.qmin) (Int.le_refl _) (by decide +kernel) ?_
  rw [Int.sub_self]
  show A * 2 ^ (0 - FP.Core.b64.qmin).toNat ≤ _ * 1 * B
  rw [Nat.mul_one, Int.zero_sub, FP.Core.pow_qmin64]; exact h
theorem own_rr_ge {s : Bool} {A B : Nat} {V : UInt64} (hB : 0 < B) (h : (own_z V).natAbs * B ≤ A * FP.Core.one64) :
    (own_z V).natAbs ≤ FP.Core.zmag FP.Core.b64 (FP.Core.roundRatio FP.Core.b64 s A B 0) := by
  rw [own_zn] at h ⊢
  refine FP.Core.zmag_roundRatio_ge FP.Core.good_b64 hB (FP.Core.val64_fits V) (e0 := FP.Core.b64.qmin) (Int.le_refl _) (by decide +kernel) ?_
  rw [Int.sub_self]
  show _ * 1 * B ≤ A * 2 ^ (0 - FP.Core.b64.qmin).toNat
  rw [Nat.mul_one, Int.zero_sub, FP.Core.pow_qmin64]; exact h
theorem own_z_signed {x : UInt64} {s : Bool} {A B : Nat} (h : FP.Core.val64 x = FP.Core.roundRatio FP.Core.b64 s A B 0) :
    own_z x = FP.Core.signed s (FP.Core.zmag FP.Core.b64 (FP.Core.roundRatio FP.Core.b64 s A B 0)) := by
  show FP.Core.signed _ _ = _
  rw [h, FP.Core.sgn_roundRatio]
/-- a quotient of two that are not below nought -/
theorem own_div_ge0 {x y : UInt64} (hx : Fin64 x) (hy : Fin64 y) (hz : own_z y ≠ 0) (h0 : 0 ≤ own_z x) (h1 : 0 ≤ own_z y) : 0 ≤ own_z (FP.ddiv x y) := by
  have hq := own_quot hx hy hz
  rw [own_z_signed hq]
  cases hs : (FP.Core.sgn (FP.Core.val64 x) != FP.Core.sgn (FP.Core.val64 y)) with
  | false => exact Int.natCast_nonneg _
  | true =>
    have hy2 : FP.Core.sgn (FP.Core.val64 y) = false := by
      cases hs2 : FP.Core.sgn (FP.Core.val64 y) with
      | false => rfl
      | true =>
        exfalso; have : own_z y = -(FP.Core.zmag FP.Core.b64 (FP.Core.val64 y) : Int) := by show FP.Core.signed _ _ = _; rw [hs2]; rfl
        omega
    have hx2 : FP.Core.sgn (FP.Core.val64 x) = true := by rw [hy2] at hs; simpa using hs
    have hx3 : own_z x = -(FP.Core.zmag FP.Core.b64 (FP.Core.val64 x) : Int) := by show FP.Core.signed _ _ = _; rw [hx2]; rfl
    have hx4 : (own_z x).natAbs = 0 := by omega
    rw [hx4, FP.Core.roundRatio, if_pos rfl]
    show 0 ≤ FP.Core.signed true (0 * _); rw [Nat.zero_mul]; decide
theorem own_div_le {x y V : UInt64} (hx : Fin64 x) (hy : Fin64 y) (hz : own_z y ≠ 0) (hV : NoNaN64 V) (h0 : 0 ≤ own_z x) (h1 : 0 ≤ own_z y) (h2 : 0 ≤ own_z V)
    (h : own_z x * (FP.Core.one64 : Int) ≤ own_z V * own_z y) : own_z (FP.ddiv x y) ≤ own_z V := by
  have hq := own_quot hx hy hz
  have hge := own_div_ge0 hx hy hz h0 h1
  have hB : 0 < (own_z y).natAbs := by omega
  have h3 : (own_z x).natAbs * FP.Core.one64 ≤ (own_z V).natAbs * (own_z y).natAbs := by
    have e1 : ((own_z x).natAbs : Int) = own_z x := by omega
    have e2 : ((own_z y).natAbs : Int) = own_z y := by omega
    have e3 : ((own_z V).natAbs : Int) = own_z V := by omega
    have : (((own_z x).natAbs * FP.Core.one64 : Nat) : Int) ≤ (((own_z V).natAbs * (own_z y).natAbs : Nat) : Int) := by
      rw [Int.natCast_mul, Int.natCast_mul, e1, e2, e3]; exact h
    exact Int.ofNat_le.mp this
  have := own_rr_le (s := FP.Core.sgn (FP.Core.val64 x) != FP.Core.sgn (FP.Core.val64 y)) hB hV h3
  have h4 : (own_z (FP.ddiv x y)).natAbs ≤ (own_z V).natAbs := by rw [own_zn, hq]; exact this
  omega
/-- two doubles of the same whole value compare as equal -/
theorem own_eq0 {x y : UInt64} {i : Int} (o : CmpOp) (hx : FP.Core.DInt i x) (hy : FP.Core.DInt i y) : cmpValue (FP.dcmp x y) o = 0 := by
  rw [own_cE o (FP.Core.dcmp_int hx hy), own_c_eq rfl]
theorem own_mb {a b A B : Int} (h1 : -A ≤ a) (h2 : a ≤ A) (h3 : -B ≤ b) (h4 : b ≤ B) (h : A * B ≤ 9007199254740992) : (a * b).natAbs ≤ 2 ^ 53 := by
  rw [Int.natAbs_mul]
  have e1 : a.natAbs ≤ A.toNat := by omega
  have e2 : b.natAbs ≤ B.toNat := by omega
  have e3 : a.natAbs * b.natAbs ≤ A.toNat * B.toNat := Nat.mul_le_mul e1 e2
  have e4 : ((A.toNat * B.toNat : Nat) : Int) = A * B := by rw [Int.natCast_mul, Int.toNat_of_nonneg (by omega), Int.toNat_of_nonneg (by omega)]
  have e5 : (2 : Nat) ^ 53 = 9007199254740992 := by decide
  omega
theorem own_dl (a : Int64) {i : Int} (h : a.toInt = i) (hb : i.natAbs ≤ 2 ^ 53) : FP.Core.DInt i (FP.l2d a) := by subst h; exact FP.Core.l2d_int hb
theorem own_lm {a b : Int64} (h : (a.toInt * b.toInt).natAbs ≤ 2 ^ 53) : (a * b).toInt = a.toInt * b.toInt := by
  have e5 : (2 : Nat) ^ 53 = 9007199254740992 := by decide
  exact Jvm.Kit.i64_mul (by omega) (by omega)
theorem own_sgn_mul {s t : Bool} {b : Nat} {k : Int} (hb : 0 < b) (h : FP.Core.signed s (k.natAbs * b) = k * FP.Core.signed t b) : FP.Core.signed (s != t) k.natAbs = k := by
  have hb' : (0 : Int) < (b : Int) := by omega
  have e : ((k.natAbs * b : Nat) : Int) = (k.natAbs : Int) * (b : Int) := Int.natCast_mul _ _
  have key : ∀ z : Int, (k.natAbs : Int) * (b : Int) = z * (b : Int) → (k.natAbs : Int) = z := fun z q => Int.eq_of_mul_eq_mul_right (by omega) q
  cases s <;> cases t
  · show (k.natAbs : Int) = k
    apply key; rw [← e]; exact h
  · show -(k.natAbs : Int) = k
    have h' : ((k.natAbs * b : Nat) : Int) = k * -(b : Int) := h
    have := key (-k) (by rw [← e, h', Int.mul_neg, Int.neg_mul]); omega
  · show -(k.natAbs : Int) = k
    have h' : -((k.natAbs * b : Nat) : Int) = k * (b : Int) := h
    have := key (-k) (by rw [← e, Int.neg_mul, ← h', Int.neg_neg]); omega
  · show (k.natAbs : Int) = k
    have h' : -((k.natAbs * b : Nat) : Int) = k * -(b : Int) := h
    apply key; rw [← e]
    have : -((k.natAbs * b : Nat) : Int) = -(k * (b : Int)) := by rw [h', Int.mul_neg]
    omega
/-- a quotient of whole values that comes out even -/
theorem own_ddiv_int {k j : Int} {x y : UInt64} (hx : FP.Core.DInt (k * j) x) (hy : FP.Core.DInt j y) (hj : j ≠ 0) (hk : k.natAbs ≤ 2 ^ 53) : FP.Core.DInt k (FP.ddiv x y) := by
  have zx := own_zi hx
  have zy := own_zi hy
  have hz : own_z y ≠ 0 := by rw [zy]; exact Int.mul_ne_zero hj (by have := own_one; omega)
  have hq := own_quot (own_fini hx) (own_fini hy) hz
  have ha : (own_z x).natAbs = k.natAbs * (own_z y).natAbs := by rw [zx, zy, Int.mul_assoc, Int.natAbs_mul]
  have hb : 0 < (own_z y).natAbs := by omega
  show FP.Core.Whole k (FP.Core.val64 (FP.ddiv x y))
  rw [hq, ha, FP.Core.roundRatio_congr (A' := k.natAbs) (B' := 1) (e' := 0) hb (by decide) (by rw [Nat.mul_one])]
  refine FP.Core.whole_round FP.Core.good_b64 FP.Core.wide_b64 hk (d := .fin (FP.Core.sgn (FP.Core.val64 x) != FP.Core.sgn (FP.Core.val64 y)) k.natAbs 0) ?_
  show FP.Core.signed _ (k.natAbs * 1) = k * ((1 : Nat) : Int)
  rw [Nat.mul_one, show ((1 : Nat) : Int) = 1 from rfl, Int.mul_one]
  refine own_sgn_mul hb ?_
  have e1 : FP.Core.signed (FP.Core.sgn (FP.Core.val64 x)) (own_z x).natAbs = own_z x := by rw [own_zn]; rfl
  have e2 : FP.Core.signed (FP.Core.sgn (FP.Core.val64 y)) (own_z y).natAbs = own_z y := by rw [own_zn]; rfl
  rw [← ha, e1, e2, zx, zy, Int.mul_assoc]
theorem own_zmag_s (s : Bool) (A B : Nat) (e : Int) : FP.Core.zmag FP.Core.b64 (FP.Core.roundRatio FP.Core.b64 s A B e) = FP.Core.zmag FP.Core.b64 (FP.Core.roundRatio FP.Core.b64 false A B e) := by
  cases s with
  | false => rfl
  | true =>
    rw [show FP.Core.roundRatio FP.Core.b64 true A B e = FP.Core.negate (FP.Core.roundRatio FP.Core.b64 false A B e) from (FP.Core.negate_roundRatio FP.Core.b64 false A B e).symm]
    cases FP.Core.roundRatio FP.Core.b64 false A B e <;> rfl
theorem own_div_n {x y : UInt64} (hx : Fin64 x) (hy : Fin64 y) (hz : own_z y ≠ 0) : (own_z (FP.ddiv x y)).natAbs = FP.Core.zmag FP.Core.b64 (FP.Core.roundRatio FP.Core.b64 false (own_z x).natAbs (own_z y).natAbs 0) := by
  rw [own_zn, own_quot hx hy hz, own_zmag_s]
/-- two quotients of the same ratio, none below nought -/
theorem own_div_congr {x y x' y' : UInt64} (hx : Fin64 x) (hy : Fin64 y) (hz : own_z y ≠ 0) (hx' : Fin64 x') (hy' : Fin64 y') (hz' : own_z y' ≠ 0)
    (g1 : 0 ≤ own_z x) (g2 : 0 ≤ own_z y) (g3 : 0 ≤ own_z x') (g4 : 0 ≤ own_z y') (h : own_z x * own_z y' = own_z x' * own_z y) : own_z (FP.ddiv x y) = own_z (FP.ddiv x' y') := by
  have e1 := own_div_n hx hy hz
  have e2 := own_div_n hx' hy' hz'
  have k1 := own_div_ge0 hx hy hz g1 g2
  have k2 := own_div_ge0 hx' hy' hz' g3 g4
  have h' : (own_z x).natAbs * (own_z y').natAbs = (own_z x').natAbs * (own_z y).natAbs := by rw [← Int.natAbs_mul, ← Int.natAbs_mul, h]
  rw [FP.Core.roundRatio_congr (A' := (own_z x').natAbs) (B' := (own_z y').natAbs) (e' := 0) (by omega) (by omega) (by rw [h'])] at e1
  omega
/-- m * 2^k units is a double -/
theorem own_rep (m k : Nat) (hm : m < 2 ^ 53) (hk : k ≤ 2045) : ∃ V : UInt64, Fin64 V ∧ own_z V = ((m * 2 ^ k : Nat) : Int) := by
  have hq : FP.Core.b64.qmin = -1074 := FP.Core.qmin_b64
  have hq2 : FP.Core.b64.qmax = 971 := by decide
  obtain ⟨c, q, e1, e2⟩ := FP.Core.round_exact FP.Core.good_b64 false (c := m) (q := (k : Int) - 1074) hm (by rw [hq]; omega) (by rw [hq2]; omega)
  have hv : FP.Core.val64 (FP.Core.of64 (FP.Core.round FP.Core.b64 (.fin false m ((k : Int) - 1074)))) = .fin false c q := by
    rw [FP.Core.val64_of64 (FP.Core.round_fits FP.Core.good_b64 _), e1]
  refine ⟨_, Fl.fin64_core.mpr ⟨_, _, _, hv⟩, ?_⟩
  show FP.Core.zval FP.Core.b64 _ = _
  rw [hv]
  show ((FP.Core.inUnits c q FP.Core.b64.qmin : Nat) : Int) = _
  rw [e2, FP.Core.inUnits, hq, show ((k : Int) - 1074 - -1074).toNat = k by omega]
/-- a quotient that comes out even in some binary place -/
theorem own_div_exact {x y : UInt64} (hx : Fin64 x) (hy : Fin64 y) (hz : own_z y ≠ 0) (g1 : 0 ≤ own_z x) (g2 : 0 ≤ own_z y) (m k : Nat) (hm : m < 2 ^ 53) (hk : k ≤ 2045)
    (h : own_z x * (FP.Core.one64 : Int) = ((m * 2 ^ k : Nat) : Int) * own_z y) : own_z (FP.ddiv x y) = ((m * 2 ^ k : Nat) : Int) := by
  obtain ⟨V, fV, zV⟩ := own_rep m k hm hk
  have k1 := own_div_ge0 hx hy hz g1 g2
  have e1 := own_div_n hx hy hz
  have h3 : (own_z x).natAbs * FP.Core.one64 = (own_z V).natAbs * (own_z y).natAbs := by
    have := congrArg Int.natAbs h
    rw [Int.natAbs_mul, Int.natAbs_mul, ← zV] at this
    exact this
  have l1 := own_rr_le (s := false) (A := (own_z x).natAbs) (B := (own_z y).natAbs) (V := V) (by omega) fV.noNaN (Nat.le_of_eq h3)
  have l2 := own_rr_ge (s := false) (A := (own_z x).natAbs) (B := (own_z y).natAbs) (V := V) (by omega) (Nat.le_of_eq h3.symm)
  omega
theorem own_eqz {x y : UInt64} (o : CmpOp) (hx : NoNaN64 x) (hy : NoNaN64 y) (h : own_z x = own_z y) : cmpValue (FP.dcmp x y) o = 0 := by
  rw [own_cE o (own_cmpz hx hy), own_c_eq h]
theorem own_ge0 {x : UInt64} (h : 0 ≤ own_z x) : ¬ own_z x < own_z FP.dconst0 := by rw [own_zi own_d0, Int.zero_mul]; exact Int.not_lt.mpr h
theorem own_le1 {x : UInt64} (h : own_z x ≤ own_z FP.dconst1) : ¬ own_z FP.dconst1 < own_z x := Int.not_lt.mpr h
/-! exact sums, differences, products and quotients in some binary place -/
theorem own_z_neg {x : UInt64} (h : Fin64 x) : own_z (FP.dneg x) = -own_z x ∧ Fin64 (FP.dneg x) := by
  obtain ⟨s, c, q, e⟩ := Fl.fin64_core.mp h
  have hv : FP.Core.val64 (FP.dneg x) = FP.Core.negate (FP.Core.val64 x) := FP.val64_dneg x
  refine ⟨?_, Fl.fin64_core.mpr ⟨!s, c, q, by rw [hv, e]; rfl⟩⟩
  show FP.Core.zval _ _ = -FP.Core.zval _ _
  rw [hv, FP.Core.zval_negate]
theorem own_repI (m : Int) (k : Nat) (hm : m.natAbs < 2 ^ 53) (hk : k ≤ 2045) : ∃ V : UInt64, Fin64 V ∧ own_z V = m * ((2 ^ k : Nat) : Int) := by
  obtain ⟨V, fV, zV⟩ := own_rep m.natAbs k hm hk
  rw [Int.natCast_mul] at zV
  by_cases h : 0 ≤ m
  · exact ⟨V, fV, by rw [zV, Int.natAbs_of_nonneg h]⟩
  · refine ⟨FP.dneg V, (own_z_neg fV).2, ?_⟩
    rw [(own_z_neg fV).1, zV, ← Int.neg_mul]
    congr 1; omega
/-- what is finite and rounds from a value that is a double is that double -/
theorem own_round_exact {x : UInt64} {sg : Bool} {n : Nat} {e : Int} (hv : FP.Core.val64 x = FP.Core.round FP.Core.b64 (.fin sg n e)) (he : FP.Core.b64.qmin ≤ e) {V : UInt64} (fV : Fin64 V) (h : FP.Core.signed sg (FP.Core.inUnits n e FP.Core.b64.qmin) = own_z V) :
    own_z x = own_z V ∧ Fin64 x := by
  have nV := Fl.val64_no.mp fV.noNaN
  have h1 := FP.Core.zval_round_le FP.Core.good_b64 (s := sg) (c := n) (q := e) (V := FP.Core.val64 V) (FP.Core.val64_fits V) nV (e0 := FP.Core.b64.qmin) (Int.le_refl _) he (by
    rw [Int.sub_self]; show _ ≤ _ * ((1 : Nat) : Int); rw [show ((1 : Nat) : Int) = 1 from rfl, Int.mul_one]; exact Int.le_of_eq h)
  have h2 := FP.Core.zval_round_ge FP.Core.good_b64 (s := sg) (c := n) (q := e) (V := FP.Core.val64 V) (FP.Core.val64_fits V) nV (e0 := FP.Core.b64.qmin) (Int.le_refl _) he (by
    rw [Int.sub_self]; show _ * ((1 : Nat) : Int) ≤ _; rw [show ((1 : Nat) : Int) = 1 from rfl, Int.mul_one]; exact Int.le_of_eq h.symm)
  have hz : own_z x = own_z V := by
    show FP.Core.zval _ (FP.Core.val64 x) = FP.Core.zval _ (FP.Core.val64 V)
    rw [hv]; exact Int.le_antisymm h1 h2
  refine ⟨hz, ?_⟩
  have nx : NoNaN64 x := Fl.val64_no.mpr (by rw [hv]; exact fun z => FP.Core.roundRatio_ne_nan _ _ _ _ _ z)
  cases hx : FP.Core.val64 x with
  | nan => exact absurd hx (Fl.val64_no.mp nx)
  | fin s c q => exact Fl.fin64_core.mpr ⟨s, c, q, hx⟩
  | inf s =>
    exfalso
    have b := (Fl.fin64_core.mp fV).zval_lt
    have e1 : (own_z x).natAbs = FP.Core.b64.tails * 2 ^ (FP.Core.b64.exps - 2) := by rw [own_zn, hx]; rfl
    have e2 : (own_z V).natAbs = FP.Core.zmag FP.Core.b64 (FP.Core.val64 V) := own_zn V
    rw [hz, e2] at e1
    omega
theorem own_add_exact {x y : UInt64} (hx : Fin64 x) (hy : Fin64 y) (m : Int) (k : Nat) (hm : m.natAbs < 2 ^ 53) (hk : k ≤ 2045) (h : own_z x + own_z y = m * ((2 ^ k : Nat) : Int)) : own_z (FP.dadd x y) = m * ((2 ^ k : Nat) : Int) ∧ Fin64 (FP.dadd x y) := by
  obtain ⟨V, fV, zV⟩ := own_repI m k hm hk
  obtain ⟨s, c, q, ex⟩ := Fl.fin64_core.mp hx
  obtain ⟨t, d, r, ey⟩ := Fl.fin64_core.mp hy
  obtain ⟨sg, n, e, e1, e2, e3⟩ := FP.Core.sum_units (f := FP.Core.b64) (ex ▸ FP.Core.val64_fits x) (ey ▸ FP.Core.val64_fits y)
  have hv : FP.Core.val64 (FP.dadd x y) = FP.Core.round FP.Core.b64 (.fin sg n e) := by
    rw [show FP.dadd x y = FP.Core.dadd x y from rfl, FP.Core.val64_dadd, ex, ey, e1]
  rw [← ex, ← ey] at e3
  rw [← zV]
  exact own_round_exact hv e2 fV (e3.trans (h.trans zV.symm))
theorem own_sub_exact {x y : UInt64} (hx : Fin64 x) (hy : Fin64 y) (m : Int) (k : Nat) (hm : m.natAbs < 2 ^ 53) (hk : k ≤ 2045) (h : own_z x - own_z y = m * ((2 ^ k : Nat) : Int)) : own_z (FP.dsub x y) = m * ((2 ^ k : Nat) : Int) ∧ Fin64 (FP.dsub x y) := by
  obtain ⟨V, fV, zV⟩ := own_repI m k hm hk
  obtain ⟨s, c, q, ex⟩ := Fl.fin64_core.mp hx
  obtain ⟨t, d, r, ey⟩ := Fl.fin64_core.mp hy
  have fy : FP.Core.fits FP.Core.b64 (.fin (!t) d r) := FP.Core.negate_fits (d := .fin t d r) (ey ▸ FP.Core.val64_fits y)
  obtain ⟨sg, n, e, e1, e2, e3⟩ := FP.Core.sum_units (f := FP.Core.b64) (ex ▸ FP.Core.val64_fits x) fy
  have hv : FP.Core.val64 (FP.dsub x y) = FP.Core.round FP.Core.b64 (.fin sg n e) := by
    rw [show FP.dsub x y = FP.Core.dsub x y from rfl, FP.Core.val64_dsub, ex, ey, ← e1]; rfl
  have hn : FP.Core.zval FP.Core.b64 (.fin (!t) d r) = -own_z y := by
    show FP.Core.zval FP.Core.b64 (FP.Core.negate (.fin t d r)) = -FP.Core.zval FP.Core.b64 (FP.Core.val64 y)
    rw [FP.Core.zval_negate, ey]
  rw [← ex, hn] at e3
  rw [← zV]
  exact own_round_exact hv e2 fV (e3.trans (by rw [zV, ← h]; rfl))
theorem own_fin_of_z {x V : UInt64} (nx : NoNaN64 x) (fV : Fin64 V) (hz : own_z x = own_z V) : Fin64 x := by
  cases hx : FP.Core.val64 x with
  | nan => exact absurd hx (Fl.val64_no.mp nx)
  | fin s c q => exact Fl.fin64_core.mpr ⟨s, c, q, hx⟩
  | inf s =>
    exfalso
    have b := (Fl.fin64_core.mp fV).zval_lt
    have e1 : (own_z x).natAbs = FP.Core.b64.tails * 2 ^ (FP.Core.b64.exps - 2) := by rw [own_zn, hx]; rfl
    have e2 : (own_z V).natAbs = FP.Core.zmag FP.Core.b64 (FP.Core.val64 V) := own_zn V
    rw [hz, e2] at e1
    omega
theorem own_divI_exact {x y : UInt64} (hx : Fin64 x) (hy : Fin64 y) (hz : own_z y ≠ 0) (m : Int) (k : Nat) (hm : m.natAbs < 2 ^ 53) (hk : k ≤ 2045)
    (h : own_z x * (FP.Core.one64 : Int) = m * ((2 ^ k : Nat) : Int) * own_z y) : own_z (FP.ddiv x y) = m * ((2 ^ k : Nat) : Int) ∧ Fin64 (FP.ddiv x y) := by
  obtain ⟨V, fV, zV⟩ := own_repI m k hm hk
  have hq := own_quot hx hy hz
  have nn := own_div_nn hx hy hz
  have hb : 0 < (own_z y).natAbs := by omega
  have h3 : (own_z x).natAbs * FP.Core.one64 = (own_z V).natAbs * (own_z y).natAbs := by
    have := congrArg Int.natAbs h
    rw [Int.natAbs_mul, Int.natAbs_mul, ← zV] at this
    exact this
  have l1 := own_rr_le (s := FP.Core.sgn (FP.Core.val64 x) != FP.Core.sgn (FP.Core.val64 y)) (A := (own_z x).natAbs) (B := (own_z y).natAbs) (V := V) hb fV.noNaN (Nat.le_of_eq h3)
  have l2 := own_rr_ge (s := FP.Core.sgn (FP.Core.val64 x) != FP.Core.sgn (FP.Core.val64 y)) (A := (own_z x).natAbs) (B := (own_z y).natAbs) (V := V) hb (Nat.le_of_eq h3.symm)
  have hz' : own_z (FP.ddiv x y) = own_z V := by
    rw [own_z_signed hq, Nat.le_antisymm l1 l2]
    refine own_sgn_mul hb ?_
    have e1 : FP.Core.signed (FP.Core.sgn (FP.Core.val64 x)) (own_z x).natAbs = own_z x := by rw [own_zn]; rfl
    have e2 : FP.Core.signed (FP.Core.sgn (FP.Core.val64 y)) (own_z y).natAbs = own_z y := by rw [own_zn]; rfl
    rw [← h3, FP.Core.signed_mul, e1, e2, h, zV]
  exact ⟨hz'.trans zV, own_fin_of_z nn fV hz'⟩
section OwnNat
variable {p : Program} {l : Launch} {e : Env} {R : Room} {s : State} {m : MethodId} {args : Array Value} {below : List Frame} {meth : Method} {c : Code} {T : State} {locs : List Loc} {cells slots : Nat} {Z : State} {h : Heap}
theorem own_rawBits (X : Stand p l e R s m args below meth c T locs cells slots) (hx : p.tables.exec = Jvm.exec) (hZ : Z.Warmed39 s.vm) {a0 : Array Value} {own : String} {index : Nat} (hown : s.vm.findClass own = some m.cls)
    (w1 : (Jvm.Cond.methodLink own index (⟨"java/lang/Double", "doubleToRawLongBits", "(D)J"⟩ : MethodName)).before a0 Z = true) (w2 : (Jvm.Cond.static (⟨"java/lang/Double", "doubleToRawLongBits", "(D)J"⟩ : MethodName)).before a0 Z = true) (w3 : (Jvm.Cond.initialized "java/lang/Double").before a0 Z = true) (w4 : (Jvm.Cond.native (⟨"java/lang/Double", "doubleToRawLongBits", "(D)J"⟩ : MethodName)).before a0 Z = true)
    (eT : T.heap = h) {x : UInt64} {W : Nat} {g : JFrame} (hg : g.method = m) (hsize : g.locals.size = c.maxLocals) {rest : List Value} (hst : g.stack = .double x :: rest) (hW : 2 * g.monitorRoom + (rest.map fun v => v.category).sum ≤ W)
    (hd : decode c.code g.pc = .ok (.invokestatic index, 3)) (hf : 1 ≤ R.frames) (hl : W + 15 ≤ R.locals) :
    ∃ T', Stand p l e R s m args below meth c T' locs cells slots ∧ T'.heap = h ∧ ∀ target, Steps p.tables e below (T'.setTop { g with pc := g.pc + 3, stack := .long x.toInt64 :: rest }) target → Steps p.tables e below (T.setTop g) target := by
  have c4 : (Jvm.Cond.native (⟨"java/lang/Double", "doubleToRawLongBits", "(D)J"⟩ : MethodName)).before args s = true := mvT hZ w4
  obtain ⟨mk, methM, hnamed, hmethM, -, -, -, hsig⟩ := Cond.native_spec (args := args) (first := s) (o := none) (idx := []) c4
  obtain ⟨v, vm1, B, hW1, X', ⟨hB, hv⟩, st⟩ := Stand.staticBack (args := args) X hx hown (mvT hZ w1) (mvT hZ w2) (mvT hZ w3) hnamed hmethM hsig (by decide) (Jvm.Free.NT.DoubleBits.pays c4 (mvT hZ w2) hf hl) hg hsize (Steps.refl _) (argsL := [.double x]) (rest := rest) (fun sig hs => by
    have e1 : parseMethodDescriptor "(D)J" = some ⟨[.double], some .long⟩ := by decide +kernel
    have e2 : parseMethodDescriptor "(D)J" = some sig := hs
    rw [e1] at e2; cases e2; rfl) hst hW hd (fun vm1 _ => ⟨x, rfl⟩)
  have hv' := hv x rfl
  subst hv' hB
  exact ⟨_, X', eT, fun target k => st.trans k⟩
end OwnNat
def own_mx (a b : Int32) : Int32 := if a < b then b else a
theorem own_pop2D {tb : Tables} [Ours tb] {e : Env} {below : List Frame} {T target : State} {m : MethodId} {c : Code} {g : JFrame} (h : At T m c below) (hx : tb.exec = Jvm.exec) (hg : g.method = m) {x : UInt64} {rest : List Value} (hd : decode c.code g.pc = .ok (.pop2, 1)) (hs : g.stack = .double x :: rest)
    (hr : Steps tb e below (T.setTop { g with pc := g.pc + 1, stack := rest }) target) : Steps tb e below (T.setTop g) target := by
  subst hg
  jvm_step h [h.top, hx, hd, hs, Value.category]
  exact hr

def own_tg (x tg : UInt64) : UInt64 := if own_z x = own_z tg then tg else x
def own_sp (x vl tg sp : UInt64) (F : Int32) : UInt64 := if own_z x = own_z tg then sp else FP.ddiv (FP.dsub x vl) (FP.i2d F)
def own_rm (x tg : UInt64) (rm F : Int32) : Int32 := if own_z x = own_z tg then rm else F
def own_nv (vl tg sp : UInt64) (rm : Int32) : UInt64 := if 0 < rm then FP.dsub tg (FP.dmul (FP.i2d (rm - 1)) sp) else vl
def own_nr (rm : Int32) : Int32 := if 0 < rm then rm - 1 else rm
def own_mv (rm : Int32) : Int32 := if 0 < rm then 1 else 0
def own_F (K : Int32) : Int32 := if K = 0 then 1 else 2
def own_H (W : Int) (x : UInt64) : Prop := Fin64 x ∧ own_z x = W * ((2 ^ 1073 : Nat) : Int)
def own_S (F : Int32) (mv mt : UInt64) (mr tI : Int32) (vl tg sp : UInt64) (rm : Int32) : Prop :=
  mt = FP.i2d tI ∧ tg = mt ∧ rm = mr ∧ (∃ W : Int, W.natAbs ≤ 2 ^ 33 ∧ own_H W vl ∧ own_H W mv) ∧ (mr = 0 ∨ (mr = 1 ∧ Fin64 sp) ∨ (mr = 2 ∧ F = 2 ∧ sp = FP.ddiv (FP.dsub mt vl) (FP.i2d 2)))
theorem own_u1 : (FP.Core.one64 : Int) = 4 * ((2 ^ 1072 : Nat) : Int) := by rw [FP.Core.one64]; decide +kernel
theorem own_u2 : ((2 ^ 1073 : Nat) : Int) = 2 * ((2 ^ 1072 : Nat) : Int) := by decide +kernel
theorem own_zi2 (p : Int32) : own_z (FP.i2d p) = (4 * p.toInt) * ((2 ^ 1072 : Nat) : Int) := by
  rw [show own_z (FP.i2d p) = p.toInt * (FP.Core.one64 : Int) from own_zi (FP.Core.i2d_int p), own_u1, ← Int.mul_assoc, Int.mul_comm p.toInt 4]
theorem own_H4 {W : Int} {x : UInt64} (h : own_H W x) : own_z x = (2 * W) * ((2 ^ 1072 : Nat) : Int) := by
  rw [h.2, own_u2, ← Int.mul_assoc, Int.mul_comm W 2]
theorem own_b32 (p : Int32) : -2147483648 ≤ p.toInt ∧ p.toInt ≤ 2147483647 := by
  have h1 := Int32.le_toInt p; have h2 := Int32.toInt_lt p; omega
theorem own_bW {W : Int} (h : W.natAbs ≤ 2 ^ 33) : -8589934592 ≤ W ∧ W ≤ 8589934592 := by
  have e : (2 : Nat) ^ 33 = 8589934592 := by decide
  omega
theorem own_53 {i : Int} (h1 : -1000000000000 ≤ i) (h2 : i ≤ 1000000000000) : i.natAbs < 2 ^ 53 := by
  have e5 : (2 : Nat) ^ 53 = 9007199254740992 := by decide
  omega
theorem own_zeq32 {a b : Int32} (h : own_z (FP.i2d a) = own_z (FP.i2d b)) : a = b := by
  have h1 : own_z (FP.i2d a) = a.toInt * (FP.Core.one64 : Int) := own_zi (FP.Core.i2d_int a)
  have h2 : own_z (FP.i2d b) = b.toInt * (FP.Core.one64 : Int) := own_zi (FP.Core.i2d_int b)
  rw [h1, h2] at h
  exact Int32.toInt_inj.mp (Int.eq_of_mul_eq_mul_right (by have := own_one; omega) h)
theorem own_k2 : FP.Core.DInt 2 (4611686018427387904 : UInt64) := by
  have h := FP.Core.i2d_int 2
  rw [show FP.Core.i2d 2 = (4611686018427387904 : UInt64) by decide +kernel] at h; exact h
theorem own_i2 : FP.i2d 2 = (4611686018427387904 : UInt64) := by decide +kernel
theorem own_f2 : Fin64 (4611686018427387904 : UInt64) := own_fini own_k2
theorem own_nz2 : Nz64 (4611686018427387904 : UInt64) := own_nzi own_k2 (by decide)
theorem own_z2 : own_z (4611686018427387904 : UInt64) = 8 * ((2 ^ 1072 : Nat) : Int) := by rw [own_zi own_k2, own_u1, ← Int.mul_assoc]; rfl
theorem own_z2ne : own_z (4611686018427387904 : UInt64) ≠ 0 := by rw [own_zi own_k2]; have := own_one; omega
/-- half of i quarters .. is i eighths: i * 2^1072 over 2 is i * 2^1071 -/
theorem own_half {x : UInt64} {i : Int} (fx : Fin64 x) (h : own_z x = (2 * i) * ((2 ^ 1072 : Nat) : Int)) (hi : i.natAbs < 2 ^ 53) : own_z (FP.ddiv x (4611686018427387904 : UInt64)) = i * ((2 ^ 1072 : Nat) : Int) ∧ Fin64 (FP.ddiv x (4611686018427387904 : UInt64)) := by
  refine own_divI_exact fx own_f2 own_z2ne i 1072 hi (by decide) ?_
  rw [h, own_z2, own_u1]
  generalize ((2 ^ 1072 : Nat) : Int) = U
  rw [show (2 * i) * U * (4 * U) = i * U * (8 * U) by
    rw [show (8 : Int) = 2 * 4 from rfl]; simp only [Int.mul_assoc, Int.mul_comm, Int.mul_left_comm]]
theorem own_subH {W : Int} {vl : UInt64} (n : Int32) (bW : W.natAbs ≤ 2 ^ 33) (hv : own_H W vl) : own_z (FP.dsub (FP.i2d n) vl) = (2 * (2 * n.toInt - W)) * ((2 ^ 1072 : Nat) : Int) ∧ Fin64 (FP.dsub (FP.i2d n) vl) := by
  have b1 := own_b32 n; have b2 := own_bW bW
  refine own_sub_exact (Fl.i2d_fin n) hv.1 (2 * (2 * n.toInt - W)) 1072 (own_53 (by omega) (by omega)) (by decide) ?_
  rw [own_zi2, own_H4 hv, ← Int.sub_mul]; congr 1; omega
theorem own_addH {W : Int} {vl : UInt64} (n : Int32) (bW : W.natAbs ≤ 2 ^ 33) (hv : own_H W vl) : own_z (FP.dadd (FP.i2d n) vl) = (2 * (2 * n.toInt + W)) * ((2 ^ 1072 : Nat) : Int) ∧ Fin64 (FP.dadd (FP.i2d n) vl) := by
  have b1 := own_b32 n; have b2 := own_bW bW
  refine own_add_exact (Fl.i2d_fin n) hv.1 (2 * (2 * n.toInt + W)) 1072 (own_53 (by omega) (by omega)) (by decide) ?_
  rw [own_zi2, own_H4 hv, ← Int.add_mul]; congr 1; omega
theorem own_i1 : FP.i2d 1 = FP.dconst1 := by decide +kernel
theorem own_div1 {x : UInt64} (h : Fin64 x) : FP.ddiv x (FP.i2d 1) = x := by rw [own_i1]; exact FP.Core.ddiv_one (Fl.val64_no.mp h.noNaN)
theorem own_mul1 {x : UInt64} (h : Fin64 x) : FP.dmul (FP.i2d 1) x = x := by rw [own_i1]; exact FP.Core.one_dmul (Fl.noNaN64_no.mp h.noNaN)
theorem own_Hi (p : Int32) : own_H (2 * p.toInt) (FP.i2d p) := ⟨Fl.i2d_fin p, by
  rw [own_zi2, own_u2, ← Int.mul_assoc, show 2 * p.toInt * 2 = 4 * p.toInt by omega]⟩
theorem own_bi (p : Int32) : (2 * p.toInt).natAbs ≤ 2 ^ 33 := by
  have b1 := own_b32 p; have e : (2 : Nat) ^ 33 = 8589934592 := by decide
  omega
theorem own_fspN {W : Int} {vl : UInt64} (n : Int32) {F : Int32} (bW : W.natAbs ≤ 2 ^ 33) (hv : own_H W vl) (hF : F = 1 ∨ F = 2) : Fin64 (FP.ddiv (FP.dsub (FP.i2d n) vl) (FP.i2d F)) := by
  have b1 := own_b32 n; have b2 := own_bW bW
  rcases hF with rfl | rfl
  · rw [own_div1 (own_subH n bW hv).2]; exact (own_subH n bW hv).2
  · rw [own_i2]; exact (own_half (own_subH n bW hv).2 (own_subH n bW hv).1 (own_53 (by omega) (by omega))).2
theorem own_fsp0 (p0 p1 : Int32) {F : Int32} (hF : F = 1 ∨ F = 2) : Fin64 (FP.ddiv (FP.dsub (FP.i2d p1) (FP.i2d p0)) (FP.i2d F)) := own_fspN p1 (own_bi p0) (own_Hi p0) hF
theorem own_fsp2 {W : Int} {mt vl sp : UInt64} {tI : Int32} (hmt : mt = FP.i2d tI) (bW : W.natAbs ≤ 2 ^ 33) (hv : own_H W vl) (hsp : sp = FP.ddiv (FP.dsub mt vl) (FP.i2d 2)) : Fin64 sp := by
  subst hmt hsp; exact own_fspN tI bW hv (Or.inr rfl)
theorem own_i0 : FP.Core.DInt 0 (FP.i2d 0) := FP.Core.i2d_int 0
theorem own_i00 : FP.Core.dcmp (FP.i2d 0) 0 = some Ordering.eq := (show FP.Core.dcmp (FP.i2d 0) 0 = some (compare (0 : Int) 0) from FP.Core.dcmp_int own_i0 own_d0).trans (by decide)
theorem own_mz {q : UInt64} (h : Fin64 q) : own_z (FP.dmul (FP.i2d 0) q) = 0 ∧ Fin64 (FP.dmul (FP.i2d 0) q) := by
  have hz := FP.Core.dzero_mul (Fl.fin64_core.mp h) (FP.Core.zero_iff.mp own_i00)
  refine ⟨hz.zval, ?_⟩
  obtain ⟨s, r, e⟩ := hz
  exact Fl.fin64_core.mpr ⟨s, 0, r, e⟩
theorem own_sub0 {t z : UInt64} (ft : Fin64 t) (fz : Fin64 z) (hz : own_z z = 0) : own_z (FP.dsub t z) = own_z t ∧ Fin64 (FP.dsub t z) := by
  obtain ⟨s, c, q, ex⟩ := Fl.fin64_core.mp ft
  obtain ⟨u, d, r, ey⟩ := Fl.fin64_core.mp fz
  have fy : FP.Core.fits FP.Core.b64 (.fin (!u) d r) := FP.Core.negate_fits (d := .fin u d r) (ey ▸ FP.Core.val64_fits z)
  obtain ⟨sg, n, e, e1, e2, e3⟩ := FP.Core.sum_units (f := FP.Core.b64) (ex ▸ FP.Core.val64_fits t) fy
  have hv : FP.Core.val64 (FP.dsub t z) = FP.Core.round FP.Core.b64 (.fin sg n e) := by
    rw [show FP.dsub t z = FP.Core.dsub t z from rfl, FP.Core.val64_dsub, ex, ey, ← e1]; rfl
  have hn : FP.Core.zval FP.Core.b64 (.fin (!u) d r) = -own_z z := by
    show FP.Core.zval FP.Core.b64 (FP.Core.negate (.fin u d r)) = -FP.Core.zval FP.Core.b64 (FP.Core.val64 z)
    rw [FP.Core.zval_negate, ey]
  rw [← ex, hn, hz] at e3
  exact own_round_exact hv e2 ft (e3.trans (by rw [Int.neg_zero, Int.add_zero]; rfl))
theorem own_nn1 {sp tg : UInt64} (fs : Fin64 sp) (ft : Fin64 tg) : NoNaN64 (FP.dmul (FP.i2d ((1 : Int32) - 1)) sp) ∧ NoNaN64 (FP.dsub tg (FP.dmul (FP.i2d ((1 : Int32) - 1)) sp)) := by
  rw [show (1 : Int32) - 1 = 0 by decide]
  exact ⟨(own_mz fs).2.noNaN, (own_sub0 ft (own_mz fs).2 (own_mz fs).1).2.noNaN⟩
theorem own_nn2 {sp tg : UInt64} (fs : Fin64 sp) (ft : Fin64 tg) : NoNaN64 (FP.dmul (FP.i2d ((2 : Int32) - 1)) sp) ∧ NoNaN64 (FP.dsub tg (FP.dmul (FP.i2d ((2 : Int32) - 1)) sp)) := by
  rw [show (2 : Int32) - 1 = 1 by decide, own_mul1 fs]
  exact ⟨fs.noNaN, Fl.dsub_out ft.noNaN fs⟩
theorem own_cz {sp tg : UInt64} (fs : Fin64 sp) (ft : Fin64 tg) : cmpValue (FP.dcmp (FP.dsub tg (FP.dmul (FP.i2d 0) sp)) tg) .l = 0 :=
  own_eqz .l (own_sub0 ft (own_mz fs).2 (own_mz fs).1).2.noNaN ft.noNaN (own_sub0 ft (own_mz fs).2 (own_mz fs).1).1
theorem own_half2 {W : Int} {vl mv : UInt64} (n : Int32) (bW : W.natAbs ≤ 2 ^ 33) (hv : own_H W vl) (hm : own_H W mv) :
    own_z (FP.dsub (FP.i2d n) (FP.dmul (FP.i2d 1) (FP.ddiv (FP.dsub (FP.i2d n) vl) (FP.i2d 2)))) = (2 * n.toInt + W) * ((2 ^ 1072 : Nat) : Int) ∧ Fin64 (FP.dsub (FP.i2d n) (FP.dmul (FP.i2d 1) (FP.ddiv (FP.dsub (FP.i2d n) vl) (FP.i2d 2)))) ∧
    own_z (FP.ddiv (FP.dadd (FP.i2d n) mv) (4611686018427387904 : UInt64)) = (2 * n.toInt + W) * ((2 ^ 1072 : Nat) : Int) ∧ Fin64 (FP.ddiv (FP.dadd (FP.i2d n) mv) (4611686018427387904 : UInt64)) := by
  have b1 := own_b32 n; have b2 := own_bW bW
  have q1 := own_half (own_subH n bW hv).2 (own_subH n bW hv).1 (own_53 (by omega) (by omega))
  have q2 := own_half (own_addH n bW hm).2 (own_addH n bW hm).1 (own_53 (by omega) (by omega))
  rw [own_mul1 (own_fspN n bW hv (Or.inr rfl)), own_i2]
  have q3 := own_sub_exact (Fl.i2d_fin n) q1.2 (2 * n.toInt + W) 1072 (own_53 (by omega) (by omega)) (by decide) (by rw [own_zi2, q1.1, ← Int.sub_mul]; congr 1; omega)
  exact ⟨q3.1, q3.2, q2.1, q2.2⟩
theorem own_cN2 {W : Int} {vl mv : UInt64} (n : Int32) (bW : W.natAbs ≤ 2 ^ 33) (hv : own_H W vl) (hm : own_H W mv) :
    cmpValue (FP.dcmp (FP.dsub (FP.i2d n) (FP.dmul (FP.i2d 1) (FP.ddiv (FP.dsub (FP.i2d n) vl) (FP.i2d 2)))) (FP.ddiv (FP.dadd (FP.i2d n) mv) (4611686018427387904 : UInt64))) .l = 0 := by
  obtain ⟨q1, q2, q3, q4⟩ := own_half2 n bW hv hm
  exact own_eqz .l q2.noNaN q4.noNaN (q1.trans q3.symm)
theorem own_cE2 {W : Int} {mt vl mv sp : UInt64} {tI : Int32} (hmt : mt = FP.i2d tI) (bW : W.natAbs ≤ 2 ^ 33) (hv : own_H W vl) (hm : own_H W mv) (hsp : sp = FP.ddiv (FP.dsub mt vl) (FP.i2d 2)) :
    cmpValue (FP.dcmp (FP.dsub mt (FP.dmul (FP.i2d 1) sp)) (FP.ddiv (FP.dadd mt mv) (4611686018427387904 : UInt64))) .l = 0 := by
  subst hmt hsp; exact own_cN2 tI bW hv hm
theorem own_S0 (F p0 : Int32) : own_S F (FP.i2d p0) (FP.i2d p0) (0 : Int32) p0 (FP.i2d p0) (FP.i2d p0) (0 : UInt64) (0 : Int32) := ⟨rfl, rfl, rfl, ⟨_, own_bi p0, own_Hi p0, own_Hi p0⟩, Or.inl rfl⟩
theorem own_Sn1 (p0 p1 : Int32) : own_S (1 : Int32) (FP.i2d p0) (FP.i2d p1) (1 : Int32) p1 (FP.i2d p0) (FP.i2d p1) (FP.ddiv (FP.dsub (FP.i2d p1) (FP.i2d p0)) (FP.i2d (1 : Int32))) (1 : Int32) := ⟨rfl, rfl, rfl, ⟨_, own_bi p0, own_Hi p0, own_Hi p0⟩, Or.inr (Or.inl ⟨rfl, own_fsp0 p0 p1 (Or.inl rfl)⟩)⟩
theorem own_Sn2 (p0 p1 : Int32) : own_S (2 : Int32) (FP.i2d p0) (FP.i2d p1) (2 : Int32) p1 (FP.i2d p0) (FP.i2d p1) (FP.ddiv (FP.dsub (FP.i2d p1) (FP.i2d p0)) (FP.i2d (2 : Int32))) (2 : Int32) := ⟨rfl, rfl, rfl, ⟨_, own_bi p0, own_Hi p0, own_Hi p0⟩, Or.inr (Or.inr ⟨rfl, rfl, rfl⟩)⟩
theorem own_Hz {sp : UInt64} (p1 : Int32) (fs : Fin64 sp) : own_H (2 * p1.toInt) (FP.dsub (FP.i2d p1) (FP.dmul (FP.i2d (0 : Int32)) sp)) := ⟨(own_sub0 (Fl.i2d_fin p1) (own_mz fs).2 (own_mz fs).1).2, by
  rw [(own_sub0 (Fl.i2d_fin p1) (own_mz fs).2 (own_mz fs).1).1]; exact (own_Hi p1).2⟩
theorem own_Sa1 (p0 p1 : Int32) : own_S (1 : Int32) (FP.i2d p1) (FP.i2d p1) (0 : Int32) p1 (FP.dsub (FP.i2d p1) (FP.dmul (FP.i2d (0 : Int32)) (FP.ddiv (FP.dsub (FP.i2d p1) (FP.i2d p0)) (FP.i2d (1 : Int32))))) (FP.i2d p1) (FP.ddiv (FP.dsub (FP.i2d p1) (FP.i2d p0)) (FP.i2d (1 : Int32))) (0 : Int32) :=
  ⟨rfl, rfl, rfl, ⟨_, own_bi p1, own_Hz p1 (own_fsp0 p0 p1 (Or.inl rfl)), own_Hi p1⟩, Or.inl rfl⟩
theorem own_Sa2 (p0 p1 : Int32) : own_S (2 : Int32) (FP.ddiv (FP.dadd (FP.i2d p1) (FP.i2d p0)) (4611686018427387904 : UInt64)) (FP.i2d p1) (1 : Int32) p1 (FP.dsub (FP.i2d p1) (FP.dmul (FP.i2d (1 : Int32)) (FP.ddiv (FP.dsub (FP.i2d p1) (FP.i2d p0)) (FP.i2d (2 : Int32))))) (FP.i2d p1) (FP.ddiv (FP.dsub (FP.i2d p1) (FP.i2d p0)) (FP.i2d (2 : Int32))) (1 : Int32) := by
  have b1 := own_b32 p0; have b2 := own_b32 p1
  obtain ⟨q1, q2, q3, q4⟩ := own_half2 p1 (own_bi p0) (own_Hi p0) (own_Hi p0)
  have e : (2 * p1.toInt + 2 * p0.toInt) * ((2 ^ 1072 : Nat) : Int) = (p1.toInt + p0.toInt) * ((2 ^ 1073 : Nat) : Int) := by
    rw [own_u2, ← Int.mul_assoc]; congr 1; omega
  refine ⟨rfl, rfl, rfl, ⟨p1.toInt + p0.toInt, ?_, ⟨q2, q1.trans e⟩, ⟨q4, q3.trans e⟩⟩, Or.inr (Or.inl ⟨rfl, own_fsp0 p0 p1 (Or.inr rfl)⟩)⟩
  have e3 : (2 : Nat) ^ 33 = 8589934592 := by decide
  omega

def QrmMJ (Z : State) (a : Int64) (b : Int64) (h0 : Heap) (n0 : Nat) (vQ : Option Value) (hQ : Heap) (LQ : List Loc) : Prop := vQ = some (.long (if a < b then b else a)) ∧ Fr n0 LQ ∧ hQ = h0
theorem ef_rmMJ (m : MethodId) (a : Int64) (b : Int64) : entryFrame m #[(.long a), (.long b)] 4 = mkF m 0 #[vj a, ss, vj b, ss] [] := by first | (simp [entryFrame, mkF, argsToLocals, Value.category]; done) | rfl
abbrev mn0 : MethodName := ⟨"java/lang/Math", "max", "(JJ)J"⟩
theorem d_jdk_29_method_66_code_0 : decode jdk_29_method_66_code 0 = .ok (.lload_n 0, 1) := by decide +kernel
theorem d_jdk_29_method_66_code_1 : decode jdk_29_method_66_code 1 = .ok (.lload_n 2, 1) := by decide +kernel
theorem d_jdk_29_method_66_code_2 : decode jdk_29_method_66_code 2 = .ok (.lcmp, 1) := by decide +kernel
theorem d_jdk_29_method_66_code_3 : decode jdk_29_method_66_code 3 = .ok (.ifCond .lt 7, 3) := by decide +kernel
theorem d_jdk_29_method_66_code_10 : decode jdk_29_method_66_code 10 = .ok (.lload_n 2, 1) := by decide +kernel
theorem d_jdk_29_method_66_code_11 : decode jdk_29_method_66_code 11 = .ok (.lreturn, 1) := by decide +kernel
theorem d_jdk_29_method_66_code_6 : decode jdk_29_method_66_code 6 = .ok (.lload_n 0, 1) := by decide +kernel
theorem d_jdk_29_method_66_code_7 : decode jdk_29_method_66_code 7 = .ok (.goto 4, 3) := by decide +kernel
set_option maxRecDepth 65536 in
set_option maxHeartbeats 40000000 in
theorem rmMJ (l : Launch) (Z : State) (a0 : Array Value) (hw : ∀ d ∈ tables_1, d.before a0 Z = true) (ws : List Jvm.Cond) (a : Int64) (b : Int64) (h0 : Heap) (n0 : Nat) (Z0 : n0 ≤ h0.size)  :
    MetFree l mn0 (head1 (Jvm.Cond.code mn0 jdk_29_method_66_code 4 (some .long) :: ws) ({ frames := 0, cells := 0, slots := 0, locals := 0 } : Room)) (fun aA U => aA = #[(.long a), (.long b)] ∧ Z.Warmed39 U.vm ∧ U.heap = h0) (fun _ _ _ _ _ => True) (fun _ U o U' => ∃ vR LR, o = .returned vR ∧ QrmMJ Z a b h0 n0 vR U'.heap LR ∧ FrameEnd U o U' LR ({ frames := 0, cells := 0, slots := 0, locals := 0 } : Room).cells ({ frames := 0, cells := 0, slots := 0, locals := 0 } : Room).slots) := by
  refine MetFree.of_bodySF (Jvm.Free.JP.mathPlain rfl (by decide +kernel)) hisR ?_
  intro p e s m args below meth c s₁ Bd hml0 hPre hKk
  obtain ⟨rfl, hZ, hh⟩ := hPre
  have hx := Bd.exec
  have hby := Bd.bytes
  skip
  have hml : c.maxLocals = 4 := hml0
  have hown : s.vm.findClass "java/lang/Math" = some m.cls := findClass_of_methodNamed Bd.named
  have hnm := (name_of_methodNamed Bd.named Bd.method).1
  have X0 : Stand p l e ({ frames := 0, cells := 0, slots := 0, locals := 0 } : Room) s m #[(.long a), (.long b)] below meth c s₁ [] 0 0 := Stand.of_body Bd
  have e0 : s₁.heap = h0 := by rw [← hh, Bd.state]; rfl
  have N0 := Fr.nil n0
  obtain ⟨E0, hE0⟩ : ∃ zE : State, zE = s₁.setTop (entryFrame m #[(.long a), (.long b)] 4) := ⟨_, rfl⟩
  have k0 : own_G p e below E0 s₁ (mkF m 0 #[vj a, ss, vj b, ss] []) := fun tz kz => hE0 ▸ castTop (ef_rmMJ m a b) kz
  have k1 : own_G p e below E0 s₁ (mkF m 3 #[vj a, ss, vj b, ss] [(.int (XT.cmpL a b))]) := by
    intro tQ kk
    refine k0 tQ ?_
    refine XT.lloadN X0.here hx rfl (hb hby d_jdk_29_method_66_code_0) rfl ?_
    refine XT.lloadN X0.here hx rfl (hb hby d_jdk_29_method_66_code_1) rfl ?_
    refine XT.lcmp X0.here hx rfl (hb hby d_jdk_29_method_66_code_2) rfl ?_
    exact kk
  clear k0
  by_cases c2 : a < b
  · skip
    have k3 : own_G p e below E0 s₁ (mkF m 11 #[vj a, ss, vj b, ss] [(.long b)]) := by
      intro tQ kk
      refine k1 tQ ?_
      refine XS.ifYes X0.here hx rfl (pc0 := 3) (pc' := 10) rfl (hb hby d_jdk_29_method_66_code_3) rfl (own_l_ltY c2) (by decide) (by decide) ?_
      refine XT.lloadN X0.here hx rfl (hb hby d_jdk_29_method_66_code_10) rfl ?_
      exact kk
    clear k1
    obtain ⟨fs, hr, hrun, hended, hW, hsame⟩ := X0.leave (v := some (.long b)) (fun h => by rw [Bd.returns] at h; cases h)
    have hrun0 := k3 _ (retOut X0 hx Bd.returns (t := .long) rfl (Or.inr (Or.inl ⟨rfl, rfl, _, rfl⟩)) (hb hby d_jdk_29_method_66_code_11) hr)
    subst hE0
    refine ⟨_, _, hrun0, hrun, hended, _, _, rfl, ?_, ⟨_, rfl⟩, hW, hsame.mono (by decide) (by decide)⟩
    show QrmMJ Z a b h0 n0 _ s₁.heap _
    rw [e0]
    exact ⟨by rw [if_pos c2], N0, rfl⟩
  · skip
    have k4 : own_G p e below E0 s₁ (mkF m 11 #[vj a, ss, vj b, ss] [(.long a)]) := by
      intro tQ kk
      refine k1 tQ ?_
      refine XS.ifNo X0.here hx rfl (hb hby d_jdk_29_method_66_code_3) rfl (own_l_ltN c2) ?_
      refine XT.lloadN X0.here hx rfl (hb hby d_jdk_29_method_66_code_6) rfl ?_
      refine XS.goto X0.here hx rfl (pc0 := 7) (pc' := 11) rfl (hb hby d_jdk_29_method_66_code_7) (by decide) (by decide) ?_
      exact kk
    clear k1
    obtain ⟨fs, hr, hrun, hended, hW, hsame⟩ := X0.leave (v := some (.long a)) (fun h => by rw [Bd.returns] at h; cases h)
    have hrun0 := k4 _ (retOut X0 hx Bd.returns (t := .long) rfl (Or.inr (Or.inl ⟨rfl, rfl, _, rfl⟩)) (hb hby d_jdk_29_method_66_code_11) hr)
    subst hE0
    refine ⟨_, _, hrun0, hrun, hended, _, _, rfl, ?_, ⟨_, rfl⟩, hW, hsame.mono (by decide) (by decide)⟩
    show QrmMJ Z a b h0 n0 _ s₁.heap _
    rw [e0]
    exact ⟨by rw [if_neg c2], N0, rfl⟩
def QrmRD0 (Z : State)  (h0 : Heap) (n0 : Nat) (vQ : Option Value) (hQ : Heap) (LQ : List Loc) : Prop := vQ = some (.long (0 : Int64)) ∧ Fr n0 LQ ∧ hQ = h0
theorem ef_rmRD0 (m : MethodId)  : entryFrame m #[(.double (0 : UInt64))] 10 = mkF m 0 #[vd (0 : UInt64), ss, uu, uu, uu, uu, uu, uu, uu, uu] [] := by first | (simp [entryFrame, mkF, argsToLocals, Value.category]; done) | rfl
abbrev mn1 : MethodName := ⟨"java/lang/Math", "round", "(D)J"⟩
theorem d_jdk_29_method_22_code_0 : decode jdk_29_method_22_code 0 = .ok (.dload_n 0, 1) := by decide +kernel
theorem d_jdk_29_method_22_code_1 : decode jdk_29_method_22_code 1 = .ok (.invokestatic 79, 3) := by decide +kernel
def tw14 {Z : State} {a0 : Array Value} (hw : ∀ d ∈ tables_1, d.before a0 Z = true) := hw _ (List.mem_of_getElem? (i := 14) rfl)
def tw15 {Z : State} {a0 : Array Value} (hw : ∀ d ∈ tables_1, d.before a0 Z = true) := hw _ (List.mem_of_getElem? (i := 15) rfl)
def tw16 {Z : State} {a0 : Array Value} (hw : ∀ d ∈ tables_1, d.before a0 Z = true) := hw _ (List.mem_of_getElem? (i := 16) rfl)
def tw17 {Z : State} {a0 : Array Value} (hw : ∀ d ∈ tables_1, d.before a0 Z = true) := hw _ (List.mem_of_getElem? (i := 17) rfl)
theorem d_jdk_29_method_22_code_4 : decode jdk_29_method_22_code 4 = .ok (.lstore_n 2, 1) := by decide +kernel
theorem d_jdk_29_method_22_code_5 : decode jdk_29_method_22_code 5 = .ok (.lload_n 2, 1) := by decide +kernel
theorem d_jdk_29_method_22_code_6 : decode jdk_29_method_22_code 6 = .ok (.ldc2_w 87, 3) := by decide +kernel
def tw18 {Z : State} {a0 : Array Value} (hw : ∀ d ∈ tables_1, d.before a0 Z = true) := hw _ (List.mem_of_getElem? (i := 18) rfl)
theorem d_jdk_29_method_22_code_9 : decode jdk_29_method_22_code 9 = .ok (.land, 1) := by decide +kernel
theorem d_jdk_29_method_22_code_10 : decode jdk_29_method_22_code 10 = .ok (.bipush 52, 2) := by decide +kernel
theorem d_jdk_29_method_22_code_12 : decode jdk_29_method_22_code 12 = .ok (.lshr, 1) := by decide +kernel
theorem d_jdk_29_method_22_code_13 : decode jdk_29_method_22_code 13 = .ok (.lstore 4, 2) := by decide +kernel
theorem d_jdk_29_method_22_code_15 : decode jdk_29_method_22_code 15 = .ok (.ldc2_w 89, 3) := by decide +kernel
def tw19 {Z : State} {a0 : Array Value} (hw : ∀ d ∈ tables_1, d.before a0 Z = true) := hw _ (List.mem_of_getElem? (i := 19) rfl)
theorem d_jdk_29_method_22_code_18 : decode jdk_29_method_22_code 18 = .ok (.lload 4, 2) := by decide +kernel
theorem d_jdk_29_method_22_code_20 : decode jdk_29_method_22_code 20 = .ok (.lsub, 1) := by decide +kernel
theorem d_jdk_29_method_22_code_21 : decode jdk_29_method_22_code 21 = .ok (.lstore 6, 2) := by decide +kernel
theorem d_jdk_29_method_22_code_23 : decode jdk_29_method_22_code 23 = .ok (.lload 6, 2) := by decide +kernel
theorem d_jdk_29_method_22_code_25 : decode jdk_29_method_22_code 25 = .ok (.ldc2_w 91, 3) := by decide +kernel
def tw20 {Z : State} {a0 : Array Value} (hw : ∀ d ∈ tables_1, d.before a0 Z = true) := hw _ (List.mem_of_getElem? (i := 20) rfl)
theorem d_jdk_29_method_22_code_28 : decode jdk_29_method_22_code 28 = .ok (.land, 1) := by decide +kernel
theorem d_jdk_29_method_22_code_29 : decode jdk_29_method_22_code 29 = .ok (.lconst 0, 1) := by decide +kernel
theorem d_jdk_29_method_22_code_30 : decode jdk_29_method_22_code 30 = .ok (.lcmp, 1) := by decide +kernel
theorem d_jdk_29_method_22_code_31 : decode jdk_29_method_22_code 31 = .ok (.ifCond .ne 36, 3) := by decide +kernel
theorem d_jdk_29_method_22_code_67 : decode jdk_29_method_22_code 67 = .ok (.dload_n 0, 1) := by decide +kernel
theorem d_jdk_29_method_22_code_68 : decode jdk_29_method_22_code 68 = .ok (.d2l, 1) := by decide +kernel
theorem d_jdk_29_method_22_code_69 : decode jdk_29_method_22_code 69 = .ok (.lreturn, 1) := by decide +kernel
set_option maxRecDepth 65536 in
set_option maxHeartbeats 40000000 in
theorem rmRD0 (l : Launch) (Z : State) (a0 : Array Value) (hw : ∀ d ∈ tables_1, d.before a0 Z = true) (ws : List Jvm.Cond)  (h0 : Heap) (n0 : Nat) (Z0 : n0 ≤ h0.size)  :
    MetFree l mn1 (head1 (Jvm.Cond.code mn1 jdk_29_method_22_code 10 (some .long) :: ws) ({ frames := 1, cells := 0, slots := 0, locals := 15 } : Room)) (fun aA U => aA = #[(.double (0 : UInt64))] ∧ Z.Warmed39 U.vm ∧ U.heap = h0) (fun _ _ _ _ _ => True) (fun _ U o U' => ∃ vR LR, o = .returned vR ∧ QrmRD0 Z  h0 n0 vR U'.heap LR ∧ FrameEnd U o U' LR ({ frames := 1, cells := 0, slots := 0, locals := 15 } : Room).cells ({ frames := 1, cells := 0, slots := 0, locals := 15 } : Room).slots) := by
  refine MetFree.of_bodySF (Jvm.Free.JP.mathPlain rfl (by decide +kernel)) hisR ?_
  intro p e s m args below meth c s₁ Bd hml0 hPre hKk
  obtain ⟨rfl, hZ, hh⟩ := hPre
  have hx := Bd.exec
  have hby := Bd.bytes
  skip
  have hml : c.maxLocals = 10 := hml0
  have hown : s.vm.findClass "java/lang/Math" = some m.cls := findClass_of_methodNamed Bd.named
  have hnm := (name_of_methodNamed Bd.named Bd.method).1
  have X0 : Stand p l e ({ frames := 1, cells := 0, slots := 0, locals := 15 } : Room) s m #[(.double (0 : UInt64))] below meth c s₁ [] 0 0 := Stand.of_body Bd
  have e0 : s₁.heap = h0 := by rw [← hh, Bd.state]; rfl
  have N0 := Fr.nil n0
  obtain ⟨E0, hE0⟩ : ∃ zE : State, zE = s₁.setTop (entryFrame m #[(.double (0 : UInt64))] 10) := ⟨_, rfl⟩
  have k0 : own_G p e below E0 s₁ (mkF m 0 #[vd (0 : UInt64), ss, uu, uu, uu, uu, uu, uu, uu, uu] []) := fun tz kz => hE0 ▸ castTop (ef_rmRD0 m ) kz
  have k5 : own_G p e below E0 s₁ (mkF m 1 #[vd (0 : UInt64), ss, uu, uu, uu, uu, uu, uu, uu, uu] [(.double (0 : UInt64))]) := by
    intro tQ kk
    refine k0 tQ ?_
    refine XS.dloadN X0.here hx rfl (hb hby d_jdk_29_method_22_code_0) rfl ?_
    exact kk
  clear k0
  obtain ⟨T6, X7, e8, st9⟩ := own_rawBits X0 hx hZ hown (tw14 hw) (tw15 hw) (tw16 hw) (tw17 hw) e0 (x := (0 : UInt64)) (W := 0) (g := (mkF m 1 #[vd (0 : UInt64), ss, uu, uu, uu, uu, uu, uu, uu, uu] [(.double (0 : UInt64))])) rfl (by rw [hml]; rfl) (rest := []) rfl (by show 2 * 0 + _ ≤ _; exact Nat.le_of_eq rfl) (hb hby d_jdk_29_method_22_code_1) (by decide) (by decide)
  have k10 : own_G p e below E0 T6 (mkF m 4 #[vd (0 : UInt64), ss, uu, uu, uu, uu, uu, uu, uu, uu] [(.long ((0 : UInt64)).toInt64)]) := fun tQ kk => k5 tQ (st9 _ kk)
  clear k5 st9
  have k11 : own_G p e below E0 T6 (mkF m 6 #[vd (0 : UInt64), ss, vj ((0 : UInt64)).toInt64, ss, uu, uu, uu, uu, uu, uu] [(.long ((0 : UInt64)).toInt64)]) := by
    intro tQ kk
    refine k10 tQ ?_
    refine XT.lstoreN X7.here hx rfl (hb hby d_jdk_29_method_22_code_4) rfl (l' := #[vd (0 : UInt64), ss, vj ((0 : UInt64)).toInt64, ss, uu, uu, uu, uu, uu, uu]) rfl ?_
    refine XT.lloadN X7.here hx rfl (hb hby d_jdk_29_method_22_code_5) rfl ?_
    exact kk
  clear k10
  have st12 := X7.ldc2Long hx hown (mvT hZ (tw18 hw)) (g := (mkF m 6 #[vd (0 : UInt64), ss, vj ((0 : UInt64)).toInt64, ss, uu, uu, uu, uu, uu, uu] [(.long ((0 : UInt64)).toInt64)])) rfl (hb hby d_jdk_29_method_22_code_6)
  have k13 : own_G p e below E0 T6 (mkF m 9 #[vd (0 : UInt64), ss, vj ((0 : UInt64)).toInt64, ss, uu, uu, uu, uu, uu, uu] [(.long (9218868437227405312 : Int64)), (.long ((0 : UInt64)).toInt64)]) := fun tQ kk => k11 tQ (st12 _ kk)
  clear k11 st12
  have k14 : own_G p e below E0 T6 (mkF m 15 #[vd (0 : UInt64), ss, vj ((0 : UInt64)).toInt64, ss, vj ((((0 : UInt64)).toInt64 &&& (9218868437227405312 : Int64)) >>> ((52 : Int32).toInt64 &&& 63)), ss, uu, uu, uu, uu] []) := by
    intro tQ kk
    refine k13 tQ ?_
    refine XT.land X7.here hx rfl (hb hby d_jdk_29_method_22_code_9) rfl ?_
    refine XS.bipush X7.here hx rfl (hb hby d_jdk_29_method_22_code_10) ?_
    refine XT.lshr X7.here hx rfl (hb hby d_jdk_29_method_22_code_12) rfl ?_
    refine XT.lstore X7.here hx rfl (hb hby d_jdk_29_method_22_code_13) rfl (l' := #[vd (0 : UInt64), ss, vj ((0 : UInt64)).toInt64, ss, vj ((((0 : UInt64)).toInt64 &&& (9218868437227405312 : Int64)) >>> ((52 : Int32).toInt64 &&& 63)), ss, uu, uu, uu, uu]) rfl ?_
    exact kk
  clear k13
  have st15 := X7.ldc2Long hx hown (mvT hZ (tw19 hw)) (g := (mkF m 15 #[vd (0 : UInt64), ss, vj ((0 : UInt64)).toInt64, ss, vj ((((0 : UInt64)).toInt64 &&& (9218868437227405312 : Int64)) >>> ((52 : Int32).toInt64 &&& 63)), ss, uu, uu, uu, uu] [])) rfl (hb hby d_jdk_29_method_22_code_15)
  have k16 : own_G p e below E0 T6 (mkF m 18 #[vd (0 : UInt64), ss, vj ((0 : UInt64)).toInt64, ss, vj ((((0 : UInt64)).toInt64 &&& (9218868437227405312 : Int64)) >>> ((52 : Int32).toInt64 &&& 63)), ss, uu, uu, uu, uu] [(.long (1074 : Int64))]) := fun tQ kk => k14 tQ (st15 _ kk)
  clear k14 st15
  have k17 : own_G p e below E0 T6 (mkF m 25 #[vd (0 : UInt64), ss, vj ((0 : UInt64)).toInt64, ss, vj ((((0 : UInt64)).toInt64 &&& (9218868437227405312 : Int64)) >>> ((52 : Int32).toInt64 &&& 63)), ss, vj ((1074 : Int64) - ((((0 : UInt64)).toInt64 &&& (9218868437227405312 : Int64)) >>> ((52 : Int32).toInt64 &&& 63))), ss, uu, uu] [(.long ((1074 : Int64) - ((((0 : UInt64)).toInt64 &&& (9218868437227405312 : Int64)) >>> ((52 : Int32).toInt64 &&& 63))))]) := by
    intro tQ kk
    refine k16 tQ ?_
    refine XT.lload X7.here hx rfl (hb hby d_jdk_29_method_22_code_18) rfl ?_
    refine XT.lsub X7.here hx rfl (hb hby d_jdk_29_method_22_code_20) rfl ?_
    refine XT.lstore X7.here hx rfl (hb hby d_jdk_29_method_22_code_21) rfl (l' := #[vd (0 : UInt64), ss, vj ((0 : UInt64)).toInt64, ss, vj ((((0 : UInt64)).toInt64 &&& (9218868437227405312 : Int64)) >>> ((52 : Int32).toInt64 &&& 63)), ss, vj ((1074 : Int64) - ((((0 : UInt64)).toInt64 &&& (9218868437227405312 : Int64)) >>> ((52 : Int32).toInt64 &&& 63))), ss, uu, uu]) rfl ?_
    refine XT.lload X7.here hx rfl (hb hby d_jdk_29_method_22_code_23) rfl ?_
    exact kk
  clear k16
  have st18 := X7.ldc2Long hx hown (mvT hZ (tw20 hw)) (g := (mkF m 25 #[vd (0 : UInt64), ss, vj ((0 : UInt64)).toInt64, ss, vj ((((0 : UInt64)).toInt64 &&& (9218868437227405312 : Int64)) >>> ((52 : Int32).toInt64 &&& 63)), ss, vj ((1074 : Int64) - ((((0 : UInt64)).toInt64 &&& (9218868437227405312 : Int64)) >>> ((52 : Int32).toInt64 &&& 63))), ss, uu, uu] [(.long ((1074 : Int64) - ((((0 : UInt64)).toInt64 &&& (9218868437227405312 : Int64)) >>> ((52 : Int32).toInt64 &&& 63))))])) rfl (hb hby d_jdk_29_method_22_code_25)
  have k19 : own_G p e below E0 T6 (mkF m 28 #[vd (0 : UInt64), ss, vj ((0 : UInt64)).toInt64, ss, vj ((((0 : UInt64)).toInt64 &&& (9218868437227405312 : Int64)) >>> ((52 : Int32).toInt64 &&& 63)), ss, vj ((1074 : Int64) - ((((0 : UInt64)).toInt64 &&& (9218868437227405312 : Int64)) >>> ((52 : Int32).toInt64 &&& 63))), ss, uu, uu] [(.long (-64 : Int64)), (.long ((1074 : Int64) - ((((0 : UInt64)).toInt64 &&& (9218868437227405312 : Int64)) >>> ((52 : Int32).toInt64 &&& 63))))]) := fun tQ kk => k17 tQ (st18 _ kk)
  clear k17 st18
  have k20 : own_G p e below E0 T6 (mkF m 69 #[vd (0 : UInt64), ss, vj ((0 : UInt64)).toInt64, ss, vj ((((0 : UInt64)).toInt64 &&& (9218868437227405312 : Int64)) >>> ((52 : Int32).toInt64 &&& 63)), ss, vj ((1074 : Int64) - ((((0 : UInt64)).toInt64 &&& (9218868437227405312 : Int64)) >>> ((52 : Int32).toInt64 &&& 63))), ss, uu, uu] [(.long (FP.d2l (0 : UInt64)))]) := by
    intro tQ kk
    refine k19 tQ ?_
    refine XT.land X7.here hx rfl (hb hby d_jdk_29_method_22_code_28) rfl ?_
    refine XT.lconst X7.here hx rfl (hb hby d_jdk_29_method_22_code_29) ?_
    refine XT.lcmp X7.here hx rfl (hb hby d_jdk_29_method_22_code_30) rfl ?_
    refine XS.ifYes X7.here hx rfl (pc0 := 31) (pc' := 67) rfl (hb hby d_jdk_29_method_22_code_31) rfl (own_l_neY (by decide)) (by decide) (by decide) ?_
    show Steps p.tables e below (T6.setTop (mkF m 67 #[vd (0 : UInt64), ss, vj ((0 : UInt64)).toInt64, ss, vj ((((0 : UInt64)).toInt64 &&& (9218868437227405312 : Int64)) >>> ((52 : Int32).toInt64 &&& 63)), ss, vj ((1074 : Int64) - ((((0 : UInt64)).toInt64 &&& (9218868437227405312 : Int64)) >>> ((52 : Int32).toInt64 &&& 63))), ss, uu, uu] [])) tQ
    refine XS.dloadN X7.here hx rfl (hb hby d_jdk_29_method_22_code_67) rfl ?_
    refine XS.d2lS X7.here hx rfl (hb hby d_jdk_29_method_22_code_68) rfl rfl ?_
    exact kk
  clear k19
  obtain ⟨fs, hr, hrun, hended, hW, hsame⟩ := X7.leave (v := some (.long (FP.d2l (0 : UInt64)))) (fun h => by rw [Bd.returns] at h; cases h)
  have hrun0 := k20 _ (retOut X7 hx Bd.returns (t := .long) rfl (Or.inr (Or.inl ⟨rfl, rfl, _, rfl⟩)) (hb hby d_jdk_29_method_22_code_69) hr)
  subst hE0
  refine ⟨_, _, hrun0, hrun, hended, _, _, rfl, ?_, ⟨_, rfl⟩, hW, hsame.mono (by decide) (by decide)⟩
  show QrmRD0 Z  h0 n0 _ T6.heap _
  rw [e8]
  exact ⟨congrArg (fun z => some (Value.long z)) (by decide +kernel), N0, rfl⟩
def QrmRD100 (Z : State)  (h0 : Heap) (n0 : Nat) (vQ : Option Value) (hQ : Heap) (LQ : List Loc) : Prop := vQ = some (.long (2 : Int64)) ∧ Fr n0 LQ ∧ hQ = h0
theorem ef_rmRD100 (m : MethodId)  : entryFrame m #[(.double (4611686018427387904 : UInt64))] 10 = mkF m 0 #[vd (4611686018427387904 : UInt64), ss, uu, uu, uu, uu, uu, uu, uu, uu] [] := by first | (simp [entryFrame, mkF, argsToLocals, Value.category]; done) | rfl
theorem d_jdk_29_method_22_code_34 : decode jdk_29_method_22_code 34 = .ok (.lload_n 2, 1) := by decide +kernel
theorem d_jdk_29_method_22_code_35 : decode jdk_29_method_22_code 35 = .ok (.ldc2_w 93, 3) := by decide +kernel
def tw21 {Z : State} {a0 : Array Value} (hw : ∀ d ∈ tables_1, d.before a0 Z = true) := hw _ (List.mem_of_getElem? (i := 21) rfl)
theorem d_jdk_29_method_22_code_38 : decode jdk_29_method_22_code 38 = .ok (.land, 1) := by decide +kernel
theorem d_jdk_29_method_22_code_39 : decode jdk_29_method_22_code 39 = .ok (.ldc2_w 95, 3) := by decide +kernel
def tw22 {Z : State} {a0 : Array Value} (hw : ∀ d ∈ tables_1, d.before a0 Z = true) := hw _ (List.mem_of_getElem? (i := 22) rfl)
theorem d_jdk_29_method_22_code_42 : decode jdk_29_method_22_code 42 = .ok (.lor, 1) := by decide +kernel
theorem d_jdk_29_method_22_code_43 : decode jdk_29_method_22_code 43 = .ok (.lstore 8, 2) := by decide +kernel
theorem d_jdk_29_method_22_code_45 : decode jdk_29_method_22_code 45 = .ok (.lload_n 2, 1) := by decide +kernel
theorem d_jdk_29_method_22_code_46 : decode jdk_29_method_22_code 46 = .ok (.lconst 0, 1) := by decide +kernel
theorem d_jdk_29_method_22_code_47 : decode jdk_29_method_22_code 47 = .ok (.lcmp, 1) := by decide +kernel
theorem d_jdk_29_method_22_code_48 : decode jdk_29_method_22_code 48 = .ok (.ifCond .ge 8, 3) := by decide +kernel
theorem d_jdk_29_method_22_code_56 : decode jdk_29_method_22_code 56 = .ok (.lload 8, 2) := by decide +kernel
theorem d_jdk_29_method_22_code_58 : decode jdk_29_method_22_code 58 = .ok (.lload 6, 2) := by decide +kernel
theorem d_jdk_29_method_22_code_60 : decode jdk_29_method_22_code 60 = .ok (.l2i, 1) := by decide +kernel
theorem d_jdk_29_method_22_code_61 : decode jdk_29_method_22_code 61 = .ok (.lshr, 1) := by decide +kernel
theorem d_jdk_29_method_22_code_62 : decode jdk_29_method_22_code 62 = .ok (.lconst 1, 1) := by decide +kernel
theorem d_jdk_29_method_22_code_63 : decode jdk_29_method_22_code 63 = .ok (.ladd, 1) := by decide +kernel
theorem d_jdk_29_method_22_code_64 : decode jdk_29_method_22_code 64 = .ok (.iconst 1, 1) := by decide +kernel
theorem d_jdk_29_method_22_code_65 : decode jdk_29_method_22_code 65 = .ok (.lshr, 1) := by decide +kernel
theorem d_jdk_29_method_22_code_66 : decode jdk_29_method_22_code 66 = .ok (.lreturn, 1) := by decide +kernel
set_option maxRecDepth 65536 in
set_option maxHeartbeats 40000000 in
theorem rmRD100 (l : Launch) (Z : State) (a0 : Array Value) (hw : ∀ d ∈ tables_1, d.before a0 Z = true) (ws : List Jvm.Cond)  (h0 : Heap) (n0 : Nat) (Z0 : n0 ≤ h0.size)  :
    MetFree l mn1 (head1 (Jvm.Cond.code mn1 jdk_29_method_22_code 10 (some .long) :: ws) ({ frames := 1, cells := 0, slots := 0, locals := 15 } : Room)) (fun aA U => aA = #[(.double (4611686018427387904 : UInt64))] ∧ Z.Warmed39 U.vm ∧ U.heap = h0) (fun _ _ _ _ _ => True) (fun _ U o U' => ∃ vR LR, o = .returned vR ∧ QrmRD100 Z  h0 n0 vR U'.heap LR ∧ FrameEnd U o U' LR ({ frames := 1, cells := 0, slots := 0, locals := 15 } : Room).cells ({ frames := 1, cells := 0, slots := 0, locals := 15 } : Room).slots) := by
  refine MetFree.of_bodySF (Jvm.Free.JP.mathPlain rfl (by decide +kernel)) hisR ?_
  intro p e s m args below meth c s₁ Bd hml0 hPre hKk
  obtain ⟨rfl, hZ, hh⟩ := hPre
  have hx := Bd.exec
  have hby := Bd.bytes
  skip
  have hml : c.maxLocals = 10 := hml0
  have hown : s.vm.findClass "java/lang/Math" = some m.cls := findClass_of_methodNamed Bd.named
  have hnm := (name_of_methodNamed Bd.named Bd.method).1
  have X0 : Stand p l e ({ frames := 1, cells := 0, slots := 0, locals := 15 } : Room) s m #[(.double (4611686018427387904 : UInt64))] below meth c s₁ [] 0 0 := Stand.of_body Bd
  have e0 : s₁.heap = h0 := by rw [← hh, Bd.state]; rfl
  have N0 := Fr.nil n0
  obtain ⟨E0, hE0⟩ : ∃ zE : State, zE = s₁.setTop (entryFrame m #[(.double (4611686018427387904 : UInt64))] 10) := ⟨_, rfl⟩
  have k0 : own_G p e below E0 s₁ (mkF m 0 #[vd (4611686018427387904 : UInt64), ss, uu, uu, uu, uu, uu, uu, uu, uu] []) := fun tz kz => hE0 ▸ castTop (ef_rmRD100 m ) kz
  have k21 : own_G p e below E0 s₁ (mkF m 1 #[vd (4611686018427387904 : UInt64), ss, uu, uu, uu, uu, uu, uu, uu, uu] [(.double (4611686018427387904 : UInt64))]) := by
    intro tQ kk
    refine k0 tQ ?_
    refine XS.dloadN X0.here hx rfl (hb hby d_jdk_29_method_22_code_0) rfl ?_
    exact kk
  clear k0
  obtain ⟨T22, X23, e24, st25⟩ := own_rawBits X0 hx hZ hown (tw14 hw) (tw15 hw) (tw16 hw) (tw17 hw) e0 (x := (4611686018427387904 : UInt64)) (W := 0) (g := (mkF m 1 #[vd (4611686018427387904 : UInt64), ss, uu, uu, uu, uu, uu, uu, uu, uu] [(.double (4611686018427387904 : UInt64))])) rfl (by rw [hml]; rfl) (rest := []) rfl (by show 2 * 0 + _ ≤ _; exact Nat.le_of_eq rfl) (hb hby d_jdk_29_method_22_code_1) (by decide) (by decide)
  have k26 : own_G p e below E0 T22 (mkF m 4 #[vd (4611686018427387904 : UInt64), ss, uu, uu, uu, uu, uu, uu, uu, uu] [(.long ((4611686018427387904 : UInt64)).toInt64)]) := fun tQ kk => k21 tQ (st25 _ kk)
  clear k21 st25
  have k27 : own_G p e below E0 T22 (mkF m 6 #[vd (4611686018427387904 : UInt64), ss, vj ((4611686018427387904 : UInt64)).toInt64, ss, uu, uu, uu, uu, uu, uu] [(.long ((4611686018427387904 : UInt64)).toInt64)]) := by
    intro tQ kk
    refine k26 tQ ?_
    refine XT.lstoreN X23.here hx rfl (hb hby d_jdk_29_method_22_code_4) rfl (l' := #[vd (4611686018427387904 : UInt64), ss, vj ((4611686018427387904 : UInt64)).toInt64, ss, uu, uu, uu, uu, uu, uu]) rfl ?_
    refine XT.lloadN X23.here hx rfl (hb hby d_jdk_29_method_22_code_5) rfl ?_
    exact kk
  clear k26
  have st28 := X23.ldc2Long hx hown (mvT hZ (tw18 hw)) (g := (mkF m 6 #[vd (4611686018427387904 : UInt64), ss, vj ((4611686018427387904 : UInt64)).toInt64, ss, uu, uu, uu, uu, uu, uu] [(.long ((4611686018427387904 : UInt64)).toInt64)])) rfl (hb hby d_jdk_29_method_22_code_6)
  have k29 : own_G p e below E0 T22 (mkF m 9 #[vd (4611686018427387904 : UInt64), ss, vj ((4611686018427387904 : UInt64)).toInt64, ss, uu, uu, uu, uu, uu, uu] [(.long (9218868437227405312 : Int64)), (.long ((4611686018427387904 : UInt64)).toInt64)]) := fun tQ kk => k27 tQ (st28 _ kk)
  clear k27 st28
  have k30 : own_G p e below E0 T22 (mkF m 15 #[vd (4611686018427387904 : UInt64), ss, vj ((4611686018427387904 : UInt64)).toInt64, ss, vj ((((4611686018427387904 : UInt64)).toInt64 &&& (9218868437227405312 : Int64)) >>> ((52 : Int32).toInt64 &&& 63)), ss, uu, uu, uu, uu] []) := by
    intro tQ kk
    refine k29 tQ ?_
    refine XT.land X23.here hx rfl (hb hby d_jdk_29_method_22_code_9) rfl ?_
    refine XS.bipush X23.here hx rfl (hb hby d_jdk_29_method_22_code_10) ?_
    refine XT.lshr X23.here hx rfl (hb hby d_jdk_29_method_22_code_12) rfl ?_
    refine XT.lstore X23.here hx rfl (hb hby d_jdk_29_method_22_code_13) rfl (l' := #[vd (4611686018427387904 : UInt64), ss, vj ((4611686018427387904 : UInt64)).toInt64, ss, vj ((((4611686018427387904 : UInt64)).toInt64 &&& (9218868437227405312 : Int64)) >>> ((52 : Int32).toInt64 &&& 63)), ss, uu, uu, uu, uu]) rfl ?_
    exact kk
  clear k29
  have st31 := X23.ldc2Long hx hown (mvT hZ (tw19 hw)) (g := (mkF m 15 #[vd (4611686018427387904 : UInt64), ss, vj ((4611686018427387904 : UInt64)).toInt64, ss, vj ((((4611686018427387904 : UInt64)).toInt64 &&& (9218868437227405312 : Int64)) >>> ((52 : Int32).toInt64 &&& 63)), ss, uu, uu, uu, uu] [])) rfl (hb hby d_jdk_29_method_22_code_15)
  have k32 : own_G p e below E0 T22 (mkF m 18 #[vd (4611686018427387904 : UInt64), ss, vj ((4611686018427387904 : UInt64)).toInt64, ss, vj ((((4611686018427387904 : UInt64)).toInt64 &&& (9218868437227405312 : Int64)) >>> ((52 : Int32).toInt64 &&& 63)), ss, uu, uu, uu, uu] [(.long (1074 : Int64))]) := fun tQ kk => k30 tQ (st31 _ kk)
  clear k30 st31
  have k33 : own_G p e below E0 T22 (mkF m 25 #[vd (4611686018427387904 : UInt64), ss, vj ((4611686018427387904 : UInt64)).toInt64, ss, vj ((((4611686018427387904 : UInt64)).toInt64 &&& (9218868437227405312 : Int64)) >>> ((52 : Int32).toInt64 &&& 63)), ss, vj ((1074 : Int64) - ((((4611686018427387904 : UInt64)).toInt64 &&& (9218868437227405312 : Int64)) >>> ((52 : Int32).toInt64 &&& 63))), ss, uu, uu] [(.long ((1074 : Int64) - ((((4611686018427387904 : UInt64)).toInt64 &&& (9218868437227405312 : Int64)) >>> ((52 : Int32).toInt64 &&& 63))))]) := by
    intro tQ kk
    refine k32 tQ ?_
    refine XT.lload X23.here hx rfl (hb hby d_jdk_29_method_22_code_18) rfl ?_
    refine XT.lsub X23.here hx rfl (hb hby d_jdk_29_method_22_code_20) rfl ?_
    refine XT.lstore X23.here hx rfl (hb hby d_jdk_29_method_22_code_21) rfl (l' := #[vd (4611686018427387904 : UInt64), ss, vj ((4611686018427387904 : UInt64)).toInt64, ss, vj ((((4611686018427387904 : UInt64)).toInt64 &&& (9218868437227405312 : Int64)) >>> ((52 : Int32).toInt64 &&& 63)), ss, vj ((1074 : Int64) - ((((4611686018427387904 : UInt64)).toInt64 &&& (9218868437227405312 : Int64)) >>> ((52 : Int32).toInt64 &&& 63))), ss, uu, uu]) rfl ?_
    refine XT.lload X23.here hx rfl (hb hby d_jdk_29_method_22_code_23) rfl ?_
    exact kk
  clear k32
  have st34 := X23.ldc2Long hx hown (mvT hZ (tw20 hw)) (g := (mkF m 25 #[vd (4611686018427387904 : UInt64), ss, vj ((4611686018427387904 : UInt64)).toInt64, ss, vj ((((4611686018427387904 : UInt64)).toInt64 &&& (9218868437227405312 : Int64)) >>> ((52 : Int32).toInt64 &&& 63)), ss, vj ((1074 : Int64) - ((((4611686018427387904 : UInt64)).toInt64 &&& (9218868437227405312 : Int64)) >>> ((52 : Int32).toInt64 &&& 63))), ss, uu, uu] [(.long ((1074 : Int64) - ((((4611686018427387904 : UInt64)).toInt64 &&& (9218868437227405312 : Int64)) >>> ((52 : Int32).toInt64 &&& 63))))])) rfl (hb hby d_jdk_29_method_22_code_25)
  have k35 : own_G p e below E0 T22 (mkF m 28 #[vd (4611686018427387904 : UInt64), ss, vj ((4611686018427387904 : UInt64)).toInt64, ss, vj ((((4611686018427387904 : UInt64)).toInt64 &&& (9218868437227405312 : Int64)) >>> ((52 : Int32).toInt64 &&& 63)), ss, vj ((1074 : Int64) - ((((4611686018427387904 : UInt64)).toInt64 &&& (9218868437227405312 : Int64)) >>> ((52 : Int32).toInt64 &&& 63))), ss, uu, uu] [(.long (-64 : Int64)), (.long ((1074 : Int64) - ((((4611686018427387904 : UInt64)).toInt64 &&& (9218868437227405312 : Int64)) >>> ((52 : Int32).toInt64 &&& 63))))]) := fun tQ kk => k33 tQ (st34 _ kk)
  clear k33 st34
  have k36 : own_G p e below E0 T22 (mkF m 35 #[vd (4611686018427387904 : UInt64), ss, vj ((4611686018427387904 : UInt64)).toInt64, ss, vj ((((4611686018427387904 : UInt64)).toInt64 &&& (9218868437227405312 : Int64)) >>> ((52 : Int32).toInt64 &&& 63)), ss, vj ((1074 : Int64) - ((((4611686018427387904 : UInt64)).toInt64 &&& (9218868437227405312 : Int64)) >>> ((52 : Int32).toInt64 &&& 63))), ss, uu, uu] [(.long ((4611686018427387904 : UInt64)).toInt64)]) := by
    intro tQ kk
    refine k35 tQ ?_
    refine XT.land X23.here hx rfl (hb hby d_jdk_29_method_22_code_28) rfl ?_
    refine XT.lconst X23.here hx rfl (hb hby d_jdk_29_method_22_code_29) ?_
    refine XT.lcmp X23.here hx rfl (hb hby d_jdk_29_method_22_code_30) rfl ?_
    refine XS.ifNo X23.here hx rfl (hb hby d_jdk_29_method_22_code_31) rfl (own_l_neN (by decide)) ?_
    show Steps p.tables e below (T22.setTop (mkF m 34 #[vd (4611686018427387904 : UInt64), ss, vj ((4611686018427387904 : UInt64)).toInt64, ss, vj ((((4611686018427387904 : UInt64)).toInt64 &&& (9218868437227405312 : Int64)) >>> ((52 : Int32).toInt64 &&& 63)), ss, vj ((1074 : Int64) - ((((4611686018427387904 : UInt64)).toInt64 &&& (9218868437227405312 : Int64)) >>> ((52 : Int32).toInt64 &&& 63))), ss, uu, uu] [])) tQ
    refine XT.lloadN X23.here hx rfl (hb hby d_jdk_29_method_22_code_34) rfl ?_
    exact kk
  clear k35
  have st37 := X23.ldc2Long hx hown (mvT hZ (tw21 hw)) (g := (mkF m 35 #[vd (4611686018427387904 : UInt64), ss, vj ((4611686018427387904 : UInt64)).toInt64, ss, vj ((((4611686018427387904 : UInt64)).toInt64 &&& (9218868437227405312 : Int64)) >>> ((52 : Int32).toInt64 &&& 63)), ss, vj ((1074 : Int64) - ((((4611686018427387904 : UInt64)).toInt64 &&& (9218868437227405312 : Int64)) >>> ((52 : Int32).toInt64 &&& 63))), ss, uu, uu] [(.long ((4611686018427387904 : UInt64)).toInt64)])) rfl (hb hby d_jdk_29_method_22_code_35)
  have k38 : own_G p e below E0 T22 (mkF m 38 #[vd (4611686018427387904 : UInt64), ss, vj ((4611686018427387904 : UInt64)).toInt64, ss, vj ((((4611686018427387904 : UInt64)).toInt64 &&& (9218868437227405312 : Int64)) >>> ((52 : Int32).toInt64 &&& 63)), ss, vj ((1074 : Int64) - ((((4611686018427387904 : UInt64)).toInt64 &&& (9218868437227405312 : Int64)) >>> ((52 : Int32).toInt64 &&& 63))), ss, uu, uu] [(.long (4503599627370495 : Int64)), (.long ((4611686018427387904 : UInt64)).toInt64)]) := fun tQ kk => k36 tQ (st37 _ kk)
  clear k36 st37
  have k39 : own_G p e below E0 T22 (mkF m 39 #[vd (4611686018427387904 : UInt64), ss, vj ((4611686018427387904 : UInt64)).toInt64, ss, vj ((((4611686018427387904 : UInt64)).toInt64 &&& (9218868437227405312 : Int64)) >>> ((52 : Int32).toInt64 &&& 63)), ss, vj ((1074 : Int64) - ((((4611686018427387904 : UInt64)).toInt64 &&& (9218868437227405312 : Int64)) >>> ((52 : Int32).toInt64 &&& 63))), ss, uu, uu] [(.long (((4611686018427387904 : UInt64)).toInt64 &&& (4503599627370495 : Int64)))]) := by
    intro tQ kk
    refine k38 tQ ?_
    refine XT.land X23.here hx rfl (hb hby d_jdk_29_method_22_code_38) rfl ?_
    exact kk
  clear k38
  have st40 := X23.ldc2Long hx hown (mvT hZ (tw22 hw)) (g := (mkF m 39 #[vd (4611686018427387904 : UInt64), ss, vj ((4611686018427387904 : UInt64)).toInt64, ss, vj ((((4611686018427387904 : UInt64)).toInt64 &&& (9218868437227405312 : Int64)) >>> ((52 : Int32).toInt64 &&& 63)), ss, vj ((1074 : Int64) - ((((4611686018427387904 : UInt64)).toInt64 &&& (9218868437227405312 : Int64)) >>> ((52 : Int32).toInt64 &&& 63))), ss, uu, uu] [(.long (((4611686018427387904 : UInt64)).toInt64 &&& (4503599627370495 : Int64)))])) rfl (hb hby d_jdk_29_method_22_code_39)
  have k41 : own_G p e below E0 T22 (mkF m 42 #[vd (4611686018427387904 : UInt64), ss, vj ((4611686018427387904 : UInt64)).toInt64, ss, vj ((((4611686018427387904 : UInt64)).toInt64 &&& (9218868437227405312 : Int64)) >>> ((52 : Int32).toInt64 &&& 63)), ss, vj ((1074 : Int64) - ((((4611686018427387904 : UInt64)).toInt64 &&& (9218868437227405312 : Int64)) >>> ((52 : Int32).toInt64 &&& 63))), ss, uu, uu] [(.long (4503599627370496 : Int64)), (.long (((4611686018427387904 : UInt64)).toInt64 &&& (4503599627370495 : Int64)))]) := fun tQ kk => k39 tQ (st40 _ kk)
  clear k39 st40
  have k42 : own_G p e below E0 T22 (mkF m 66 #[vd (4611686018427387904 : UInt64), ss, vj ((4611686018427387904 : UInt64)).toInt64, ss, vj ((((4611686018427387904 : UInt64)).toInt64 &&& (9218868437227405312 : Int64)) >>> ((52 : Int32).toInt64 &&& 63)), ss, vj ((1074 : Int64) - ((((4611686018427387904 : UInt64)).toInt64 &&& (9218868437227405312 : Int64)) >>> ((52 : Int32).toInt64 &&& 63))), ss, vj ((((4611686018427387904 : UInt64)).toInt64 &&& (4503599627370495 : Int64)) ||| (4503599627370496 : Int64)), ss] [(.long (((((((4611686018427387904 : UInt64)).toInt64 &&& (4503599627370495 : Int64)) ||| (4503599627370496 : Int64)) >>> ((((1074 : Int64) - ((((4611686018427387904 : UInt64)).toInt64 &&& (9218868437227405312 : Int64)) >>> ((52 : Int32).toInt64 &&& 63))).toInt32).toInt64 &&& 63)) + (1 : Int64)) >>> ((1 : Int32).toInt64 &&& 63)))]) := by
    intro tQ kk
    refine k41 tQ ?_
    refine XT.lor X23.here hx rfl (hb hby d_jdk_29_method_22_code_42) rfl ?_
    refine XT.lstore X23.here hx rfl (hb hby d_jdk_29_method_22_code_43) rfl (l' := #[vd (4611686018427387904 : UInt64), ss, vj ((4611686018427387904 : UInt64)).toInt64, ss, vj ((((4611686018427387904 : UInt64)).toInt64 &&& (9218868437227405312 : Int64)) >>> ((52 : Int32).toInt64 &&& 63)), ss, vj ((1074 : Int64) - ((((4611686018427387904 : UInt64)).toInt64 &&& (9218868437227405312 : Int64)) >>> ((52 : Int32).toInt64 &&& 63))), ss, vj ((((4611686018427387904 : UInt64)).toInt64 &&& (4503599627370495 : Int64)) ||| (4503599627370496 : Int64)), ss]) rfl ?_
    refine XT.lloadN X23.here hx rfl (hb hby d_jdk_29_method_22_code_45) rfl ?_
    refine XT.lconst X23.here hx rfl (hb hby d_jdk_29_method_22_code_46) ?_
    show Steps p.tables e below (T22.setTop (mkF m 47 #[vd (4611686018427387904 : UInt64), ss, vj ((4611686018427387904 : UInt64)).toInt64, ss, vj ((((4611686018427387904 : UInt64)).toInt64 &&& (9218868437227405312 : Int64)) >>> ((52 : Int32).toInt64 &&& 63)), ss, vj ((1074 : Int64) - ((((4611686018427387904 : UInt64)).toInt64 &&& (9218868437227405312 : Int64)) >>> ((52 : Int32).toInt64 &&& 63))), ss, vj ((((4611686018427387904 : UInt64)).toInt64 &&& (4503599627370495 : Int64)) ||| (4503599627370496 : Int64)), ss] [(.long (0 : Int64)), (.long ((4611686018427387904 : UInt64)).toInt64)])) tQ
    refine XT.lcmp X23.here hx rfl (hb hby d_jdk_29_method_22_code_47) rfl ?_
    refine XS.ifYes X23.here hx rfl (pc0 := 48) (pc' := 56) rfl (hb hby d_jdk_29_method_22_code_48) rfl (own_l_geY (by decide)) (by decide) (by decide) ?_
    refine XT.lload X23.here hx rfl (hb hby d_jdk_29_method_22_code_56) rfl ?_
    refine XT.lload X23.here hx rfl (hb hby d_jdk_29_method_22_code_58) rfl ?_
    show Steps p.tables e below (T22.setTop (mkF m 60 #[vd (4611686018427387904 : UInt64), ss, vj ((4611686018427387904 : UInt64)).toInt64, ss, vj ((((4611686018427387904 : UInt64)).toInt64 &&& (9218868437227405312 : Int64)) >>> ((52 : Int32).toInt64 &&& 63)), ss, vj ((1074 : Int64) - ((((4611686018427387904 : UInt64)).toInt64 &&& (9218868437227405312 : Int64)) >>> ((52 : Int32).toInt64 &&& 63))), ss, vj ((((4611686018427387904 : UInt64)).toInt64 &&& (4503599627370495 : Int64)) ||| (4503599627370496 : Int64)), ss] [(.long ((1074 : Int64) - ((((4611686018427387904 : UInt64)).toInt64 &&& (9218868437227405312 : Int64)) >>> ((52 : Int32).toInt64 &&& 63)))), (.long ((((4611686018427387904 : UInt64)).toInt64 &&& (4503599627370495 : Int64)) ||| (4503599627370496 : Int64)))])) tQ
    refine XT.l2i X23.here hx rfl (hb hby d_jdk_29_method_22_code_60) rfl ?_
    refine XT.lshr X23.here hx rfl (hb hby d_jdk_29_method_22_code_61) rfl ?_
    refine XT.lconst X23.here hx rfl (hb hby d_jdk_29_method_22_code_62) ?_
    refine XT.ladd X23.here hx rfl (hb hby d_jdk_29_method_22_code_63) rfl ?_
    show Steps p.tables e below (T22.setTop (mkF m 64 #[vd (4611686018427387904 : UInt64), ss, vj ((4611686018427387904 : UInt64)).toInt64, ss, vj ((((4611686018427387904 : UInt64)).toInt64 &&& (9218868437227405312 : Int64)) >>> ((52 : Int32).toInt64 &&& 63)), ss, vj ((1074 : Int64) - ((((4611686018427387904 : UInt64)).toInt64 &&& (9218868437227405312 : Int64)) >>> ((52 : Int32).toInt64 &&& 63))), ss, vj ((((4611686018427387904 : UInt64)).toInt64 &&& (4503599627370495 : Int64)) ||| (4503599627370496 : Int64)), ss] [(.long ((((((4611686018427387904 : UInt64)).toInt64 &&& (4503599627370495 : Int64)) ||| (4503599627370496 : Int64)) >>> ((((1074 : Int64) - ((((4611686018427387904 : UInt64)).toInt64 &&& (9218868437227405312 : Int64)) >>> ((52 : Int32).toInt64 &&& 63))).toInt32).toInt64 &&& 63)) + (1 : Int64)))])) tQ
    refine XS.iconst X23.here hx rfl (hb hby d_jdk_29_method_22_code_64) ?_
    refine XT.lshr X23.here hx rfl (hb hby d_jdk_29_method_22_code_65) rfl ?_
    exact kk
  clear k41
  obtain ⟨fs, hr, hrun, hended, hW, hsame⟩ := X23.leave (v := some (.long (((((((4611686018427387904 : UInt64)).toInt64 &&& (4503599627370495 : Int64)) ||| (4503599627370496 : Int64)) >>> ((((1074 : Int64) - ((((4611686018427387904 : UInt64)).toInt64 &&& (9218868437227405312 : Int64)) >>> ((52 : Int32).toInt64 &&& 63))).toInt32).toInt64 &&& 63)) + (1 : Int64)) >>> ((1 : Int32).toInt64 &&& 63)))) (fun h => by rw [Bd.returns] at h; cases h)
  have hrun0 := k42 _ (retOut X23 hx Bd.returns (t := .long) rfl (Or.inr (Or.inl ⟨rfl, rfl, _, rfl⟩)) (hb hby d_jdk_29_method_22_code_66) hr)
  subst hE0
  refine ⟨_, _, hrun0, hrun, hended, _, _, rfl, ?_, ⟨_, rfl⟩, hW, hsame.mono (by decide) (by decide)⟩
  show QrmRD100 Z  h0 n0 _ T22.heap _
  rw [e24]
  exact ⟨congrArg (fun z => some (Value.long z)) (by decide), N0, rfl⟩
abbrev fd2 (Z : State) (h : Heap) (a : Addr) (v : Value) : Prop := Fld Z h a "com/example/lampwork/lampwork/Glide" "frames" "I" v
abbrev fd3 (Z : State) (h : Heap) (a : Addr) (v : Value) : Prop := Fld Z h a "com/example/lampwork/lampwork/Glide" "value" "D" v
abbrev fd4 (Z : State) (h : Heap) (a : Addr) (v : Value) : Prop := Fld Z h a "com/example/lampwork/lampwork/Glide" "target" "D" v
abbrev fd5 (Z : State) (h : Heap) (a : Addr) (v : Value) : Prop := Fld Z h a "com/example/lampwork/lampwork/Glide" "step" "D" v
abbrev fd6 (Z : State) (h : Heap) (a : Addr) (v : Value) : Prop := Fld Z h a "com/example/lampwork/lampwork/Glide" "remaining" "I" v
def QrmI (Z : State) (a : Addr) (x : UInt64) (K : Int32) (h0 : Heap) (n0 : Nat) (vQ : Option Value) (hQ : Heap) (LQ : List Loc) : Prop := vQ = none ∧ Fr n0 LQ ∧ Keep h0 hQ [a] ∧ (fd2 Z hQ a (.int (own_F K))) ∧ (fd3 Z hQ a (.double x)) ∧ (fd4 Z hQ a (.double x)) ∧ (fd5 Z hQ a (.double (0 : UInt64))) ∧ (fd6 Z hQ a (.int (0 : Int32)))
theorem ef_rmI (m : MethodId) (a : Addr) (x : UInt64) (K : Int32) : entryFrame m #[(.ref a), (.double x), (.int ((100 : Int32) * K))] 4 = mkF m 0 #[vr a, vd x, ss, vi ((100 : Int32) * K)] [] := by first | (simp [entryFrame, mkF, argsToLocals, Value.category]; done) | rfl
abbrev xa7 (Z : State) (h : Heap) (a : Addr) : Prop := Exa Z h a "com/example/lampwork/lampwork/Glide"
abbrev mn8 : MethodName := ⟨"com/example/lampwork/lampwork/Glide", "<init>", "(DI)V"⟩
theorem pn_com_example_lampwork_lampwork_Glide : plainName "com/example/lampwork/lampwork/Glide" = true := by first | (simp [plainName, overriddenIn]; done) | decide +kernel
theorem d_prog_12_method_1_code_0 : decode prog_12_method_1_code 0 = .ok (.aload_n 0, 1) := by decide +kernel
theorem d_prog_12_method_1_code_1 : decode prog_12_method_1_code 1 = .ok (.invokespecial 1, 3) := by decide +kernel
def tw6 {Z : State} {a0 : Array Value} (hw : ∀ d ∈ tables_1, d.before a0 Z = true) := hw _ (List.mem_of_getElem? (i := 6) rfl)
def tw7 {Z : State} {a0 : Array Value} (hw : ∀ d ∈ tables_1, d.before a0 Z = true) := hw _ (List.mem_of_getElem? (i := 7) rfl)
def tw8 {Z : State} {a0 : Array Value} (hw : ∀ d ∈ tables_1, d.before a0 Z = true) := hw _ (List.mem_of_getElem? (i := 8) rfl)
theorem d_prog_12_method_1_code_4 : decode prog_12_method_1_code 4 = .ok (.aload_n 0, 1) := by decide +kernel
theorem d_prog_12_method_1_code_5 : decode prog_12_method_1_code 5 = .ok (.lconst 1, 1) := by decide +kernel
theorem d_prog_12_method_1_code_6 : decode prog_12_method_1_code 6 = .ok (.ldc2_w 9, 3) := by decide +kernel
def tw9 {Z : State} {a0 : Array Value} (hw : ∀ d ∈ tables_1, d.before a0 Z = true) := hw _ (List.mem_of_getElem? (i := 9) rfl)
theorem d_prog_12_method_1_code_9 : decode prog_12_method_1_code 9 = .ok (.iload_n 3, 1) := by decide +kernel
theorem d_prog_12_method_1_code_10 : decode prog_12_method_1_code 10 = .ok (.i2d, 1) := by decide +kernel
theorem d_prog_12_method_1_code_11 : decode prog_12_method_1_code 11 = .ok (.dmul, 1) := by decide +kernel
theorem d_prog_12_method_1_code_12 : decode prog_12_method_1_code 12 = .ok (.invokestatic 11, 3) := by decide +kernel
def tw10 {Z : State} {a0 : Array Value} (hw : ∀ d ∈ tables_1, d.before a0 Z = true) := hw _ (List.mem_of_getElem? (i := 10) rfl)
def tw13 {Z : State} {a0 : Array Value} (hw : ∀ d ∈ tables_1, d.before a0 Z = true) := hw _ (List.mem_of_getElem? (i := 13) rfl)
def tw12 {Z : State} {a0 : Array Value} (hw : ∀ d ∈ tables_1, d.before a0 Z = true) := hw _ (List.mem_of_getElem? (i := 12) rfl)
theorem pd_9 : parseMethodDescriptor "(D)J" = some ⟨[.double], some .long⟩ := by decide +kernel
def tw11 {Z : State} {a0 : Array Value} (hw : ∀ d ∈ tables_1, d.before a0 Z = true) := hw _ (List.mem_of_getElem? (i := 11) rfl)
theorem d_prog_12_method_1_code_15 : decode prog_12_method_1_code 15 = .ok (.invokestatic 17, 3) := by decide +kernel
def tw23 {Z : State} {a0 : Array Value} (hw : ∀ d ∈ tables_1, d.before a0 Z = true) := hw _ (List.mem_of_getElem? (i := 23) rfl)
def tw25 {Z : State} {a0 : Array Value} (hw : ∀ d ∈ tables_1, d.before a0 Z = true) := hw _ (List.mem_of_getElem? (i := 25) rfl)
theorem pd_10 : parseMethodDescriptor "(JJ)J" = some ⟨[.long, .long], some .long⟩ := by decide +kernel
def tw24 {Z : State} {a0 : Array Value} (hw : ∀ d ∈ tables_1, d.before a0 Z = true) := hw _ (List.mem_of_getElem? (i := 24) rfl)
theorem d_prog_12_method_1_code_18 : decode prog_12_method_1_code 18 = .ok (.l2i, 1) := by decide +kernel
theorem d_prog_12_method_1_code_19 : decode prog_12_method_1_code 19 = .ok (.putfield 21, 3) := by decide +kernel
def tw26 {Z : State} {a0 : Array Value} (hw : ∀ d ∈ tables_1, d.before a0 Z = true) := hw _ (List.mem_of_getElem? (i := 26) rfl)
def tw1 {Z : State} {a0 : Array Value} (hw : ∀ d ∈ tables_1, d.before a0 Z = true) := hw _ (List.mem_of_getElem? (i := 1) rfl)
def tw27 {Z : State} {a0 : Array Value} (hw : ∀ d ∈ tables_1, d.before a0 Z = true) := hw _ (List.mem_of_getElem? (i := 27) rfl)
def tw29 {Z : State} {a0 : Array Value} (hw : ∀ d ∈ tables_1, d.before a0 Z = true) := hw _ (List.mem_of_getElem? (i := 29) rfl)
def tw31 {Z : State} {a0 : Array Value} (hw : ∀ d ∈ tables_1, d.before a0 Z = true) := hw _ (List.mem_of_getElem? (i := 31) rfl)
def tw55 {Z : State} {a0 : Array Value} (hw : ∀ d ∈ tables_1, d.before a0 Z = true) := hw _ (List.mem_of_getElem? (i := 55) rfl)
def tw38 {Z : State} {a0 : Array Value} (hw : ∀ d ∈ tables_1, d.before a0 Z = true) := hw _ (List.mem_of_getElem? (i := 38) rfl)
theorem d_prog_12_method_1_code_22 : decode prog_12_method_1_code 22 = .ok (.aload_n 0, 1) := by decide +kernel
theorem d_prog_12_method_1_code_23 : decode prog_12_method_1_code 23 = .ok (.dload_n 1, 1) := by decide +kernel
theorem d_prog_12_method_1_code_24 : decode prog_12_method_1_code 24 = .ok (.putfield 25, 3) := by decide +kernel
def tw28 {Z : State} {a0 : Array Value} (hw : ∀ d ∈ tables_1, d.before a0 Z = true) := hw _ (List.mem_of_getElem? (i := 28) rfl)
theorem d_prog_12_method_1_code_27 : decode prog_12_method_1_code 27 = .ok (.aload_n 0, 1) := by decide +kernel
theorem d_prog_12_method_1_code_28 : decode prog_12_method_1_code 28 = .ok (.dload_n 1, 1) := by decide +kernel
theorem d_prog_12_method_1_code_29 : decode prog_12_method_1_code 29 = .ok (.putfield 29, 3) := by decide +kernel
def tw30 {Z : State} {a0 : Array Value} (hw : ∀ d ∈ tables_1, d.before a0 Z = true) := hw _ (List.mem_of_getElem? (i := 30) rfl)
theorem d_prog_12_method_1_code_32 : decode prog_12_method_1_code 32 = .ok (.return_, 1) := by decide +kernel
set_option maxRecDepth 65536 in
set_option maxHeartbeats 40000000 in
theorem rmI (l : Launch) (Z : State) (a0 : Array Value) (hw : ∀ d ∈ tables_1, d.before a0 Z = true) (ws : List Jvm.Cond) (a : Addr) (x : UInt64) (K : Int32) (h0 : Heap) (n0 : Nat) (Z0 : n0 ≤ h0.size) (E1 : xa7 Z h0 a) (F_frames : fd2 Z h0 a (.int (0 : Int32))) (F_value : fd3 Z h0 a (.double (0 : UInt64))) (F_target : fd4 Z h0 a (.double (0 : UInt64))) (F_step : fd5 Z h0 a (.double (0 : UInt64))) (F_remaining : fd6 Z h0 a (.int (0 : Int32))) (ge_a : n0 ≤ a) (hK : K = 0 ∨ K = 1) :
    MetFree l mn8 (head1 (Jvm.Cond.code mn8 prog_12_method_1_code 4 none :: ws) ({ frames := 2, cells := 0, slots := 0, locals := 40 } : Room)) (fun aA U => aA = #[(.ref a), (.double x), (.int ((100 : Int32) * K))] ∧ Z.Warmed39 U.vm ∧ U.heap = h0) (fun _ _ _ _ _ => True) (fun _ U o U' => ∃ vR LR, o = .returned vR ∧ QrmI Z a x K h0 n0 vR U'.heap LR ∧ FrameEnd U o U' LR ({ frames := 2, cells := 0, slots := 0, locals := 40 } : Room).cells ({ frames := 2, cells := 0, slots := 0, locals := 40 } : Room).slots) := by
  refine MetFree.of_bodySF (plainFor_of_name pn_com_example_lampwork_lampwork_Glide) hisR ?_
  intro p e s m args below meth c s₁ Bd hml0 hPre hKk
  obtain ⟨rfl, hZ, hh⟩ := hPre
  have hx := Bd.exec
  have hby := Bd.bytes
  skip
  have hml : c.maxLocals = 4 := hml0
  have hown : s.vm.findClass "com/example/lampwork/lampwork/Glide" = some m.cls := findClass_of_methodNamed Bd.named
  have hnm := (name_of_methodNamed Bd.named Bd.method).1
  have X0 : Stand p l e ({ frames := 2, cells := 0, slots := 0, locals := 40 } : Room) s m #[(.ref a), (.double x), (.int ((100 : Int32) * K))] below meth c s₁ [] 0 0 := Stand.of_body Bd
  have e0 : s₁.heap = h0 := by rw [← hh, Bd.state]; rfl
  have N0 := Fr.nil n0
  obtain ⟨E0, hE0⟩ : ∃ zE : State, zE = s₁.setTop (entryFrame m #[(.ref a), (.double x), (.int ((100 : Int32) * K))] 4) := ⟨_, rfl⟩
  have k0 : own_G p e below E0 s₁ (mkF m 0 #[vr a, vd x, ss, vi ((100 : Int32) * K)] []) := fun tz kz => hE0 ▸ castTop (ef_rmI m a x K) kz
  have K0 : Keep h0 h0 [a] := Keep.refl _ _
  rcases hK with rfl | rfl
  · skip
    have k43 : own_G p e below E0 s₁ (mkF m 1 #[vr a, vd x, ss, vi ((100 : Int32) * (0 : Int32))] [(.ref a)]) := by
      intro tQ kk
      refine k0 tQ ?_
      refine XS.aloadN X0.here hx rfl (hb hby d_prog_12_method_1_code_0) rfl rfl ?_
      exact kk
    clear k0
    obtain ⟨T44, X45, e46, st47⟩ := initO X0 hx hZ hown (tw6 hw) (tw7 hw) (tw8 hw) e0 (g := (mkF m 1 #[vr a, vd x, ss, vi ((100 : Int32) * (0 : Int32))] [(.ref a)])) rfl (by rw [hml]; rfl) rfl (hb hby d_prog_12_method_1_code_1) (by decide) (W := 0) (by show 2 * 0 + _ ≤ _; exact Nat.le_of_eq rfl) (by decide)
    have k48 : own_G p e below E0 T44 (mkF m 4 #[vr a, vd x, ss, vi ((100 : Int32) * (0 : Int32))] []) := fun tQ kk => k43 tQ (st47 _ kk)
    clear k43 st47
    have k49 : own_G p e below E0 T44 (mkF m 6 #[vr a, vd x, ss, vi ((100 : Int32) * (0 : Int32))] [(.long (1 : Int64)), (.ref a)]) := by
      intro tQ kk
      refine k48 tQ ?_
      refine XS.aloadN X45.here hx rfl (hb hby d_prog_12_method_1_code_4) rfl rfl ?_
      refine XT.lconst X45.here hx rfl (hb hby d_prog_12_method_1_code_5) ?_
      exact kk
    clear k48
    have st50 := X45.ldc2DoubleC hx hown (mvT hZ (tw9 hw)) (g := (mkF m 6 #[vr a, vd x, ss, vi ((100 : Int32) * (0 : Int32))] [(.long (1 : Int64)), (.ref a)])) rfl (hb hby d_prog_12_method_1_code_6)
    have k51 : own_G p e below E0 T44 (mkF m 9 #[vr a, vd x, ss, vi ((100 : Int32) * (0 : Int32))] [(.double (4581421828931458171 : UInt64)), (.long (1 : Int64)), (.ref a)]) := fun tQ kk => k49 tQ (st50 _ kk)
    clear k49 st50
    have k52 : own_G p e below E0 T44 (mkF m 12 #[vr a, vd x, ss, vi ((100 : Int32) * (0 : Int32))] [(.double (0 : UInt64)), (.long (1 : Int64)), (.ref a)]) := by
      intro tQ kk
      refine k51 tQ ?_
      refine XS.iloadN X45.here hx rfl (hb hby d_prog_12_method_1_code_9) rfl ?_
      refine XS.i2dS X45.here hx rfl (hb hby d_prog_12_method_1_code_10) rfl rfl ?_
      refine XS.dmulS (v := (0 : UInt64)) X45.here hx rfl (hb hby d_prog_12_method_1_code_11) rfl (by unfold NoNaN64; decide +kernel) (by decide +kernel) ?_
      exact kk
    clear k51
    obtain ⟨_, _, ⟨T53, L54, kc55, nc56⟩, -, X57, ⟨Lc58, hQ59, l60, y61, z62⟩, st63⟩ := Jvm.LawKit.callS X45 hx (y := mn1) hown (mvT hZ (tw10 hw)) (mvT hZ (tw11 hw)) (mvT hZ (tw12 hw)) (mvT hZ (tw13 hw)) (by decide) (backOf (W := 3) (rmRD0 l Z a0 hw []  h0 n0 Z0 ) hZ (tw13 hw) (tw12 hw) (by decide) (by decide)) (g := (mkF m 12 #[vr a, vd x, ss, vi ((100 : Int32) * (0 : Int32))] [(.double (0 : UInt64)), (.long (1 : Int64)), (.ref a)])) rfl (by rw [hml]; rfl) (argsL := [(.double (0 : UInt64))]) (rest := [(.long (1 : Int64)), (.ref a)]) (lenOf pd_9 rfl) rfl (by show 2 * 0 + _ ≤ _; exact Nat.le_of_eq rfl) (hb hby d_prog_12_method_1_code_12) (fun _ _ => ⟨rfl, e46, (by decide : 0 + 0 ≤ _), (by decide : 0 + 0 ≤ _)⟩)
    dsimp only [Pt.U, Pt.locs, Pt.cells, Pt.slots] at X57 l60 y61 z62 st63 hQ59
    subst y61 z62
    obtain ⟨rfl, N64, e65⟩ := hQ59
    have N67 : Fr n0 L54 := by rw [l60]; exact Fr.app N0 N64
    clear l60 N64
    have k68 : own_G p e below E0 T53 (mkF m 15 #[vr a, vd x, ss, vi ((100 : Int32) * (0 : Int32))] [(.long (0 : Int64)), (.long (1 : Int64)), (.ref a)]) := fun tQ kk => k52 tQ (st63 _ kk)
    clear k52 st63
    obtain ⟨_, _, ⟨T69, L70, kc71, nc72⟩, -, X73, ⟨Lc74, hQ75, l76, y77, z78⟩, st79⟩ := Jvm.LawKit.callS X57 hx (y := mn0) hown (mvT hZ (tw23 hw)) (mvT hZ (tw24 hw)) (mvT hZ (tw12 hw)) (mvT hZ (tw25 hw)) (by decide) (backOf (W := 1) (rmMJ l Z a0 hw [] (1 : Int64) (0 : Int64) h0 n0 Z0 ) hZ (tw25 hw) (tw12 hw) (by decide) (by decide)) (g := (mkF m 15 #[vr a, vd x, ss, vi ((100 : Int32) * (0 : Int32))] [(.long (0 : Int64)), (.long (1 : Int64)), (.ref a)])) rfl (by rw [hml]; rfl) (argsL := [(.long (1 : Int64)), (.long (0 : Int64))]) (rest := [(.ref a)]) (lenOf pd_10 rfl) rfl (by show 2 * 0 + _ ≤ _; exact Nat.le_of_eq rfl) (hb hby d_prog_12_method_1_code_15) (fun _ _ => ⟨rfl, e65, (by decide : 0 + 0 ≤ _), (by decide : 0 + 0 ≤ _)⟩)
    dsimp only [Pt.U, Pt.locs, Pt.cells, Pt.slots] at X73 l76 y77 z78 st79 hQ75
    subst y77 z78
    obtain ⟨rfl, N80, e81⟩ := hQ75
    have N83 : Fr n0 L70 := by rw [l76]; exact Fr.app N67 N80
    clear l76 N80
    have k84 : own_G p e below E0 T69 (mkF m 18 #[vr a, vd x, ss, vi ((100 : Int32) * (0 : Int32))] [(.long (if (1 : Int64) < (0 : Int64) then (0 : Int64) else (1 : Int64))), (.ref a)]) := fun tQ kk => k68 tQ (st79 _ kk)
    clear k68 st79
    have eq85 : (if (1 : Int64) < (0 : Int64) then (0 : Int64) else (1 : Int64)) = (1 : Int64) := by decide
    rw [eq85] at k84
    have k86 : own_G p e below E0 T69 (mkF m 19 #[vr a, vd x, ss, vi ((100 : Int32) * (0 : Int32))] [(.int ((1 : Int64).toInt32)), (.ref a)]) := by
      intro tQ kk
      refine k84 tQ ?_
      refine XT.l2i X73.here hx rfl (hb hby d_prog_12_method_1_code_18) rfl ?_
      exact kk
    clear k84
    have eq87 : ((1 : Int64).toInt32) = (1 : Int32) := by decide
    rw [eq87] at k86
    obtain ⟨T88, h89, X90, e91, W92, st93⟩ := putF X73 hx hZ hown (host := "") (Or.inl (tw26 hw)) Via.refl e81 F_frames E1 (Or.inr ⟨(tw27 hw), rfl, hnm⟩) (tw1 hw) (ty := .int) (by decide) rfl rfl (g := (mkF m 19 #[vr a, vd x, ss, vi ((100 : Int32) * (0 : Int32))] [(.int (1 : Int32)), (.ref a)])) rfl rfl (hb hby d_prog_12_method_1_code_19)
    have N94 := Fr.snoc X90 N83 ge_a
    have k95 : own_G p e below E0 T88 (mkF m 22 #[vr a, vd x, ss, vi ((100 : Int32) * (0 : Int32))] []) := fun tQ kk => k86 tQ (st93 _ kk)
    clear k86 st93
    have F96 : xa7 Z h89 a := E1.wr W92
    clear E1
    have F97 : fd2 Z h89 a (.int (1 : Int32)) := F_frames.same W92
    clear F_frames
    have F98 : fd3 Z h89 a (.double (0 : UInt64)) := F_value.other W92 (Or.inr (slot_ne (C := "com/example/lampwork/lampwork/Glide") (Or.inl (tw29 hw)) (Or.inr (tw27 hw)) (by decide) (t := .double) (t' := .int) (by decide) (by decide)))
    clear F_value
    have F99 : fd4 Z h89 a (.double (0 : UInt64)) := F_target.other W92 (Or.inr (slot_ne (C := "com/example/lampwork/lampwork/Glide") (Or.inl (tw31 hw)) (Or.inr (tw27 hw)) (by decide) (t := .double) (t' := .int) (by decide) (by decide)))
    clear F_target
    have F100 : fd5 Z h89 a (.double (0 : UInt64)) := F_step.other W92 (Or.inr (slot_ne (C := "com/example/lampwork/lampwork/Glide") (Or.inl (tw55 hw)) (Or.inr (tw27 hw)) (by decide) (t := .double) (t' := .int) (by decide) (by decide)))
    clear F_step
    have F101 : fd6 Z h89 a (.int (0 : Int32)) := F_remaining.other W92 (Or.inr (slot_ne (C := "com/example/lampwork/lampwork/Glide") (Or.inl (tw38 hw)) (Or.inr (tw27 hw)) (by decide) (t := .int) (t' := .int) (by decide) (by decide)))
    clear F_remaining
    have Z102 : n0 ≤ h89.size := by rw [W92.size]; exact Z0
    have K103 : Keep h0 h89 [a] := K0.wr W92 (Or.inl (List.mem_of_getElem? (i := 0) rfl))
    have k104 : own_G p e below E0 T88 (mkF m 24 #[vr a, vd x, ss, vi ((100 : Int32) * (0 : Int32))] [(.double x), (.ref a)]) := by
      intro tQ kk
      refine k95 tQ ?_
      refine XS.aloadN X90.here hx rfl (hb hby d_prog_12_method_1_code_22) rfl rfl ?_
      refine XS.dloadN X90.here hx rfl (hb hby d_prog_12_method_1_code_23) rfl ?_
      exact kk
    clear k95
    obtain ⟨T105, h106, X107, e108, W109, st110⟩ := putF X90 hx hZ hown (host := "") (Or.inl (tw28 hw)) Via.refl e91 F98 F96 (Or.inl (tw29 hw)) (tw1 hw) (ty := .double) (by decide) rfl rfl (g := (mkF m 24 #[vr a, vd x, ss, vi ((100 : Int32) * (0 : Int32))] [(.double x), (.ref a)])) rfl rfl (hb hby d_prog_12_method_1_code_24)
    have N111 := Fr.snoc X107 N94 ge_a
    have k112 : own_G p e below E0 T105 (mkF m 27 #[vr a, vd x, ss, vi ((100 : Int32) * (0 : Int32))] []) := fun tQ kk => k104 tQ (st110 _ kk)
    clear k104 st110
    have F113 : xa7 Z h106 a := F96.wr W109
    clear F96
    have F114 : fd2 Z h106 a (.int (1 : Int32)) := F97.other W109 (Or.inr (slot_ne (C := "com/example/lampwork/lampwork/Glide") (Or.inr (tw27 hw)) (Or.inl (tw29 hw)) (by decide) (t := .int) (t' := .double) (by decide) (by decide)))
    clear F97
    have F115 : fd3 Z h106 a (.double x) := F98.same W109
    clear F98
    have F116 : fd4 Z h106 a (.double (0 : UInt64)) := F99.other W109 (Or.inr (slot_ne (C := "com/example/lampwork/lampwork/Glide") (Or.inl (tw31 hw)) (Or.inl (tw29 hw)) (by decide) (t := .double) (t' := .double) (by decide) (by decide)))
    clear F99
    have F117 : fd5 Z h106 a (.double (0 : UInt64)) := F100.other W109 (Or.inr (slot_ne (C := "com/example/lampwork/lampwork/Glide") (Or.inl (tw55 hw)) (Or.inl (tw29 hw)) (by decide) (t := .double) (t' := .double) (by decide) (by decide)))
    clear F100
    have F118 : fd6 Z h106 a (.int (0 : Int32)) := F101.other W109 (Or.inr (slot_ne (C := "com/example/lampwork/lampwork/Glide") (Or.inl (tw38 hw)) (Or.inl (tw29 hw)) (by decide) (t := .int) (t' := .double) (by decide) (by decide)))
    clear F101
    have Z119 : n0 ≤ h106.size := by rw [W109.size]; exact Z102
    clear Z102
    have K120 : Keep h0 h106 [a] := K103.wr W109 (Or.inl (List.mem_of_getElem? (i := 0) rfl))
    clear K103
    have k121 : own_G p e below E0 T105 (mkF m 29 #[vr a, vd x, ss, vi ((100 : Int32) * (0 : Int32))] [(.double x), (.ref a)]) := by
      intro tQ kk
      refine k112 tQ ?_
      refine XS.aloadN X107.here hx rfl (hb hby d_prog_12_method_1_code_27) rfl rfl ?_
      refine XS.dloadN X107.here hx rfl (hb hby d_prog_12_method_1_code_28) rfl ?_
      exact kk
    clear k112
    obtain ⟨T122, h123, X124, e125, W126, st127⟩ := putF X107 hx hZ hown (host := "") (Or.inl (tw30 hw)) Via.refl e108 F116 F113 (Or.inl (tw31 hw)) (tw1 hw) (ty := .double) (by decide) rfl rfl (g := (mkF m 29 #[vr a, vd x, ss, vi ((100 : Int32) * (0 : Int32))] [(.double x), (.ref a)])) rfl rfl (hb hby d_prog_12_method_1_code_29)
    have N128 := Fr.snoc X124 N111 ge_a
    have k129 : own_G p e below E0 T122 (mkF m 32 #[vr a, vd x, ss, vi ((100 : Int32) * (0 : Int32))] []) := fun tQ kk => k121 tQ (st127 _ kk)
    clear k121 st127
    have F130 : xa7 Z h123 a := F113.wr W126
    clear F113
    have F131 : fd2 Z h123 a (.int (1 : Int32)) := F114.other W126 (Or.inr (slot_ne (C := "com/example/lampwork/lampwork/Glide") (Or.inr (tw27 hw)) (Or.inl (tw31 hw)) (by decide) (t := .int) (t' := .double) (by decide) (by decide)))
    clear F114
    have F132 : fd3 Z h123 a (.double x) := F115.other W126 (Or.inr (slot_ne (C := "com/example/lampwork/lampwork/Glide") (Or.inl (tw29 hw)) (Or.inl (tw31 hw)) (by decide) (t := .double) (t' := .double) (by decide) (by decide)))
    clear F115
    have F133 : fd4 Z h123 a (.double x) := F116.same W126
    clear F116
    have F134 : fd5 Z h123 a (.double (0 : UInt64)) := F117.other W126 (Or.inr (slot_ne (C := "com/example/lampwork/lampwork/Glide") (Or.inl (tw55 hw)) (Or.inl (tw31 hw)) (by decide) (t := .double) (t' := .double) (by decide) (by decide)))
    clear F117
    have F135 : fd6 Z h123 a (.int (0 : Int32)) := F118.other W126 (Or.inr (slot_ne (C := "com/example/lampwork/lampwork/Glide") (Or.inl (tw38 hw)) (Or.inl (tw31 hw)) (by decide) (t := .int) (t' := .double) (by decide) (by decide)))
    clear F118
    have Z136 : n0 ≤ h123.size := by rw [W126.size]; exact Z119
    clear Z119
    have K137 : Keep h0 h123 [a] := K120.wr W126 (Or.inl (List.mem_of_getElem? (i := 0) rfl))
    clear K120
    obtain ⟨fs, hr, hrun, hended, hW, hsame⟩ := X124.leave (v := none) (fun _ => rfl)
    have hrun0 := k129 _ (X124.returnOut hx Bd.returns (hb hby d_prog_12_method_1_code_32) hr)
    subst hE0
    refine ⟨_, _, hrun0, hrun, hended, _, _, rfl, ?_, ⟨_, rfl⟩, hW, hsame.mono (by decide) (by decide)⟩
    show QrmI Z a x (0 : Int32) h0 n0 _ T122.heap _
    rw [e125]
    exact ⟨rfl, N128, K137, (by rw [show own_F (0 : Int32) = 1 by decide]; exact F131), F132, F133, F134, F135⟩
  · skip
    have k138 : own_G p e below E0 s₁ (mkF m 1 #[vr a, vd x, ss, vi ((100 : Int32) * (1 : Int32))] [(.ref a)]) := by
      intro tQ kk
      refine k0 tQ ?_
      refine XS.aloadN X0.here hx rfl (hb hby d_prog_12_method_1_code_0) rfl rfl ?_
      exact kk
    clear k0
    obtain ⟨T139, X140, e141, st142⟩ := initO X0 hx hZ hown (tw6 hw) (tw7 hw) (tw8 hw) e0 (g := (mkF m 1 #[vr a, vd x, ss, vi ((100 : Int32) * (1 : Int32))] [(.ref a)])) rfl (by rw [hml]; rfl) rfl (hb hby d_prog_12_method_1_code_1) (by decide) (W := 0) (by show 2 * 0 + _ ≤ _; exact Nat.le_of_eq rfl) (by decide)
    have k143 : own_G p e below E0 T139 (mkF m 4 #[vr a, vd x, ss, vi ((100 : Int32) * (1 : Int32))] []) := fun tQ kk => k138 tQ (st142 _ kk)
    clear k138 st142
    have k144 : own_G p e below E0 T139 (mkF m 6 #[vr a, vd x, ss, vi ((100 : Int32) * (1 : Int32))] [(.long (1 : Int64)), (.ref a)]) := by
      intro tQ kk
      refine k143 tQ ?_
      refine XS.aloadN X140.here hx rfl (hb hby d_prog_12_method_1_code_4) rfl rfl ?_
      refine XT.lconst X140.here hx rfl (hb hby d_prog_12_method_1_code_5) ?_
      exact kk
    clear k143
    have st145 := X140.ldc2DoubleC hx hown (mvT hZ (tw9 hw)) (g := (mkF m 6 #[vr a, vd x, ss, vi ((100 : Int32) * (1 : Int32))] [(.long (1 : Int64)), (.ref a)])) rfl (hb hby d_prog_12_method_1_code_6)
    have k146 : own_G p e below E0 T139 (mkF m 9 #[vr a, vd x, ss, vi ((100 : Int32) * (1 : Int32))] [(.double (4581421828931458171 : UInt64)), (.long (1 : Int64)), (.ref a)]) := fun tQ kk => k144 tQ (st145 _ kk)
    clear k144 st145
    have k147 : own_G p e below E0 T139 (mkF m 12 #[vr a, vd x, ss, vi ((100 : Int32) * (1 : Int32))] [(.double (4611686018427387904 : UInt64)), (.long (1 : Int64)), (.ref a)]) := by
      intro tQ kk
      refine k146 tQ ?_
      refine XS.iloadN X140.here hx rfl (hb hby d_prog_12_method_1_code_9) rfl ?_
      refine XS.i2dS X140.here hx rfl (hb hby d_prog_12_method_1_code_10) rfl rfl ?_
      refine XS.dmulS (v := (4611686018427387904 : UInt64)) X140.here hx rfl (hb hby d_prog_12_method_1_code_11) rfl (by unfold NoNaN64; decide +kernel) (by decide +kernel) ?_
      exact kk
    clear k146
    obtain ⟨_, _, ⟨T148, L149, kc150, nc151⟩, -, X152, ⟨Lc153, hQ154, l155, y156, z157⟩, st158⟩ := Jvm.LawKit.callS X140 hx (y := mn1) hown (mvT hZ (tw10 hw)) (mvT hZ (tw11 hw)) (mvT hZ (tw12 hw)) (mvT hZ (tw13 hw)) (by decide) (backOf (W := 3) (rmRD100 l Z a0 hw []  h0 n0 Z0 ) hZ (tw13 hw) (tw12 hw) (by decide) (by decide)) (g := (mkF m 12 #[vr a, vd x, ss, vi ((100 : Int32) * (1 : Int32))] [(.double (4611686018427387904 : UInt64)), (.long (1 : Int64)), (.ref a)])) rfl (by rw [hml]; rfl) (argsL := [(.double (4611686018427387904 : UInt64))]) (rest := [(.long (1 : Int64)), (.ref a)]) (lenOf pd_9 rfl) rfl (by show 2 * 0 + _ ≤ _; exact Nat.le_of_eq rfl) (hb hby d_prog_12_method_1_code_12) (fun _ _ => ⟨rfl, e141, (by decide : 0 + 0 ≤ _), (by decide : 0 + 0 ≤ _)⟩)
    dsimp only [Pt.U, Pt.locs, Pt.cells, Pt.slots] at X152 l155 y156 z157 st158 hQ154
    subst y156 z157
    obtain ⟨rfl, N159, e160⟩ := hQ154
    have N162 : Fr n0 L149 := by rw [l155]; exact Fr.app N0 N159
    clear l155 N159
    have k163 : own_G p e below E0 T148 (mkF m 15 #[vr a, vd x, ss, vi ((100 : Int32) * (1 : Int32))] [(.long (2 : Int64)), (.long (1 : Int64)), (.ref a)]) := fun tQ kk => k147 tQ (st158 _ kk)
    clear k147 st158
    obtain ⟨_, _, ⟨T164, L165, kc166, nc167⟩, -, X168, ⟨Lc169, hQ170, l171, y172, z173⟩, st174⟩ := Jvm.LawKit.callS X152 hx (y := mn0) hown (mvT hZ (tw23 hw)) (mvT hZ (tw24 hw)) (mvT hZ (tw12 hw)) (mvT hZ (tw25 hw)) (by decide) (backOf (W := 1) (rmMJ l Z a0 hw [] (1 : Int64) (2 : Int64) h0 n0 Z0 ) hZ (tw25 hw) (tw12 hw) (by decide) (by decide)) (g := (mkF m 15 #[vr a, vd x, ss, vi ((100 : Int32) * (1 : Int32))] [(.long (2 : Int64)), (.long (1 : Int64)), (.ref a)])) rfl (by rw [hml]; rfl) (argsL := [(.long (1 : Int64)), (.long (2 : Int64))]) (rest := [(.ref a)]) (lenOf pd_10 rfl) rfl (by show 2 * 0 + _ ≤ _; exact Nat.le_of_eq rfl) (hb hby d_prog_12_method_1_code_15) (fun _ _ => ⟨rfl, e160, (by decide : 0 + 0 ≤ _), (by decide : 0 + 0 ≤ _)⟩)
    dsimp only [Pt.U, Pt.locs, Pt.cells, Pt.slots] at X168 l171 y172 z173 st174 hQ170
    subst y172 z173
    obtain ⟨rfl, N175, e176⟩ := hQ170
    have N178 : Fr n0 L165 := by rw [l171]; exact Fr.app N162 N175
    clear l171 N175
    have k179 : own_G p e below E0 T164 (mkF m 18 #[vr a, vd x, ss, vi ((100 : Int32) * (1 : Int32))] [(.long (if (1 : Int64) < (2 : Int64) then (2 : Int64) else (1 : Int64))), (.ref a)]) := fun tQ kk => k163 tQ (st174 _ kk)
    clear k163 st174
    have eq180 : (if (1 : Int64) < (2 : Int64) then (2 : Int64) else (1 : Int64)) = (2 : Int64) := by decide
    rw [eq180] at k179
    have k181 : own_G p e below E0 T164 (mkF m 19 #[vr a, vd x, ss, vi ((100 : Int32) * (1 : Int32))] [(.int ((2 : Int64).toInt32)), (.ref a)]) := by
      intro tQ kk
      refine k179 tQ ?_
      refine XT.l2i X168.here hx rfl (hb hby d_prog_12_method_1_code_18) rfl ?_
      exact kk
    clear k179
    have eq182 : ((2 : Int64).toInt32) = (2 : Int32) := by decide
    rw [eq182] at k181
    obtain ⟨T183, h184, X185, e186, W187, st188⟩ := putF X168 hx hZ hown (host := "") (Or.inl (tw26 hw)) Via.refl e176 F_frames E1 (Or.inr ⟨(tw27 hw), rfl, hnm⟩) (tw1 hw) (ty := .int) (by decide) rfl rfl (g := (mkF m 19 #[vr a, vd x, ss, vi ((100 : Int32) * (1 : Int32))] [(.int (2 : Int32)), (.ref a)])) rfl rfl (hb hby d_prog_12_method_1_code_19)
    have N189 := Fr.snoc X185 N178 ge_a
    have k190 : own_G p e below E0 T183 (mkF m 22 #[vr a, vd x, ss, vi ((100 : Int32) * (1 : Int32))] []) := fun tQ kk => k181 tQ (st188 _ kk)
    clear k181 st188
    have F191 : xa7 Z h184 a := E1.wr W187
    clear E1
    have F192 : fd2 Z h184 a (.int (2 : Int32)) := F_frames.same W187
    clear F_frames
    have F193 : fd3 Z h184 a (.double (0 : UInt64)) := F_value.other W187 (Or.inr (slot_ne (C := "com/example/lampwork/lampwork/Glide") (Or.inl (tw29 hw)) (Or.inr (tw27 hw)) (by decide) (t := .double) (t' := .int) (by decide) (by decide)))
    clear F_value
    have F194 : fd4 Z h184 a (.double (0 : UInt64)) := F_target.other W187 (Or.inr (slot_ne (C := "com/example/lampwork/lampwork/Glide") (Or.inl (tw31 hw)) (Or.inr (tw27 hw)) (by decide) (t := .double) (t' := .int) (by decide) (by decide)))
    clear F_target
    have F195 : fd5 Z h184 a (.double (0 : UInt64)) := F_step.other W187 (Or.inr (slot_ne (C := "com/example/lampwork/lampwork/Glide") (Or.inl (tw55 hw)) (Or.inr (tw27 hw)) (by decide) (t := .double) (t' := .int) (by decide) (by decide)))
    clear F_step
    have F196 : fd6 Z h184 a (.int (0 : Int32)) := F_remaining.other W187 (Or.inr (slot_ne (C := "com/example/lampwork/lampwork/Glide") (Or.inl (tw38 hw)) (Or.inr (tw27 hw)) (by decide) (t := .int) (t' := .int) (by decide) (by decide)))
    clear F_remaining
    have Z197 : n0 ≤ h184.size := by rw [W187.size]; exact Z0
    have K198 : Keep h0 h184 [a] := K0.wr W187 (Or.inl (List.mem_of_getElem? (i := 0) rfl))
    have k199 : own_G p e below E0 T183 (mkF m 24 #[vr a, vd x, ss, vi ((100 : Int32) * (1 : Int32))] [(.double x), (.ref a)]) := by
      intro tQ kk
      refine k190 tQ ?_
      refine XS.aloadN X185.here hx rfl (hb hby d_prog_12_method_1_code_22) rfl rfl ?_
      refine XS.dloadN X185.here hx rfl (hb hby d_prog_12_method_1_code_23) rfl ?_
      exact kk
    clear k190
    obtain ⟨T200, h201, X202, e203, W204, st205⟩ := putF X185 hx hZ hown (host := "") (Or.inl (tw28 hw)) Via.refl e186 F193 F191 (Or.inl (tw29 hw)) (tw1 hw) (ty := .double) (by decide) rfl rfl (g := (mkF m 24 #[vr a, vd x, ss, vi ((100 : Int32) * (1 : Int32))] [(.double x), (.ref a)])) rfl rfl (hb hby d_prog_12_method_1_code_24)
    have N206 := Fr.snoc X202 N189 ge_a
    have k207 : own_G p e below E0 T200 (mkF m 27 #[vr a, vd x, ss, vi ((100 : Int32) * (1 : Int32))] []) := fun tQ kk => k199 tQ (st205 _ kk)
    clear k199 st205
    have F208 : xa7 Z h201 a := F191.wr W204
    clear F191
    have F209 : fd2 Z h201 a (.int (2 : Int32)) := F192.other W204 (Or.inr (slot_ne (C := "com/example/lampwork/lampwork/Glide") (Or.inr (tw27 hw)) (Or.inl (tw29 hw)) (by decide) (t := .int) (t' := .double) (by decide) (by decide)))
    clear F192
    have F210 : fd3 Z h201 a (.double x) := F193.same W204
    clear F193
    have F211 : fd4 Z h201 a (.double (0 : UInt64)) := F194.other W204 (Or.inr (slot_ne (C := "com/example/lampwork/lampwork/Glide") (Or.inl (tw31 hw)) (Or.inl (tw29 hw)) (by decide) (t := .double) (t' := .double) (by decide) (by decide)))
    clear F194
    have F212 : fd5 Z h201 a (.double (0 : UInt64)) := F195.other W204 (Or.inr (slot_ne (C := "com/example/lampwork/lampwork/Glide") (Or.inl (tw55 hw)) (Or.inl (tw29 hw)) (by decide) (t := .double) (t' := .double) (by decide) (by decide)))
    clear F195
    have F213 : fd6 Z h201 a (.int (0 : Int32)) := F196.other W204 (Or.inr (slot_ne (C := "com/example/lampwork/lampwork/Glide") (Or.inl (tw38 hw)) (Or.inl (tw29 hw)) (by decide) (t := .int) (t' := .double) (by decide) (by decide)))
    clear F196
    have Z214 : n0 ≤ h201.size := by rw [W204.size]; exact Z197
    clear Z197
    have K215 : Keep h0 h201 [a] := K198.wr W204 (Or.inl (List.mem_of_getElem? (i := 0) rfl))
    clear K198
    have k216 : own_G p e below E0 T200 (mkF m 29 #[vr a, vd x, ss, vi ((100 : Int32) * (1 : Int32))] [(.double x), (.ref a)]) := by
      intro tQ kk
      refine k207 tQ ?_
      refine XS.aloadN X202.here hx rfl (hb hby d_prog_12_method_1_code_27) rfl rfl ?_
      refine XS.dloadN X202.here hx rfl (hb hby d_prog_12_method_1_code_28) rfl ?_
      exact kk
    clear k207
    obtain ⟨T217, h218, X219, e220, W221, st222⟩ := putF X202 hx hZ hown (host := "") (Or.inl (tw30 hw)) Via.refl e203 F211 F208 (Or.inl (tw31 hw)) (tw1 hw) (ty := .double) (by decide) rfl rfl (g := (mkF m 29 #[vr a, vd x, ss, vi ((100 : Int32) * (1 : Int32))] [(.double x), (.ref a)])) rfl rfl (hb hby d_prog_12_method_1_code_29)
    have N223 := Fr.snoc X219 N206 ge_a
    have k224 : own_G p e below E0 T217 (mkF m 32 #[vr a, vd x, ss, vi ((100 : Int32) * (1 : Int32))] []) := fun tQ kk => k216 tQ (st222 _ kk)
    clear k216 st222
    have F225 : xa7 Z h218 a := F208.wr W221
    clear F208
    have F226 : fd2 Z h218 a (.int (2 : Int32)) := F209.other W221 (Or.inr (slot_ne (C := "com/example/lampwork/lampwork/Glide") (Or.inr (tw27 hw)) (Or.inl (tw31 hw)) (by decide) (t := .int) (t' := .double) (by decide) (by decide)))
    clear F209
    have F227 : fd3 Z h218 a (.double x) := F210.other W221 (Or.inr (slot_ne (C := "com/example/lampwork/lampwork/Glide") (Or.inl (tw29 hw)) (Or.inl (tw31 hw)) (by decide) (t := .double) (t' := .double) (by decide) (by decide)))
    clear F210
    have F228 : fd4 Z h218 a (.double x) := F211.same W221
    clear F211
    have F229 : fd5 Z h218 a (.double (0 : UInt64)) := F212.other W221 (Or.inr (slot_ne (C := "com/example/lampwork/lampwork/Glide") (Or.inl (tw55 hw)) (Or.inl (tw31 hw)) (by decide) (t := .double) (t' := .double) (by decide) (by decide)))
    clear F212
    have F230 : fd6 Z h218 a (.int (0 : Int32)) := F213.other W221 (Or.inr (slot_ne (C := "com/example/lampwork/lampwork/Glide") (Or.inl (tw38 hw)) (Or.inl (tw31 hw)) (by decide) (t := .int) (t' := .double) (by decide) (by decide)))
    clear F213
    have Z231 : n0 ≤ h218.size := by rw [W221.size]; exact Z214
    clear Z214
    have K232 : Keep h0 h218 [a] := K215.wr W221 (Or.inl (List.mem_of_getElem? (i := 0) rfl))
    clear K215
    obtain ⟨fs, hr, hrun, hended, hW, hsame⟩ := X219.leave (v := none) (fun _ => rfl)
    have hrun0 := k224 _ (X219.returnOut hx Bd.returns (hb hby d_prog_12_method_1_code_32) hr)
    subst hE0
    refine ⟨_, _, hrun0, hrun, hended, _, _, rfl, ?_, ⟨_, rfl⟩, hW, hsame.mono (by decide) (by decide)⟩
    show QrmI Z a x (1 : Int32) h0 n0 _ T217.heap _
    rw [e220]
    exact ⟨rfl, N223, K232, (by rw [show own_F (1 : Int32) = 2 by decide]; exact F226), F227, F228, F229, F230⟩
def QrmS0 (Z : State) (a : Addr) (x : UInt64) (F : Int32) (vl : UInt64) (tg : UInt64) (sp : UInt64) (rm : Int32) (h0 : Heap) (n0 : Nat) (vQ : Option Value) (hQ : Heap) (LQ : List Loc) : Prop := vQ = none ∧ Fr n0 LQ ∧ Keep h0 hQ [a] ∧ (fd2 Z hQ a (.int F)) ∧ (fd3 Z hQ a (.double x)) ∧ (fd4 Z hQ a (.double x)) ∧ (fd5 Z hQ a (.double sp)) ∧ (fd6 Z hQ a (.int (0 : Int32)))
theorem ef_rmS0 (m : MethodId) (a : Addr) (x : UInt64) (F : Int32) (vl : UInt64) (tg : UInt64) (sp : UInt64) (rm : Int32) : entryFrame m #[(.ref a), (.double x), (.int (0 : Int32))] 4 = mkF m 0 #[vr a, vd x, ss, vi (0 : Int32)] [] := by first | (simp [entryFrame, mkF, argsToLocals, Value.category]; done) | rfl
abbrev mn11 : MethodName := ⟨"com/example/lampwork/lampwork/Glide", "set", "(DZ)V"⟩
theorem d_prog_12_method_2_code_0 : decode prog_12_method_2_code 0 = .ok (.iload_n 3, 1) := by decide +kernel
theorem d_prog_12_method_2_code_1 : decode prog_12_method_2_code 1 = .ok (.ifCond .ne 21, 3) := by decide +kernel
theorem d_prog_12_method_2_code_4 : decode prog_12_method_2_code 4 = .ok (.aload_n 0, 1) := by decide +kernel
theorem d_prog_12_method_2_code_5 : decode prog_12_method_2_code 5 = .ok (.dload_n 1, 1) := by decide +kernel
theorem d_prog_12_method_2_code_6 : decode prog_12_method_2_code 6 = .ok (.putfield 25, 3) := by decide +kernel
theorem d_prog_12_method_2_code_9 : decode prog_12_method_2_code 9 = .ok (.aload_n 0, 1) := by decide +kernel
theorem d_prog_12_method_2_code_10 : decode prog_12_method_2_code 10 = .ok (.dload_n 1, 1) := by decide +kernel
theorem d_prog_12_method_2_code_11 : decode prog_12_method_2_code 11 = .ok (.putfield 29, 3) := by decide +kernel
theorem d_prog_12_method_2_code_14 : decode prog_12_method_2_code 14 = .ok (.aload_n 0, 1) := by decide +kernel
theorem d_prog_12_method_2_code_15 : decode prog_12_method_2_code 15 = .ok (.iconst 0, 1) := by decide +kernel
theorem d_prog_12_method_2_code_16 : decode prog_12_method_2_code 16 = .ok (.putfield 32, 3) := by decide +kernel
def tw37 {Z : State} {a0 : Array Value} (hw : ∀ d ∈ tables_1, d.before a0 Z = true) := hw _ (List.mem_of_getElem? (i := 37) rfl)
theorem d_prog_12_method_2_code_19 : decode prog_12_method_2_code 19 = .ok (.goto 41, 3) := by decide +kernel
theorem d_prog_12_method_2_code_60 : decode prog_12_method_2_code 60 = .ok (.return_, 1) := by decide +kernel
set_option maxRecDepth 65536 in
set_option maxHeartbeats 40000000 in
theorem rmS0 (l : Launch) (Z : State) (a0 : Array Value) (hw : ∀ d ∈ tables_1, d.before a0 Z = true) (ws : List Jvm.Cond) (a : Addr) (x : UInt64) (F : Int32) (vl : UInt64) (tg : UInt64) (sp : UInt64) (rm : Int32) (h0 : Heap) (n0 : Nat) (Z0 : n0 ≤ h0.size) (E1 : xa7 Z h0 a) (F_frames : fd2 Z h0 a (.int F)) (F_value : fd3 Z h0 a (.double vl)) (F_target : fd4 Z h0 a (.double tg)) (F_step : fd5 Z h0 a (.double sp)) (F_remaining : fd6 Z h0 a (.int rm)) (ge_a : n0 ≤ a) :
    MetFree l mn11 (head1 (Jvm.Cond.code mn11 prog_12_method_2_code 4 none :: ws) ({ frames := 0, cells := 0, slots := 0, locals := 0 } : Room)) (fun aA U => aA = #[(.ref a), (.double x), (.int (0 : Int32))] ∧ Z.Warmed39 U.vm ∧ U.heap = h0) (fun _ _ _ _ _ => True) (fun _ U o U' => ∃ vR LR, o = .returned vR ∧ QrmS0 Z a x F vl tg sp rm h0 n0 vR U'.heap LR ∧ FrameEnd U o U' LR ({ frames := 0, cells := 0, slots := 0, locals := 0 } : Room).cells ({ frames := 0, cells := 0, slots := 0, locals := 0 } : Room).slots) := by
  refine MetFree.of_bodySF (plainFor_of_name pn_com_example_lampwork_lampwork_Glide) hisR ?_
  intro p e s m args below meth c s₁ Bd hml0 hPre hKk
  obtain ⟨rfl, hZ, hh⟩ := hPre
  have hx := Bd.exec
  have hby := Bd.bytes
  skip
  have hml : c.maxLocals = 4 := hml0
  have hown : s.vm.findClass "com/example/lampwork/lampwork/Glide" = some m.cls := findClass_of_methodNamed Bd.named
  have hnm := (name_of_methodNamed Bd.named Bd.method).1
  have X0 : Stand p l e ({ frames := 0, cells := 0, slots := 0, locals := 0 } : Room) s m #[(.ref a), (.double x), (.int (0 : Int32))] below meth c s₁ [] 0 0 := Stand.of_body Bd
  have e0 : s₁.heap = h0 := by rw [← hh, Bd.state]; rfl
  have N0 := Fr.nil n0
  obtain ⟨E0, hE0⟩ : ∃ zE : State, zE = s₁.setTop (entryFrame m #[(.ref a), (.double x), (.int (0 : Int32))] 4) := ⟨_, rfl⟩
  have k0 : own_G p e below E0 s₁ (mkF m 0 #[vr a, vd x, ss, vi (0 : Int32)] []) := fun tz kz => hE0 ▸ castTop (ef_rmS0 m a x F vl tg sp rm) kz
  have K0 : Keep h0 h0 [a] := Keep.refl _ _
  have k233 : own_G p e below E0 s₁ (mkF m 6 #[vr a, vd x, ss, vi (0 : Int32)] [(.double x), (.ref a)]) := by
    intro tQ kk
    refine k0 tQ ?_
    refine XS.iloadN X0.here hx rfl (hb hby d_prog_12_method_2_code_0) rfl ?_
    refine XS.ifNo X0.here hx rfl (hb hby d_prog_12_method_2_code_1) rfl (own_if_neN (by decide)) ?_
    refine XS.aloadN X0.here hx rfl (hb hby d_prog_12_method_2_code_4) rfl rfl ?_
    refine XS.dloadN X0.here hx rfl (hb hby d_prog_12_method_2_code_5) rfl ?_
    exact kk
  clear k0
  obtain ⟨T234, h235, X236, e237, W238, st239⟩ := putF X0 hx hZ hown (host := "") (Or.inl (tw28 hw)) Via.refl e0 F_value E1 (Or.inl (tw29 hw)) (tw1 hw) (ty := .double) (by decide) rfl rfl (g := (mkF m 6 #[vr a, vd x, ss, vi (0 : Int32)] [(.double x), (.ref a)])) rfl rfl (hb hby d_prog_12_method_2_code_6)
  have N240 := Fr.snoc X236 N0 ge_a
  have k241 : own_G p e below E0 T234 (mkF m 9 #[vr a, vd x, ss, vi (0 : Int32)] []) := fun tQ kk => k233 tQ (st239 _ kk)
  clear k233 st239
  have F242 : xa7 Z h235 a := E1.wr W238
  clear E1
  have F243 : fd2 Z h235 a (.int F) := F_frames.other W238 (Or.inr (slot_ne (C := "com/example/lampwork/lampwork/Glide") (Or.inr (tw27 hw)) (Or.inl (tw29 hw)) (by decide) (t := .int) (t' := .double) (by decide) (by decide)))
  clear F_frames
  have F244 : fd3 Z h235 a (.double x) := F_value.same W238
  clear F_value
  have F245 : fd4 Z h235 a (.double tg) := F_target.other W238 (Or.inr (slot_ne (C := "com/example/lampwork/lampwork/Glide") (Or.inl (tw31 hw)) (Or.inl (tw29 hw)) (by decide) (t := .double) (t' := .double) (by decide) (by decide)))
  clear F_target
  have F246 : fd5 Z h235 a (.double sp) := F_step.other W238 (Or.inr (slot_ne (C := "com/example/lampwork/lampwork/Glide") (Or.inl (tw55 hw)) (Or.inl (tw29 hw)) (by decide) (t := .double) (t' := .double) (by decide) (by decide)))
  clear F_step
  have F247 : fd6 Z h235 a (.int rm) := F_remaining.other W238 (Or.inr (slot_ne (C := "com/example/lampwork/lampwork/Glide") (Or.inl (tw38 hw)) (Or.inl (tw29 hw)) (by decide) (t := .int) (t' := .double) (by decide) (by decide)))
  clear F_remaining
  have Z248 : n0 ≤ h235.size := by rw [W238.size]; exact Z0
  have K249 : Keep h0 h235 [a] := K0.wr W238 (Or.inl (List.mem_of_getElem? (i := 0) rfl))
  have k250 : own_G p e below E0 T234 (mkF m 11 #[vr a, vd x, ss, vi (0 : Int32)] [(.double x), (.ref a)]) := by
    intro tQ kk
    refine k241 tQ ?_
    refine XS.aloadN X236.here hx rfl (hb hby d_prog_12_method_2_code_9) rfl rfl ?_
    refine XS.dloadN X236.here hx rfl (hb hby d_prog_12_method_2_code_10) rfl ?_
    exact kk
  clear k241
  obtain ⟨T251, h252, X253, e254, W255, st256⟩ := putF X236 hx hZ hown (host := "") (Or.inl (tw30 hw)) Via.refl e237 F245 F242 (Or.inl (tw31 hw)) (tw1 hw) (ty := .double) (by decide) rfl rfl (g := (mkF m 11 #[vr a, vd x, ss, vi (0 : Int32)] [(.double x), (.ref a)])) rfl rfl (hb hby d_prog_12_method_2_code_11)
  have N257 := Fr.snoc X253 N240 ge_a
  have k258 : own_G p e below E0 T251 (mkF m 14 #[vr a, vd x, ss, vi (0 : Int32)] []) := fun tQ kk => k250 tQ (st256 _ kk)
  clear k250 st256
  have F259 : xa7 Z h252 a := F242.wr W255
  clear F242
  have F260 : fd2 Z h252 a (.int F) := F243.other W255 (Or.inr (slot_ne (C := "com/example/lampwork/lampwork/Glide") (Or.inr (tw27 hw)) (Or.inl (tw31 hw)) (by decide) (t := .int) (t' := .double) (by decide) (by decide)))
  clear F243
  have F261 : fd3 Z h252 a (.double x) := F244.other W255 (Or.inr (slot_ne (C := "com/example/lampwork/lampwork/Glide") (Or.inl (tw29 hw)) (Or.inl (tw31 hw)) (by decide) (t := .double) (t' := .double) (by decide) (by decide)))
  clear F244
  have F262 : fd4 Z h252 a (.double x) := F245.same W255
  clear F245
  have F263 : fd5 Z h252 a (.double sp) := F246.other W255 (Or.inr (slot_ne (C := "com/example/lampwork/lampwork/Glide") (Or.inl (tw55 hw)) (Or.inl (tw31 hw)) (by decide) (t := .double) (t' := .double) (by decide) (by decide)))
  clear F246
  have F264 : fd6 Z h252 a (.int rm) := F247.other W255 (Or.inr (slot_ne (C := "com/example/lampwork/lampwork/Glide") (Or.inl (tw38 hw)) (Or.inl (tw31 hw)) (by decide) (t := .int) (t' := .double) (by decide) (by decide)))
  clear F247
  have Z265 : n0 ≤ h252.size := by rw [W255.size]; exact Z248
  clear Z248
  have K266 : Keep h0 h252 [a] := K249.wr W255 (Or.inl (List.mem_of_getElem? (i := 0) rfl))
  clear K249
  have k267 : own_G p e below E0 T251 (mkF m 16 #[vr a, vd x, ss, vi (0 : Int32)] [(.int (0 : Int32)), (.ref a)]) := by
    intro tQ kk
    refine k258 tQ ?_
    refine XS.aloadN X253.here hx rfl (hb hby d_prog_12_method_2_code_14) rfl rfl ?_
    refine XS.iconst X253.here hx rfl (hb hby d_prog_12_method_2_code_15) ?_
    exact kk
  clear k258
  obtain ⟨T268, h269, X270, e271, W272, st273⟩ := putF X253 hx hZ hown (host := "") (Or.inl (tw37 hw)) Via.refl e254 F264 F259 (Or.inl (tw38 hw)) (tw1 hw) (ty := .int) (by decide) rfl rfl (g := (mkF m 16 #[vr a, vd x, ss, vi (0 : Int32)] [(.int (0 : Int32)), (.ref a)])) rfl rfl (hb hby d_prog_12_method_2_code_16)
  have N274 := Fr.snoc X270 N257 ge_a
  have k275 : own_G p e below E0 T268 (mkF m 19 #[vr a, vd x, ss, vi (0 : Int32)] []) := fun tQ kk => k267 tQ (st273 _ kk)
  clear k267 st273
  have F276 : xa7 Z h269 a := F259.wr W272
  clear F259
  have F277 : fd2 Z h269 a (.int F) := F260.other W272 (Or.inr (slot_ne (C := "com/example/lampwork/lampwork/Glide") (Or.inr (tw27 hw)) (Or.inl (tw38 hw)) (by decide) (t := .int) (t' := .int) (by decide) (by decide)))
  clear F260
  have F278 : fd3 Z h269 a (.double x) := F261.other W272 (Or.inr (slot_ne (C := "com/example/lampwork/lampwork/Glide") (Or.inl (tw29 hw)) (Or.inl (tw38 hw)) (by decide) (t := .double) (t' := .int) (by decide) (by decide)))
  clear F261
  have F279 : fd4 Z h269 a (.double x) := F262.other W272 (Or.inr (slot_ne (C := "com/example/lampwork/lampwork/Glide") (Or.inl (tw31 hw)) (Or.inl (tw38 hw)) (by decide) (t := .double) (t' := .int) (by decide) (by decide)))
  clear F262
  have F280 : fd5 Z h269 a (.double sp) := F263.other W272 (Or.inr (slot_ne (C := "com/example/lampwork/lampwork/Glide") (Or.inl (tw55 hw)) (Or.inl (tw38 hw)) (by decide) (t := .double) (t' := .int) (by decide) (by decide)))
  clear F263
  have F281 : fd6 Z h269 a (.int (0 : Int32)) := F264.same W272
  clear F264
  have Z282 : n0 ≤ h269.size := by rw [W272.size]; exact Z265
  clear Z265
  have K283 : Keep h0 h269 [a] := K266.wr W272 (Or.inl (List.mem_of_getElem? (i := 0) rfl))
  clear K266
  have k284 : own_G p e below E0 T268 (mkF m 60 #[vr a, vd x, ss, vi (0 : Int32)] []) := by
    intro tQ kk
    refine k275 tQ ?_
    refine XS.goto X270.here hx rfl (pc0 := 19) (pc' := 60) rfl (hb hby d_prog_12_method_2_code_19) (by decide) (by decide) ?_
    exact kk
  clear k275
  obtain ⟨fs, hr, hrun, hended, hW, hsame⟩ := X270.leave (v := none) (fun _ => rfl)
  have hrun0 := k284 _ (X270.returnOut hx Bd.returns (hb hby d_prog_12_method_2_code_60) hr)
  subst hE0
  refine ⟨_, _, hrun0, hrun, hended, _, _, rfl, ?_, ⟨_, rfl⟩, hW, hsame.mono (by decide) (by decide)⟩
  show QrmS0 Z a x F vl tg sp rm h0 n0 _ T268.heap _
  rw [e271]
  exact ⟨rfl, N274, K283, F277, F278, F279, F280, F281⟩
def QrmS1 (Z : State) (a : Addr) (x : UInt64) (F : Int32) (vl : UInt64) (tg : UInt64) (sp : UInt64) (rm : Int32) (h0 : Heap) (n0 : Nat) (vQ : Option Value) (hQ : Heap) (LQ : List Loc) : Prop := vQ = none ∧ Fr n0 LQ ∧ Keep h0 hQ [a] ∧ (fd2 Z hQ a (.int F)) ∧ (fd3 Z hQ a (.double vl)) ∧ (fd4 Z hQ a (.double (own_tg x tg))) ∧ (fd5 Z hQ a (.double (own_sp x vl tg sp F))) ∧ (fd6 Z hQ a (.int (own_rm x tg rm F)))
theorem ef_rmS1 (m : MethodId) (a : Addr) (x : UInt64) (F : Int32) (vl : UInt64) (tg : UInt64) (sp : UInt64) (rm : Int32) : entryFrame m #[(.ref a), (.double x), (.int (1 : Int32))] 4 = mkF m 0 #[vr a, vd x, ss, vi (1 : Int32)] [] := by first | (simp [entryFrame, mkF, argsToLocals, Value.category]; done) | rfl
theorem d_prog_12_method_2_code_22 : decode prog_12_method_2_code 22 = .ok (.dload_n 1, 1) := by decide +kernel
theorem d_prog_12_method_2_code_23 : decode prog_12_method_2_code 23 = .ok (.aload_n 0, 1) := by decide +kernel
theorem d_prog_12_method_2_code_24 : decode prog_12_method_2_code 24 = .ok (.getfield 29, 3) := by decide +kernel
theorem d_prog_12_method_2_code_27 : decode prog_12_method_2_code 27 = .ok (.dcmp .l, 1) := by decide +kernel
theorem d_prog_12_method_2_code_28 : decode prog_12_method_2_code 28 = .ok (.ifCond .eq 32, 3) := by decide +kernel
theorem d_prog_12_method_2_code_31 : decode prog_12_method_2_code 31 = .ok (.aload_n 0, 1) := by decide +kernel
theorem d_prog_12_method_2_code_32 : decode prog_12_method_2_code 32 = .ok (.dload_n 1, 1) := by decide +kernel
theorem d_prog_12_method_2_code_33 : decode prog_12_method_2_code 33 = .ok (.putfield 29, 3) := by decide +kernel
theorem d_prog_12_method_2_code_36 : decode prog_12_method_2_code 36 = .ok (.aload_n 0, 1) := by decide +kernel
theorem d_prog_12_method_2_code_37 : decode prog_12_method_2_code 37 = .ok (.dload_n 1, 1) := by decide +kernel
theorem d_prog_12_method_2_code_38 : decode prog_12_method_2_code 38 = .ok (.aload_n 0, 1) := by decide +kernel
theorem d_prog_12_method_2_code_39 : decode prog_12_method_2_code 39 = .ok (.getfield 25, 3) := by decide +kernel
theorem d_prog_12_method_2_code_42 : decode prog_12_method_2_code 42 = .ok (.dsub, 1) := by decide +kernel
theorem d_prog_12_method_2_code_43 : decode prog_12_method_2_code 43 = .ok (.aload_n 0, 1) := by decide +kernel
theorem d_prog_12_method_2_code_44 : decode prog_12_method_2_code 44 = .ok (.getfield 21, 3) := by decide +kernel
theorem d_prog_12_method_2_code_47 : decode prog_12_method_2_code 47 = .ok (.i2d, 1) := by decide +kernel
theorem d_prog_12_method_2_code_48 : decode prog_12_method_2_code 48 = .ok (.ddiv, 1) := by decide +kernel
theorem d_prog_12_method_2_code_49 : decode prog_12_method_2_code 49 = .ok (.putfield 35, 3) := by decide +kernel
def tw54 {Z : State} {a0 : Array Value} (hw : ∀ d ∈ tables_1, d.before a0 Z = true) := hw _ (List.mem_of_getElem? (i := 54) rfl)
theorem d_prog_12_method_2_code_52 : decode prog_12_method_2_code 52 = .ok (.aload_n 0, 1) := by decide +kernel
theorem d_prog_12_method_2_code_53 : decode prog_12_method_2_code 53 = .ok (.aload_n 0, 1) := by decide +kernel
theorem d_prog_12_method_2_code_54 : decode prog_12_method_2_code 54 = .ok (.getfield 21, 3) := by decide +kernel
theorem d_prog_12_method_2_code_57 : decode prog_12_method_2_code 57 = .ok (.putfield 32, 3) := by decide +kernel
set_option maxRecDepth 65536 in
set_option maxHeartbeats 40000000 in
theorem rmS1 (l : Launch) (Z : State) (a0 : Array Value) (hw : ∀ d ∈ tables_1, d.before a0 Z = true) (ws : List Jvm.Cond) (a : Addr) (x : UInt64) (F : Int32) (vl : UInt64) (tg : UInt64) (sp : UInt64) (rm : Int32) (h0 : Heap) (n0 : Nat) (Z0 : n0 ≤ h0.size) (E1 : xa7 Z h0 a) (F_frames : fd2 Z h0 a (.int F)) (F_value : fd3 Z h0 a (.double vl)) (F_target : fd4 Z h0 a (.double tg)) (F_step : fd5 Z h0 a (.double sp)) (F_remaining : fd6 Z h0 a (.int rm)) (ge_a : n0 ≤ a) (nx : NoNaN64 x) (ntg : NoNaN64 tg) (hnn : ¬ own_z x = own_z tg → NoNaN64 (FP.dsub x vl) ∧ NoNaN64 (FP.ddiv (FP.dsub x vl) (FP.i2d F))) :
    MetFree l mn11 (head1 (Jvm.Cond.code mn11 prog_12_method_2_code 4 none :: ws) ({ frames := 0, cells := 0, slots := 0, locals := 0 } : Room)) (fun aA U => aA = #[(.ref a), (.double x), (.int (1 : Int32))] ∧ Z.Warmed39 U.vm ∧ U.heap = h0) (fun _ _ _ _ _ => True) (fun _ U o U' => ∃ vR LR, o = .returned vR ∧ QrmS1 Z a x F vl tg sp rm h0 n0 vR U'.heap LR ∧ FrameEnd U o U' LR ({ frames := 0, cells := 0, slots := 0, locals := 0 } : Room).cells ({ frames := 0, cells := 0, slots := 0, locals := 0 } : Room).slots) := by
  refine MetFree.of_bodySF (plainFor_of_name pn_com_example_lampwork_lampwork_Glide) hisR ?_
  intro p e s m args below meth c s₁ Bd hml0 hPre hKk
  obtain ⟨rfl, hZ, hh⟩ := hPre
  have hx := Bd.exec
  have hby := Bd.bytes
  skip
  have hml : c.maxLocals = 4 := hml0
  have hown : s.vm.findClass "com/example/lampwork/lampwork/Glide" = some m.cls := findClass_of_methodNamed Bd.named
  have hnm := (name_of_methodNamed Bd.named Bd.method).1
  have X0 : Stand p l e ({ frames := 0, cells := 0, slots := 0, locals := 0 } : Room) s m #[(.ref a), (.double x), (.int (1 : Int32))] below meth c s₁ [] 0 0 := Stand.of_body Bd
  have e0 : s₁.heap = h0 := by rw [← hh, Bd.state]; rfl
  have N0 := Fr.nil n0
  obtain ⟨E0, hE0⟩ : ∃ zE : State, zE = s₁.setTop (entryFrame m #[(.ref a), (.double x), (.int (1 : Int32))] 4) := ⟨_, rfl⟩
  have k0 : own_G p e below E0 s₁ (mkF m 0 #[vr a, vd x, ss, vi (1 : Int32)] []) := fun tz kz => hE0 ▸ castTop (ef_rmS1 m a x F vl tg sp rm) kz
  have K0 : Keep h0 h0 [a] := Keep.refl _ _
  have k285 : own_G p e below E0 s₁ (mkF m 24 #[vr a, vd x, ss, vi (1 : Int32)] [(.ref a), (.double x)]) := by
    intro tQ kk
    refine k0 tQ ?_
    refine XS.iloadN X0.here hx rfl (hb hby d_prog_12_method_2_code_0) rfl ?_
    refine XS.ifYes X0.here hx rfl (pc0 := 1) (pc' := 22) rfl (hb hby d_prog_12_method_2_code_1) rfl (own_if_neY (by decide)) (by decide) (by decide) ?_
    refine XS.dloadN X0.here hx rfl (hb hby d_prog_12_method_2_code_22) rfl ?_
    refine XS.aloadN X0.here hx rfl (hb hby d_prog_12_method_2_code_23) rfl rfl ?_
    exact kk
  clear k0
  obtain ⟨T286, X287, e288, st289⟩ := getF X0 hx hZ hown (host := "") (Or.inl (tw30 hw)) Via.refl e0 F_target (g := (mkF m 24 #[vr a, vd x, ss, vi (1 : Int32)] [(.ref a), (.double x)])) rfl rfl (hb hby d_prog_12_method_2_code_24)
  have k290 : own_G p e below E0 T286 (mkF m 27 #[vr a, vd x, ss, vi (1 : Int32)] [(.double tg), (.double x)]) := fun tQ kk => k285 tQ (st289 _ kk)
  clear k285 st289
  have k291 : own_G p e below E0 T286 (mkF m 28 #[vr a, vd x, ss, vi (1 : Int32)] [(.int (own_c (own_z x) (own_z tg)))]) := by
    intro tQ kk
    refine k290 tQ ?_
    refine XS.dcmpS (v := (own_c (own_z x) (own_z tg))) X287.here hx rfl (hb hby d_prog_12_method_2_code_27) rfl (own_cE .l (own_cmpz nx ntg)) ?_
    exact kk
  clear k290
  by_cases cE : (own_z x) = (own_z tg)
  · skip
    have k293 : own_G p e below E0 T286 (mkF m 60 #[vr a, vd x, ss, vi (1 : Int32)] []) := by
      intro tQ kk
      refine k291 tQ ?_
      refine XS.ifYes X287.here hx rfl (pc0 := 28) (pc' := 60) rfl (hb hby d_prog_12_method_2_code_28) rfl (own_c_eqY cE) (by decide) (by decide) ?_
      exact kk
    clear k291
    obtain ⟨fs, hr, hrun, hended, hW, hsame⟩ := X287.leave (v := none) (fun _ => rfl)
    have hrun0 := k293 _ (X287.returnOut hx Bd.returns (hb hby d_prog_12_method_2_code_60) hr)
    subst hE0
    refine ⟨_, _, hrun0, hrun, hended, _, _, rfl, ?_, ⟨_, rfl⟩, hW, hsame.mono (by decide) (by decide)⟩
    show QrmS1 Z a x F vl tg sp rm h0 n0 _ T286.heap _
    rw [e288]
    exact ⟨rfl, N0, K0, F_frames, F_value, (by rw [own_tg, if_pos cE]; exact F_target), (by rw [own_sp, if_pos cE]; exact F_step), (by rw [own_rm, if_pos cE]; exact F_remaining)⟩
  · skip
    have k294 : own_G p e below E0 T286 (mkF m 33 #[vr a, vd x, ss, vi (1 : Int32)] [(.double x), (.ref a)]) := by
      intro tQ kk
      refine k291 tQ ?_
      refine XS.ifNo X287.here hx rfl (hb hby d_prog_12_method_2_code_28) rfl (own_c_eqN cE) ?_
      refine XS.aloadN X287.here hx rfl (hb hby d_prog_12_method_2_code_31) rfl rfl ?_
      refine XS.dloadN X287.here hx rfl (hb hby d_prog_12_method_2_code_32) rfl ?_
      exact kk
    clear k291
    obtain ⟨T295, h296, X297, e298, W299, st300⟩ := putF X287 hx hZ hown (host := "") (Or.inl (tw30 hw)) Via.refl e288 F_target E1 (Or.inl (tw31 hw)) (tw1 hw) (ty := .double) (by decide) rfl rfl (g := (mkF m 33 #[vr a, vd x, ss, vi (1 : Int32)] [(.double x), (.ref a)])) rfl rfl (hb hby d_prog_12_method_2_code_33)
    have N301 := Fr.snoc X297 N0 ge_a
    have k302 : own_G p e below E0 T295 (mkF m 36 #[vr a, vd x, ss, vi (1 : Int32)] []) := fun tQ kk => k294 tQ (st300 _ kk)
    clear k294 st300
    have F303 : xa7 Z h296 a := E1.wr W299
    clear E1
    have F304 : fd2 Z h296 a (.int F) := F_frames.other W299 (Or.inr (slot_ne (C := "com/example/lampwork/lampwork/Glide") (Or.inr (tw27 hw)) (Or.inl (tw31 hw)) (by decide) (t := .int) (t' := .double) (by decide) (by decide)))
    clear F_frames
    have F305 : fd3 Z h296 a (.double vl) := F_value.other W299 (Or.inr (slot_ne (C := "com/example/lampwork/lampwork/Glide") (Or.inl (tw29 hw)) (Or.inl (tw31 hw)) (by decide) (t := .double) (t' := .double) (by decide) (by decide)))
    clear F_value
    have F306 : fd4 Z h296 a (.double x) := F_target.same W299
    clear F_target
    have F307 : fd5 Z h296 a (.double sp) := F_step.other W299 (Or.inr (slot_ne (C := "com/example/lampwork/lampwork/Glide") (Or.inl (tw55 hw)) (Or.inl (tw31 hw)) (by decide) (t := .double) (t' := .double) (by decide) (by decide)))
    clear F_step
    have F308 : fd6 Z h296 a (.int rm) := F_remaining.other W299 (Or.inr (slot_ne (C := "com/example/lampwork/lampwork/Glide") (Or.inl (tw38 hw)) (Or.inl (tw31 hw)) (by decide) (t := .int) (t' := .double) (by decide) (by decide)))
    clear F_remaining
    have Z309 : n0 ≤ h296.size := by rw [W299.size]; exact Z0
    have K310 : Keep h0 h296 [a] := K0.wr W299 (Or.inl (List.mem_of_getElem? (i := 0) rfl))
    have k311 : own_G p e below E0 T295 (mkF m 39 #[vr a, vd x, ss, vi (1 : Int32)] [(.ref a), (.double x), (.ref a)]) := by
      intro tQ kk
      refine k302 tQ ?_
      refine XS.aloadN X297.here hx rfl (hb hby d_prog_12_method_2_code_36) rfl rfl ?_
      refine XS.dloadN X297.here hx rfl (hb hby d_prog_12_method_2_code_37) rfl ?_
      refine XS.aloadN X297.here hx rfl (hb hby d_prog_12_method_2_code_38) rfl rfl ?_
      exact kk
    clear k302
    obtain ⟨T312, X313, e314, st315⟩ := getF X297 hx hZ hown (host := "") (Or.inl (tw28 hw)) Via.refl e298 F305 (g := (mkF m 39 #[vr a, vd x, ss, vi (1 : Int32)] [(.ref a), (.double x), (.ref a)])) rfl rfl (hb hby d_prog_12_method_2_code_39)
    have k316 : own_G p e below E0 T312 (mkF m 42 #[vr a, vd x, ss, vi (1 : Int32)] [(.double vl), (.double x), (.ref a)]) := fun tQ kk => k311 tQ (st315 _ kk)
    clear k311 st315
    have k317 : own_G p e below E0 T312 (mkF m 44 #[vr a, vd x, ss, vi (1 : Int32)] [(.ref a), (.double (FP.dsub x vl)), (.ref a)]) := by
      intro tQ kk
      refine k316 tQ ?_
      refine XS.dsubS X313.here hx rfl (hb hby d_prog_12_method_2_code_42) rfl (hnn cE).1 rfl ?_
      refine XS.aloadN X313.here hx rfl (hb hby d_prog_12_method_2_code_43) rfl rfl ?_
      exact kk
    clear k316
    obtain ⟨T318, X319, e320, st321⟩ := getF X313 hx hZ hown (host := "") (Or.inl (tw26 hw)) Via.refl e314 F304 (g := (mkF m 44 #[vr a, vd x, ss, vi (1 : Int32)] [(.ref a), (.double (FP.dsub x vl)), (.ref a)])) rfl rfl (hb hby d_prog_12_method_2_code_44)
    have k322 : own_G p e below E0 T318 (mkF m 47 #[vr a, vd x, ss, vi (1 : Int32)] [(.int F), (.double (FP.dsub x vl)), (.ref a)]) := fun tQ kk => k317 tQ (st321 _ kk)
    clear k317 st321
    have k323 : own_G p e below E0 T318 (mkF m 49 #[vr a, vd x, ss, vi (1 : Int32)] [(.double (FP.ddiv (FP.dsub x vl) (FP.i2d F))), (.ref a)]) := by
      intro tQ kk
      refine k322 tQ ?_
      refine XS.i2dS X319.here hx rfl (hb hby d_prog_12_method_2_code_47) rfl rfl ?_
      refine XS.ddivS X319.here hx rfl (hb hby d_prog_12_method_2_code_48) rfl (hnn cE).2 rfl ?_
      exact kk
    clear k322
    obtain ⟨T324, h325, X326, e327, W328, st329⟩ := putF X319 hx hZ hown (host := "") (Or.inl (tw54 hw)) Via.refl e320 F307 F303 (Or.inl (tw55 hw)) (tw1 hw) (ty := .double) (by decide) rfl rfl (g := (mkF m 49 #[vr a, vd x, ss, vi (1 : Int32)] [(.double (FP.ddiv (FP.dsub x vl) (FP.i2d F))), (.ref a)])) rfl rfl (hb hby d_prog_12_method_2_code_49)
    have N330 := Fr.snoc X326 N301 ge_a
    have k331 : own_G p e below E0 T324 (mkF m 52 #[vr a, vd x, ss, vi (1 : Int32)] []) := fun tQ kk => k323 tQ (st329 _ kk)
    clear k323 st329
    have F332 : xa7 Z h325 a := F303.wr W328
    clear F303
    have F333 : fd2 Z h325 a (.int F) := F304.other W328 (Or.inr (slot_ne (C := "com/example/lampwork/lampwork/Glide") (Or.inr (tw27 hw)) (Or.inl (tw55 hw)) (by decide) (t := .int) (t' := .double) (by decide) (by decide)))
    clear F304
    have F334 : fd3 Z h325 a (.double vl) := F305.other W328 (Or.inr (slot_ne (C := "com/example/lampwork/lampwork/Glide") (Or.inl (tw29 hw)) (Or.inl (tw55 hw)) (by decide) (t := .double) (t' := .double) (by decide) (by decide)))
    clear F305
    have F335 : fd4 Z h325 a (.double x) := F306.other W328 (Or.inr (slot_ne (C := "com/example/lampwork/lampwork/Glide") (Or.inl (tw31 hw)) (Or.inl (tw55 hw)) (by decide) (t := .double) (t' := .double) (by decide) (by decide)))
    clear F306
    have F336 : fd5 Z h325 a (.double (FP.ddiv (FP.dsub x vl) (FP.i2d F))) := F307.same W328
    clear F307
    have F337 : fd6 Z h325 a (.int rm) := F308.other W328 (Or.inr (slot_ne (C := "com/example/lampwork/lampwork/Glide") (Or.inl (tw38 hw)) (Or.inl (tw55 hw)) (by decide) (t := .int) (t' := .double) (by decide) (by decide)))
    clear F308
    have Z338 : n0 ≤ h325.size := by rw [W328.size]; exact Z309
    clear Z309
    have K339 : Keep h0 h325 [a] := K310.wr W328 (Or.inl (List.mem_of_getElem? (i := 0) rfl))
    clear K310
    have k340 : own_G p e below E0 T324 (mkF m 54 #[vr a, vd x, ss, vi (1 : Int32)] [(.ref a), (.ref a)]) := by
      intro tQ kk
      refine k331 tQ ?_
      refine XS.aloadN X326.here hx rfl (hb hby d_prog_12_method_2_code_52) rfl rfl ?_
      refine XS.aloadN X326.here hx rfl (hb hby d_prog_12_method_2_code_53) rfl rfl ?_
      exact kk
    clear k331
    obtain ⟨T341, X342, e343, st344⟩ := getF X326 hx hZ hown (host := "") (Or.inl (tw26 hw)) Via.refl e327 F333 (g := (mkF m 54 #[vr a, vd x, ss, vi (1 : Int32)] [(.ref a), (.ref a)])) rfl rfl (hb hby d_prog_12_method_2_code_54)
    have k345 : own_G p e below E0 T341 (mkF m 57 #[vr a, vd x, ss, vi (1 : Int32)] [(.int F), (.ref a)]) := fun tQ kk => k340 tQ (st344 _ kk)
    clear k340 st344
    obtain ⟨T346, h347, X348, e349, W350, st351⟩ := putF X342 hx hZ hown (host := "") (Or.inl (tw37 hw)) Via.refl e343 F337 F332 (Or.inl (tw38 hw)) (tw1 hw) (ty := .int) (by decide) rfl rfl (g := (mkF m 57 #[vr a, vd x, ss, vi (1 : Int32)] [(.int F), (.ref a)])) rfl rfl (hb hby d_prog_12_method_2_code_57)
    have N352 := Fr.snoc X348 N330 ge_a
    have k353 : own_G p e below E0 T346 (mkF m 60 #[vr a, vd x, ss, vi (1 : Int32)] []) := fun tQ kk => k345 tQ (st351 _ kk)
    clear k345 st351
    have F354 : xa7 Z h347 a := F332.wr W350
    clear F332
    have F355 : fd2 Z h347 a (.int F) := F333.other W350 (Or.inr (slot_ne (C := "com/example/lampwork/lampwork/Glide") (Or.inr (tw27 hw)) (Or.inl (tw38 hw)) (by decide) (t := .int) (t' := .int) (by decide) (by decide)))
    clear F333
    have F356 : fd3 Z h347 a (.double vl) := F334.other W350 (Or.inr (slot_ne (C := "com/example/lampwork/lampwork/Glide") (Or.inl (tw29 hw)) (Or.inl (tw38 hw)) (by decide) (t := .double) (t' := .int) (by decide) (by decide)))
    clear F334
    have F357 : fd4 Z h347 a (.double x) := F335.other W350 (Or.inr (slot_ne (C := "com/example/lampwork/lampwork/Glide") (Or.inl (tw31 hw)) (Or.inl (tw38 hw)) (by decide) (t := .double) (t' := .int) (by decide) (by decide)))
    clear F335
    have F358 : fd5 Z h347 a (.double (FP.ddiv (FP.dsub x vl) (FP.i2d F))) := F336.other W350 (Or.inr (slot_ne (C := "com/example/lampwork/lampwork/Glide") (Or.inl (tw55 hw)) (Or.inl (tw38 hw)) (by decide) (t := .double) (t' := .int) (by decide) (by decide)))
    clear F336
    have F359 : fd6 Z h347 a (.int F) := F337.same W350
    clear F337
    have Z360 : n0 ≤ h347.size := by rw [W350.size]; exact Z338
    clear Z338
    have K361 : Keep h0 h347 [a] := K339.wr W350 (Or.inl (List.mem_of_getElem? (i := 0) rfl))
    clear K339
    obtain ⟨fs, hr, hrun, hended, hW, hsame⟩ := X348.leave (v := none) (fun _ => rfl)
    have hrun0 := k353 _ (X348.returnOut hx Bd.returns (hb hby d_prog_12_method_2_code_60) hr)
    subst hE0
    refine ⟨_, _, hrun0, hrun, hended, _, _, rfl, ?_, ⟨_, rfl⟩, hW, hsame.mono (by decide) (by decide)⟩
    show QrmS1 Z a x F vl tg sp rm h0 n0 _ T346.heap _
    rw [e349]
    exact ⟨rfl, N352, K361, F355, F356, (by rw [own_tg, if_neg cE]; exact F357), (by rw [own_sp, if_neg cE]; exact F358), (by rw [own_rm, if_neg cE]; exact F359)⟩
def QrmN (Z : State) (a : Addr) (F : Int32) (vl : UInt64) (tg : UInt64) (sp : UInt64) (rm : Int32) (h0 : Heap) (n0 : Nat) (vQ : Option Value) (hQ : Heap) (LQ : List Loc) : Prop := vQ = some (.double (own_nv vl tg sp rm)) ∧ Fr n0 LQ ∧ Keep h0 hQ [a] ∧ (fd2 Z hQ a (.int F)) ∧ (fd3 Z hQ a (.double (own_nv vl tg sp rm))) ∧ (fd4 Z hQ a (.double tg)) ∧ (fd5 Z hQ a (.double sp)) ∧ (fd6 Z hQ a (.int (own_nr rm)))
theorem ef_rmN (m : MethodId) (a : Addr) (F : Int32) (vl : UInt64) (tg : UInt64) (sp : UInt64) (rm : Int32) : entryFrame m #[(.ref a)] 1 = mkF m 0 #[vr a] [] := by first | (simp [entryFrame, mkF, argsToLocals, Value.category]; done) | rfl
abbrev mn12 : MethodName := ⟨"com/example/lampwork/lampwork/Glide", "next", "()D"⟩
theorem d_prog_12_method_5_code_0 : decode prog_12_method_5_code 0 = .ok (.aload_n 0, 1) := by decide +kernel
theorem d_prog_12_method_5_code_1 : decode prog_12_method_5_code 1 = .ok (.getfield 32, 3) := by decide +kernel
theorem d_prog_12_method_5_code_4 : decode prog_12_method_5_code 4 = .ok (.ifCond .le 32, 3) := by decide +kernel
theorem d_prog_12_method_5_code_7 : decode prog_12_method_5_code 7 = .ok (.aload_n 0, 1) := by decide +kernel
theorem d_prog_12_method_5_code_8 : decode prog_12_method_5_code 8 = .ok (.dup, 1) := by decide +kernel
theorem d_prog_12_method_5_code_9 : decode prog_12_method_5_code 9 = .ok (.getfield 32, 3) := by decide +kernel
theorem d_prog_12_method_5_code_12 : decode prog_12_method_5_code 12 = .ok (.iconst 1, 1) := by decide +kernel
theorem d_prog_12_method_5_code_13 : decode prog_12_method_5_code 13 = .ok (.isub, 1) := by decide +kernel
theorem d_prog_12_method_5_code_14 : decode prog_12_method_5_code 14 = .ok (.putfield 32, 3) := by decide +kernel
theorem d_prog_12_method_5_code_17 : decode prog_12_method_5_code 17 = .ok (.aload_n 0, 1) := by decide +kernel
theorem d_prog_12_method_5_code_18 : decode prog_12_method_5_code 18 = .ok (.aload_n 0, 1) := by decide +kernel
theorem d_prog_12_method_5_code_19 : decode prog_12_method_5_code 19 = .ok (.getfield 29, 3) := by decide +kernel
theorem d_prog_12_method_5_code_22 : decode prog_12_method_5_code 22 = .ok (.aload_n 0, 1) := by decide +kernel
theorem d_prog_12_method_5_code_23 : decode prog_12_method_5_code 23 = .ok (.getfield 32, 3) := by decide +kernel
theorem d_prog_12_method_5_code_26 : decode prog_12_method_5_code 26 = .ok (.i2d, 1) := by decide +kernel
theorem d_prog_12_method_5_code_27 : decode prog_12_method_5_code 27 = .ok (.aload_n 0, 1) := by decide +kernel
theorem d_prog_12_method_5_code_28 : decode prog_12_method_5_code 28 = .ok (.getfield 35, 3) := by decide +kernel
theorem d_prog_12_method_5_code_31 : decode prog_12_method_5_code 31 = .ok (.dmul, 1) := by decide +kernel
theorem d_prog_12_method_5_code_32 : decode prog_12_method_5_code 32 = .ok (.dsub, 1) := by decide +kernel
theorem d_prog_12_method_5_code_33 : decode prog_12_method_5_code 33 = .ok (.putfield 25, 3) := by decide +kernel
theorem d_prog_12_method_5_code_36 : decode prog_12_method_5_code 36 = .ok (.aload_n 0, 1) := by decide +kernel
theorem d_prog_12_method_5_code_37 : decode prog_12_method_5_code 37 = .ok (.getfield 25, 3) := by decide +kernel
theorem d_prog_12_method_5_code_40 : decode prog_12_method_5_code 40 = .ok (.dreturn, 1) := by decide +kernel
set_option maxRecDepth 65536 in
set_option maxHeartbeats 40000000 in
theorem rmN (l : Launch) (Z : State) (a0 : Array Value) (hw : ∀ d ∈ tables_1, d.before a0 Z = true) (ws : List Jvm.Cond) (a : Addr) (F : Int32) (vl : UInt64) (tg : UInt64) (sp : UInt64) (rm : Int32) (h0 : Heap) (n0 : Nat) (Z0 : n0 ≤ h0.size) (E1 : xa7 Z h0 a) (F_frames : fd2 Z h0 a (.int F)) (F_value : fd3 Z h0 a (.double vl)) (F_target : fd4 Z h0 a (.double tg)) (F_step : fd5 Z h0 a (.double sp)) (F_remaining : fd6 Z h0 a (.int rm)) (ge_a : n0 ≤ a) (hnn : 0 < rm → NoNaN64 (FP.dmul (FP.i2d (rm - 1)) sp) ∧ NoNaN64 (FP.dsub tg (FP.dmul (FP.i2d (rm - 1)) sp))) :
    MetFree l mn12 (head1 (Jvm.Cond.code mn12 prog_12_method_5_code 1 (some .double) :: ws) ({ frames := 0, cells := 0, slots := 0, locals := 0 } : Room)) (fun aA U => aA = #[(.ref a)] ∧ Z.Warmed39 U.vm ∧ U.heap = h0) (fun _ _ _ _ _ => True) (fun _ U o U' => ∃ vR LR, o = .returned vR ∧ QrmN Z a F vl tg sp rm h0 n0 vR U'.heap LR ∧ FrameEnd U o U' LR ({ frames := 0, cells := 0, slots := 0, locals := 0 } : Room).cells ({ frames := 0, cells := 0, slots := 0, locals := 0 } : Room).slots) := by
  refine MetFree.of_bodySF (plainFor_of_name pn_com_example_lampwork_lampwork_Glide) hisR ?_
  intro p e s m args below meth c s₁ Bd hml0 hPre hKk
  obtain ⟨rfl, hZ, hh⟩ := hPre
  have hx := Bd.exec
  have hby := Bd.bytes
  skip
  have hml : c.maxLocals = 1 := hml0
  have hown : s.vm.findClass "com/example/lampwork/lampwork/Glide" = some m.cls := findClass_of_methodNamed Bd.named
  have hnm := (name_of_methodNamed Bd.named Bd.method).1
  have X0 : Stand p l e ({ frames := 0, cells := 0, slots := 0, locals := 0 } : Room) s m #[(.ref a)] below meth c s₁ [] 0 0 := Stand.of_body Bd
  have e0 : s₁.heap = h0 := by rw [← hh, Bd.state]; rfl
  have N0 := Fr.nil n0
  obtain ⟨E0, hE0⟩ : ∃ zE : State, zE = s₁.setTop (entryFrame m #[(.ref a)] 1) := ⟨_, rfl⟩
  have k0 : own_G p e below E0 s₁ (mkF m 0 #[vr a] []) := fun tz kz => hE0 ▸ castTop (ef_rmN m a F vl tg sp rm) kz
  have K0 : Keep h0 h0 [a] := Keep.refl _ _
  have k362 : own_G p e below E0 s₁ (mkF m 1 #[vr a] [(.ref a)]) := by
    intro tQ kk
    refine k0 tQ ?_
    refine XS.aloadN X0.here hx rfl (hb hby d_prog_12_method_5_code_0) rfl rfl ?_
    exact kk
  clear k0
  obtain ⟨T363, X364, e365, st366⟩ := getF X0 hx hZ hown (host := "") (Or.inl (tw37 hw)) Via.refl e0 F_remaining (g := (mkF m 1 #[vr a] [(.ref a)])) rfl rfl (hb hby d_prog_12_method_5_code_1)
  have k367 : own_G p e below E0 T363 (mkF m 4 #[vr a] [(.int rm)]) := fun tQ kk => k362 tQ (st366 _ kk)
  clear k362 st366
  by_cases c0 : 0 < rm
  · skip
    have k369 : own_G p e below E0 T363 (mkF m 9 #[vr a] [(.ref a), (.ref a)]) := by
      intro tQ kk
      refine k367 tQ ?_
      refine XS.ifNo X364.here hx rfl (hb hby d_prog_12_method_5_code_4) rfl (own_if_leN c0) ?_
      refine XS.aloadN X364.here hx rfl (hb hby d_prog_12_method_5_code_7) rfl rfl ?_
      refine XS.dup X364.here hx rfl (hb hby d_prog_12_method_5_code_8) rfl rfl ?_
      exact kk
    clear k367
    obtain ⟨T370, X371, e372, st373⟩ := getF X364 hx hZ hown (host := "") (Or.inl (tw37 hw)) Via.refl e365 F_remaining (g := (mkF m 9 #[vr a] [(.ref a), (.ref a)])) rfl rfl (hb hby d_prog_12_method_5_code_9)
    have k374 : own_G p e below E0 T370 (mkF m 12 #[vr a] [(.int rm), (.ref a)]) := fun tQ kk => k369 tQ (st373 _ kk)
    clear k369 st373
    have k375 : own_G p e below E0 T370 (mkF m 14 #[vr a] [(.int (rm - (1 : Int32))), (.ref a)]) := by
      intro tQ kk
      refine k374 tQ ?_
      refine XS.iconst X371.here hx rfl (hb hby d_prog_12_method_5_code_12) ?_
      refine XS.isub X371.here hx rfl (hb hby d_prog_12_method_5_code_13) rfl ?_
      exact kk
    clear k374
    obtain ⟨T376, h377, X378, e379, W380, st381⟩ := putF X371 hx hZ hown (host := "") (Or.inl (tw37 hw)) Via.refl e372 F_remaining E1 (Or.inl (tw38 hw)) (tw1 hw) (ty := .int) (by decide) rfl rfl (g := (mkF m 14 #[vr a] [(.int (rm - (1 : Int32))), (.ref a)])) rfl rfl (hb hby d_prog_12_method_5_code_14)
    have N382 := Fr.snoc X378 N0 ge_a
    have k383 : own_G p e below E0 T376 (mkF m 17 #[vr a] []) := fun tQ kk => k375 tQ (st381 _ kk)
    clear k375 st381
    have F384 : xa7 Z h377 a := E1.wr W380
    clear E1
    have F385 : fd2 Z h377 a (.int F) := F_frames.other W380 (Or.inr (slot_ne (C := "com/example/lampwork/lampwork/Glide") (Or.inr (tw27 hw)) (Or.inl (tw38 hw)) (by decide) (t := .int) (t' := .int) (by decide) (by decide)))
    clear F_frames
    have F386 : fd3 Z h377 a (.double vl) := F_value.other W380 (Or.inr (slot_ne (C := "com/example/lampwork/lampwork/Glide") (Or.inl (tw29 hw)) (Or.inl (tw38 hw)) (by decide) (t := .double) (t' := .int) (by decide) (by decide)))
    clear F_value
    have F387 : fd4 Z h377 a (.double tg) := F_target.other W380 (Or.inr (slot_ne (C := "com/example/lampwork/lampwork/Glide") (Or.inl (tw31 hw)) (Or.inl (tw38 hw)) (by decide) (t := .double) (t' := .int) (by decide) (by decide)))
    clear F_target
    have F388 : fd5 Z h377 a (.double sp) := F_step.other W380 (Or.inr (slot_ne (C := "com/example/lampwork/lampwork/Glide") (Or.inl (tw55 hw)) (Or.inl (tw38 hw)) (by decide) (t := .double) (t' := .int) (by decide) (by decide)))
    clear F_step
    have F389 : fd6 Z h377 a (.int (rm - (1 : Int32))) := F_remaining.same W380
    clear F_remaining
    have Z390 : n0 ≤ h377.size := by rw [W380.size]; exact Z0
    have K391 : Keep h0 h377 [a] := K0.wr W380 (Or.inl (List.mem_of_getElem? (i := 0) rfl))
    have k392 : own_G p e below E0 T376 (mkF m 19 #[vr a] [(.ref a), (.ref a)]) := by
      intro tQ kk
      refine k383 tQ ?_
      refine XS.aloadN X378.here hx rfl (hb hby d_prog_12_method_5_code_17) rfl rfl ?_
      refine XS.aloadN X378.here hx rfl (hb hby d_prog_12_method_5_code_18) rfl rfl ?_
      exact kk
    clear k383
    obtain ⟨T393, X394, e395, st396⟩ := getF X378 hx hZ hown (host := "") (Or.inl (tw30 hw)) Via.refl e379 F387 (g := (mkF m 19 #[vr a] [(.ref a), (.ref a)])) rfl rfl (hb hby d_prog_12_method_5_code_19)
    have k397 : own_G p e below E0 T393 (mkF m 22 #[vr a] [(.double tg), (.ref a)]) := fun tQ kk => k392 tQ (st396 _ kk)
    clear k392 st396
    have k398 : own_G p e below E0 T393 (mkF m 23 #[vr a] [(.ref a), (.double tg), (.ref a)]) := by
      intro tQ kk
      refine k397 tQ ?_
      refine XS.aloadN X394.here hx rfl (hb hby d_prog_12_method_5_code_22) rfl rfl ?_
      exact kk
    clear k397
    obtain ⟨T399, X400, e401, st402⟩ := getF X394 hx hZ hown (host := "") (Or.inl (tw37 hw)) Via.refl e395 F389 (g := (mkF m 23 #[vr a] [(.ref a), (.double tg), (.ref a)])) rfl rfl (hb hby d_prog_12_method_5_code_23)
    have k403 : own_G p e below E0 T399 (mkF m 26 #[vr a] [(.int (rm - (1 : Int32))), (.double tg), (.ref a)]) := fun tQ kk => k398 tQ (st402 _ kk)
    clear k398 st402
    have k404 : own_G p e below E0 T399 (mkF m 28 #[vr a] [(.ref a), (.double (FP.i2d (rm - (1 : Int32)))), (.double tg), (.ref a)]) := by
      intro tQ kk
      refine k403 tQ ?_
      refine XS.i2dS X400.here hx rfl (hb hby d_prog_12_method_5_code_26) rfl rfl ?_
      refine XS.aloadN X400.here hx rfl (hb hby d_prog_12_method_5_code_27) rfl rfl ?_
      exact kk
    clear k403
    obtain ⟨T405, X406, e407, st408⟩ := getF X400 hx hZ hown (host := "") (Or.inl (tw54 hw)) Via.refl e401 F388 (g := (mkF m 28 #[vr a] [(.ref a), (.double (FP.i2d (rm - (1 : Int32)))), (.double tg), (.ref a)])) rfl rfl (hb hby d_prog_12_method_5_code_28)
    have k409 : own_G p e below E0 T405 (mkF m 31 #[vr a] [(.double sp), (.double (FP.i2d (rm - (1 : Int32)))), (.double tg), (.ref a)]) := fun tQ kk => k404 tQ (st408 _ kk)
    clear k404 st408
    have k410 : own_G p e below E0 T405 (mkF m 33 #[vr a] [(.double (FP.dsub tg (FP.dmul (FP.i2d (rm - (1 : Int32))) sp))), (.ref a)]) := by
      intro tQ kk
      refine k409 tQ ?_
      refine XS.dmulS X406.here hx rfl (hb hby d_prog_12_method_5_code_31) rfl (hnn c0).1 rfl ?_
      refine XS.dsubS X406.here hx rfl (hb hby d_prog_12_method_5_code_32) rfl (hnn c0).2 rfl ?_
      exact kk
    clear k409
    obtain ⟨T411, h412, X413, e414, W415, st416⟩ := putF X406 hx hZ hown (host := "") (Or.inl (tw28 hw)) Via.refl e407 F386 F384 (Or.inl (tw29 hw)) (tw1 hw) (ty := .double) (by decide) rfl rfl (g := (mkF m 33 #[vr a] [(.double (FP.dsub tg (FP.dmul (FP.i2d (rm - (1 : Int32))) sp))), (.ref a)])) rfl rfl (hb hby d_prog_12_method_5_code_33)
    have N417 := Fr.snoc X413 N382 ge_a
    have k418 : own_G p e below E0 T411 (mkF m 36 #[vr a] []) := fun tQ kk => k410 tQ (st416 _ kk)
    clear k410 st416
    have F419 : xa7 Z h412 a := F384.wr W415
    clear F384
    have F420 : fd2 Z h412 a (.int F) := F385.other W415 (Or.inr (slot_ne (C := "com/example/lampwork/lampwork/Glide") (Or.inr (tw27 hw)) (Or.inl (tw29 hw)) (by decide) (t := .int) (t' := .double) (by decide) (by decide)))
    clear F385
    have F421 : fd3 Z h412 a (.double (FP.dsub tg (FP.dmul (FP.i2d (rm - (1 : Int32))) sp))) := F386.same W415
    clear F386
    have F422 : fd4 Z h412 a (.double tg) := F387.other W415 (Or.inr (slot_ne (C := "com/example/lampwork/lampwork/Glide") (Or.inl (tw31 hw)) (Or.inl (tw29 hw)) (by decide) (t := .double) (t' := .double) (by decide) (by decide)))
    clear F387
    have F423 : fd5 Z h412 a (.double sp) := F388.other W415 (Or.inr (slot_ne (C := "com/example/lampwork/lampwork/Glide") (Or.inl (tw55 hw)) (Or.inl (tw29 hw)) (by decide) (t := .double) (t' := .double) (by decide) (by decide)))
    clear F388
    have F424 : fd6 Z h412 a (.int (rm - (1 : Int32))) := F389.other W415 (Or.inr (slot_ne (C := "com/example/lampwork/lampwork/Glide") (Or.inl (tw38 hw)) (Or.inl (tw29 hw)) (by decide) (t := .int) (t' := .double) (by decide) (by decide)))
    clear F389
    have Z425 : n0 ≤ h412.size := by rw [W415.size]; exact Z390
    clear Z390
    have K426 : Keep h0 h412 [a] := K391.wr W415 (Or.inl (List.mem_of_getElem? (i := 0) rfl))
    clear K391
    have k427 : own_G p e below E0 T411 (mkF m 37 #[vr a] [(.ref a)]) := by
      intro tQ kk
      refine k418 tQ ?_
      refine XS.aloadN X413.here hx rfl (hb hby d_prog_12_method_5_code_36) rfl rfl ?_
      exact kk
    clear k418
    obtain ⟨T428, X429, e430, st431⟩ := getF X413 hx hZ hown (host := "") (Or.inl (tw28 hw)) Via.refl e414 F421 (g := (mkF m 37 #[vr a] [(.ref a)])) rfl rfl (hb hby d_prog_12_method_5_code_37)
    have k432 : own_G p e below E0 T428 (mkF m 40 #[vr a] [(.double (FP.dsub tg (FP.dmul (FP.i2d (rm - (1 : Int32))) sp)))]) := fun tQ kk => k427 tQ (st431 _ kk)
    clear k427 st431
    obtain ⟨fs, hr, hrun, hended, hW, hsame⟩ := X429.leave (v := some (.double (FP.dsub tg (FP.dmul (FP.i2d (rm - (1 : Int32))) sp)))) (fun h => by rw [Bd.returns] at h; cases h)
    have hrun0 := k432 _ (retOut X429 hx Bd.returns (t := .double) rfl (Or.inr (Or.inr (Or.inl ⟨rfl, rfl, _, rfl⟩))) (hb hby d_prog_12_method_5_code_40) hr)
    subst hE0
    refine ⟨_, _, hrun0, hrun, hended, _, _, rfl, ?_, ⟨_, rfl⟩, hW, hsame.mono (by decide) (by decide)⟩
    show QrmN Z a F vl tg sp rm h0 n0 _ T428.heap _
    rw [e430]
    exact ⟨by rw [own_nv, if_pos c0], N417, K426, F420, (by rw [own_nv, if_pos c0]; exact F421), F422, F423, (by rw [own_nr, if_pos c0]; exact F424)⟩
  · skip
    have k433 : own_G p e below E0 T363 (mkF m 37 #[vr a] [(.ref a)]) := by
      intro tQ kk
      refine k367 tQ ?_
      refine XS.ifYes X364.here hx rfl (pc0 := 4) (pc' := 36) rfl (hb hby d_prog_12_method_5_code_4) rfl (own_if_leY c0) (by decide) (by decide) ?_
      refine XS.aloadN X364.here hx rfl (hb hby d_prog_12_method_5_code_36) rfl rfl ?_
      exact kk
    clear k367
    obtain ⟨T434, X435, e436, st437⟩ := getF X364 hx hZ hown (host := "") (Or.inl (tw28 hw)) Via.refl e365 F_value (g := (mkF m 37 #[vr a] [(.ref a)])) rfl rfl (hb hby d_prog_12_method_5_code_37)
    have k438 : own_G p e below E0 T434 (mkF m 40 #[vr a] [(.double vl)]) := fun tQ kk => k433 tQ (st437 _ kk)
    clear k433 st437
    obtain ⟨fs, hr, hrun, hended, hW, hsame⟩ := X435.leave (v := some (.double vl)) (fun h => by rw [Bd.returns] at h; cases h)
    have hrun0 := k438 _ (retOut X435 hx Bd.returns (t := .double) rfl (Or.inr (Or.inr (Or.inl ⟨rfl, rfl, _, rfl⟩))) (hb hby d_prog_12_method_5_code_40) hr)
    subst hE0
    refine ⟨_, _, hrun0, hrun, hended, _, _, rfl, ?_, ⟨_, rfl⟩, hW, hsame.mono (by decide) (by decide)⟩
    show QrmN Z a F vl tg sp rm h0 n0 _ T434.heap _
    rw [e436]
    exact ⟨by rw [own_nv, if_neg c0], N0, K0, F_frames, (by rw [own_nv, if_neg c0]; exact F_value), F_target, F_step, (by rw [own_nr, if_neg c0]; exact F_remaining)⟩
def QrmMv (Z : State) (a : Addr) (rm : Int32) (h0 : Heap) (n0 : Nat) (vQ : Option Value) (hQ : Heap) (LQ : List Loc) : Prop := vQ = some (.int (own_mv rm)) ∧ Fr n0 LQ ∧ hQ = h0
theorem ef_rmMv (m : MethodId) (a : Addr) (rm : Int32) : entryFrame m #[(.ref a)] 1 = mkF m 0 #[vr a] [] := by first | (simp [entryFrame, mkF, argsToLocals, Value.category]; done) | rfl
abbrev mn13 : MethodName := ⟨"com/example/lampwork/lampwork/Glide", "moving", "()Z"⟩
theorem d_prog_12_method_3_code_0 : decode prog_12_method_3_code 0 = .ok (.aload_n 0, 1) := by decide +kernel
theorem d_prog_12_method_3_code_1 : decode prog_12_method_3_code 1 = .ok (.getfield 32, 3) := by decide +kernel
theorem d_prog_12_method_3_code_4 : decode prog_12_method_3_code 4 = .ok (.ifCond .le 7, 3) := by decide +kernel
theorem d_prog_12_method_3_code_7 : decode prog_12_method_3_code 7 = .ok (.iconst 1, 1) := by decide +kernel
theorem d_prog_12_method_3_code_8 : decode prog_12_method_3_code 8 = .ok (.goto 4, 3) := by decide +kernel
theorem d_prog_12_method_3_code_12 : decode prog_12_method_3_code 12 = .ok (.ireturn, 1) := by decide +kernel
theorem d_prog_12_method_3_code_11 : decode prog_12_method_3_code 11 = .ok (.iconst 0, 1) := by decide +kernel
set_option maxRecDepth 65536 in
set_option maxHeartbeats 40000000 in
theorem rmMv (l : Launch) (Z : State) (a0 : Array Value) (hw : ∀ d ∈ tables_1, d.before a0 Z = true) (ws : List Jvm.Cond) (a : Addr) (rm : Int32) (h0 : Heap) (n0 : Nat) (Z0 : n0 ≤ h0.size) (F1 : fd6 Z h0 a (.int rm)) :
    MetFree l mn13 (head1 (Jvm.Cond.code mn13 prog_12_method_3_code 1 (some .boolean) :: ws) ({ frames := 0, cells := 0, slots := 0, locals := 0 } : Room)) (fun aA U => aA = #[(.ref a)] ∧ Z.Warmed39 U.vm ∧ U.heap = h0) (fun _ _ _ _ _ => True) (fun _ U o U' => ∃ vR LR, o = .returned vR ∧ QrmMv Z a rm h0 n0 vR U'.heap LR ∧ FrameEnd U o U' LR ({ frames := 0, cells := 0, slots := 0, locals := 0 } : Room).cells ({ frames := 0, cells := 0, slots := 0, locals := 0 } : Room).slots) := by
  refine MetFree.of_bodySF (plainFor_of_name pn_com_example_lampwork_lampwork_Glide) hisR ?_
  intro p e s m args below meth c s₁ Bd hml0 hPre hKk
  obtain ⟨rfl, hZ, hh⟩ := hPre
  have hx := Bd.exec
  have hby := Bd.bytes
  skip
  have hml : c.maxLocals = 1 := hml0
  have hown : s.vm.findClass "com/example/lampwork/lampwork/Glide" = some m.cls := findClass_of_methodNamed Bd.named
  have hnm := (name_of_methodNamed Bd.named Bd.method).1
  have X0 : Stand p l e ({ frames := 0, cells := 0, slots := 0, locals := 0 } : Room) s m #[(.ref a)] below meth c s₁ [] 0 0 := Stand.of_body Bd
  have e0 : s₁.heap = h0 := by rw [← hh, Bd.state]; rfl
  have N0 := Fr.nil n0
  obtain ⟨E0, hE0⟩ : ∃ zE : State, zE = s₁.setTop (entryFrame m #[(.ref a)] 1) := ⟨_, rfl⟩
  have k0 : own_G p e below E0 s₁ (mkF m 0 #[vr a] []) := fun tz kz => hE0 ▸ castTop (ef_rmMv m a rm) kz
  have k439 : own_G p e below E0 s₁ (mkF m 1 #[vr a] [(.ref a)]) := by
    intro tQ kk
    refine k0 tQ ?_
    refine XS.aloadN X0.here hx rfl (hb hby d_prog_12_method_3_code_0) rfl rfl ?_
    exact kk
  clear k0
  obtain ⟨T440, X441, e442, st443⟩ := getF X0 hx hZ hown (host := "") (Or.inl (tw37 hw)) Via.refl e0 F1 (g := (mkF m 1 #[vr a] [(.ref a)])) rfl rfl (hb hby d_prog_12_method_3_code_1)
  have k444 : own_G p e below E0 T440 (mkF m 4 #[vr a] [(.int rm)]) := fun tQ kk => k439 tQ (st443 _ kk)
  clear k439 st443
  by_cases c445 : 0 < rm
  · skip
    have k446 : own_G p e below E0 T440 (mkF m 12 #[vr a] [(.int (1 : Int32))]) := by
      intro tQ kk
      refine k444 tQ ?_
      refine XS.ifNo X441.here hx rfl (hb hby d_prog_12_method_3_code_4) rfl (own_if_leN c445) ?_
      refine XS.iconst X441.here hx rfl (hb hby d_prog_12_method_3_code_7) ?_
      refine XS.goto X441.here hx rfl (pc0 := 8) (pc' := 12) rfl (hb hby d_prog_12_method_3_code_8) (by decide) (by decide) ?_
      exact kk
    clear k444
    obtain ⟨fs, hr, hrun, hended, hW, hsame⟩ := X441.leave (v := some (.int (1 : Int32))) (fun h => by rw [Bd.returns] at h; cases h)
    have hrun0 := k446 _ (retOut X441 hx Bd.returns (t := .boolean) rfl (Or.inl ⟨rfl, Or.inr (Or.inl rfl), _, rfl⟩) (hb hby d_prog_12_method_3_code_12) hr)
    subst hE0
    refine ⟨_, _, hrun0, hrun, hended, _, _, rfl, ?_, ⟨_, rfl⟩, hW, hsame.mono (by decide) (by decide)⟩
    show QrmMv Z a rm h0 n0 _ T440.heap _
    rw [e442]
    exact ⟨by rw [own_mv, if_pos c445], N0, rfl⟩
  · skip
    have k447 : own_G p e below E0 T440 (mkF m 12 #[vr a] [(.int (0 : Int32))]) := by
      intro tQ kk
      refine k444 tQ ?_
      refine XS.ifYes X441.here hx rfl (pc0 := 4) (pc' := 11) rfl (hb hby d_prog_12_method_3_code_4) rfl (own_if_leY c445) (by decide) (by decide) ?_
      refine XS.iconst X441.here hx rfl (hb hby d_prog_12_method_3_code_11) ?_
      exact kk
    clear k444
    obtain ⟨fs, hr, hrun, hended, hW, hsame⟩ := X441.leave (v := some (.int (0 : Int32))) (fun h => by rw [Bd.returns] at h; cases h)
    have hrun0 := k447 _ (retOut X441 hx Bd.returns (t := .boolean) rfl (Or.inl ⟨rfl, Or.inr (Or.inl rfl), _, rfl⟩) (hb hby d_prog_12_method_3_code_12) hr)
    subst hE0
    refine ⟨_, _, hrun0, hrun, hended, _, _, rfl, ?_, ⟨_, rfl⟩, hW, hsame.mono (by decide) (by decide)⟩
    show QrmMv Z a rm h0 n0 _ T440.heap _
    rw [e442]
    exact ⟨by rw [own_mv, if_neg c445], N0, rfl⟩
def QrmVl (Z : State) (a : Addr) (vl : UInt64) (h0 : Heap) (n0 : Nat) (vQ : Option Value) (hQ : Heap) (LQ : List Loc) : Prop := vQ = some (.double vl) ∧ Fr n0 LQ ∧ hQ = h0
theorem ef_rmVl (m : MethodId) (a : Addr) (vl : UInt64) : entryFrame m #[(.ref a)] 1 = mkF m 0 #[vr a] [] := by first | (simp [entryFrame, mkF, argsToLocals, Value.category]; done) | rfl
abbrev mn14 : MethodName := ⟨"com/example/lampwork/lampwork/Glide", "value", "()D"⟩
theorem d_prog_12_method_4_code_0 : decode prog_12_method_4_code 0 = .ok (.aload_n 0, 1) := by decide +kernel
theorem d_prog_12_method_4_code_1 : decode prog_12_method_4_code 1 = .ok (.getfield 25, 3) := by decide +kernel
theorem d_prog_12_method_4_code_4 : decode prog_12_method_4_code 4 = .ok (.dreturn, 1) := by decide +kernel
set_option maxRecDepth 65536 in
set_option maxHeartbeats 40000000 in
theorem rmVl (l : Launch) (Z : State) (a0 : Array Value) (hw : ∀ d ∈ tables_1, d.before a0 Z = true) (ws : List Jvm.Cond) (a : Addr) (vl : UInt64) (h0 : Heap) (n0 : Nat) (Z0 : n0 ≤ h0.size) (F1 : fd3 Z h0 a (.double vl)) :
    MetFree l mn14 (head1 (Jvm.Cond.code mn14 prog_12_method_4_code 1 (some .double) :: ws) ({ frames := 0, cells := 0, slots := 0, locals := 0 } : Room)) (fun aA U => aA = #[(.ref a)] ∧ Z.Warmed39 U.vm ∧ U.heap = h0) (fun _ _ _ _ _ => True) (fun _ U o U' => ∃ vR LR, o = .returned vR ∧ QrmVl Z a vl h0 n0 vR U'.heap LR ∧ FrameEnd U o U' LR ({ frames := 0, cells := 0, slots := 0, locals := 0 } : Room).cells ({ frames := 0, cells := 0, slots := 0, locals := 0 } : Room).slots) := by
  refine MetFree.of_bodySF (plainFor_of_name pn_com_example_lampwork_lampwork_Glide) hisR ?_
  intro p e s m args below meth c s₁ Bd hml0 hPre hKk
  obtain ⟨rfl, hZ, hh⟩ := hPre
  have hx := Bd.exec
  have hby := Bd.bytes
  skip
  have hml : c.maxLocals = 1 := hml0
  have hown : s.vm.findClass "com/example/lampwork/lampwork/Glide" = some m.cls := findClass_of_methodNamed Bd.named
  have hnm := (name_of_methodNamed Bd.named Bd.method).1
  have X0 : Stand p l e ({ frames := 0, cells := 0, slots := 0, locals := 0 } : Room) s m #[(.ref a)] below meth c s₁ [] 0 0 := Stand.of_body Bd
  have e0 : s₁.heap = h0 := by rw [← hh, Bd.state]; rfl
  have N0 := Fr.nil n0
  obtain ⟨E0, hE0⟩ : ∃ zE : State, zE = s₁.setTop (entryFrame m #[(.ref a)] 1) := ⟨_, rfl⟩
  have k0 : own_G p e below E0 s₁ (mkF m 0 #[vr a] []) := fun tz kz => hE0 ▸ castTop (ef_rmVl m a vl) kz
  have k448 : own_G p e below E0 s₁ (mkF m 1 #[vr a] [(.ref a)]) := by
    intro tQ kk
    refine k0 tQ ?_
    refine XS.aloadN X0.here hx rfl (hb hby d_prog_12_method_4_code_0) rfl rfl ?_
    exact kk
  clear k0
  obtain ⟨T449, X450, e451, st452⟩ := getF X0 hx hZ hown (host := "") (Or.inl (tw28 hw)) Via.refl e0 F1 (g := (mkF m 1 #[vr a] [(.ref a)])) rfl rfl (hb hby d_prog_12_method_4_code_1)
  have k453 : own_G p e below E0 T449 (mkF m 4 #[vr a] [(.double vl)]) := fun tQ kk => k448 tQ (st452 _ kk)
  clear k448 st452
  obtain ⟨fs, hr, hrun, hended, hW, hsame⟩ := X450.leave (v := some (.double vl)) (fun h => by rw [Bd.returns] at h; cases h)
  have hrun0 := k453 _ (retOut X450 hx Bd.returns (t := .double) rfl (Or.inr (Or.inr (Or.inl ⟨rfl, rfl, _, rfl⟩))) (hb hby d_prog_12_method_4_code_4) hr)
  subst hE0
  refine ⟨_, _, hrun0, hrun, hended, _, _, rfl, ?_, ⟨_, rfl⟩, hW, hsame.mono (by decide) (by decide)⟩
  show QrmVl Z a vl h0 n0 _ T449.heap _
  rw [e451]
  exact ⟨rfl, N0, rfl⟩
def Qrm0 (Z : State) (p0 : Int32) (p1 : Int32) (p2 : Int32) (p3 : Int32) (h0 : Heap) (n0 : Nat) (vQ : Option Value) (hQ : Heap) (LQ : List Loc) : Prop := vQ = some (.int (1 : Int32)) ∧ Fr n0 LQ
theorem ef_rm0 (m : MethodId) (p0 : Int32) (p1 : Int32) (p2 : Int32) (p3 : Int32) : entryFrame m #[(.int p0), (.int p1), (.int p2), (.int p3)] maxLocals = mkF m 0 #[vi p0, vi p1, vi p2, vi p3, uu, uu, uu, uu, uu, uu, uu, uu, uu, uu, uu, uu, uu, uu, uu, uu, uu, uu, uu, uu, uu, uu, uu, uu, uu, uu, uu, uu, uu, uu, uu, uu, uu, uu, uu] [] := by first | (simp [entryFrame, mkF, argsToLocals, Value.category, maxLocals]; done) | rfl
theorem pn_com_example_lampwork_lampwork_GlideSetPinLaw : plainName "com/example/lampwork/lampwork/GlideSetPinLaw" = true := by first | (simp [plainName, overriddenIn]; done) | decide +kernel
def tw0 {Z : State} {a0 : Array Value} (hw : ∀ d ∈ tables_1, d.before a0 Z = true) := hw _ (List.mem_of_getElem? (i := 0) rfl)
def tw2 {Z : State} {a0 : Array Value} (hw : ∀ d ∈ tables_1, d.before a0 Z = true) := hw _ (List.mem_of_getElem? (i := 2) rfl)
def tw3 {Z : State} {a0 : Array Value} (hw : ∀ d ∈ tables_1, d.before a0 Z = true) := hw _ (List.mem_of_getElem? (i := 3) rfl)
def tw5 {Z : State} {a0 : Array Value} (hw : ∀ d ∈ tables_1, d.before a0 Z = true) := hw _ (List.mem_of_getElem? (i := 5) rfl)
theorem pd_15 : parseMethodDescriptor "(DI)V" = some ⟨[.double, .int], none⟩ := by decide +kernel
def tw4 {Z : State} {a0 : Array Value} (hw : ∀ d ∈ tables_1, d.before a0 Z = true) := hw _ (List.mem_of_getElem? (i := 4) rfl)
def tw49 {Z : State} {a0 : Array Value} (hw : ∀ d ∈ tables_1, d.before a0 Z = true) := hw _ (List.mem_of_getElem? (i := 49) rfl)
def tw52 {Z : State} {a0 : Array Value} (hw : ∀ d ∈ tables_1, d.before a0 Z = true) := hw _ (List.mem_of_getElem? (i := 52) rfl)
def tw53 {Z : State} {a0 : Array Value} (hw : ∀ d ∈ tables_1, d.before a0 Z = true) := hw _ (List.mem_of_getElem? (i := 53) rfl)
theorem pd_16 : parseMethodDescriptor "()D" = some ⟨[], some .double⟩ := by decide +kernel
def tw50 {Z : State} {a0 : Array Value} (hw : ∀ d ∈ tables_1, d.before a0 Z = true) := hw _ (List.mem_of_getElem? (i := 50) rfl)
def tw51 {Z : State} {a0 : Array Value} (hw : ∀ d ∈ tables_1, d.before a0 Z = true) := hw _ (List.mem_of_getElem? (i := 51) rfl)
def tw32 {Z : State} {a0 : Array Value} (hw : ∀ d ∈ tables_1, d.before a0 Z = true) := hw _ (List.mem_of_getElem? (i := 32) rfl)
def tw35 {Z : State} {a0 : Array Value} (hw : ∀ d ∈ tables_1, d.before a0 Z = true) := hw _ (List.mem_of_getElem? (i := 35) rfl)
def tw36 {Z : State} {a0 : Array Value} (hw : ∀ d ∈ tables_1, d.before a0 Z = true) := hw _ (List.mem_of_getElem? (i := 36) rfl)
theorem pd_17 : parseMethodDescriptor "(DZ)V" = some ⟨[.double, .boolean], none⟩ := by decide +kernel
def tw33 {Z : State} {a0 : Array Value} (hw : ∀ d ∈ tables_1, d.before a0 Z = true) := hw _ (List.mem_of_getElem? (i := 33) rfl)
def tw34 {Z : State} {a0 : Array Value} (hw : ∀ d ∈ tables_1, d.before a0 Z = true) := hw _ (List.mem_of_getElem? (i := 34) rfl)
def tw39 {Z : State} {a0 : Array Value} (hw : ∀ d ∈ tables_1, d.before a0 Z = true) := hw _ (List.mem_of_getElem? (i := 39) rfl)
def tw42 {Z : State} {a0 : Array Value} (hw : ∀ d ∈ tables_1, d.before a0 Z = true) := hw _ (List.mem_of_getElem? (i := 42) rfl)
def tw43 {Z : State} {a0 : Array Value} (hw : ∀ d ∈ tables_1, d.before a0 Z = true) := hw _ (List.mem_of_getElem? (i := 43) rfl)
def tw40 {Z : State} {a0 : Array Value} (hw : ∀ d ∈ tables_1, d.before a0 Z = true) := hw _ (List.mem_of_getElem? (i := 40) rfl)
def tw41 {Z : State} {a0 : Array Value} (hw : ∀ d ∈ tables_1, d.before a0 Z = true) := hw _ (List.mem_of_getElem? (i := 41) rfl)
def tw44 {Z : State} {a0 : Array Value} (hw : ∀ d ∈ tables_1, d.before a0 Z = true) := hw _ (List.mem_of_getElem? (i := 44) rfl)
def tw47 {Z : State} {a0 : Array Value} (hw : ∀ d ∈ tables_1, d.before a0 Z = true) := hw _ (List.mem_of_getElem? (i := 47) rfl)
def tw48 {Z : State} {a0 : Array Value} (hw : ∀ d ∈ tables_1, d.before a0 Z = true) := hw _ (List.mem_of_getElem? (i := 48) rfl)
theorem pd_18 : parseMethodDescriptor "()Z" = some ⟨[], some .boolean⟩ := by decide +kernel
def tw45 {Z : State} {a0 : Array Value} (hw : ∀ d ∈ tables_1, d.before a0 Z = true) := hw _ (List.mem_of_getElem? (i := 45) rfl)
def tw46 {Z : State} {a0 : Array Value} (hw : ∀ d ∈ tables_1, d.before a0 Z = true) := hw _ (List.mem_of_getElem? (i := 46) rfl)
def tw56 {Z : State} {a0 : Array Value} (hw : ∀ d ∈ tables_1, d.before a0 Z = true) := hw _ (List.mem_of_getElem? (i := 56) rfl)
set_option maxRecDepth 65536 in
set_option maxHeartbeats 40000000 in
theorem rm0 (l : Launch) (Z : State) (a0 : Array Value) (hw : ∀ d ∈ tables_1, d.before a0 Z = true) (ws : List Jvm.Cond) (p0 : Int32) (p1 : Int32) (p2 : Int32) (p3 : Int32) (h0 : Heap) (n0 : Nat) (Z0 : n0 ≤ h0.size)  :
    MetFree l x (head1 (Jvm.Cond.code x code maxLocals ret :: ws) room_1) (fun aA U => aA = #[(.int p0), (.int p1), (.int p2), (.int p3)] ∧ Z.Warmed39 U.vm ∧ U.heap = h0) (fun _ _ _ _ _ => True) (fun _ U o U' => ∃ vR LR, o = .returned vR ∧ Qrm0 Z p0 p1 p2 p3 h0 n0 vR U'.heap LR ∧ FrameEnd U o U' LR 16 128) := by
  refine MetFree.of_bodySF (plainFor_of_name pn_com_example_lampwork_lampwork_GlideSetPinLaw) hisR ?_
  intro p e s m args below meth c s₁ Bd hml0 hPre hKk
  obtain ⟨rfl, hZ, hh⟩ := hPre
  have hx := Bd.exec
  have hby := Bd.bytes
  skip
  have hml : c.maxLocals = 39 := hml0
  have hown : s.vm.findClass "com/example/lampwork/lampwork/GlideSetPinLaw" = some m.cls := findClass_of_methodNamed Bd.named
  have hnm := (name_of_methodNamed Bd.named Bd.method).1
  have X0 : Stand p l e room_1 s m #[(.int p0), (.int p1), (.int p2), (.int p3)] below meth c s₁ [] 0 0 := Stand.of_body Bd
  have e0 : s₁.heap = h0 := by rw [← hh, Bd.state]; rfl
  have N0 := Fr.nil n0
  obtain ⟨E0, hE0⟩ : ∃ zE : State, zE = s₁.setTop (entryFrame m #[(.int p0), (.int p1), (.int p2), (.int p3)] maxLocals) := ⟨_, rfl⟩
  have k0 : own_G p e below E0 s₁ (mkF m 0 #[vi p0, vi p1, vi p2, vi p3, uu, uu, uu, uu, uu, uu, uu, uu, uu, uu, uu, uu, uu, uu, uu, uu, uu, uu, uu, uu, uu, uu, uu, uu, uu, uu, uu, uu, uu, uu, uu, uu, uu, uu, uu] []) := fun tz kz => hE0 ▸ castTop (ef_rm0 m p0 p1 p2 p3) kz
  have k454 : own_G p e below E0 s₁ (mkF m 3 #[vi p0, vi p1, vi p2, vi p3, uu, uu, uu, uu, uu, uu, uu, uu, uu, uu, uu, uu, uu, uu, uu, uu, uu, uu, uu, uu, uu, uu, uu, uu, uu, uu, uu, uu, uu, uu, uu, uu, uu, uu, uu] [(.int (p3 &&& (1 : Int32)))]) := by
    intro tQ kk
    refine k0 tQ ?_
    refine XS.iloadN X0.here hx rfl (hb hby at_0) rfl ?_
    refine XS.iconst X0.here hx rfl (hb hby at_1) ?_
    refine XS.iand X0.here hx rfl (hb hby at_2) rfl ?_
    exact kk
  clear k0
  by_cases c455 : (p3 &&& (1 : Int32)) = 0
  · skip
    have k456 : own_G p e below E0 s₁ (mkF m 27 #[vi p0, vi p1, vi p2, vi p3, vi (1 : Int32), vi (0 : Int32), uu, uu, uu, uu, uu, uu, uu, uu, uu, uu, uu, uu, uu, uu, uu, uu, uu, uu, uu, uu, uu, uu, uu, uu, uu, uu, uu, uu, uu, uu, uu, uu, uu] []) := by
      intro tQ kk
      refine k454 tQ ?_
      refine XS.ifYes X0.here hx rfl (pc0 := 3) (pc' := 10) rfl (hb hby at_3) rfl (own_if_eqY c455) (by decide) (by decide) ?_
      refine XS.iconst X0.here hx rfl (hb hby at_10) ?_
      refine XS.istore X0.here hx rfl (hb hby at_11) rfl (l' := #[vi p0, vi p1, vi p2, vi p3, vi (1 : Int32), uu, uu, uu, uu, uu, uu, uu, uu, uu, uu, uu, uu, uu, uu, uu, uu, uu, uu, uu, uu, uu, uu, uu, uu, uu, uu, uu, uu, uu, uu, uu, uu, uu, uu]) rfl ?_
      refine XS.iload X0.here hx rfl (hb hby at_13) rfl ?_
      show Steps p.tables e below (s₁.setTop (mkF m 15 #[vi p0, vi p1, vi p2, vi p3, vi (1 : Int32), uu, uu, uu, uu, uu, uu, uu, uu, uu, uu, uu, uu, uu, uu, uu, uu, uu, uu, uu, uu, uu, uu, uu, uu, uu, uu, uu, uu, uu, uu, uu, uu, uu, uu] [(.int (1 : Int32))])) tQ
      refine XS.iconst X0.here hx rfl (hb hby at_15) ?_
      refine XS.icmpYes X0.here hx rfl (pc0 := 16) (pc' := 24) rfl (hb hby at_16) rfl (own_ic_neY (by decide)) (by decide) (by decide) ?_
      refine XS.iconst X0.here hx rfl (hb hby at_24) ?_
      refine XS.istore X0.here hx rfl (hb hby at_25) rfl (l' := #[vi p0, vi p1, vi p2, vi p3, vi (1 : Int32), vi (0 : Int32), uu, uu, uu, uu, uu, uu, uu, uu, uu, uu, uu, uu, uu, uu, uu, uu, uu, uu, uu, uu, uu, uu, uu, uu, uu, uu, uu, uu, uu, uu, uu, uu, uu]) rfl ?_
      exact kk
    clear k454
    have jn462 : ∃ (pre : Int32), ((((p3 &&& (2 : Int32)) = 0) ∧ pre = (0 : Int32)) ∨ (¬ ((p3 &&& (2 : Int32)) = 0) ∧ pre = (1 : Int32))) ∧ (own_G p e below E0 s₁ (mkF m 38 #[vi p0, vi p1, vi p2, vi p3, vi (1 : Int32), vi (0 : Int32), uu, uu, uu, uu, uu, uu, uu, uu, uu, uu, uu, uu, uu, uu, uu, uu, uu, uu, uu, uu, uu, uu, uu, uu, uu, uu, uu, uu, uu, uu, uu, uu, uu] [(.int pre)])) := by
      have k457 : own_G p e below E0 s₁ (mkF m 30 #[vi p0, vi p1, vi p2, vi p3, vi (1 : Int32), vi (0 : Int32), uu, uu, uu, uu, uu, uu, uu, uu, uu, uu, uu, uu, uu, uu, uu, uu, uu, uu, uu, uu, uu, uu, uu, uu, uu, uu, uu, uu, uu, uu, uu, uu, uu] [(.int (p3 &&& (2 : Int32)))]) := by
        intro tQ kk
        refine k456 tQ ?_
        refine XS.iloadN X0.here hx rfl (hb hby at_27) rfl ?_
        refine XS.iconst X0.here hx rfl (hb hby at_28) ?_
        refine XS.iand X0.here hx rfl (hb hby at_29) rfl ?_
        exact kk
      clear k456
      by_cases c458 : (p3 &&& (2 : Int32)) = 0
      · skip
        have k459 : own_G p e below E0 s₁ (mkF m 38 #[vi p0, vi p1, vi p2, vi p3, vi (1 : Int32), vi (0 : Int32), uu, uu, uu, uu, uu, uu, uu, uu, uu, uu, uu, uu, uu, uu, uu, uu, uu, uu, uu, uu, uu, uu, uu, uu, uu, uu, uu, uu, uu, uu, uu, uu, uu] [(.int (0 : Int32))]) := by
          intro tQ kk
          refine k457 tQ ?_
          refine XS.ifYes X0.here hx rfl (pc0 := 30) (pc' := 37) rfl (hb hby at_30) rfl (own_if_eqY c458) (by decide) (by decide) ?_
          refine XS.iconst X0.here hx rfl (hb hby at_37) ?_
          exact kk
        clear k457
        exact ⟨(0 : Int32), (Or.inl (⟨c458, rfl⟩)), k459⟩
      · skip
        have k460 : own_G p e below E0 s₁ (mkF m 38 #[vi p0, vi p1, vi p2, vi p3, vi (1 : Int32), vi (0 : Int32), uu, uu, uu, uu, uu, uu, uu, uu, uu, uu, uu, uu, uu, uu, uu, uu, uu, uu, uu, uu, uu, uu, uu, uu, uu, uu, uu, uu, uu, uu, uu, uu, uu] [(.int (1 : Int32))]) := by
          intro tQ kk
          refine k457 tQ ?_
          refine XS.ifNo X0.here hx rfl (hb hby at_30) rfl (own_if_eqN c458) ?_
          refine XS.iconst X0.here hx rfl (hb hby at_33) ?_
          refine XS.goto X0.here hx rfl (pc0 := 34) (pc' := 38) rfl (hb hby at_34) (by decide) (by decide) ?_
          exact kk
        clear k457
        exact ⟨(1 : Int32), (Or.inr (⟨c458, rfl⟩)), k460⟩
    obtain ⟨pre, hD463, k461⟩ := jn462
    have k464 : own_G p e below E0 s₁ (mkF m 40 #[vi p0, vi p1, vi p2, vi p3, vi (1 : Int32), vi (0 : Int32), vi pre, uu, uu, uu, uu, uu, uu, uu, uu, uu, uu, uu, uu, uu, uu, uu, uu, uu, uu, uu, uu, uu, uu, uu, uu, uu, uu, uu, uu, uu, uu, uu, uu] []) := by
      intro tQ kk
      refine k461 tQ ?_
      refine XS.istore X0.here hx rfl (hb hby at_38) rfl (l' := #[vi p0, vi p1, vi p2, vi p3, vi (1 : Int32), vi (0 : Int32), vi pre, uu, uu, uu, uu, uu, uu, uu, uu, uu, uu, uu, uu, uu, uu, uu, uu, uu, uu, uu, uu, uu, uu, uu, uu, uu, uu, uu, uu, uu, uu, uu, uu]) rfl ?_
      exact kk
    clear k461
    have jn470 : ∃ (adv : Int32), ((((p3 &&& (4 : Int32)) = 0) ∧ adv = (0 : Int32)) ∨ (¬ ((p3 &&& (4 : Int32)) = 0) ∧ adv = (1 : Int32))) ∧ (own_G p e below E0 s₁ (mkF m 51 #[vi p0, vi p1, vi p2, vi p3, vi (1 : Int32), vi (0 : Int32), vi pre, uu, uu, uu, uu, uu, uu, uu, uu, uu, uu, uu, uu, uu, uu, uu, uu, uu, uu, uu, uu, uu, uu, uu, uu, uu, uu, uu, uu, uu, uu, uu, uu] [(.int adv)])) := by
      have k465 : own_G p e below E0 s₁ (mkF m 43 #[vi p0, vi p1, vi p2, vi p3, vi (1 : Int32), vi (0 : Int32), vi pre, uu, uu, uu, uu, uu, uu, uu, uu, uu, uu, uu, uu, uu, uu, uu, uu, uu, uu, uu, uu, uu, uu, uu, uu, uu, uu, uu, uu, uu, uu, uu, uu] [(.int (p3 &&& (4 : Int32)))]) := by
        intro tQ kk
        refine k464 tQ ?_
        refine XS.iloadN X0.here hx rfl (hb hby at_40) rfl ?_
        refine XS.iconst X0.here hx rfl (hb hby at_41) ?_
        refine XS.iand X0.here hx rfl (hb hby at_42) rfl ?_
        exact kk
      clear k464
      by_cases c466 : (p3 &&& (4 : Int32)) = 0
      · skip
        have k467 : own_G p e below E0 s₁ (mkF m 51 #[vi p0, vi p1, vi p2, vi p3, vi (1 : Int32), vi (0 : Int32), vi pre, uu, uu, uu, uu, uu, uu, uu, uu, uu, uu, uu, uu, uu, uu, uu, uu, uu, uu, uu, uu, uu, uu, uu, uu, uu, uu, uu, uu, uu, uu, uu, uu] [(.int (0 : Int32))]) := by
          intro tQ kk
          refine k465 tQ ?_
          refine XS.ifYes X0.here hx rfl (pc0 := 43) (pc' := 50) rfl (hb hby at_43) rfl (own_if_eqY c466) (by decide) (by decide) ?_
          refine XS.iconst X0.here hx rfl (hb hby at_50) ?_
          exact kk
        clear k465
        exact ⟨(0 : Int32), (Or.inl (⟨c466, rfl⟩)), k467⟩
      · skip
        have k468 : own_G p e below E0 s₁ (mkF m 51 #[vi p0, vi p1, vi p2, vi p3, vi (1 : Int32), vi (0 : Int32), vi pre, uu, uu, uu, uu, uu, uu, uu, uu, uu, uu, uu, uu, uu, uu, uu, uu, uu, uu, uu, uu, uu, uu, uu, uu, uu, uu, uu, uu, uu, uu, uu, uu] [(.int (1 : Int32))]) := by
          intro tQ kk
          refine k465 tQ ?_
          refine XS.ifNo X0.here hx rfl (hb hby at_43) rfl (own_if_eqN c466) ?_
          refine XS.iconst X0.here hx rfl (hb hby at_46) ?_
          refine XS.goto X0.here hx rfl (pc0 := 47) (pc' := 51) rfl (hb hby at_47) (by decide) (by decide) ?_
          exact kk
        clear k465
        exact ⟨(1 : Int32), (Or.inr (⟨c466, rfl⟩)), k468⟩
    obtain ⟨adv, hD471, k469⟩ := jn470
    have k472 : own_G p e below E0 s₁ (mkF m 60 #[vi p0, vi p1, vi p2, vi p3, vi (1 : Int32), vi (0 : Int32), vi pre, vi adv, vi ((XT.ushr p3 (3 : Int32)) &&& (3 : Int32)), uu, uu, uu, uu, uu, uu, uu, uu, uu, uu, uu, uu, uu, uu, uu, uu, uu, uu, uu, uu, uu, uu, uu, uu, uu, uu, uu, uu, uu, uu] []) := by
      intro tQ kk
      refine k469 tQ ?_
      refine XS.istore X0.here hx rfl (hb hby at_51) rfl (l' := #[vi p0, vi p1, vi p2, vi p3, vi (1 : Int32), vi (0 : Int32), vi pre, vi adv, uu, uu, uu, uu, uu, uu, uu, uu, uu, uu, uu, uu, uu, uu, uu, uu, uu, uu, uu, uu, uu, uu, uu, uu, uu, uu, uu, uu, uu, uu, uu]) rfl ?_
      refine XS.iloadN X0.here hx rfl (hb hby at_53) rfl ?_
      refine XS.iconst X0.here hx rfl (hb hby at_54) ?_
      refine XT.iushr X0.here hx rfl (hb hby at_55) rfl ?_
      show Steps p.tables e below (s₁.setTop (mkF m 56 #[vi p0, vi p1, vi p2, vi p3, vi (1 : Int32), vi (0 : Int32), vi pre, vi adv, uu, uu, uu, uu, uu, uu, uu, uu, uu, uu, uu, uu, uu, uu, uu, uu, uu, uu, uu, uu, uu, uu, uu, uu, uu, uu, uu, uu, uu, uu, uu] [(.int (XT.ushr p3 (3 : Int32)))])) tQ
      refine XS.iconst X0.here hx rfl (hb hby at_56) ?_
      refine XS.iand X0.here hx rfl (hb hby at_57) rfl ?_
      refine XS.istore X0.here hx rfl (hb hby at_58) rfl (l' := #[vi p0, vi p1, vi p2, vi p3, vi (1 : Int32), vi (0 : Int32), vi pre, vi adv, vi ((XT.ushr p3 (3 : Int32)) &&& (3 : Int32)), uu, uu, uu, uu, uu, uu, uu, uu, uu, uu, uu, uu, uu, uu, uu, uu, uu, uu, uu, uu, uu, uu, uu, uu, uu, uu, uu, uu, uu, uu]) rfl ?_
      exact kk
    clear k469
    have jn478 : ∃ (gl : Int32), ((((p3 &&& (32 : Int32)) = 0) ∧ gl = (0 : Int32)) ∨ (¬ ((p3 &&& (32 : Int32)) = 0) ∧ gl = (1 : Int32))) ∧ (own_G p e below E0 s₁ (mkF m 72 #[vi p0, vi p1, vi p2, vi p3, vi (1 : Int32), vi (0 : Int32), vi pre, vi adv, vi ((XT.ushr p3 (3 : Int32)) &&& (3 : Int32)), uu, uu, uu, uu, uu, uu, uu, uu, uu, uu, uu, uu, uu, uu, uu, uu, uu, uu, uu, uu, uu, uu, uu, uu, uu, uu, uu, uu, uu, uu] [(.int gl)])) := by
      have k473 : own_G p e below E0 s₁ (mkF m 64 #[vi p0, vi p1, vi p2, vi p3, vi (1 : Int32), vi (0 : Int32), vi pre, vi adv, vi ((XT.ushr p3 (3 : Int32)) &&& (3 : Int32)), uu, uu, uu, uu, uu, uu, uu, uu, uu, uu, uu, uu, uu, uu, uu, uu, uu, uu, uu, uu, uu, uu, uu, uu, uu, uu, uu, uu, uu, uu] [(.int (p3 &&& (32 : Int32)))]) := by
        intro tQ kk
        refine k472 tQ ?_
        refine XS.iloadN X0.here hx rfl (hb hby at_60) rfl ?_
        refine XS.bipush X0.here hx rfl (hb hby at_61) ?_
        refine XS.iand X0.here hx rfl (hb hby at_63) rfl ?_
        exact kk
      clear k472
      by_cases c474 : (p3 &&& (32 : Int32)) = 0
      · skip
        have k475 : own_G p e below E0 s₁ (mkF m 72 #[vi p0, vi p1, vi p2, vi p3, vi (1 : Int32), vi (0 : Int32), vi pre, vi adv, vi ((XT.ushr p3 (3 : Int32)) &&& (3 : Int32)), uu, uu, uu, uu, uu, uu, uu, uu, uu, uu, uu, uu, uu, uu, uu, uu, uu, uu, uu, uu, uu, uu, uu, uu, uu, uu, uu, uu, uu, uu] [(.int (0 : Int32))]) := by
          intro tQ kk
          refine k473 tQ ?_
          refine XS.ifYes X0.here hx rfl (pc0 := 64) (pc' := 71) rfl (hb hby at_64) rfl (own_if_eqY c474) (by decide) (by decide) ?_
          refine XS.iconst X0.here hx rfl (hb hby at_71) ?_
          exact kk
        clear k473
        exact ⟨(0 : Int32), (Or.inl (⟨c474, rfl⟩)), k475⟩
      · skip
        have k476 : own_G p e below E0 s₁ (mkF m 72 #[vi p0, vi p1, vi p2, vi p3, vi (1 : Int32), vi (0 : Int32), vi pre, vi adv, vi ((XT.ushr p3 (3 : Int32)) &&& (3 : Int32)), uu, uu, uu, uu, uu, uu, uu, uu, uu, uu, uu, uu, uu, uu, uu, uu, uu, uu, uu, uu, uu, uu, uu, uu, uu, uu, uu, uu, uu, uu] [(.int (1 : Int32))]) := by
          intro tQ kk
          refine k473 tQ ?_
          refine XS.ifNo X0.here hx rfl (hb hby at_64) rfl (own_if_eqN c474) ?_
          refine XS.iconst X0.here hx rfl (hb hby at_67) ?_
          refine XS.goto X0.here hx rfl (pc0 := 68) (pc' := 72) rfl (hb hby at_68) (by decide) (by decide) ?_
          exact kk
        clear k473
        exact ⟨(1 : Int32), (Or.inr (⟨c474, rfl⟩)), k476⟩
    obtain ⟨gl, hD479, k477⟩ := jn478
    have k480 : own_G p e below E0 s₁ (mkF m 78 #[vi p0, vi p1, vi p2, vi p3, vi (1 : Int32), vi (0 : Int32), vi pre, vi adv, vi ((XT.ushr p3 (3 : Int32)) &&& (3 : Int32)), vi gl, vd (FP.i2d p0), ss, uu, uu, uu, uu, uu, uu, uu, uu, uu, uu, uu, uu, uu, uu, uu, uu, uu, uu, uu, uu, uu, uu, uu, uu, uu, uu, uu] []) := by
      intro tQ kk
      refine k477 tQ ?_
      refine XS.istore X0.here hx rfl (hb hby at_72) rfl (l' := #[vi p0, vi p1, vi p2, vi p3, vi (1 : Int32), vi (0 : Int32), vi pre, vi adv, vi ((XT.ushr p3 (3 : Int32)) &&& (3 : Int32)), vi gl, uu, uu, uu, uu, uu, uu, uu, uu, uu, uu, uu, uu, uu, uu, uu, uu, uu, uu, uu, uu, uu, uu, uu, uu, uu, uu, uu, uu, uu]) rfl ?_
      refine XS.iloadN X0.here hx rfl (hb hby at_74) rfl ?_
      refine XS.i2dS X0.here hx rfl (hb hby at_75) rfl rfl ?_
      refine XS.dstore X0.here hx rfl (hb hby at_76) rfl (l' := #[vi p0, vi p1, vi p2, vi p3, vi (1 : Int32), vi (0 : Int32), vi pre, vi adv, vi ((XT.ushr p3 (3 : Int32)) &&& (3 : Int32)), vi gl, vd (FP.i2d p0), ss, uu, uu, uu, uu, uu, uu, uu, uu, uu, uu, uu, uu, uu, uu, uu, uu, uu, uu, uu, uu, uu, uu, uu, uu, uu, uu, uu]) rfl ?_
      exact kk
    clear k477
    obtain ⟨T481, h482, X483, e484, E485, A486, D487, -, st488⟩ := newO X0 hx hZ hown (tw0 hw) (tw1 hw) (tw2 hw) e0 (g := (mkF m 78 #[vi p0, vi p1, vi p2, vi p3, vi (1 : Int32), vi (0 : Int32), vi pre, vi adv, vi ((XT.ushr p3 (3 : Int32)) &&& (3 : Int32)), vi gl, vd (FP.i2d p0), ss, uu, uu, uu, uu, uu, uu, uu, uu, uu, uu, uu, uu, uu, uu, uu, uu, uu, uu, uu, uu, uu, uu, uu, uu, uu, uu, uu] [])) rfl (hb hby at_78) (by decide) (by decide)
    obtain ⟨a489, g490⟩ : ∃ zA : Nat, zA = h0.size := ⟨_, rfl⟩
    rw [← g490] at A486 D487 st488
    have ge491 : n0 ≤ a489 := own_ge_of Z0 g490
    have Z492 : n0 ≤ h482.size := Nat.le_trans Z0 E485.1
    have F493 : Fld Z h482 a489 "com/example/lampwork/lampwork/Glide" "frames" "I" (.int (0 : Int32)) := (D487 (Or.inr (tw27 hw)) (ty := .int) (by decide))
    have F494 : Fld Z h482 a489 "com/example/lampwork/lampwork/Glide" "value" "D" (.double (0 : UInt64)) := (D487 (Or.inl (tw29 hw)) (ty := .double) (by decide))
    have F495 : Fld Z h482 a489 "com/example/lampwork/lampwork/Glide" "target" "D" (.double (0 : UInt64)) := (D487 (Or.inl (tw31 hw)) (ty := .double) (by decide))
    have F496 : Fld Z h482 a489 "com/example/lampwork/lampwork/Glide" "remaining" "I" (.int (0 : Int32)) := (D487 (Or.inl (tw38 hw)) (ty := .int) (by decide))
    have F497 : Fld Z h482 a489 "com/example/lampwork/lampwork/Glide" "step" "D" (.double (0 : UInt64)) := (D487 (Or.inl (tw55 hw)) (ty := .double) (by decide))
    have k498 : own_G p e below E0 T481 (mkF m 81 #[vi p0, vi p1, vi p2, vi p3, vi (1 : Int32), vi (0 : Int32), vi pre, vi adv, vi ((XT.ushr p3 (3 : Int32)) &&& (3 : Int32)), vi gl, vd (FP.i2d p0), ss, uu, uu, uu, uu, uu, uu, uu, uu, uu, uu, uu, uu, uu, uu, uu, uu, uu, uu, uu, uu, uu, uu, uu, uu, uu, uu, uu] [(.ref a489)]) := fun tQ kk => k480 tQ (st488 _ kk)
    clear k480 st488
    have k499 : own_G p e below E0 T481 (mkF m 86 #[vi p0, vi p1, vi p2, vi p3, vi (1 : Int32), vi (0 : Int32), vi pre, vi adv, vi ((XT.ushr p3 (3 : Int32)) &&& (3 : Int32)), vi gl, vd (FP.i2d p0), ss, uu, uu, uu, uu, uu, uu, uu, uu, uu, uu, uu, uu, uu, uu, uu, uu, uu, uu, uu, uu, uu, uu, uu, uu, uu, uu, uu] [(.int (0 : Int32)), (.double (FP.i2d p0)), (.ref a489), (.ref a489)]) := by
      intro tQ kk
      refine k498 tQ ?_
      refine XS.dup X483.here hx rfl (hb hby at_81) rfl rfl ?_
      refine XS.dload X483.here hx rfl (hb hby at_82) rfl ?_
      refine XS.iload X483.here hx rfl (hb hby at_84) rfl ?_
      exact kk
    clear k498
    obtain ⟨_, _, ⟨T500, L501, kc502, nc503⟩, -, X504, ⟨Lc505, hQ506, l507, y508, z509⟩, st510⟩ := X483.specialBack hx (y := mn8) rfl hown (mvT hZ (tw3 hw)) (mvT hZ (tw4 hw)) (mvT hZ (tw5 hw)) (by decide) (backOf (W := 1) (rmI l Z a0 hw [] a489 (FP.i2d p0) (0 : Int32) h482 n0 Z492 A486 F493 F494 F495 F497 F496 ge491 (by decide)) hZ (tw5 hw) (tw2 hw) (by decide) (by decide)) (g := (mkF m 86 #[vi p0, vi p1, vi p2, vi p3, vi (1 : Int32), vi (0 : Int32), vi pre, vi adv, vi ((XT.ushr p3 (3 : Int32)) &&& (3 : Int32)), vi gl, vd (FP.i2d p0), ss, uu, uu, uu, uu, uu, uu, uu, uu, uu, uu, uu, uu, uu, uu, uu, uu, uu, uu, uu, uu, uu, uu, uu, uu, uu, uu, uu] [(.int (0 : Int32)), (.double (FP.i2d p0)), (.ref a489), (.ref a489)])) rfl (by rw [hml]; rfl) (Steps.refl _) (a := a489) (argsL := [(.double (FP.i2d p0)), (.int (0 : Int32))]) (rest := [(.ref a489)]) (lenOf pd_15 rfl) rfl (by show 2 * 0 + _ ≤ _; exact Nat.le_of_eq rfl) (hb hby at_86) (fun _ _ => ⟨rfl, e484, (by decide : 1 + 0 ≤ _), (by decide : 5 + 0 ≤ _)⟩)
    dsimp only [Pt.U, Pt.locs, Pt.cells, Pt.slots] at X504 l507 y508 z509 st510 hQ506
    subst y508 z509
    obtain ⟨rfl, N511, K514, g515, g516, g517, g518, g519⟩ := hQ506
    have N520 : Fr n0 L501 := by rw [l507]; exact Fr.app N0 N511
    clear l507 N511
    have Z521 : n0 ≤ T500.heap.size := Nat.le_trans Z492 K514.1
    clear Z492
    have F522 : xa7 Z T500.heap a489 := A486.keep K514
    clear A486
    clear F493
    clear F494
    clear F495
    clear F496
    clear F497
    have k523 : own_G p e below E0 T500 (mkF m 89 #[vi p0, vi p1, vi p2, vi p3, vi (1 : Int32), vi (0 : Int32), vi pre, vi adv, vi ((XT.ushr p3 (3 : Int32)) &&& (3 : Int32)), vi gl, vd (FP.i2d p0), ss, uu, uu, uu, uu, uu, uu, uu, uu, uu, uu, uu, uu, uu, uu, uu, uu, uu, uu, uu, uu, uu, uu, uu, uu, uu, uu, uu] [(.ref a489)]) := fun tQ kk => k499 tQ (st510.trans kk)
    clear k499 st510
    have eq524 : (own_F (0 : Int32)) = (1 : Int32) := by decide
    have F525 : fd2 Z T500.heap a489 (.int (1 : Int32)) := by rw [← eq524]; exact g515
    have k526 : own_G p e below E0 T500 (mkF m 105 #[vi p0, vi p1, vi p2, vi p3, vi (1 : Int32), vi (0 : Int32), vi pre, vi adv, vi ((XT.ushr p3 (3 : Int32)) &&& (3 : Int32)), vi gl, vd (FP.i2d p0), ss, vr a489, vd (FP.i2d p0), ss, vd (FP.i2d p0), ss, vi (0 : Int32), vi p0, uu, uu, uu, uu, uu, uu, uu, uu, uu, uu, uu, uu, uu, uu, uu, uu, uu, uu, uu, uu] []) := by
      intro tQ kk
      refine k523 tQ ?_
      refine XS.astore X504.here hx rfl (hb hby at_89) rfl rfl (l' := #[vi p0, vi p1, vi p2, vi p3, vi (1 : Int32), vi (0 : Int32), vi pre, vi adv, vi ((XT.ushr p3 (3 : Int32)) &&& (3 : Int32)), vi gl, vd (FP.i2d p0), ss, vr a489, uu, uu, uu, uu, uu, uu, uu, uu, uu, uu, uu, uu, uu, uu, uu, uu, uu, uu, uu, uu, uu, uu, uu, uu, uu, uu]) rfl ?_
      refine XS.dload X504.here hx rfl (hb hby at_91) rfl ?_
      refine XS.dstore X504.here hx rfl (hb hby at_93) rfl (l' := #[vi p0, vi p1, vi p2, vi p3, vi (1 : Int32), vi (0 : Int32), vi pre, vi adv, vi ((XT.ushr p3 (3 : Int32)) &&& (3 : Int32)), vi gl, vd (FP.i2d p0), ss, vr a489, vd (FP.i2d p0), ss, uu, uu, uu, uu, uu, uu, uu, uu, uu, uu, uu, uu, uu, uu, uu, uu, uu, uu, uu, uu, uu, uu, uu, uu]) rfl ?_
      refine XS.dload X504.here hx rfl (hb hby at_95) rfl ?_
      show Steps p.tables e below (T500.setTop (mkF m 97 #[vi p0, vi p1, vi p2, vi p3, vi (1 : Int32), vi (0 : Int32), vi pre, vi adv, vi ((XT.ushr p3 (3 : Int32)) &&& (3 : Int32)), vi gl, vd (FP.i2d p0), ss, vr a489, vd (FP.i2d p0), ss, uu, uu, uu, uu, uu, uu, uu, uu, uu, uu, uu, uu, uu, uu, uu, uu, uu, uu, uu, uu, uu, uu, uu, uu] [(.double (FP.i2d p0))])) tQ
      refine XS.dstore X504.here hx rfl (hb hby at_97) rfl (l' := #[vi p0, vi p1, vi p2, vi p3, vi (1 : Int32), vi (0 : Int32), vi pre, vi adv, vi ((XT.ushr p3 (3 : Int32)) &&& (3 : Int32)), vi gl, vd (FP.i2d p0), ss, vr a489, vd (FP.i2d p0), ss, vd (FP.i2d p0), ss, uu, uu, uu, uu, uu, uu, uu, uu, uu, uu, uu, uu, uu, uu, uu, uu, uu, uu, uu, uu, uu, uu]) rfl ?_
      refine XS.iconst X504.here hx rfl (hb hby at_99) ?_
      refine XS.istore X504.here hx rfl (hb hby at_100) rfl (l' := #[vi p0, vi p1, vi p2, vi p3, vi (1 : Int32), vi (0 : Int32), vi pre, vi adv, vi ((XT.ushr p3 (3 : Int32)) &&& (3 : Int32)), vi gl, vd (FP.i2d p0), ss, vr a489, vd (FP.i2d p0), ss, vd (FP.i2d p0), ss, vi (0 : Int32), uu, uu, uu, uu, uu, uu, uu, uu, uu, uu, uu, uu, uu, uu, uu, uu, uu, uu, uu, uu, uu]) rfl ?_
      refine XS.iloadN X504.here hx rfl (hb hby at_102) rfl ?_
      show Steps p.tables e below (T500.setTop (mkF m 103 #[vi p0, vi p1, vi p2, vi p3, vi (1 : Int32), vi (0 : Int32), vi pre, vi adv, vi ((XT.ushr p3 (3 : Int32)) &&& (3 : Int32)), vi gl, vd (FP.i2d p0), ss, vr a489, vd (FP.i2d p0), ss, vd (FP.i2d p0), ss, vi (0 : Int32), uu, uu, uu, uu, uu, uu, uu, uu, uu, uu, uu, uu, uu, uu, uu, uu, uu, uu, uu, uu, uu] [(.int p0)])) tQ
      refine XS.istore X504.here hx rfl (hb hby at_103) rfl (l' := #[vi p0, vi p1, vi p2, vi p3, vi (1 : Int32), vi (0 : Int32), vi pre, vi adv, vi ((XT.ushr p3 (3 : Int32)) &&& (3 : Int32)), vi gl, vd (FP.i2d p0), ss, vr a489, vd (FP.i2d p0), ss, vd (FP.i2d p0), ss, vi (0 : Int32), vi p0, uu, uu, uu, uu, uu, uu, uu, uu, uu, uu, uu, uu, uu, uu, uu, uu, uu, uu, uu, uu]) rfl ?_
      exact kk
    clear k523
    have jn704 : ∃ (T690 : State), ∃ (h693 : Heap), ∃ (L696 : List Loc), ∃ (mv : UInt64), ∃ (mt : UInt64), ∃ (mr : Int32), ∃ (tI : Int32), ∃ (vl : UInt64), ∃ (sp : UInt64), (own_S (1 : Int32) mv mt mr tI vl mt sp mr) ∧ (Stand p l e room_1 s m #[(.int p0), (.int p1), (.int p2), (.int p3)] below meth c T690 L696 1 5) ∧ (T690.heap = h693) ∧ (Fr n0 L696) ∧ (n0 ≤ h693.size) ∧ (xa7 Z h693 a489) ∧ (fd2 Z h693 a489 (.int (1 : Int32))) ∧ (fd3 Z h693 a489 (.double vl)) ∧ (fd4 Z h693 a489 (.double mt)) ∧ (fd5 Z h693 a489 (.double sp)) ∧ (fd6 Z h693 a489 (.int mr)) ∧ (own_G p e below E0 T690 (mkF m 177 #[vi p0, vi p1, vi p2, vi p3, vi (1 : Int32), vi (0 : Int32), vi pre, vi adv, vi ((XT.ushr p3 (3 : Int32)) &&& (3 : Int32)), vi gl, vd (FP.i2d p0), ss, vr a489, vd mv, ss, vd mt, ss, vi mr, vi tI, uu, uu, uu, uu, uu, uu, uu, uu, uu, uu, uu, uu, uu, uu, uu, uu, uu, uu, uu, uu] [])) := by
      have k527 : own_G p e below E0 T500 (mkF m 107 #[vi p0, vi p1, vi p2, vi p3, vi (1 : Int32), vi (0 : Int32), vi pre, vi adv, vi ((XT.ushr p3 (3 : Int32)) &&& (3 : Int32)), vi gl, vd (FP.i2d p0), ss, vr a489, vd (FP.i2d p0), ss, vd (FP.i2d p0), ss, vi (0 : Int32), vi p0, uu, uu, uu, uu, uu, uu, uu, uu, uu, uu, uu, uu, uu, uu, uu, uu, uu, uu, uu, uu] [(.int pre)]) := by
        intro tQ kk
        refine k526 tQ ?_
        refine XS.iload X504.here hx rfl (hb hby at_105) rfl ?_
        exact kk
      clear k526
      by_cases cpre : pre = 0
      · skip
        have k529 : own_G p e below E0 T500 (mkF m 136 #[vi p0, vi p1, vi p2, vi p3, vi (1 : Int32), vi (0 : Int32), vi pre, vi adv, vi ((XT.ushr p3 (3 : Int32)) &&& (3 : Int32)), vi gl, vd (FP.i2d p0), ss, vr a489, vd (FP.i2d p0), ss, vd (FP.i2d p0), ss, vi (0 : Int32), vi p0, uu, uu, uu, uu, uu, uu, uu, uu, uu, uu, uu, uu, uu, uu, uu, uu, uu, uu, uu, uu] [(.int adv)]) := by
          intro tQ kk
          refine k527 tQ ?_
          refine XS.ifYes X504.here hx rfl (pc0 := 107) (pc' := 134) rfl (hb hby at_107) rfl (own_if_eqY cpre) (by decide) (by decide) ?_
          refine XS.iload X504.here hx rfl (hb hby at_134) rfl ?_
          exact kk
        clear k527
        by_cases cadv : adv = 0
        · skip
          have k531 : own_G p e below E0 T500 (mkF m 177 #[vi p0, vi p1, vi p2, vi p3, vi (1 : Int32), vi (0 : Int32), vi pre, vi adv, vi ((XT.ushr p3 (3 : Int32)) &&& (3 : Int32)), vi gl, vd (FP.i2d p0), ss, vr a489, vd (FP.i2d p0), ss, vd (FP.i2d p0), ss, vi (0 : Int32), vi p0, uu, uu, uu, uu, uu, uu, uu, uu, uu, uu, uu, uu, uu, uu, uu, uu, uu, uu, uu, uu] []) := by
            intro tQ kk
            refine k529 tQ ?_
            refine XS.ifYes X504.here hx rfl (pc0 := 136) (pc' := 177) rfl (hb hby at_136) rfl (own_if_eqY cadv) (by decide) (by decide) ?_
            exact kk
          clear k529
          exact ⟨T500, T500.heap, _, (FP.i2d p0), (FP.i2d p0), (0 : Int32), p0, (FP.i2d p0), (0 : UInt64), (own_S0 _ p0), X504, rfl, N520, Z521, F522, F525, g516, g517, g518, g519, k531⟩
        · skip
          have k532 : own_G p e below E0 T500 (mkF m 141 #[vi p0, vi p1, vi p2, vi p3, vi (1 : Int32), vi (0 : Int32), vi pre, vi adv, vi ((XT.ushr p3 (3 : Int32)) &&& (3 : Int32)), vi gl, vd (FP.i2d p0), ss, vr a489, vd (FP.i2d p0), ss, vd (FP.i2d p0), ss, vi (0 : Int32), vi p0, uu, uu, uu, uu, uu, uu, uu, uu, uu, uu, uu, uu, uu, uu, uu, uu, uu, uu, uu, uu] [(.ref a489)]) := by
            intro tQ kk
            refine k529 tQ ?_
            refine XS.ifNo X504.here hx rfl (hb hby at_136) rfl (own_if_eqN cadv) ?_
            refine XS.aload X504.here hx rfl (hb hby at_139) rfl rfl ?_
            exact kk
          clear k529
          obtain ⟨cq544, kq545, qa546, qb547, qc548⟩ := isOf hZ rfl F522
          obtain ⟨_, _, ⟨T533, L534, kc535, nc536⟩, -, X537, ⟨Lc538, hQ539, l540, y541, z542⟩, st543⟩ := X504.virtualBack hx (y := mn12) (z := mn12) hown (mvT hZ (tw49 hw)) (mvT hZ (tw50 hw)) (notFace_of_selects (args := #[]) (mvT hZ (tw52 hw))) (mvT hZ (tw52 hw)) (mvT hZ (tw51 hw)) (by decide) (backOf (W := 0) (rmN l Z a0 hw [] a489 (1 : Int32) (FP.i2d p0) (FP.i2d p0) (0 : UInt64) (0 : Int32) T500.heap n0 Z521 F522 F525 g516 g517 g518 g519 ge491 (fun z => absurd z (by decide))) hZ (tw53 hw) (tw2 hw) (by decide) (by decide)) qa546 qc548 (g := (mkF m 141 #[vi p0, vi p1, vi p2, vi p3, vi (1 : Int32), vi (0 : Int32), vi pre, vi adv, vi ((XT.ushr p3 (3 : Int32)) &&& (3 : Int32)), vi gl, vd (FP.i2d p0), ss, vr a489, vd (FP.i2d p0), ss, vd (FP.i2d p0), ss, vi (0 : Int32), vi p0, uu, uu, uu, uu, uu, uu, uu, uu, uu, uu, uu, uu, uu, uu, uu, uu, uu, uu, uu, uu] [(.ref a489)])) rfl (by rw [hml]; rfl) (Steps.refl _) (argsL := []) (rest := []) (lenOf pd_16 rfl) rfl (by show 2 * 0 + _ ≤ _; exact Nat.le_of_eq rfl) (hb hby at_141) (fun _ _ => ⟨rfl, rfl, (by decide : 1 + 0 ≤ _), (by decide : 5 + 0 ≤ _)⟩)
          dsimp only [Pt.U, Pt.locs, Pt.cells, Pt.slots] at X537 l540 y541 z542 st543 hQ539
          subst y541 z542
          obtain ⟨rfl, N549, K552, g553, g554, g555, g556, g557⟩ := hQ539
          have N558 : Fr n0 L534 := by rw [l540]; exact Fr.app N520 N549
          clear l540 N549
          have Z559 : n0 ≤ T533.heap.size := Nat.le_trans Z521 K552.1
          clear Z521
          have F560 : xa7 Z T533.heap a489 := F522.keep K552
          clear F522
          clear F525
          clear g516
          clear g517
          clear g518
          clear g519
          have k561 : own_G p e below E0 T533 (mkF m 144 #[vi p0, vi p1, vi p2, vi p3, vi (1 : Int32), vi (0 : Int32), vi pre, vi adv, vi ((XT.ushr p3 (3 : Int32)) &&& (3 : Int32)), vi gl, vd (FP.i2d p0), ss, vr a489, vd (FP.i2d p0), ss, vd (FP.i2d p0), ss, vi (0 : Int32), vi p0, uu, uu, uu, uu, uu, uu, uu, uu, uu, uu, uu, uu, uu, uu, uu, uu, uu, uu, uu, uu] [(.double (own_nv (FP.i2d p0) (FP.i2d p0) (0 : UInt64) (0 : Int32)))]) := fun tQ kk => k532 tQ (st543.trans kk)
          clear k532 st543
          have eq562 : (own_nv (FP.i2d p0) (FP.i2d p0) (0 : UInt64) (0 : Int32)) = (FP.i2d p0) := by rw [own_nv, if_neg (by decide)]
          have F563 : fd3 Z T533.heap a489 (.double (FP.i2d p0)) := by rw [← eq562]; exact g554
          have eq564 : (own_nr (0 : Int32)) = (0 : Int32) := by decide
          have F565 : fd6 Z T533.heap a489 (.int (0 : Int32)) := by rw [← eq564]; exact g557
          have eq566 : (own_nv (FP.i2d p0) (FP.i2d p0) (0 : UInt64) (0 : Int32)) = (FP.i2d p0) := by rw [own_nv, if_neg (by decide)]
          rw [eq566] at k561
          have k567 : own_G p e below E0 T533 (mkF m 177 #[vi p0, vi p1, vi p2, vi p3, vi (1 : Int32), vi (0 : Int32), vi pre, vi adv, vi ((XT.ushr p3 (3 : Int32)) &&& (3 : Int32)), vi gl, vd (FP.i2d p0), ss, vr a489, vd (FP.i2d p0), ss, vd (FP.i2d p0), ss, vi (0 : Int32), vi p0, uu, uu, uu, uu, uu, uu, uu, uu, uu, uu, uu, uu, uu, uu, uu, uu, uu, uu, uu, uu] []) := by
            intro tQ kk
            refine k561 tQ ?_
            refine own_pop2D X537.here hx rfl (hb hby at_144) rfl ?_
            refine XS.iload X537.here hx rfl (hb hby at_145) rfl ?_
            refine XS.ifYes X537.here hx rfl (pc0 := 147) (pc' := 177) rfl (hb hby at_147) rfl (own_if_leY (by decide)) (by decide) (by decide) ?_
            exact kk
          clear k561
          exact ⟨T533, T533.heap, _, (FP.i2d p0), (FP.i2d p0), (0 : Int32), p0, (FP.i2d p0), (0 : UInt64), (own_S0 _ p0), X537, rfl, N558, Z559, F560, g553, F563, g555, g556, F565, k567⟩
      · skip
        have k568 : own_G p e below E0 T500 (mkF m 115 #[vi p0, vi p1, vi p2, vi p3, vi (1 : Int32), vi (0 : Int32), vi pre, vi adv, vi ((XT.ushr p3 (3 : Int32)) &&& (3 : Int32)), vi gl, vd (FP.i2d p0), ss, vr a489, vd (FP.i2d p0), ss, vd (FP.i2d p0), ss, vi (0 : Int32), vi p0, uu, uu, uu, uu, uu, uu, uu, uu, uu, uu, uu, uu, uu, uu, uu, uu, uu, uu, uu, uu] [(.int (1 : Int32)), (.double (FP.i2d p1)), (.ref a489)]) := by
          intro tQ kk
          refine k527 tQ ?_
          refine XS.ifNo X504.here hx rfl (hb hby at_107) rfl (own_if_eqN cpre) ?_
          refine XS.aload X504.here hx rfl (hb hby at_110) rfl rfl ?_
          refine XS.iloadN X504.here hx rfl (hb hby at_112) rfl ?_
          refine XS.i2dS X504.here hx rfl (hb hby at_113) rfl rfl ?_
          show Steps p.tables e below (T500.setTop (mkF m 114 #[vi p0, vi p1, vi p2, vi p3, vi (1 : Int32), vi (0 : Int32), vi pre, vi adv, vi ((XT.ushr p3 (3 : Int32)) &&& (3 : Int32)), vi gl, vd (FP.i2d p0), ss, vr a489, vd (FP.i2d p0), ss, vd (FP.i2d p0), ss, vi (0 : Int32), vi p0, uu, uu, uu, uu, uu, uu, uu, uu, uu, uu, uu, uu, uu, uu, uu, uu, uu, uu, uu, uu] [(.double (FP.i2d p1)), (.ref a489)])) tQ
          refine XS.iconst X504.here hx rfl (hb hby at_114) ?_
          exact kk
        clear k527
        obtain ⟨cq580, kq581, qa582, qb583, qc584⟩ := isOf hZ rfl F522
        obtain ⟨_, _, ⟨T569, L570, kc571, nc572⟩, -, X573, ⟨Lc574, hQ575, l576, y577, z578⟩, st579⟩ := X504.virtualBack hx (y := mn11) (z := mn11) hown (mvT hZ (tw32 hw)) (mvT hZ (tw33 hw)) (notFace_of_selects (args := #[]) (mvT hZ (tw35 hw))) (mvT hZ (tw35 hw)) (mvT hZ (tw34 hw)) (by decide) (backOf (W := 0) (rmS1 l Z a0 hw [] a489 (FP.i2d p1) (1 : Int32) (FP.i2d p0) (FP.i2d p0) (0 : UInt64) (0 : Int32) T500.heap n0 Z521 F522 F525 g516 g517 g518 g519 ge491 (Fl.i2d_fin p1).noNaN (Fl.i2d_fin p0).noNaN (fun _ => ⟨Fl.dsub_out (Fl.i2d_fin p1).noNaN (Fl.i2d_fin p0), (own_fsp0 p0 p1 (F := (1 : Int32)) (by decide)).noNaN⟩)) hZ (tw36 hw) (tw2 hw) (by decide) (by decide)) qa582 qc584 (g := (mkF m 115 #[vi p0, vi p1, vi p2, vi p3, vi (1 : Int32), vi (0 : Int32), vi pre, vi adv, vi ((XT.ushr p3 (3 : Int32)) &&& (3 : Int32)), vi gl, vd (FP.i2d p0), ss, vr a489, vd (FP.i2d p0), ss, vd (FP.i2d p0), ss, vi (0 : Int32), vi p0, uu, uu, uu, uu, uu, uu, uu, uu, uu, uu, uu, uu, uu, uu, uu, uu, uu, uu, uu, uu] [(.int (1 : Int32)), (.double (FP.i2d p1)), (.ref a489)])) rfl (by rw [hml]; rfl) (Steps.refl _) (argsL := [(.double (FP.i2d p1)), (.int (1 : Int32))]) (rest := []) (lenOf pd_17 rfl) rfl (by show 2 * 0 + _ ≤ _; exact Nat.le_of_eq rfl) (hb hby at_115) (fun _ _ => ⟨rfl, rfl, (by decide : 1 + 0 ≤ _), (by decide : 5 + 0 ≤ _)⟩)
        dsimp only [Pt.U, Pt.locs, Pt.cells, Pt.slots] at X573 l576 y577 z578 st579 hQ575
        subst y577 z578
        obtain ⟨rfl, N585, K588, g589, g590, g591, g592, g593⟩ := hQ575
        have N594 : Fr n0 L570 := by rw [l576]; exact Fr.app N520 N585
        clear l576 N585
        have Z595 : n0 ≤ T569.heap.size := Nat.le_trans Z521 K588.1
        clear Z521
        have F596 : xa7 Z T569.heap a489 := F522.keep K588
        clear F522
        clear F525
        clear g516
        clear g517
        clear g518
        clear g519
        have k597 : own_G p e below E0 T569 (mkF m 118 #[vi p0, vi p1, vi p2, vi p3, vi (1 : Int32), vi (0 : Int32), vi pre, vi adv, vi ((XT.ushr p3 (3 : Int32)) &&& (3 : Int32)), vi gl, vd (FP.i2d p0), ss, vr a489, vd (FP.i2d p0), ss, vd (FP.i2d p0), ss, vi (0 : Int32), vi p0, uu, uu, uu, uu, uu, uu, uu, uu, uu, uu, uu, uu, uu, uu, uu, uu, uu, uu, uu, uu] []) := fun tQ kk => k568 tQ (st579.trans kk)
        clear k568 st579
        have k598 : own_G p e below E0 T569 (mkF m 120 #[vi p0, vi p1, vi p2, vi p3, vi (1 : Int32), vi (0 : Int32), vi pre, vi adv, vi ((XT.ushr p3 (3 : Int32)) &&& (3 : Int32)), vi gl, vd (FP.i2d p0), ss, vr a489, vd (FP.i2d p0), ss, vd (FP.i2d p0), ss, vi (0 : Int32), vi p0, uu, uu, uu, uu, uu, uu, uu, uu, uu, uu, uu, uu, uu, uu, uu, uu, uu, uu, uu, uu] [(.int p0), (.int p1)]) := by
          intro tQ kk
          refine k597 tQ ?_
          refine XS.iloadN X573.here hx rfl (hb hby at_118) rfl ?_
          refine XS.iloadN X573.here hx rfl (hb hby at_119) rfl ?_
          exact kk
        clear k597
        by_cases cba : p1 = p0
        · skip
          have hzE : own_z (FP.i2d p1) = own_z (FP.i2d p0) := by rw [cba]
          have eq600 : (own_tg (FP.i2d p1) (FP.i2d p0)) = (FP.i2d p0) := by rw [own_tg, if_pos hzE]
          have F601 : fd4 Z T569.heap a489 (.double (FP.i2d p0)) := by rw [← eq600]; exact g591
          have eq602 : (own_sp (FP.i2d p1) (FP.i2d p0) (FP.i2d p0) (0 : UInt64) (1 : Int32)) = (0 : UInt64) := by rw [own_sp, if_pos hzE]
          have F603 : fd5 Z T569.heap a489 (.double (0 : UInt64)) := by rw [← eq602]; exact g592
          have eq604 : (own_rm (FP.i2d p1) (FP.i2d p0) (0 : Int32) (1 : Int32)) = (0 : Int32) := by rw [own_rm, if_pos hzE]
          have F605 : fd6 Z T569.heap a489 (.int (0 : Int32)) := by rw [← eq604]; exact g593
          have k606 : own_G p e below E0 T569 (mkF m 136 #[vi p0, vi p1, vi p2, vi p3, vi (1 : Int32), vi (0 : Int32), vi pre, vi adv, vi ((XT.ushr p3 (3 : Int32)) &&& (3 : Int32)), vi gl, vd (FP.i2d p0), ss, vr a489, vd (FP.i2d p0), ss, vd (FP.i2d p0), ss, vi (0 : Int32), vi p0, uu, uu, uu, uu, uu, uu, uu, uu, uu, uu, uu, uu, uu, uu, uu, uu, uu, uu, uu, uu] [(.int adv)]) := by
            intro tQ kk
            refine k598 tQ ?_
            refine XS.icmpYes X573.here hx rfl (pc0 := 120) (pc' := 134) rfl (hb hby at_120) rfl (own_ic_eqY cba) (by decide) (by decide) ?_
            refine XS.iload X573.here hx rfl (hb hby at_134) rfl ?_
            exact kk
          clear k598
          by_cases cadv : adv = 0
          · skip
            have k608 : own_G p e below E0 T569 (mkF m 177 #[vi p0, vi p1, vi p2, vi p3, vi (1 : Int32), vi (0 : Int32), vi pre, vi adv, vi ((XT.ushr p3 (3 : Int32)) &&& (3 : Int32)), vi gl, vd (FP.i2d p0), ss, vr a489, vd (FP.i2d p0), ss, vd (FP.i2d p0), ss, vi (0 : Int32), vi p0, uu, uu, uu, uu, uu, uu, uu, uu, uu, uu, uu, uu, uu, uu, uu, uu, uu, uu, uu, uu] []) := by
              intro tQ kk
              refine k606 tQ ?_
              refine XS.ifYes X573.here hx rfl (pc0 := 136) (pc' := 177) rfl (hb hby at_136) rfl (own_if_eqY cadv) (by decide) (by decide) ?_
              exact kk
            clear k606
            exact ⟨T569, T569.heap, _, (FP.i2d p0), (FP.i2d p0), (0 : Int32), p0, (FP.i2d p0), (0 : UInt64), (own_S0 _ p0), X573, rfl, N594, Z595, F596, g589, g590, F601, F603, F605, k608⟩
          · skip
            have k609 : own_G p e below E0 T569 (mkF m 141 #[vi p0, vi p1, vi p2, vi p3, vi (1 : Int32), vi (0 : Int32), vi pre, vi adv, vi ((XT.ushr p3 (3 : Int32)) &&& (3 : Int32)), vi gl, vd (FP.i2d p0), ss, vr a489, vd (FP.i2d p0), ss, vd (FP.i2d p0), ss, vi (0 : Int32), vi p0, uu, uu, uu, uu, uu, uu, uu, uu, uu, uu, uu, uu, uu, uu, uu, uu, uu, uu, uu, uu] [(.ref a489)]) := by
              intro tQ kk
              refine k606 tQ ?_
              refine XS.ifNo X573.here hx rfl (hb hby at_136) rfl (own_if_eqN cadv) ?_
              refine XS.aload X573.here hx rfl (hb hby at_139) rfl rfl ?_
              exact kk
            clear k606
            obtain ⟨cq621, kq622, qa623, qb624, qc625⟩ := isOf hZ rfl F596
            obtain ⟨_, _, ⟨T610, L611, kc612, nc613⟩, -, X614, ⟨Lc615, hQ616, l617, y618, z619⟩, st620⟩ := X573.virtualBack hx (y := mn12) (z := mn12) hown (mvT hZ (tw49 hw)) (mvT hZ (tw50 hw)) (notFace_of_selects (args := #[]) (mvT hZ (tw52 hw))) (mvT hZ (tw52 hw)) (mvT hZ (tw51 hw)) (by decide) (backOf (W := 0) (rmN l Z a0 hw [] a489 (1 : Int32) (FP.i2d p0) (FP.i2d p0) (0 : UInt64) (0 : Int32) T569.heap n0 Z595 F596 g589 g590 F601 F603 F605 ge491 (fun z => absurd z (by decide))) hZ (tw53 hw) (tw2 hw) (by decide) (by decide)) qa623 qc625 (g := (mkF m 141 #[vi p0, vi p1, vi p2, vi p3, vi (1 : Int32), vi (0 : Int32), vi pre, vi adv, vi ((XT.ushr p3 (3 : Int32)) &&& (3 : Int32)), vi gl, vd (FP.i2d p0), ss, vr a489, vd (FP.i2d p0), ss, vd (FP.i2d p0), ss, vi (0 : Int32), vi p0, uu, uu, uu, uu, uu, uu, uu, uu, uu, uu, uu, uu, uu, uu, uu, uu, uu, uu, uu, uu] [(.ref a489)])) rfl (by rw [hml]; rfl) (Steps.refl _) (argsL := []) (rest := []) (lenOf pd_16 rfl) rfl (by show 2 * 0 + _ ≤ _; exact Nat.le_of_eq rfl) (hb hby at_141) (fun _ _ => ⟨rfl, rfl, (by decide : 1 + 0 ≤ _), (by decide : 5 + 0 ≤ _)⟩)
            dsimp only [Pt.U, Pt.locs, Pt.cells, Pt.slots] at X614 l617 y618 z619 st620 hQ616
            subst y618 z619
            obtain ⟨rfl, N626, K629, g630, g631, g632, g633, g634⟩ := hQ616
            have N635 : Fr n0 L611 := by rw [l617]; exact Fr.app N594 N626
            clear l617 N626
            have Z636 : n0 ≤ T610.heap.size := Nat.le_trans Z595 K629.1
            clear Z595
            have F637 : xa7 Z T610.heap a489 := F596.keep K629
            clear F596
            clear g589
            clear g590
            clear F601
            clear F603
            clear F605
            have k638 : own_G p e below E0 T610 (mkF m 144 #[vi p0, vi p1, vi p2, vi p3, vi (1 : Int32), vi (0 : Int32), vi pre, vi adv, vi ((XT.ushr p3 (3 : Int32)) &&& (3 : Int32)), vi gl, vd (FP.i2d p0), ss, vr a489, vd (FP.i2d p0), ss, vd (FP.i2d p0), ss, vi (0 : Int32), vi p0, uu, uu, uu, uu, uu, uu, uu, uu, uu, uu, uu, uu, uu, uu, uu, uu, uu, uu, uu, uu] [(.double (own_nv (FP.i2d p0) (FP.i2d p0) (0 : UInt64) (0 : Int32)))]) := fun tQ kk => k609 tQ (st620.trans kk)
            clear k609 st620
            have eq639 : (own_nv (FP.i2d p0) (FP.i2d p0) (0 : UInt64) (0 : Int32)) = (FP.i2d p0) := by rw [own_nv, if_neg (by decide)]
            have F640 : fd3 Z T610.heap a489 (.double (FP.i2d p0)) := by rw [← eq639]; exact g631
            have eq641 : (own_nr (0 : Int32)) = (0 : Int32) := by decide
            have F642 : fd6 Z T610.heap a489 (.int (0 : Int32)) := by rw [← eq641]; exact g634
            have eq643 : (own_nv (FP.i2d p0) (FP.i2d p0) (0 : UInt64) (0 : Int32)) = (FP.i2d p0) := by rw [own_nv, if_neg (by decide)]
            rw [eq643] at k638
            have k644 : own_G p e below E0 T610 (mkF m 177 #[vi p0, vi p1, vi p2, vi p3, vi (1 : Int32), vi (0 : Int32), vi pre, vi adv, vi ((XT.ushr p3 (3 : Int32)) &&& (3 : Int32)), vi gl, vd (FP.i2d p0), ss, vr a489, vd (FP.i2d p0), ss, vd (FP.i2d p0), ss, vi (0 : Int32), vi p0, uu, uu, uu, uu, uu, uu, uu, uu, uu, uu, uu, uu, uu, uu, uu, uu, uu, uu, uu, uu] []) := by
              intro tQ kk
              refine k638 tQ ?_
              refine own_pop2D X614.here hx rfl (hb hby at_144) rfl ?_
              refine XS.iload X614.here hx rfl (hb hby at_145) rfl ?_
              refine XS.ifYes X614.here hx rfl (pc0 := 147) (pc' := 177) rfl (hb hby at_147) rfl (own_if_leY (by decide)) (by decide) (by decide) ?_
              exact kk
            clear k638
            exact ⟨T610, T610.heap, _, (FP.i2d p0), (FP.i2d p0), (0 : Int32), p0, (FP.i2d p0), (0 : UInt64), (own_S0 _ p0), X614, rfl, N635, Z636, F637, g630, F640, g632, g633, F642, k644⟩
        · skip
          have hzN : ¬ own_z (FP.i2d p1) = own_z (FP.i2d p0) := fun z => cba (own_zeq32 z)
          have eq645 : (own_tg (FP.i2d p1) (FP.i2d p0)) = (FP.i2d p1) := by rw [own_tg, if_neg hzN]
          have F646 : fd4 Z T569.heap a489 (.double (FP.i2d p1)) := by rw [← eq645]; exact g591
          have eq647 : (own_sp (FP.i2d p1) (FP.i2d p0) (FP.i2d p0) (0 : UInt64) (1 : Int32)) = (FP.ddiv (FP.dsub (FP.i2d p1) (FP.i2d p0)) (FP.i2d (1 : Int32))) := by rw [own_sp, if_neg hzN]
          have F648 : fd5 Z T569.heap a489 (.double (FP.ddiv (FP.dsub (FP.i2d p1) (FP.i2d p0)) (FP.i2d (1 : Int32)))) := by rw [← eq647]; exact g592
          have eq649 : (own_rm (FP.i2d p1) (FP.i2d p0) (0 : Int32) (1 : Int32)) = (1 : Int32) := by rw [own_rm, if_neg hzN]
          have F650 : fd6 Z T569.heap a489 (.int (1 : Int32)) := by rw [← eq649]; exact g593
          have k651 : own_G p e below E0 T569 (mkF m 136 #[vi p0, vi p1, vi p2, vi p3, vi (1 : Int32), vi (0 : Int32), vi pre, vi adv, vi ((XT.ushr p3 (3 : Int32)) &&& (3 : Int32)), vi gl, vd (FP.i2d p0), ss, vr a489, vd (FP.i2d p0), ss, vd (FP.i2d p1), ss, vi (1 : Int32), vi p1, uu, uu, uu, uu, uu, uu, uu, uu, uu, uu, uu, uu, uu, uu, uu, uu, uu, uu, uu, uu] [(.int adv)]) := by
            intro tQ kk
            refine k598 tQ ?_
            refine XS.icmpNo X573.here hx rfl (hb hby at_120) rfl (own_ic_eqN cba) ?_
            refine XS.iloadN X573.here hx rfl (hb hby at_123) rfl ?_
            refine XS.i2dS X573.here hx rfl (hb hby at_124) rfl rfl ?_
            refine XS.dstore X573.here hx rfl (hb hby at_125) rfl (l' := #[vi p0, vi p1, vi p2, vi p3, vi (1 : Int32), vi (0 : Int32), vi pre, vi adv, vi ((XT.ushr p3 (3 : Int32)) &&& (3 : Int32)), vi gl, vd (FP.i2d p0), ss, vr a489, vd (FP.i2d p0), ss, vd (FP.i2d p1), ss, vi (0 : Int32), vi p0, uu, uu, uu, uu, uu, uu, uu, uu, uu, uu, uu, uu, uu, uu, uu, uu, uu, uu, uu, uu]) rfl ?_
            show Steps p.tables e below (T569.setTop (mkF m 127 #[vi p0, vi p1, vi p2, vi p3, vi (1 : Int32), vi (0 : Int32), vi pre, vi adv, vi ((XT.ushr p3 (3 : Int32)) &&& (3 : Int32)), vi gl, vd (FP.i2d p0), ss, vr a489, vd (FP.i2d p0), ss, vd (FP.i2d p1), ss, vi (0 : Int32), vi p0, uu, uu, uu, uu, uu, uu, uu, uu, uu, uu, uu, uu, uu, uu, uu, uu, uu, uu, uu, uu] [])) tQ
            refine XS.iload X573.here hx rfl (hb hby at_127) rfl ?_
            refine XS.istore X573.here hx rfl (hb hby at_129) rfl (l' := #[vi p0, vi p1, vi p2, vi p3, vi (1 : Int32), vi (0 : Int32), vi pre, vi adv, vi ((XT.ushr p3 (3 : Int32)) &&& (3 : Int32)), vi gl, vd (FP.i2d p0), ss, vr a489, vd (FP.i2d p0), ss, vd (FP.i2d p1), ss, vi (1 : Int32), vi p0, uu, uu, uu, uu, uu, uu, uu, uu, uu, uu, uu, uu, uu, uu, uu, uu, uu, uu, uu, uu]) rfl ?_
            refine XS.iloadN X573.here hx rfl (hb hby at_131) rfl ?_
            refine XS.istore X573.here hx rfl (hb hby at_132) rfl (l' := #[vi p0, vi p1, vi p2, vi p3, vi (1 : Int32), vi (0 : Int32), vi pre, vi adv, vi ((XT.ushr p3 (3 : Int32)) &&& (3 : Int32)), vi gl, vd (FP.i2d p0), ss, vr a489, vd (FP.i2d p0), ss, vd (FP.i2d p1), ss, vi (1 : Int32), vi p1, uu, uu, uu, uu, uu, uu, uu, uu, uu, uu, uu, uu, uu, uu, uu, uu, uu, uu, uu, uu]) rfl ?_
            show Steps p.tables e below (T569.setTop (mkF m 134 #[vi p0, vi p1, vi p2, vi p3, vi (1 : Int32), vi (0 : Int32), vi pre, vi adv, vi ((XT.ushr p3 (3 : Int32)) &&& (3 : Int32)), vi gl, vd (FP.i2d p0), ss, vr a489, vd (FP.i2d p0), ss, vd (FP.i2d p1), ss, vi (1 : Int32), vi p1, uu, uu, uu, uu, uu, uu, uu, uu, uu, uu, uu, uu, uu, uu, uu, uu, uu, uu, uu, uu] [])) tQ
            refine XS.iload X573.here hx rfl (hb hby at_134) rfl ?_
            exact kk
          clear k598
          by_cases cadv : adv = 0
          · skip
            have k653 : own_G p e below E0 T569 (mkF m 177 #[vi p0, vi p1, vi p2, vi p3, vi (1 : Int32), vi (0 : Int32), vi pre, vi adv, vi ((XT.ushr p3 (3 : Int32)) &&& (3 : Int32)), vi gl, vd (FP.i2d p0), ss, vr a489, vd (FP.i2d p0), ss, vd (FP.i2d p1), ss, vi (1 : Int32), vi p1, uu, uu, uu, uu, uu, uu, uu, uu, uu, uu, uu, uu, uu, uu, uu, uu, uu, uu, uu, uu] []) := by
              intro tQ kk
              refine k651 tQ ?_
              refine XS.ifYes X573.here hx rfl (pc0 := 136) (pc' := 177) rfl (hb hby at_136) rfl (own_if_eqY cadv) (by decide) (by decide) ?_
              exact kk
            clear k651
            exact ⟨T569, T569.heap, _, (FP.i2d p0), (FP.i2d p1), (1 : Int32), p1, (FP.i2d p0), (FP.ddiv (FP.dsub (FP.i2d p1) (FP.i2d p0)) (FP.i2d (1 : Int32))), (own_Sn1 p0 p1), X573, rfl, N594, Z595, F596, g589, g590, F646, F648, F650, k653⟩
          · skip
            have k654 : own_G p e below E0 T569 (mkF m 141 #[vi p0, vi p1, vi p2, vi p3, vi (1 : Int32), vi (0 : Int32), vi pre, vi adv, vi ((XT.ushr p3 (3 : Int32)) &&& (3 : Int32)), vi gl, vd (FP.i2d p0), ss, vr a489, vd (FP.i2d p0), ss, vd (FP.i2d p1), ss, vi (1 : Int32), vi p1, uu, uu, uu, uu, uu, uu, uu, uu, uu, uu, uu, uu, uu, uu, uu, uu, uu, uu, uu, uu] [(.ref a489)]) := by
              intro tQ kk
              refine k651 tQ ?_
              refine XS.ifNo X573.here hx rfl (hb hby at_136) rfl (own_if_eqN cadv) ?_
              refine XS.aload X573.here hx rfl (hb hby at_139) rfl rfl ?_
              exact kk
            clear k651
            obtain ⟨cq666, kq667, qa668, qb669, qc670⟩ := isOf hZ rfl F596
            obtain ⟨_, _, ⟨T655, L656, kc657, nc658⟩, -, X659, ⟨Lc660, hQ661, l662, y663, z664⟩, st665⟩ := X573.virtualBack hx (y := mn12) (z := mn12) hown (mvT hZ (tw49 hw)) (mvT hZ (tw50 hw)) (notFace_of_selects (args := #[]) (mvT hZ (tw52 hw))) (mvT hZ (tw52 hw)) (mvT hZ (tw51 hw)) (by decide) (backOf (W := 0) (rmN l Z a0 hw [] a489 (1 : Int32) (FP.i2d p0) (FP.i2d p1) (FP.ddiv (FP.dsub (FP.i2d p1) (FP.i2d p0)) (FP.i2d (1 : Int32))) (1 : Int32) T569.heap n0 Z595 F596 g589 g590 F646 F648 F650 ge491 (fun _ => own_nn1 (own_fsp0 p0 p1 (F := (1 : Int32)) (by decide)) (Fl.i2d_fin p1))) hZ (tw53 hw) (tw2 hw) (by decide) (by decide)) qa668 qc670 (g := (mkF m 141 #[vi p0, vi p1, vi p2, vi p3, vi (1 : Int32), vi (0 : Int32), vi pre, vi adv, vi ((XT.ushr p3 (3 : Int32)) &&& (3 : Int32)), vi gl, vd (FP.i2d p0), ss, vr a489, vd (FP.i2d p0), ss, vd (FP.i2d p1), ss, vi (1 : Int32), vi p1, uu, uu, uu, uu, uu, uu, uu, uu, uu, uu, uu, uu, uu, uu, uu, uu, uu, uu, uu, uu] [(.ref a489)])) rfl (by rw [hml]; rfl) (Steps.refl _) (argsL := []) (rest := []) (lenOf pd_16 rfl) rfl (by show 2 * 0 + _ ≤ _; exact Nat.le_of_eq rfl) (hb hby at_141) (fun _ _ => ⟨rfl, rfl, (by decide : 1 + 0 ≤ _), (by decide : 5 + 0 ≤ _)⟩)
            dsimp only [Pt.U, Pt.locs, Pt.cells, Pt.slots] at X659 l662 y663 z664 st665 hQ661
            subst y663 z664
            obtain ⟨rfl, N671, K674, g675, g676, g677, g678, g679⟩ := hQ661
            have N680 : Fr n0 L656 := by rw [l662]; exact Fr.app N594 N671
            clear l662 N671
            have Z681 : n0 ≤ T655.heap.size := Nat.le_trans Z595 K674.1
            clear Z595
            have F682 : xa7 Z T655.heap a489 := F596.keep K674
            clear F596
            clear g589
            clear g590
            clear F646
            clear F648
            clear F650
            have k683 : own_G p e below E0 T655 (mkF m 144 #[vi p0, vi p1, vi p2, vi p3, vi (1 : Int32), vi (0 : Int32), vi pre, vi adv, vi ((XT.ushr p3 (3 : Int32)) &&& (3 : Int32)), vi gl, vd (FP.i2d p0), ss, vr a489, vd (FP.i2d p0), ss, vd (FP.i2d p1), ss, vi (1 : Int32), vi p1, uu, uu, uu, uu, uu, uu, uu, uu, uu, uu, uu, uu, uu, uu, uu, uu, uu, uu, uu, uu] [(.double (own_nv (FP.i2d p0) (FP.i2d p1) (FP.ddiv (FP.dsub (FP.i2d p1) (FP.i2d p0)) (FP.i2d (1 : Int32))) (1 : Int32)))]) := fun tQ kk => k654 tQ (st665.trans kk)
            clear k654 st665
            have eq684 : (own_nv (FP.i2d p0) (FP.i2d p1) (FP.ddiv (FP.dsub (FP.i2d p1) (FP.i2d p0)) (FP.i2d (1 : Int32))) (1 : Int32)) = (FP.dsub (FP.i2d p1) (FP.dmul (FP.i2d (0 : Int32)) (FP.ddiv (FP.dsub (FP.i2d p1) (FP.i2d p0)) (FP.i2d (1 : Int32))))) := by rw [own_nv, if_pos (by decide), show (1 : Int32) - 1 = (0 : Int32) by decide]
            have F685 : fd3 Z T655.heap a489 (.double (FP.dsub (FP.i2d p1) (FP.dmul (FP.i2d (0 : Int32)) (FP.ddiv (FP.dsub (FP.i2d p1) (FP.i2d p0)) (FP.i2d (1 : Int32)))))) := by rw [← eq684]; exact g676
            have eq686 : (own_nr (1 : Int32)) = (0 : Int32) := by decide
            have F687 : fd6 Z T655.heap a489 (.int (0 : Int32)) := by rw [← eq686]; exact g679
            have eq688 : (own_nv (FP.i2d p0) (FP.i2d p1) (FP.ddiv (FP.dsub (FP.i2d p1) (FP.i2d p0)) (FP.i2d (1 : Int32))) (1 : Int32)) = (FP.dsub (FP.i2d p1) (FP.dmul (FP.i2d (0 : Int32)) (FP.ddiv (FP.dsub (FP.i2d p1) (FP.i2d p0)) (FP.i2d (1 : Int32))))) := by rw [own_nv, if_pos (by decide), show (1 : Int32) - 1 = (0 : Int32) by decide]
            rw [eq688] at k683
            have k689 : own_G p e below E0 T655 (mkF m 177 #[vi p0, vi p1, vi p2, vi p3, vi (1 : Int32), vi (0 : Int32), vi pre, vi adv, vi ((XT.ushr p3 (3 : Int32)) &&& (3 : Int32)), vi gl, vd (FP.i2d p0), ss, vr a489, vd (FP.i2d p1), ss, vd (FP.i2d p1), ss, vi (0 : Int32), vi p1, uu, uu, uu, uu, uu, uu, uu, uu, uu, uu, uu, uu, uu, uu, uu, uu, uu, uu, uu, uu] []) := by
              intro tQ kk
              refine k683 tQ ?_
              refine own_pop2D X659.here hx rfl (hb hby at_144) rfl ?_
              refine XS.iload X659.here hx rfl (hb hby at_145) rfl ?_
              refine XS.ifNo X659.here hx rfl (hb hby at_147) rfl (own_if_leN (by decide)) ?_
              refine XS.iload X659.here hx rfl (hb hby at_150) rfl ?_
              show Steps p.tables e below (T655.setTop (mkF m 152 #[vi p0, vi p1, vi p2, vi p3, vi (1 : Int32), vi (0 : Int32), vi pre, vi adv, vi ((XT.ushr p3 (3 : Int32)) &&& (3 : Int32)), vi gl, vd (FP.i2d p0), ss, vr a489, vd (FP.i2d p0), ss, vd (FP.i2d p1), ss, vi (1 : Int32), vi p1, uu, uu, uu, uu, uu, uu, uu, uu, uu, uu, uu, uu, uu, uu, uu, uu, uu, uu, uu, uu] [(.int (1 : Int32))])) tQ
              refine XS.iconst X659.here hx rfl (hb hby at_152) ?_
              refine XS.isub X659.here hx rfl (hb hby at_153) rfl ?_
              refine XS.istore X659.here hx rfl (hb hby at_154) rfl (l' := #[vi p0, vi p1, vi p2, vi p3, vi (1 : Int32), vi (0 : Int32), vi pre, vi adv, vi ((XT.ushr p3 (3 : Int32)) &&& (3 : Int32)), vi gl, vd (FP.i2d p0), ss, vr a489, vd (FP.i2d p0), ss, vd (FP.i2d p1), ss, vi (0 : Int32), vi p1, uu, uu, uu, uu, uu, uu, uu, uu, uu, uu, uu, uu, uu, uu, uu, uu, uu, uu, uu, uu]) rfl ?_
              refine XS.iload X659.here hx rfl (hb hby at_156) rfl ?_
              show Steps p.tables e below (T655.setTop (mkF m 158 #[vi p0, vi p1, vi p2, vi p3, vi (1 : Int32), vi (0 : Int32), vi pre, vi adv, vi ((XT.ushr p3 (3 : Int32)) &&& (3 : Int32)), vi gl, vd (FP.i2d p0), ss, vr a489, vd (FP.i2d p0), ss, vd (FP.i2d p1), ss, vi (0 : Int32), vi p1, uu, uu, uu, uu, uu, uu, uu, uu, uu, uu, uu, uu, uu, uu, uu, uu, uu, uu, uu, uu] [(.int (0 : Int32))])) tQ
              refine XS.ifNo X659.here hx rfl (hb hby at_158) rfl (own_if_neN (by decide)) ?_
              refine XS.dload X659.here hx rfl (hb hby at_161) rfl ?_
              refine XS.goto X659.here hx rfl (pc0 := 163) (pc' := 175) rfl (hb hby at_163) (by decide) (by decide) ?_
              refine XS.dstore X659.here hx rfl (hb hby at_175) rfl (l' := #[vi p0, vi p1, vi p2, vi p3, vi (1 : Int32), vi (0 : Int32), vi pre, vi adv, vi ((XT.ushr p3 (3 : Int32)) &&& (3 : Int32)), vi gl, vd (FP.i2d p0), ss, vr a489, vd (FP.i2d p1), ss, vd (FP.i2d p1), ss, vi (0 : Int32), vi p1, uu, uu, uu, uu, uu, uu, uu, uu, uu, uu, uu, uu, uu, uu, uu, uu, uu, uu, uu, uu]) rfl ?_
              exact kk
            clear k683
            exact ⟨T655, T655.heap, _, (FP.i2d p1), (FP.i2d p1), (0 : Int32), p1, (FP.dsub (FP.i2d p1) (FP.dmul (FP.i2d (0 : Int32)) (FP.ddiv (FP.dsub (FP.i2d p1) (FP.i2d p0)) (FP.i2d (1 : Int32))))), (FP.ddiv (FP.dsub (FP.i2d p1) (FP.i2d p0)) (FP.i2d (1 : Int32))), (own_Sa1 p0 p1), X659, rfl, N680, Z681, F682, g675, F685, g677, g678, F687, k689⟩
    obtain ⟨T690, h693, L696, mv, mt, mr, tI, vl, sp, hD705, X691, e692, N694, Z695, F697, F698, F699, F700, F701, F702, k703⟩ := jn704
    obtain ⟨hmt, -, -, ⟨W, bW, hvl, hmv⟩, hmr⟩ := hD705
    have nmt : NoNaN64 mt := hmt ▸ (Fl.i2d_fin tI).noNaN
    have fmt : Fin64 mt := hmt ▸ Fl.i2d_fin tI
    have jn714 : ∃ (nI : Int32), (((((XT.ushr p3 (3 : Int32)) &&& (3 : Int32)) = (1 : Int32)) ∧ nI = tI) ∨ (¬ (((XT.ushr p3 (3 : Int32)) &&& (3 : Int32)) = (1 : Int32)) ∧ (((XT.ushr p3 (3 : Int32)) &&& (3 : Int32)) = (2 : Int32)) ∧ nI = p0) ∨ (¬ (((XT.ushr p3 (3 : Int32)) &&& (3 : Int32)) = (1 : Int32)) ∧ ¬ (((XT.ushr p3 (3 : Int32)) &&& (3 : Int32)) = (2 : Int32)) ∧ nI = p2)) ∧ (own_G p e below E0 T690 (mkF m 199 #[vi p0, vi p1, vi p2, vi p3, vi (1 : Int32), vi (0 : Int32), vi pre, vi adv, vi ((XT.ushr p3 (3 : Int32)) &&& (3 : Int32)), vi gl, vd (FP.i2d p0), ss, vr a489, vd mv, ss, vd mt, ss, vi mr, vi tI, uu, uu, uu, uu, uu, uu, uu, uu, uu, uu, uu, uu, uu, uu, uu, uu, uu, uu, uu, uu] [(.int nI)])) := by
      have k706 : own_G p e below E0 T690 (mkF m 180 #[vi p0, vi p1, vi p2, vi p3, vi (1 : Int32), vi (0 : Int32), vi pre, vi adv, vi ((XT.ushr p3 (3 : Int32)) &&& (3 : Int32)), vi gl, vd (FP.i2d p0), ss, vr a489, vd mv, ss, vd mt, ss, vi mr, vi tI, uu, uu, uu, uu, uu, uu, uu, uu, uu, uu, uu, uu, uu, uu, uu, uu, uu, uu, uu, uu] [(.int (1 : Int32)), (.int ((XT.ushr p3 (3 : Int32)) &&& (3 : Int32)))]) := by
        intro tQ kk
        refine k703 tQ ?_
        refine XS.iload X691.here hx rfl (hb hby at_177) rfl ?_
        refine XS.iconst X691.here hx rfl (hb hby at_179) ?_
        exact kk
      clear k703
      by_cases c707 : ((XT.ushr p3 (3 : Int32)) &&& (3 : Int32)) = (1 : Int32)
      · skip
        have k708 : own_G p e below E0 T690 (mkF m 199 #[vi p0, vi p1, vi p2, vi p3, vi (1 : Int32), vi (0 : Int32), vi pre, vi adv, vi ((XT.ushr p3 (3 : Int32)) &&& (3 : Int32)), vi gl, vd (FP.i2d p0), ss, vr a489, vd mv, ss, vd mt, ss, vi mr, vi tI, uu, uu, uu, uu, uu, uu, uu, uu, uu, uu, uu, uu, uu, uu, uu, uu, uu, uu, uu, uu] [(.int tI)]) := by
          intro tQ kk
          refine k706 tQ ?_
          refine XS.icmpNo X691.here hx rfl (hb hby at_180) rfl (own_ic_neN c707) ?_
          refine XS.iload X691.here hx rfl (hb hby at_183) rfl ?_
          refine XS.goto X691.here hx rfl (pc0 := 185) (pc' := 199) rfl (hb hby at_185) (by decide) (by decide) ?_
          exact kk
        clear k706
        exact ⟨tI, (Or.inl (⟨c707, rfl⟩)), k708⟩
      · skip
        have k709 : own_G p e below E0 T690 (mkF m 191 #[vi p0, vi p1, vi p2, vi p3, vi (1 : Int32), vi (0 : Int32), vi pre, vi adv, vi ((XT.ushr p3 (3 : Int32)) &&& (3 : Int32)), vi gl, vd (FP.i2d p0), ss, vr a489, vd mv, ss, vd mt, ss, vi mr, vi tI, uu, uu, uu, uu, uu, uu, uu, uu, uu, uu, uu, uu, uu, uu, uu, uu, uu, uu, uu, uu] [(.int (2 : Int32)), (.int ((XT.ushr p3 (3 : Int32)) &&& (3 : Int32)))]) := by
          intro tQ kk
          refine k706 tQ ?_
          refine XS.icmpYes X691.here hx rfl (pc0 := 180) (pc' := 188) rfl (hb hby at_180) rfl (own_ic_neY c707) (by decide) (by decide) ?_
          refine XS.iload X691.here hx rfl (hb hby at_188) rfl ?_
          refine XS.iconst X691.here hx rfl (hb hby at_190) ?_
          exact kk
        clear k706
        by_cases c710 : ((XT.ushr p3 (3 : Int32)) &&& (3 : Int32)) = (2 : Int32)
        · skip
          have k711 : own_G p e below E0 T690 (mkF m 199 #[vi p0, vi p1, vi p2, vi p3, vi (1 : Int32), vi (0 : Int32), vi pre, vi adv, vi ((XT.ushr p3 (3 : Int32)) &&& (3 : Int32)), vi gl, vd (FP.i2d p0), ss, vr a489, vd mv, ss, vd mt, ss, vi mr, vi tI, uu, uu, uu, uu, uu, uu, uu, uu, uu, uu, uu, uu, uu, uu, uu, uu, uu, uu, uu, uu] [(.int p0)]) := by
            intro tQ kk
            refine k709 tQ ?_
            refine XS.icmpNo X691.here hx rfl (hb hby at_191) rfl (own_ic_neN c710) ?_
            refine XS.iloadN X691.here hx rfl (hb hby at_194) rfl ?_
            refine XS.goto X691.here hx rfl (pc0 := 195) (pc' := 199) rfl (hb hby at_195) (by decide) (by decide) ?_
            exact kk
          clear k709
          exact ⟨p0, (Or.inr (Or.inl (⟨c707, c710, rfl⟩))), k711⟩
        · skip
          have k712 : own_G p e below E0 T690 (mkF m 199 #[vi p0, vi p1, vi p2, vi p3, vi (1 : Int32), vi (0 : Int32), vi pre, vi adv, vi ((XT.ushr p3 (3 : Int32)) &&& (3 : Int32)), vi gl, vd (FP.i2d p0), ss, vr a489, vd mv, ss, vd mt, ss, vi mr, vi tI, uu, uu, uu, uu, uu, uu, uu, uu, uu, uu, uu, uu, uu, uu, uu, uu, uu, uu, uu, uu] [(.int p2)]) := by
            intro tQ kk
            refine k709 tQ ?_
            refine XS.icmpYes X691.here hx rfl (pc0 := 191) (pc' := 198) rfl (hb hby at_191) rfl (own_ic_neY c710) (by decide) (by decide) ?_
            refine XS.iloadN X691.here hx rfl (hb hby at_198) rfl ?_
            exact kk
          clear k709
          exact ⟨p2, (Or.inr (Or.inr (⟨c707, c710, rfl⟩))), k712⟩
    obtain ⟨nI, hD715, k713⟩ := jn714
    have k716 : own_G p e below E0 T690 (mkF m 206 #[vi p0, vi p1, vi p2, vi p3, vi (1 : Int32), vi (0 : Int32), vi pre, vi adv, vi ((XT.ushr p3 (3 : Int32)) &&& (3 : Int32)), vi gl, vd (FP.i2d p0), ss, vr a489, vd mv, ss, vd mt, ss, vi mr, vi tI, vi nI, vd (FP.i2d nI), ss, uu, uu, uu, uu, uu, uu, uu, uu, uu, uu, uu, uu, uu, uu, uu, uu, uu] []) := by
      intro tQ kk
      refine k713 tQ ?_
      refine XS.istore X691.here hx rfl (hb hby at_199) rfl (l' := #[vi p0, vi p1, vi p2, vi p3, vi (1 : Int32), vi (0 : Int32), vi pre, vi adv, vi ((XT.ushr p3 (3 : Int32)) &&& (3 : Int32)), vi gl, vd (FP.i2d p0), ss, vr a489, vd mv, ss, vd mt, ss, vi mr, vi tI, vi nI, uu, uu, uu, uu, uu, uu, uu, uu, uu, uu, uu, uu, uu, uu, uu, uu, uu, uu, uu]) rfl ?_
      refine XS.iload X691.here hx rfl (hb hby at_201) rfl ?_
      refine XS.i2dS X691.here hx rfl (hb hby at_203) rfl rfl ?_
      refine XS.dstore X691.here hx rfl (hb hby at_204) rfl (l' := #[vi p0, vi p1, vi p2, vi p3, vi (1 : Int32), vi (0 : Int32), vi pre, vi adv, vi ((XT.ushr p3 (3 : Int32)) &&& (3 : Int32)), vi gl, vd (FP.i2d p0), ss, vr a489, vd mv, ss, vd mt, ss, vi mr, vi tI, vi nI, vd (FP.i2d nI), ss, uu, uu, uu, uu, uu, uu, uu, uu, uu, uu, uu, uu, uu, uu, uu, uu, uu]) rfl ?_
      exact kk
    clear k713
    rcases hD479 with ⟨_, rfl⟩ | ⟨_, rfl⟩
    · skip
      have k717 : own_G p e below E0 T690 (mkF m 366 #[vi p0, vi p1, vi p2, vi p3, vi (1 : Int32), vi (0 : Int32), vi pre, vi adv, vi ((XT.ushr p3 (3 : Int32)) &&& (3 : Int32)), vi (0 : Int32), vd (FP.i2d p0), ss, vr a489, vd mv, ss, vd mt, ss, vi mr, vi tI, vi nI, vd (FP.i2d nI), ss, vd (FP.i2d nI), ss, vd (FP.i2d nI), ss, vd (FP.i2d nI), ss, vi (0 : Int32), vi (0 : Int32), uu, uu, uu, uu, uu, uu, uu, uu, uu] [(.int (0 : Int32)), (.double (FP.i2d nI)), (.ref a489)]) := by
        intro tQ kk
        refine k716 tQ ?_
        refine XS.iload X691.here hx rfl (hb hby at_206) rfl ?_
        refine XS.ifNo X691.here hx rfl (hb hby at_208) rfl (own_if_neN (by decide)) ?_
        refine XS.dload X691.here hx rfl (hb hby at_211) rfl ?_
        refine XS.dstore X691.here hx rfl (hb hby at_213) rfl (l' := #[vi p0, vi p1, vi p2, vi p3, vi (1 : Int32), vi (0 : Int32), vi pre, vi adv, vi ((XT.ushr p3 (3 : Int32)) &&& (3 : Int32)), vi (0 : Int32), vd (FP.i2d p0), ss, vr a489, vd mv, ss, vd mt, ss, vi mr, vi tI, vi nI, vd (FP.i2d nI), ss, vd (FP.i2d nI), ss, uu, uu, uu, uu, uu, uu, uu, uu, uu, uu, uu, uu, uu, uu, uu]) rfl ?_
        show Steps p.tables e below (T690.setTop (mkF m 215 #[vi p0, vi p1, vi p2, vi p3, vi (1 : Int32), vi (0 : Int32), vi pre, vi adv, vi ((XT.ushr p3 (3 : Int32)) &&& (3 : Int32)), vi (0 : Int32), vd (FP.i2d p0), ss, vr a489, vd mv, ss, vd mt, ss, vi mr, vi tI, vi nI, vd (FP.i2d nI), ss, vd (FP.i2d nI), ss, uu, uu, uu, uu, uu, uu, uu, uu, uu, uu, uu, uu, uu, uu, uu] [])) tQ
        refine XS.dload X691.here hx rfl (hb hby at_215) rfl ?_
        refine XS.dstore X691.here hx rfl (hb hby at_217) rfl (l' := #[vi p0, vi p1, vi p2, vi p3, vi (1 : Int32), vi (0 : Int32), vi pre, vi adv, vi ((XT.ushr p3 (3 : Int32)) &&& (3 : Int32)), vi (0 : Int32), vd (FP.i2d p0), ss, vr a489, vd mv, ss, vd mt, ss, vi mr, vi tI, vi nI, vd (FP.i2d nI), ss, vd (FP.i2d nI), ss, vd (FP.i2d nI), ss, uu, uu, uu, uu, uu, uu, uu, uu, uu, uu, uu, uu, uu]) rfl ?_
        refine XS.dload X691.here hx rfl (hb hby at_219) rfl ?_
        refine XS.dstore X691.here hx rfl (hb hby at_221) rfl (l' := #[vi p0, vi p1, vi p2, vi p3, vi (1 : Int32), vi (0 : Int32), vi pre, vi adv, vi ((XT.ushr p3 (3 : Int32)) &&& (3 : Int32)), vi (0 : Int32), vd (FP.i2d p0), ss, vr a489, vd mv, ss, vd mt, ss, vi mr, vi tI, vi nI, vd (FP.i2d nI), ss, vd (FP.i2d nI), ss, vd (FP.i2d nI), ss, vd (FP.i2d nI), ss, uu, uu, uu, uu, uu, uu, uu, uu, uu, uu, uu]) rfl ?_
        show Steps p.tables e below (T690.setTop (mkF m 223 #[vi p0, vi p1, vi p2, vi p3, vi (1 : Int32), vi (0 : Int32), vi pre, vi adv, vi ((XT.ushr p3 (3 : Int32)) &&& (3 : Int32)), vi (0 : Int32), vd (FP.i2d p0), ss, vr a489, vd mv, ss, vd mt, ss, vi mr, vi tI, vi nI, vd (FP.i2d nI), ss, vd (FP.i2d nI), ss, vd (FP.i2d nI), ss, vd (FP.i2d nI), ss, uu, uu, uu, uu, uu, uu, uu, uu, uu, uu, uu] [])) tQ
        refine XS.iconst X691.here hx rfl (hb hby at_223) ?_
        refine XS.istore X691.here hx rfl (hb hby at_224) rfl (l' := #[vi p0, vi p1, vi p2, vi p3, vi (1 : Int32), vi (0 : Int32), vi pre, vi adv, vi ((XT.ushr p3 (3 : Int32)) &&& (3 : Int32)), vi (0 : Int32), vd (FP.i2d p0), ss, vr a489, vd mv, ss, vd mt, ss, vi mr, vi tI, vi nI, vd (FP.i2d nI), ss, vd (FP.i2d nI), ss, vd (FP.i2d nI), ss, vd (FP.i2d nI), ss, vi (0 : Int32), uu, uu, uu, uu, uu, uu, uu, uu, uu, uu]) rfl ?_
        refine XS.iconst X691.here hx rfl (hb hby at_226) ?_
        refine XS.istore X691.here hx rfl (hb hby at_227) rfl (l' := #[vi p0, vi p1, vi p2, vi p3, vi (1 : Int32), vi (0 : Int32), vi pre, vi adv, vi ((XT.ushr p3 (3 : Int32)) &&& (3 : Int32)), vi (0 : Int32), vd (FP.i2d p0), ss, vr a489, vd mv, ss, vd mt, ss, vi mr, vi tI, vi nI, vd (FP.i2d nI), ss, vd (FP.i2d nI), ss, vd (FP.i2d nI), ss, vd (FP.i2d nI), ss, vi (0 : Int32), vi (0 : Int32), uu, uu, uu, uu, uu, uu, uu, uu, uu]) rfl ?_
        show Steps p.tables e below (T690.setTop (mkF m 229 #[vi p0, vi p1, vi p2, vi p3, vi (1 : Int32), vi (0 : Int32), vi pre, vi adv, vi ((XT.ushr p3 (3 : Int32)) &&& (3 : Int32)), vi (0 : Int32), vd (FP.i2d p0), ss, vr a489, vd mv, ss, vd mt, ss, vi mr, vi tI, vi nI, vd (FP.i2d nI), ss, vd (FP.i2d nI), ss, vd (FP.i2d nI), ss, vd (FP.i2d nI), ss, vi (0 : Int32), vi (0 : Int32), uu, uu, uu, uu, uu, uu, uu, uu, uu] [])) tQ
        refine XS.goto X691.here hx rfl (pc0 := 229) (pc' := 360) rfl (hb hby at_229) (by decide) (by decide) ?_
        refine XS.aload X691.here hx rfl (hb hby at_360) rfl rfl ?_
        refine XS.dload X691.here hx rfl (hb hby at_362) rfl ?_
        refine XS.iload X691.here hx rfl (hb hby at_364) rfl ?_
        exact kk
      clear k716
      obtain ⟨cq729, kq730, qa731, qb732, qc733⟩ := isOf hZ e692 F697
      obtain ⟨_, _, ⟨T718, L719, kc720, nc721⟩, -, X722, ⟨Lc723, hQ724, l725, y726, z727⟩, st728⟩ := X691.virtualBack hx (y := mn11) (z := mn11) hown (mvT hZ (tw32 hw)) (mvT hZ (tw33 hw)) (notFace_of_selects (args := #[]) (mvT hZ (tw35 hw))) (mvT hZ (tw35 hw)) (mvT hZ (tw34 hw)) (by decide) (backOf (W := 0) (rmS0 l Z a0 hw [] a489 (FP.i2d nI) (1 : Int32) vl mt sp mr h693 n0 Z695 F697 F698 F699 F700 F701 F702 ge491) hZ (tw36 hw) (tw2 hw) (by decide) (by decide)) qa731 qc733 (g := (mkF m 366 #[vi p0, vi p1, vi p2, vi p3, vi (1 : Int32), vi (0 : Int32), vi pre, vi adv, vi ((XT.ushr p3 (3 : Int32)) &&& (3 : Int32)), vi (0 : Int32), vd (FP.i2d p0), ss, vr a489, vd mv, ss, vd mt, ss, vi mr, vi tI, vi nI, vd (FP.i2d nI), ss, vd (FP.i2d nI), ss, vd (FP.i2d nI), ss, vd (FP.i2d nI), ss, vi (0 : Int32), vi (0 : Int32), uu, uu, uu, uu, uu, uu, uu, uu, uu] [(.int (0 : Int32)), (.double (FP.i2d nI)), (.ref a489)])) rfl (by rw [hml]; rfl) (Steps.refl _) (argsL := [(.double (FP.i2d nI)), (.int (0 : Int32))]) (rest := []) (lenOf pd_17 rfl) rfl (by show 2 * 0 + _ ≤ _; exact Nat.le_of_eq rfl) (hb hby at_366) (fun _ _ => ⟨rfl, e692, (by decide : 1 + 0 ≤ _), (by decide : 5 + 0 ≤ _)⟩)
      dsimp only [Pt.U, Pt.locs, Pt.cells, Pt.slots] at X722 l725 y726 z727 st728 hQ724
      subst y726 z727
      obtain ⟨rfl, N734, K737, g738, g739, g740, g741, g742⟩ := hQ724
      have N743 : Fr n0 L719 := by rw [l725]; exact Fr.app N694 N734
      clear l725 N734
      have Z744 : n0 ≤ T718.heap.size := Nat.le_trans Z695 K737.1
      clear Z695
      have F745 : xa7 Z T718.heap a489 := F697.keep K737
      clear F697
      clear F698
      clear F699
      clear F700
      clear F701
      clear F702
      have k746 : own_G p e below E0 T718 (mkF m 369 #[vi p0, vi p1, vi p2, vi p3, vi (1 : Int32), vi (0 : Int32), vi pre, vi adv, vi ((XT.ushr p3 (3 : Int32)) &&& (3 : Int32)), vi (0 : Int32), vd (FP.i2d p0), ss, vr a489, vd mv, ss, vd mt, ss, vi mr, vi tI, vi nI, vd (FP.i2d nI), ss, vd (FP.i2d nI), ss, vd (FP.i2d nI), ss, vd (FP.i2d nI), ss, vi (0 : Int32), vi (0 : Int32), uu, uu, uu, uu, uu, uu, uu, uu, uu] []) := fun tQ kk => k717 tQ (st728.trans kk)
      clear k717 st728
      have k747 : own_G p e below E0 T718 (mkF m 371 #[vi p0, vi p1, vi p2, vi p3, vi (1 : Int32), vi (0 : Int32), vi pre, vi adv, vi ((XT.ushr p3 (3 : Int32)) &&& (3 : Int32)), vi (0 : Int32), vd (FP.i2d p0), ss, vr a489, vd mv, ss, vd mt, ss, vi mr, vi tI, vi nI, vd (FP.i2d nI), ss, vd (FP.i2d nI), ss, vd (FP.i2d nI), ss, vd (FP.i2d nI), ss, vi (0 : Int32), vi (0 : Int32), uu, uu, uu, uu, uu, uu, uu, uu, uu] [(.ref a489)]) := by
        intro tQ kk
        refine k746 tQ ?_
        refine XS.aload X722.here hx rfl (hb hby at_369) rfl rfl ?_
        exact kk
      clear k746
      obtain ⟨cq759, kq760, qa761, qb762, qc763⟩ := isOf hZ rfl F745
      obtain ⟨_, _, ⟨T748, L749, kc750, nc751⟩, -, X752, ⟨Lc753, hQ754, l755, y756, z757⟩, st758⟩ := X722.virtualBack hx (y := mn14) (z := mn14) hown (mvT hZ (tw39 hw)) (mvT hZ (tw40 hw)) (notFace_of_selects (args := #[]) (mvT hZ (tw42 hw))) (mvT hZ (tw42 hw)) (mvT hZ (tw41 hw)) (by decide) (backOf (W := 0) (rmVl l Z a0 hw [] a489 (FP.i2d nI) T718.heap n0 Z744 g739) hZ (tw43 hw) (tw2 hw) (by decide) (by decide)) qa761 qc763 (g := (mkF m 371 #[vi p0, vi p1, vi p2, vi p3, vi (1 : Int32), vi (0 : Int32), vi pre, vi adv, vi ((XT.ushr p3 (3 : Int32)) &&& (3 : Int32)), vi (0 : Int32), vd (FP.i2d p0), ss, vr a489, vd mv, ss, vd mt, ss, vi mr, vi tI, vi nI, vd (FP.i2d nI), ss, vd (FP.i2d nI), ss, vd (FP.i2d nI), ss, vd (FP.i2d nI), ss, vi (0 : Int32), vi (0 : Int32), uu, uu, uu, uu, uu, uu, uu, uu, uu] [(.ref a489)])) rfl (by rw [hml]; rfl) (Steps.refl _) (argsL := []) (rest := []) (lenOf pd_16 rfl) rfl (by show 2 * 0 + _ ≤ _; exact Nat.le_of_eq rfl) (hb hby at_371) (fun _ _ => ⟨rfl, rfl, (by decide : 1 + 0 ≤ _), (by decide : 5 + 0 ≤ _)⟩)
      dsimp only [Pt.U, Pt.locs, Pt.cells, Pt.slots] at X752 l755 y756 z757 st758 hQ754
      subst y756 z757
      obtain ⟨rfl, N764, e765⟩ := hQ754
      have N767 : Fr n0 L749 := by rw [l755]; exact Fr.app N743 N764
      clear l755 N764
      have k768 : own_G p e below E0 T748 (mkF m 374 #[vi p0, vi p1, vi p2, vi p3, vi (1 : Int32), vi (0 : Int32), vi pre, vi adv, vi ((XT.ushr p3 (3 : Int32)) &&& (3 : Int32)), vi (0 : Int32), vd (FP.i2d p0), ss, vr a489, vd mv, ss, vd mt, ss, vi mr, vi tI, vi nI, vd (FP.i2d nI), ss, vd (FP.i2d nI), ss, vd (FP.i2d nI), ss, vd (FP.i2d nI), ss, vi (0 : Int32), vi (0 : Int32), uu, uu, uu, uu, uu, uu, uu, uu, uu] [(.double (FP.i2d nI))]) := fun tQ kk => k747 tQ (st758.trans kk)
      clear k747 st758
      have k769 : own_G p e below E0 T748 (mkF m 378 #[vi p0, vi p1, vi p2, vi p3, vi (1 : Int32), vi (0 : Int32), vi pre, vi adv, vi ((XT.ushr p3 (3 : Int32)) &&& (3 : Int32)), vi (0 : Int32), vd (FP.i2d p0), ss, vr a489, vd mv, ss, vd mt, ss, vi mr, vi tI, vi nI, vd (FP.i2d nI), ss, vd (FP.i2d nI), ss, vd (FP.i2d nI), ss, vd (FP.i2d nI), ss, vi (0 : Int32), vi (0 : Int32), vd (FP.i2d nI), ss, uu, uu, uu, uu, uu, uu, uu] [(.ref a489)]) := by
        intro tQ kk
        refine k768 tQ ?_
        refine XS.dstore X752.here hx rfl (hb hby at_374) rfl (l' := #[vi p0, vi p1, vi p2, vi p3, vi (1 : Int32), vi (0 : Int32), vi pre, vi adv, vi ((XT.ushr p3 (3 : Int32)) &&& (3 : Int32)), vi (0 : Int32), vd (FP.i2d p0), ss, vr a489, vd mv, ss, vd mt, ss, vi mr, vi tI, vi nI, vd (FP.i2d nI), ss, vd (FP.i2d nI), ss, vd (FP.i2d nI), ss, vd (FP.i2d nI), ss, vi (0 : Int32), vi (0 : Int32), vd (FP.i2d nI), ss, uu, uu, uu, uu, uu, uu, uu]) rfl ?_
        refine XS.aload X752.here hx rfl (hb hby at_376) rfl rfl ?_
        exact kk
      clear k768
      obtain ⟨cq781, kq782, qa783, qb784, qc785⟩ := isOf hZ e765 F745
      obtain ⟨_, _, ⟨T770, L771, kc772, nc773⟩, -, X774, ⟨Lc775, hQ776, l777, y778, z779⟩, st780⟩ := X752.virtualBack hx (y := mn13) (z := mn13) hown (mvT hZ (tw44 hw)) (mvT hZ (tw45 hw)) (notFace_of_selects (args := #[]) (mvT hZ (tw47 hw))) (mvT hZ (tw47 hw)) (mvT hZ (tw46 hw)) (by decide) (backOf (W := 0) (rmMv l Z a0 hw [] a489 (0 : Int32) T718.heap n0 Z744 g742) hZ (tw48 hw) (tw2 hw) (by decide) (by decide)) qa783 qc785 (g := (mkF m 378 #[vi p0, vi p1, vi p2, vi p3, vi (1 : Int32), vi (0 : Int32), vi pre, vi adv, vi ((XT.ushr p3 (3 : Int32)) &&& (3 : Int32)), vi (0 : Int32), vd (FP.i2d p0), ss, vr a489, vd mv, ss, vd mt, ss, vi mr, vi tI, vi nI, vd (FP.i2d nI), ss, vd (FP.i2d nI), ss, vd (FP.i2d nI), ss, vd (FP.i2d nI), ss, vi (0 : Int32), vi (0 : Int32), vd (FP.i2d nI), ss, uu, uu, uu, uu, uu, uu, uu] [(.ref a489)])) rfl (by rw [hml]; rfl) (Steps.refl _) (argsL := []) (rest := []) (lenOf pd_18 rfl) rfl (by show 2 * 0 + _ ≤ _; exact Nat.le_of_eq rfl) (hb hby at_378) (fun _ _ => ⟨rfl, e765, (by decide : 1 + 0 ≤ _), (by decide : 5 + 0 ≤ _)⟩)
      dsimp only [Pt.U, Pt.locs, Pt.cells, Pt.slots] at X774 l777 y778 z779 st780 hQ776
      subst y778 z779
      obtain ⟨rfl, N786, e787⟩ := hQ776
      have N789 : Fr n0 L771 := by rw [l777]; exact Fr.app N767 N786
      clear l777 N786
      have k790 : own_G p e below E0 T770 (mkF m 381 #[vi p0, vi p1, vi p2, vi p3, vi (1 : Int32), vi (0 : Int32), vi pre, vi adv, vi ((XT.ushr p3 (3 : Int32)) &&& (3 : Int32)), vi (0 : Int32), vd (FP.i2d p0), ss, vr a489, vd mv, ss, vd mt, ss, vi mr, vi tI, vi nI, vd (FP.i2d nI), ss, vd (FP.i2d nI), ss, vd (FP.i2d nI), ss, vd (FP.i2d nI), ss, vi (0 : Int32), vi (0 : Int32), vd (FP.i2d nI), ss, uu, uu, uu, uu, uu, uu, uu] [(.int (own_mv (0 : Int32)))]) := fun tQ kk => k769 tQ (st780.trans kk)
      clear k769 st780
      have eq791 : (own_mv (0 : Int32)) = (0 : Int32) := by decide
      rw [eq791] at k790
      have k792 : own_G p e below E0 T770 (mkF m 385 #[vi p0, vi p1, vi p2, vi p3, vi (1 : Int32), vi (0 : Int32), vi pre, vi adv, vi ((XT.ushr p3 (3 : Int32)) &&& (3 : Int32)), vi (0 : Int32), vd (FP.i2d p0), ss, vr a489, vd mv, ss, vd mt, ss, vi mr, vi tI, vi nI, vd (FP.i2d nI), ss, vd (FP.i2d nI), ss, vd (FP.i2d nI), ss, vd (FP.i2d nI), ss, vi (0 : Int32), vi (0 : Int32), vd (FP.i2d nI), ss, vi (0 : Int32), uu, uu, uu, uu, uu, uu] [(.ref a489)]) := by
        intro tQ kk
        refine k790 tQ ?_
        refine XS.istore X774.here hx rfl (hb hby at_381) rfl (l' := #[vi p0, vi p1, vi p2, vi p3, vi (1 : Int32), vi (0 : Int32), vi pre, vi adv, vi ((XT.ushr p3 (3 : Int32)) &&& (3 : Int32)), vi (0 : Int32), vd (FP.i2d p0), ss, vr a489, vd mv, ss, vd mt, ss, vi mr, vi tI, vi nI, vd (FP.i2d nI), ss, vd (FP.i2d nI), ss, vd (FP.i2d nI), ss, vd (FP.i2d nI), ss, vi (0 : Int32), vi (0 : Int32), vd (FP.i2d nI), ss, vi (0 : Int32), uu, uu, uu, uu, uu, uu]) rfl ?_
        refine XS.aload X774.here hx rfl (hb hby at_383) rfl rfl ?_
        exact kk
      clear k790
      obtain ⟨cq804, kq805, qa806, qb807, qc808⟩ := isOf hZ e787 F745
      obtain ⟨_, _, ⟨T793, L794, kc795, nc796⟩, -, X797, ⟨Lc798, hQ799, l800, y801, z802⟩, st803⟩ := X774.virtualBack hx (y := mn12) (z := mn12) hown (mvT hZ (tw49 hw)) (mvT hZ (tw50 hw)) (notFace_of_selects (args := #[]) (mvT hZ (tw52 hw))) (mvT hZ (tw52 hw)) (mvT hZ (tw51 hw)) (by decide) (backOf (W := 0) (rmN l Z a0 hw [] a489 (1 : Int32) (FP.i2d nI) (FP.i2d nI) sp (0 : Int32) T718.heap n0 Z744 F745 g738 g739 g740 g741 g742 ge491 (fun z => absurd z (by decide))) hZ (tw53 hw) (tw2 hw) (by decide) (by decide)) qa806 qc808 (g := (mkF m 385 #[vi p0, vi p1, vi p2, vi p3, vi (1 : Int32), vi (0 : Int32), vi pre, vi adv, vi ((XT.ushr p3 (3 : Int32)) &&& (3 : Int32)), vi (0 : Int32), vd (FP.i2d p0), ss, vr a489, vd mv, ss, vd mt, ss, vi mr, vi tI, vi nI, vd (FP.i2d nI), ss, vd (FP.i2d nI), ss, vd (FP.i2d nI), ss, vd (FP.i2d nI), ss, vi (0 : Int32), vi (0 : Int32), vd (FP.i2d nI), ss, vi (0 : Int32), uu, uu, uu, uu, uu, uu] [(.ref a489)])) rfl (by rw [hml]; rfl) (Steps.refl _) (argsL := []) (rest := []) (lenOf pd_16 rfl) rfl (by show 2 * 0 + _ ≤ _; exact Nat.le_of_eq rfl) (hb hby at_385) (fun _ _ => ⟨rfl, e787, (by decide : 1 + 0 ≤ _), (by decide : 5 + 0 ≤ _)⟩)
      dsimp only [Pt.U, Pt.locs, Pt.cells, Pt.slots] at X797 l800 y801 z802 st803 hQ799
      subst y801 z802
      obtain ⟨rfl, N809, K812, g813, g814, g815, g816, g817⟩ := hQ799
      have N818 : Fr n0 L794 := by rw [l800]; exact Fr.app N789 N809
      clear l800 N809
      have Z819 : n0 ≤ T793.heap.size := Nat.le_trans Z744 K812.1
      clear Z744
      have F820 : xa7 Z T793.heap a489 := F745.keep K812
      clear F745
      clear g738
      clear g739
      clear g740
      clear g741
      clear g742
      have k821 : own_G p e below E0 T793 (mkF m 388 #[vi p0, vi p1, vi p2, vi p3, vi (1 : Int32), vi (0 : Int32), vi pre, vi adv, vi ((XT.ushr p3 (3 : Int32)) &&& (3 : Int32)), vi (0 : Int32), vd (FP.i2d p0), ss, vr a489, vd mv, ss, vd mt, ss, vi mr, vi tI, vi nI, vd (FP.i2d nI), ss, vd (FP.i2d nI), ss, vd (FP.i2d nI), ss, vd (FP.i2d nI), ss, vi (0 : Int32), vi (0 : Int32), vd (FP.i2d nI), ss, vi (0 : Int32), uu, uu, uu, uu, uu, uu] [(.double (own_nv (FP.i2d nI) (FP.i2d nI) sp (0 : Int32)))]) := fun tQ kk => k792 tQ (st803.trans kk)
      clear k792 st803
      have eq822 : (own_nv (FP.i2d nI) (FP.i2d nI) sp (0 : Int32)) = (FP.i2d nI) := by rw [own_nv, if_neg (by decide)]
      have F823 : fd3 Z T793.heap a489 (.double (FP.i2d nI)) := by rw [← eq822]; exact g814
      have eq824 : (own_nr (0 : Int32)) = (0 : Int32) := by decide
      have F825 : fd6 Z T793.heap a489 (.int (0 : Int32)) := by rw [← eq824]; exact g817
      have eq826 : (own_nv (FP.i2d nI) (FP.i2d nI) sp (0 : Int32)) = (FP.i2d nI) := by rw [own_nv, if_neg (by decide)]
      rw [eq826] at k821
      have k827 : own_G p e below E0 T793 (mkF m 392 #[vi p0, vi p1, vi p2, vi p3, vi (1 : Int32), vi (0 : Int32), vi pre, vi adv, vi ((XT.ushr p3 (3 : Int32)) &&& (3 : Int32)), vi (0 : Int32), vd (FP.i2d p0), ss, vr a489, vd mv, ss, vd mt, ss, vi mr, vi tI, vi nI, vd (FP.i2d nI), ss, vd (FP.i2d nI), ss, vd (FP.i2d nI), ss, vd (FP.i2d nI), ss, vi (0 : Int32), vi (0 : Int32), vd (FP.i2d nI), ss, vi (0 : Int32), vd (FP.i2d nI), ss, uu, uu, uu, uu] [(.ref a489)]) := by
        intro tQ kk
        refine k821 tQ ?_
        refine XS.dstore X797.here hx rfl (hb hby at_388) rfl (l' := #[vi p0, vi p1, vi p2, vi p3, vi (1 : Int32), vi (0 : Int32), vi pre, vi adv, vi ((XT.ushr p3 (3 : Int32)) &&& (3 : Int32)), vi (0 : Int32), vd (FP.i2d p0), ss, vr a489, vd mv, ss, vd mt, ss, vi mr, vi tI, vi nI, vd (FP.i2d nI), ss, vd (FP.i2d nI), ss, vd (FP.i2d nI), ss, vd (FP.i2d nI), ss, vi (0 : Int32), vi (0 : Int32), vd (FP.i2d nI), ss, vi (0 : Int32), vd (FP.i2d nI), ss, uu, uu, uu, uu]) rfl ?_
        refine XS.aload X797.here hx rfl (hb hby at_390) rfl rfl ?_
        exact kk
      clear k821
      obtain ⟨cq839, kq840, qa841, qb842, qc843⟩ := isOf hZ rfl F820
      obtain ⟨_, _, ⟨T828, L829, kc830, nc831⟩, -, X832, ⟨Lc833, hQ834, l835, y836, z837⟩, st838⟩ := X797.virtualBack hx (y := mn13) (z := mn13) hown (mvT hZ (tw44 hw)) (mvT hZ (tw45 hw)) (notFace_of_selects (args := #[]) (mvT hZ (tw47 hw))) (mvT hZ (tw47 hw)) (mvT hZ (tw46 hw)) (by decide) (backOf (W := 0) (rmMv l Z a0 hw [] a489 (0 : Int32) T793.heap n0 Z819 F825) hZ (tw48 hw) (tw2 hw) (by decide) (by decide)) qa841 qc843 (g := (mkF m 392 #[vi p0, vi p1, vi p2, vi p3, vi (1 : Int32), vi (0 : Int32), vi pre, vi adv, vi ((XT.ushr p3 (3 : Int32)) &&& (3 : Int32)), vi (0 : Int32), vd (FP.i2d p0), ss, vr a489, vd mv, ss, vd mt, ss, vi mr, vi tI, vi nI, vd (FP.i2d nI), ss, vd (FP.i2d nI), ss, vd (FP.i2d nI), ss, vd (FP.i2d nI), ss, vi (0 : Int32), vi (0 : Int32), vd (FP.i2d nI), ss, vi (0 : Int32), vd (FP.i2d nI), ss, uu, uu, uu, uu] [(.ref a489)])) rfl (by rw [hml]; rfl) (Steps.refl _) (argsL := []) (rest := []) (lenOf pd_18 rfl) rfl (by show 2 * 0 + _ ≤ _; exact Nat.le_of_eq rfl) (hb hby at_392) (fun _ _ => ⟨rfl, rfl, (by decide : 1 + 0 ≤ _), (by decide : 5 + 0 ≤ _)⟩)
      dsimp only [Pt.U, Pt.locs, Pt.cells, Pt.slots] at X832 l835 y836 z837 st838 hQ834
      subst y836 z837
      obtain ⟨rfl, N844, e845⟩ := hQ834
      have N847 : Fr n0 L829 := by rw [l835]; exact Fr.app N818 N844
      clear l835 N844
      have k848 : own_G p e below E0 T828 (mkF m 395 #[vi p0, vi p1, vi p2, vi p3, vi (1 : Int32), vi (0 : Int32), vi pre, vi adv, vi ((XT.ushr p3 (3 : Int32)) &&& (3 : Int32)), vi (0 : Int32), vd (FP.i2d p0), ss, vr a489, vd mv, ss, vd mt, ss, vi mr, vi tI, vi nI, vd (FP.i2d nI), ss, vd (FP.i2d nI), ss, vd (FP.i2d nI), ss, vd (FP.i2d nI), ss, vi (0 : Int32), vi (0 : Int32), vd (FP.i2d nI), ss, vi (0 : Int32), vd (FP.i2d nI), ss, uu, uu, uu, uu] [(.int (own_mv (0 : Int32)))]) := fun tQ kk => k827 tQ (st838.trans kk)
      clear k827 st838
      have eq849 : (own_mv (0 : Int32)) = (0 : Int32) := by decide
      rw [eq849] at k848
      have k850 : own_G p e below E0 T828 (mkF m 399 #[vi p0, vi p1, vi p2, vi p3, vi (1 : Int32), vi (0 : Int32), vi pre, vi adv, vi ((XT.ushr p3 (3 : Int32)) &&& (3 : Int32)), vi (0 : Int32), vd (FP.i2d p0), ss, vr a489, vd mv, ss, vd mt, ss, vi mr, vi tI, vi nI, vd (FP.i2d nI), ss, vd (FP.i2d nI), ss, vd (FP.i2d nI), ss, vd (FP.i2d nI), ss, vi (0 : Int32), vi (0 : Int32), vd (FP.i2d nI), ss, vi (0 : Int32), vd (FP.i2d nI), ss, vi (0 : Int32), uu, uu, uu] [(.ref a489)]) := by
        intro tQ kk
        refine k848 tQ ?_
        refine XS.istore X832.here hx rfl (hb hby at_395) rfl (l' := #[vi p0, vi p1, vi p2, vi p3, vi (1 : Int32), vi (0 : Int32), vi pre, vi adv, vi ((XT.ushr p3 (3 : Int32)) &&& (3 : Int32)), vi (0 : Int32), vd (FP.i2d p0), ss, vr a489, vd mv, ss, vd mt, ss, vi mr, vi tI, vi nI, vd (FP.i2d nI), ss, vd (FP.i2d nI), ss, vd (FP.i2d nI), ss, vd (FP.i2d nI), ss, vi (0 : Int32), vi (0 : Int32), vd (FP.i2d nI), ss, vi (0 : Int32), vd (FP.i2d nI), ss, vi (0 : Int32), uu, uu, uu]) rfl ?_
        refine XS.aload X832.here hx rfl (hb hby at_397) rfl rfl ?_
        exact kk
      clear k848
      obtain ⟨cq862, kq863, qa864, qb865, qc866⟩ := isOf hZ e845 F820
      obtain ⟨_, _, ⟨T851, L852, kc853, nc854⟩, -, X855, ⟨Lc856, hQ857, l858, y859, z860⟩, st861⟩ := X832.virtualBack hx (y := mn12) (z := mn12) hown (mvT hZ (tw49 hw)) (mvT hZ (tw50 hw)) (notFace_of_selects (args := #[]) (mvT hZ (tw52 hw))) (mvT hZ (tw52 hw)) (mvT hZ (tw51 hw)) (by decide) (backOf (W := 0) (rmN l Z a0 hw [] a489 (1 : Int32) (FP.i2d nI) (FP.i2d nI) sp (0 : Int32) T793.heap n0 Z819 F820 g813 F823 g815 g816 F825 ge491 (fun z => absurd z (by decide))) hZ (tw53 hw) (tw2 hw) (by decide) (by decide)) qa864 qc866 (g := (mkF m 399 #[vi p0, vi p1, vi p2, vi p3, vi (1 : Int32), vi (0 : Int32), vi pre, vi adv, vi ((XT.ushr p3 (3 : Int32)) &&& (3 : Int32)), vi (0 : Int32), vd (FP.i2d p0), ss, vr a489, vd mv, ss, vd mt, ss, vi mr, vi tI, vi nI, vd (FP.i2d nI), ss, vd (FP.i2d nI), ss, vd (FP.i2d nI), ss, vd (FP.i2d nI), ss, vi (0 : Int32), vi (0 : Int32), vd (FP.i2d nI), ss, vi (0 : Int32), vd (FP.i2d nI), ss, vi (0 : Int32), uu, uu, uu] [(.ref a489)])) rfl (by rw [hml]; rfl) (Steps.refl _) (argsL := []) (rest := []) (lenOf pd_16 rfl) rfl (by show 2 * 0 + _ ≤ _; exact Nat.le_of_eq rfl) (hb hby at_399) (fun _ _ => ⟨rfl, e845, (by decide : 1 + 0 ≤ _), (by decide : 5 + 0 ≤ _)⟩)
      dsimp only [Pt.U, Pt.locs, Pt.cells, Pt.slots] at X855 l858 y859 z860 st861 hQ857
      subst y859 z860
      obtain ⟨rfl, N867, K870, g871, g872, g873, g874, g875⟩ := hQ857
      have N876 : Fr n0 L852 := by rw [l858]; exact Fr.app N847 N867
      clear l858 N867
      have Z877 : n0 ≤ T851.heap.size := Nat.le_trans Z819 K870.1
      clear Z819
      have F878 : xa7 Z T851.heap a489 := F820.keep K870
      clear F820
      clear g813
      clear F823
      clear g815
      clear g816
      clear F825
      have k879 : own_G p e below E0 T851 (mkF m 402 #[vi p0, vi p1, vi p2, vi p3, vi (1 : Int32), vi (0 : Int32), vi pre, vi adv, vi ((XT.ushr p3 (3 : Int32)) &&& (3 : Int32)), vi (0 : Int32), vd (FP.i2d p0), ss, vr a489, vd mv, ss, vd mt, ss, vi mr, vi tI, vi nI, vd (FP.i2d nI), ss, vd (FP.i2d nI), ss, vd (FP.i2d nI), ss, vd (FP.i2d nI), ss, vi (0 : Int32), vi (0 : Int32), vd (FP.i2d nI), ss, vi (0 : Int32), vd (FP.i2d nI), ss, vi (0 : Int32), uu, uu, uu] [(.double (own_nv (FP.i2d nI) (FP.i2d nI) sp (0 : Int32)))]) := fun tQ kk => k850 tQ (st861.trans kk)
      clear k850 st861
      have eq880 : (own_nv (FP.i2d nI) (FP.i2d nI) sp (0 : Int32)) = (FP.i2d nI) := by rw [own_nv, if_neg (by decide)]
      have F881 : fd3 Z T851.heap a489 (.double (FP.i2d nI)) := by rw [← eq880]; exact g872
      have eq882 : (own_nr (0 : Int32)) = (0 : Int32) := by decide
      have F883 : fd6 Z T851.heap a489 (.int (0 : Int32)) := by rw [← eq882]; exact g875
      have eq884 : (own_nv (FP.i2d nI) (FP.i2d nI) sp (0 : Int32)) = (FP.i2d nI) := by rw [own_nv, if_neg (by decide)]
      rw [eq884] at k879
      have k885 : own_G p e below E0 T851 (mkF m 406 #[vi p0, vi p1, vi p2, vi p3, vi (1 : Int32), vi (0 : Int32), vi pre, vi adv, vi ((XT.ushr p3 (3 : Int32)) &&& (3 : Int32)), vi (0 : Int32), vd (FP.i2d p0), ss, vr a489, vd mv, ss, vd mt, ss, vi mr, vi tI, vi nI, vd (FP.i2d nI), ss, vd (FP.i2d nI), ss, vd (FP.i2d nI), ss, vd (FP.i2d nI), ss, vi (0 : Int32), vi (0 : Int32), vd (FP.i2d nI), ss, vi (0 : Int32), vd (FP.i2d nI), ss, vi (0 : Int32), vd (FP.i2d nI), ss, uu] [(.ref a489)]) := by
        intro tQ kk
        refine k879 tQ ?_
        refine XS.dstore X855.here hx rfl (hb hby at_402) rfl (l' := #[vi p0, vi p1, vi p2, vi p3, vi (1 : Int32), vi (0 : Int32), vi pre, vi adv, vi ((XT.ushr p3 (3 : Int32)) &&& (3 : Int32)), vi (0 : Int32), vd (FP.i2d p0), ss, vr a489, vd mv, ss, vd mt, ss, vi mr, vi tI, vi nI, vd (FP.i2d nI), ss, vd (FP.i2d nI), ss, vd (FP.i2d nI), ss, vd (FP.i2d nI), ss, vi (0 : Int32), vi (0 : Int32), vd (FP.i2d nI), ss, vi (0 : Int32), vd (FP.i2d nI), ss, vi (0 : Int32), vd (FP.i2d nI), ss, uu]) rfl ?_
        refine XS.aload X855.here hx rfl (hb hby at_404) rfl rfl ?_
        exact kk
      clear k879
      obtain ⟨cq897, kq898, qa899, qb900, qc901⟩ := isOf hZ rfl F878
      obtain ⟨_, _, ⟨T886, L887, kc888, nc889⟩, -, X890, ⟨Lc891, hQ892, l893, y894, z895⟩, st896⟩ := X855.virtualBack hx (y := mn13) (z := mn13) hown (mvT hZ (tw44 hw)) (mvT hZ (tw45 hw)) (notFace_of_selects (args := #[]) (mvT hZ (tw47 hw))) (mvT hZ (tw47 hw)) (mvT hZ (tw46 hw)) (by decide) (backOf (W := 0) (rmMv l Z a0 hw [] a489 (0 : Int32) T851.heap n0 Z877 F883) hZ (tw48 hw) (tw2 hw) (by decide) (by decide)) qa899 qc901 (g := (mkF m 406 #[vi p0, vi p1, vi p2, vi p3, vi (1 : Int32), vi (0 : Int32), vi pre, vi adv, vi ((XT.ushr p3 (3 : Int32)) &&& (3 : Int32)), vi (0 : Int32), vd (FP.i2d p0), ss, vr a489, vd mv, ss, vd mt, ss, vi mr, vi tI, vi nI, vd (FP.i2d nI), ss, vd (FP.i2d nI), ss, vd (FP.i2d nI), ss, vd (FP.i2d nI), ss, vi (0 : Int32), vi (0 : Int32), vd (FP.i2d nI), ss, vi (0 : Int32), vd (FP.i2d nI), ss, vi (0 : Int32), vd (FP.i2d nI), ss, uu] [(.ref a489)])) rfl (by rw [hml]; rfl) (Steps.refl _) (argsL := []) (rest := []) (lenOf pd_18 rfl) rfl (by show 2 * 0 + _ ≤ _; exact Nat.le_of_eq rfl) (hb hby at_406) (fun _ _ => ⟨rfl, rfl, (by decide : 1 + 0 ≤ _), (by decide : 5 + 0 ≤ _)⟩)
      dsimp only [Pt.U, Pt.locs, Pt.cells, Pt.slots] at X890 l893 y894 z895 st896 hQ892
      subst y894 z895
      obtain ⟨rfl, N902, e903⟩ := hQ892
      have N905 : Fr n0 L887 := by rw [l893]; exact Fr.app N876 N902
      clear l893 N902
      have k906 : own_G p e below E0 T886 (mkF m 409 #[vi p0, vi p1, vi p2, vi p3, vi (1 : Int32), vi (0 : Int32), vi pre, vi adv, vi ((XT.ushr p3 (3 : Int32)) &&& (3 : Int32)), vi (0 : Int32), vd (FP.i2d p0), ss, vr a489, vd mv, ss, vd mt, ss, vi mr, vi tI, vi nI, vd (FP.i2d nI), ss, vd (FP.i2d nI), ss, vd (FP.i2d nI), ss, vd (FP.i2d nI), ss, vi (0 : Int32), vi (0 : Int32), vd (FP.i2d nI), ss, vi (0 : Int32), vd (FP.i2d nI), ss, vi (0 : Int32), vd (FP.i2d nI), ss, uu] [(.int (own_mv (0 : Int32)))]) := fun tQ kk => k885 tQ (st896.trans kk)
      clear k885 st896
      have eq907 : (own_mv (0 : Int32)) = (0 : Int32) := by decide
      rw [eq907] at k906
      have k908 : own_G p e below E0 T886 (mkF m 459 #[vi p0, vi p1, vi p2, vi p3, vi (1 : Int32), vi (0 : Int32), vi pre, vi adv, vi ((XT.ushr p3 (3 : Int32)) &&& (3 : Int32)), vi (0 : Int32), vd (FP.i2d p0), ss, vr a489, vd mv, ss, vd mt, ss, vi mr, vi tI, vi nI, vd (FP.i2d nI), ss, vd (FP.i2d nI), ss, vd (FP.i2d nI), ss, vd (FP.i2d nI), ss, vi (0 : Int32), vi (0 : Int32), vd (FP.i2d nI), ss, vi (0 : Int32), vd (FP.i2d nI), ss, vi (0 : Int32), vd (FP.i2d nI), ss, vi (0 : Int32)] [(.int (1 : Int32))]) := by
        intro tQ kk
        refine k906 tQ ?_
        refine XS.istore X890.here hx rfl (hb hby at_409) rfl (l' := #[vi p0, vi p1, vi p2, vi p3, vi (1 : Int32), vi (0 : Int32), vi pre, vi adv, vi ((XT.ushr p3 (3 : Int32)) &&& (3 : Int32)), vi (0 : Int32), vd (FP.i2d p0), ss, vr a489, vd mv, ss, vd mt, ss, vi mr, vi tI, vi nI, vd (FP.i2d nI), ss, vd (FP.i2d nI), ss, vd (FP.i2d nI), ss, vd (FP.i2d nI), ss, vi (0 : Int32), vi (0 : Int32), vd (FP.i2d nI), ss, vi (0 : Int32), vd (FP.i2d nI), ss, vi (0 : Int32), vd (FP.i2d nI), ss, vi (0 : Int32)]) rfl ?_
        refine XS.dload X890.here hx rfl (hb hby at_411) rfl ?_
        refine XS.dload X890.here hx rfl (hb hby at_413) rfl ?_
        refine XS.dcmpS (v := (0 : Int32)) X890.here hx rfl (hb hby at_415) rfl (dcmpV_self (Fl.i2d_fin nI).noNaN .l) ?_
        show Steps p.tables e below (T886.setTop (mkF m 416 #[vi p0, vi p1, vi p2, vi p3, vi (1 : Int32), vi (0 : Int32), vi pre, vi adv, vi ((XT.ushr p3 (3 : Int32)) &&& (3 : Int32)), vi (0 : Int32), vd (FP.i2d p0), ss, vr a489, vd mv, ss, vd mt, ss, vi mr, vi tI, vi nI, vd (FP.i2d nI), ss, vd (FP.i2d nI), ss, vd (FP.i2d nI), ss, vd (FP.i2d nI), ss, vi (0 : Int32), vi (0 : Int32), vd (FP.i2d nI), ss, vi (0 : Int32), vd (FP.i2d nI), ss, vi (0 : Int32), vd (FP.i2d nI), ss, vi (0 : Int32)] [(.int (0 : Int32))])) tQ
        refine XS.ifNo X890.here hx rfl (hb hby at_416) rfl (own_if_neN (by decide)) ?_
        refine XS.iload X890.here hx rfl (hb hby at_419) rfl ?_
        refine XS.iload X890.here hx rfl (hb hby at_421) rfl ?_
        refine XS.icmpNo X890.here hx rfl (hb hby at_423) rfl (own_ic_neN (by decide)) ?_
        show Steps p.tables e below (T886.setTop (mkF m 426 #[vi p0, vi p1, vi p2, vi p3, vi (1 : Int32), vi (0 : Int32), vi pre, vi adv, vi ((XT.ushr p3 (3 : Int32)) &&& (3 : Int32)), vi (0 : Int32), vd (FP.i2d p0), ss, vr a489, vd mv, ss, vd mt, ss, vi mr, vi tI, vi nI, vd (FP.i2d nI), ss, vd (FP.i2d nI), ss, vd (FP.i2d nI), ss, vd (FP.i2d nI), ss, vi (0 : Int32), vi (0 : Int32), vd (FP.i2d nI), ss, vi (0 : Int32), vd (FP.i2d nI), ss, vi (0 : Int32), vd (FP.i2d nI), ss, vi (0 : Int32)] [])) tQ
        refine XS.dload X890.here hx rfl (hb hby at_426) rfl ?_
        refine XS.dload X890.here hx rfl (hb hby at_428) rfl ?_
        refine XS.dcmpS (v := (0 : Int32)) X890.here hx rfl (hb hby at_430) rfl (dcmpV_self (Fl.i2d_fin nI).noNaN .l) ?_
        refine XS.ifNo X890.here hx rfl (hb hby at_431) rfl (own_if_neN (by decide)) ?_
        show Steps p.tables e below (T886.setTop (mkF m 434 #[vi p0, vi p1, vi p2, vi p3, vi (1 : Int32), vi (0 : Int32), vi pre, vi adv, vi ((XT.ushr p3 (3 : Int32)) &&& (3 : Int32)), vi (0 : Int32), vd (FP.i2d p0), ss, vr a489, vd mv, ss, vd mt, ss, vi mr, vi tI, vi nI, vd (FP.i2d nI), ss, vd (FP.i2d nI), ss, vd (FP.i2d nI), ss, vd (FP.i2d nI), ss, vi (0 : Int32), vi (0 : Int32), vd (FP.i2d nI), ss, vi (0 : Int32), vd (FP.i2d nI), ss, vi (0 : Int32), vd (FP.i2d nI), ss, vi (0 : Int32)] [])) tQ
        refine XS.iload X890.here hx rfl (hb hby at_434) rfl ?_
        refine XS.iload X890.here hx rfl (hb hby at_436) rfl ?_
        refine XS.icmpNo X890.here hx rfl (hb hby at_438) rfl (own_ic_neN (by decide)) ?_
        refine XS.dload X890.here hx rfl (hb hby at_441) rfl ?_
        show Steps p.tables e below (T886.setTop (mkF m 443 #[vi p0, vi p1, vi p2, vi p3, vi (1 : Int32), vi (0 : Int32), vi pre, vi adv, vi ((XT.ushr p3 (3 : Int32)) &&& (3 : Int32)), vi (0 : Int32), vd (FP.i2d p0), ss, vr a489, vd mv, ss, vd mt, ss, vi mr, vi tI, vi nI, vd (FP.i2d nI), ss, vd (FP.i2d nI), ss, vd (FP.i2d nI), ss, vd (FP.i2d nI), ss, vi (0 : Int32), vi (0 : Int32), vd (FP.i2d nI), ss, vi (0 : Int32), vd (FP.i2d nI), ss, vi (0 : Int32), vd (FP.i2d nI), ss, vi (0 : Int32)] [(.double (FP.i2d nI))])) tQ
        refine XS.dload X890.here hx rfl (hb hby at_443) rfl ?_
        refine XS.dcmpS (v := (0 : Int32)) X890.here hx rfl (hb hby at_445) rfl (dcmpV_self (Fl.i2d_fin nI).noNaN .l) ?_
        refine XS.ifNo X890.here hx rfl (hb hby at_446) rfl (own_if_neN (by decide)) ?_
        refine XS.iload X890.here hx rfl (hb hby at_449) rfl ?_
        show Steps p.tables e below (T886.setTop (mkF m 451 #[vi p0, vi p1, vi p2, vi p3, vi (1 : Int32), vi (0 : Int32), vi pre, vi adv, vi ((XT.ushr p3 (3 : Int32)) &&& (3 : Int32)), vi (0 : Int32), vd (FP.i2d p0), ss, vr a489, vd mv, ss, vd mt, ss, vi mr, vi tI, vi nI, vd (FP.i2d nI), ss, vd (FP.i2d nI), ss, vd (FP.i2d nI), ss, vd (FP.i2d nI), ss, vi (0 : Int32), vi (0 : Int32), vd (FP.i2d nI), ss, vi (0 : Int32), vd (FP.i2d nI), ss, vi (0 : Int32), vd (FP.i2d nI), ss, vi (0 : Int32)] [(.int (0 : Int32))])) tQ
        refine XS.ifNo X890.here hx rfl (hb hby at_451) rfl (own_if_neN (by decide)) ?_
        refine XS.iconst X890.here hx rfl (hb hby at_454) ?_
        refine XS.goto X890.here hx rfl (pc0 := 455) (pc' := 459) rfl (hb hby at_455) (by decide) (by decide) ?_
        exact kk
      clear k906
      obtain ⟨fs, hr, hrun, hended, hW, hsame⟩ := X890.leave (v := some (.int (1 : Int32))) (fun h => by rw [Bd.returns] at h; cases h)
      have hrun0 := k908 _ (retOut X890 hx Bd.returns (t := .boolean) rfl (Or.inl ⟨rfl, Or.inr (Or.inl rfl), _, rfl⟩) (hb hby at_459) hr)
      subst hE0
      refine ⟨_, _, hrun0, hrun, hended, _, _, rfl, ?_, ⟨_, rfl⟩, hW, hsame.mono (by decide) (by decide)⟩
      show Qrm0 Z p0 p1 p2 p3 h0 n0 _ T886.heap _
      rw [e903]
      exact ⟨rfl, N905⟩
    · skip
      have k909 : own_G p e below E0 T690 (mkF m 237 #[vi p0, vi p1, vi p2, vi p3, vi (1 : Int32), vi (0 : Int32), vi pre, vi adv, vi ((XT.ushr p3 (3 : Int32)) &&& (3 : Int32)), vi (1 : Int32), vd (FP.i2d p0), ss, vr a489, vd mv, ss, vd mt, ss, vi mr, vi tI, vi nI, vd (FP.i2d nI), ss, uu, uu, uu, uu, uu, uu, uu, uu, uu, uu, uu, uu, uu, uu, uu, uu, uu] [(.int (own_c (own_z (FP.i2d nI)) (own_z mt)))]) := by
        intro tQ kk
        refine k716 tQ ?_
        refine XS.iload X691.here hx rfl (hb hby at_206) rfl ?_
        refine XS.ifYes X691.here hx rfl (pc0 := 208) (pc' := 232) rfl (hb hby at_208) rfl (own_if_neY (by decide)) (by decide) (by decide) ?_
        refine XS.dload X691.here hx rfl (hb hby at_232) rfl ?_
        refine XS.dload X691.here hx rfl (hb hby at_234) rfl ?_
        show Steps p.tables e below (T690.setTop (mkF m 236 #[vi p0, vi p1, vi p2, vi p3, vi (1 : Int32), vi (0 : Int32), vi pre, vi adv, vi ((XT.ushr p3 (3 : Int32)) &&& (3 : Int32)), vi (1 : Int32), vd (FP.i2d p0), ss, vr a489, vd mv, ss, vd mt, ss, vi mr, vi tI, vi nI, vd (FP.i2d nI), ss, uu, uu, uu, uu, uu, uu, uu, uu, uu, uu, uu, uu, uu, uu, uu, uu, uu] [(.double mt), (.double (FP.i2d nI))])) tQ
        refine XS.dcmpS (v := (own_c (own_z (FP.i2d nI)) (own_z mt))) X691.here hx rfl (hb hby at_236) rfl (own_cE .l (own_cmpz (Fl.i2d_fin nI).noNaN nmt)) ?_
        exact kk
      clear k716
      by_cases cE : (own_z (FP.i2d nI)) = (own_z mt)
      · skip
        have k911 : own_G p e below E0 T690 (mkF m 284 #[vi p0, vi p1, vi p2, vi p3, vi (1 : Int32), vi (0 : Int32), vi pre, vi adv, vi ((XT.ushr p3 (3 : Int32)) &&& (3 : Int32)), vi (1 : Int32), vd (FP.i2d p0), ss, vr a489, vd mv, ss, vd mt, ss, vi mr, vi tI, vi nI, vd (FP.i2d nI), ss, uu, uu, uu, uu, uu, uu, uu, uu, uu, uu, uu, uu, uu, uu, uu, uu, uu] []) := by
          intro tQ kk
          refine k909 tQ ?_
          refine XS.ifYes X691.here hx rfl (pc0 := 237) (pc' := 284) rfl (hb hby at_237) rfl (own_c_eqY cE) (by decide) (by decide) ?_
          exact kk
        clear k909
        rcases hmr with rfl | ⟨rfl, hsp⟩ | ⟨rfl, hF2, hsp⟩
        · skip
          have k912 : own_G p e below E0 T690 (mkF m 366 #[vi p0, vi p1, vi p2, vi p3, vi (1 : Int32), vi (0 : Int32), vi pre, vi adv, vi ((XT.ushr p3 (3 : Int32)) &&& (3 : Int32)), vi (1 : Int32), vd (FP.i2d p0), ss, vr a489, vd mv, ss, vd mt, ss, vi (0 : Int32), vi tI, vi nI, vd (FP.i2d nI), ss, vd mv, ss, vd mv, ss, vd mv, ss, vi (0 : Int32), vi (0 : Int32), uu, uu, uu, uu, uu, uu, uu, uu, uu] [(.int (1 : Int32)), (.double (FP.i2d nI)), (.ref a489)]) := by
            intro tQ kk
            refine k911 tQ ?_
            refine XS.dload X691.here hx rfl (hb hby at_284) rfl ?_
            refine XS.dstore X691.here hx rfl (hb hby at_286) rfl (l' := #[vi p0, vi p1, vi p2, vi p3, vi (1 : Int32), vi (0 : Int32), vi pre, vi adv, vi ((XT.ushr p3 (3 : Int32)) &&& (3 : Int32)), vi (1 : Int32), vd (FP.i2d p0), ss, vr a489, vd mv, ss, vd mt, ss, vi (0 : Int32), vi tI, vi nI, vd (FP.i2d nI), ss, vd mv, ss, uu, uu, uu, uu, uu, uu, uu, uu, uu, uu, uu, uu, uu, uu, uu]) rfl ?_
            refine XS.iload X691.here hx rfl (hb hby at_288) rfl ?_
            refine XS.ifYes X691.here hx rfl (pc0 := 290) (pc' := 297) rfl (hb hby at_290) rfl (own_if_leY (by decide)) (by decide) (by decide) ?_
            show Steps p.tables e below (T690.setTop (mkF m 297 #[vi p0, vi p1, vi p2, vi p3, vi (1 : Int32), vi (0 : Int32), vi pre, vi adv, vi ((XT.ushr p3 (3 : Int32)) &&& (3 : Int32)), vi (1 : Int32), vd (FP.i2d p0), ss, vr a489, vd mv, ss, vd mt, ss, vi (0 : Int32), vi tI, vi nI, vd (FP.i2d nI), ss, vd mv, ss, uu, uu, uu, uu, uu, uu, uu, uu, uu, uu, uu, uu, uu, uu, uu] [])) tQ
            refine XS.iconst X691.here hx rfl (hb hby at_297) ?_
            refine XS.istore X691.here hx rfl (hb hby at_298) rfl (l' := #[vi p0, vi p1, vi p2, vi p3, vi (1 : Int32), vi (0 : Int32), vi pre, vi adv, vi ((XT.ushr p3 (3 : Int32)) &&& (3 : Int32)), vi (1 : Int32), vd (FP.i2d p0), ss, vr a489, vd mv, ss, vd mt, ss, vi (0 : Int32), vi tI, vi nI, vd (FP.i2d nI), ss, vd mv, ss, uu, uu, uu, uu, vi (0 : Int32), uu, uu, uu, uu, uu, uu, uu, uu, uu, uu]) rfl ?_
            refine XS.iload X691.here hx rfl (hb hby at_300) rfl ?_
            refine XS.iconst X691.here hx rfl (hb hby at_302) ?_
            show Steps p.tables e below (T690.setTop (mkF m 303 #[vi p0, vi p1, vi p2, vi p3, vi (1 : Int32), vi (0 : Int32), vi pre, vi adv, vi ((XT.ushr p3 (3 : Int32)) &&& (3 : Int32)), vi (1 : Int32), vd (FP.i2d p0), ss, vr a489, vd mv, ss, vd mt, ss, vi (0 : Int32), vi tI, vi nI, vd (FP.i2d nI), ss, vd mv, ss, uu, uu, uu, uu, vi (0 : Int32), uu, uu, uu, uu, uu, uu, uu, uu, uu, uu] [(.int (2 : Int32)), (.int (0 : Int32))])) tQ
            refine XS.icmpYes X691.here hx rfl (pc0 := 303) (pc' := 323) rfl (hb hby at_303) rfl (own_ic_neY (by decide)) (by decide) (by decide) ?_
            refine XS.iload X691.here hx rfl (hb hby at_323) rfl ?_
            refine XS.iconst X691.here hx rfl (hb hby at_325) ?_
            refine XS.icmpYes X691.here hx rfl (pc0 := 326) (pc' := 339) rfl (hb hby at_326) rfl (own_ic_neY (by decide)) (by decide) (by decide) ?_
            show Steps p.tables e below (T690.setTop (mkF m 339 #[vi p0, vi p1, vi p2, vi p3, vi (1 : Int32), vi (0 : Int32), vi pre, vi adv, vi ((XT.ushr p3 (3 : Int32)) &&& (3 : Int32)), vi (1 : Int32), vd (FP.i2d p0), ss, vr a489, vd mv, ss, vd mt, ss, vi (0 : Int32), vi tI, vi nI, vd (FP.i2d nI), ss, vd mv, ss, uu, uu, uu, uu, vi (0 : Int32), uu, uu, uu, uu, uu, uu, uu, uu, uu, uu] [])) tQ
            refine XS.dload X691.here hx rfl (hb hby at_339) rfl ?_
            refine XS.dstore X691.here hx rfl (hb hby at_341) rfl (l' := #[vi p0, vi p1, vi p2, vi p3, vi (1 : Int32), vi (0 : Int32), vi pre, vi adv, vi ((XT.ushr p3 (3 : Int32)) &&& (3 : Int32)), vi (1 : Int32), vd (FP.i2d p0), ss, vr a489, vd mv, ss, vd mt, ss, vi (0 : Int32), vi tI, vi nI, vd (FP.i2d nI), ss, vd mv, ss, vd mv, ss, uu, uu, vi (0 : Int32), uu, uu, uu, uu, uu, uu, uu, uu, uu, uu]) rfl ?_
            refine XS.iconst X691.here hx rfl (hb hby at_343) ?_
            refine XS.istore X691.here hx rfl (hb hby at_344) rfl (l' := #[vi p0, vi p1, vi p2, vi p3, vi (1 : Int32), vi (0 : Int32), vi pre, vi adv, vi ((XT.ushr p3 (3 : Int32)) &&& (3 : Int32)), vi (1 : Int32), vd (FP.i2d p0), ss, vr a489, vd mv, ss, vd mt, ss, vi (0 : Int32), vi tI, vi nI, vd (FP.i2d nI), ss, vd mv, ss, vd mv, ss, uu, uu, vi (0 : Int32), vi (0 : Int32), uu, uu, uu, uu, uu, uu, uu, uu, uu]) rfl ?_
            show Steps p.tables e below (T690.setTop (mkF m 346 #[vi p0, vi p1, vi p2, vi p3, vi (1 : Int32), vi (0 : Int32), vi pre, vi adv, vi ((XT.ushr p3 (3 : Int32)) &&& (3 : Int32)), vi (1 : Int32), vd (FP.i2d p0), ss, vr a489, vd mv, ss, vd mt, ss, vi (0 : Int32), vi tI, vi nI, vd (FP.i2d nI), ss, vd mv, ss, vd mv, ss, uu, uu, vi (0 : Int32), vi (0 : Int32), uu, uu, uu, uu, uu, uu, uu, uu, uu] [])) tQ
            refine XS.iload X691.here hx rfl (hb hby at_346) rfl ?_
            refine XS.ifYes X691.here hx rfl (pc0 := 348) (pc' := 356) rfl (hb hby at_348) rfl (own_if_leY (by decide)) (by decide) (by decide) ?_
            refine XS.dload X691.here hx rfl (hb hby at_356) rfl ?_
            refine XS.dstore X691.here hx rfl (hb hby at_358) rfl (l' := #[vi p0, vi p1, vi p2, vi p3, vi (1 : Int32), vi (0 : Int32), vi pre, vi adv, vi ((XT.ushr p3 (3 : Int32)) &&& (3 : Int32)), vi (1 : Int32), vd (FP.i2d p0), ss, vr a489, vd mv, ss, vd mt, ss, vi (0 : Int32), vi tI, vi nI, vd (FP.i2d nI), ss, vd mv, ss, vd mv, ss, vd mv, ss, vi (0 : Int32), vi (0 : Int32), uu, uu, uu, uu, uu, uu, uu, uu, uu]) rfl ?_
            show Steps p.tables e below (T690.setTop (mkF m 360 #[vi p0, vi p1, vi p2, vi p3, vi (1 : Int32), vi (0 : Int32), vi pre, vi adv, vi ((XT.ushr p3 (3 : Int32)) &&& (3 : Int32)), vi (1 : Int32), vd (FP.i2d p0), ss, vr a489, vd mv, ss, vd mt, ss, vi (0 : Int32), vi tI, vi nI, vd (FP.i2d nI), ss, vd mv, ss, vd mv, ss, vd mv, ss, vi (0 : Int32), vi (0 : Int32), uu, uu, uu, uu, uu, uu, uu, uu, uu] [])) tQ
            refine XS.aload X691.here hx rfl (hb hby at_360) rfl rfl ?_
            refine XS.dload X691.here hx rfl (hb hby at_362) rfl ?_
            refine XS.iload X691.here hx rfl (hb hby at_364) rfl ?_
            exact kk
          clear k911
          obtain ⟨cq924, kq925, qa926, qb927, qc928⟩ := isOf hZ e692 F697
          obtain ⟨_, _, ⟨T913, L914, kc915, nc916⟩, -, X917, ⟨Lc918, hQ919, l920, y921, z922⟩, st923⟩ := X691.virtualBack hx (y := mn11) (z := mn11) hown (mvT hZ (tw32 hw)) (mvT hZ (tw33 hw)) (notFace_of_selects (args := #[]) (mvT hZ (tw35 hw))) (mvT hZ (tw35 hw)) (mvT hZ (tw34 hw)) (by decide) (backOf (W := 0) (rmS1 l Z a0 hw [] a489 (FP.i2d nI) (1 : Int32) vl mt sp (0 : Int32) h693 n0 Z695 F697 F698 F699 F700 F701 F702 ge491 (Fl.i2d_fin nI).noNaN nmt (fun _ => ⟨Fl.dsub_out (Fl.i2d_fin nI).noNaN hvl.1, (own_fspN nI (F := (1 : Int32)) bW hvl (by decide)).noNaN⟩)) hZ (tw36 hw) (tw2 hw) (by decide) (by decide)) qa926 qc928 (g := (mkF m 366 #[vi p0, vi p1, vi p2, vi p3, vi (1 : Int32), vi (0 : Int32), vi pre, vi adv, vi ((XT.ushr p3 (3 : Int32)) &&& (3 : Int32)), vi (1 : Int32), vd (FP.i2d p0), ss, vr a489, vd mv, ss, vd mt, ss, vi (0 : Int32), vi tI, vi nI, vd (FP.i2d nI), ss, vd mv, ss, vd mv, ss, vd mv, ss, vi (0 : Int32), vi (0 : Int32), uu, uu, uu, uu, uu, uu, uu, uu, uu] [(.int (1 : Int32)), (.double (FP.i2d nI)), (.ref a489)])) rfl (by rw [hml]; rfl) (Steps.refl _) (argsL := [(.double (FP.i2d nI)), (.int (1 : Int32))]) (rest := []) (lenOf pd_17 rfl) rfl (by show 2 * 0 + _ ≤ _; exact Nat.le_of_eq rfl) (hb hby at_366) (fun _ _ => ⟨rfl, e692, (by decide : 1 + 0 ≤ _), (by decide : 5 + 0 ≤ _)⟩)
          dsimp only [Pt.U, Pt.locs, Pt.cells, Pt.slots] at X917 l920 y921 z922 st923 hQ919
          subst y921 z922
          obtain ⟨rfl, N929, K932, g933, g934, g935, g936, g937⟩ := hQ919
          have N938 : Fr n0 L914 := by rw [l920]; exact Fr.app N694 N929
          clear l920 N929
          have Z939 : n0 ≤ T913.heap.size := Nat.le_trans Z695 K932.1
          clear Z695
          have F940 : xa7 Z T913.heap a489 := F697.keep K932
          clear F697
          clear F698
          clear F699
          clear F700
          clear F701
          clear F702
          have k941 : own_G p e below E0 T913 (mkF m 369 #[vi p0, vi p1, vi p2, vi p3, vi (1 : Int32), vi (0 : Int32), vi pre, vi adv, vi ((XT.ushr p3 (3 : Int32)) &&& (3 : Int32)), vi (1 : Int32), vd (FP.i2d p0), ss, vr a489, vd mv, ss, vd mt, ss, vi (0 : Int32), vi tI, vi nI, vd (FP.i2d nI), ss, vd mv, ss, vd mv, ss, vd mv, ss, vi (0 : Int32), vi (0 : Int32), uu, uu, uu, uu, uu, uu, uu, uu, uu] []) := fun tQ kk => k912 tQ (st923.trans kk)
          clear k912 st923
          have eq942 : (own_tg (FP.i2d nI) mt) = mt := by rw [own_tg, if_pos cE]
          have F943 : fd4 Z T913.heap a489 (.double mt) := by rw [← eq942]; exact g935
          have eq944 : (own_sp (FP.i2d nI) vl mt sp (1 : Int32)) = sp := by rw [own_sp, if_pos cE]
          have F945 : fd5 Z T913.heap a489 (.double sp) := by rw [← eq944]; exact g936
          have eq946 : (own_rm (FP.i2d nI) mt (0 : Int32) (1 : Int32)) = (0 : Int32) := by rw [own_rm, if_pos cE]
          have F947 : fd6 Z T913.heap a489 (.int (0 : Int32)) := by rw [← eq946]; exact g937
          have k948 : own_G p e below E0 T913 (mkF m 371 #[vi p0, vi p1, vi p2, vi p3, vi (1 : Int32), vi (0 : Int32), vi pre, vi adv, vi ((XT.ushr p3 (3 : Int32)) &&& (3 : Int32)), vi (1 : Int32), vd (FP.i2d p0), ss, vr a489, vd mv, ss, vd mt, ss, vi (0 : Int32), vi tI, vi nI, vd (FP.i2d nI), ss, vd mv, ss, vd mv, ss, vd mv, ss, vi (0 : Int32), vi (0 : Int32), uu, uu, uu, uu, uu, uu, uu, uu, uu] [(.ref a489)]) := by
            intro tQ kk
            refine k941 tQ ?_
            refine XS.aload X917.here hx rfl (hb hby at_369) rfl rfl ?_
            exact kk
          clear k941
          obtain ⟨cq960, kq961, qa962, qb963, qc964⟩ := isOf hZ rfl F940
          obtain ⟨_, _, ⟨T949, L950, kc951, nc952⟩, -, X953, ⟨Lc954, hQ955, l956, y957, z958⟩, st959⟩ := X917.virtualBack hx (y := mn14) (z := mn14) hown (mvT hZ (tw39 hw)) (mvT hZ (tw40 hw)) (notFace_of_selects (args := #[]) (mvT hZ (tw42 hw))) (mvT hZ (tw42 hw)) (mvT hZ (tw41 hw)) (by decide) (backOf (W := 0) (rmVl l Z a0 hw [] a489 vl T913.heap n0 Z939 g934) hZ (tw43 hw) (tw2 hw) (by decide) (by decide)) qa962 qc964 (g := (mkF m 371 #[vi p0, vi p1, vi p2, vi p3, vi (1 : Int32), vi (0 : Int32), vi pre, vi adv, vi ((XT.ushr p3 (3 : Int32)) &&& (3 : Int32)), vi (1 : Int32), vd (FP.i2d p0), ss, vr a489, vd mv, ss, vd mt, ss, vi (0 : Int32), vi tI, vi nI, vd (FP.i2d nI), ss, vd mv, ss, vd mv, ss, vd mv, ss, vi (0 : Int32), vi (0 : Int32), uu, uu, uu, uu, uu, uu, uu, uu, uu] [(.ref a489)])) rfl (by rw [hml]; rfl) (Steps.refl _) (argsL := []) (rest := []) (lenOf pd_16 rfl) rfl (by show 2 * 0 + _ ≤ _; exact Nat.le_of_eq rfl) (hb hby at_371) (fun _ _ => ⟨rfl, rfl, (by decide : 1 + 0 ≤ _), (by decide : 5 + 0 ≤ _)⟩)
          dsimp only [Pt.U, Pt.locs, Pt.cells, Pt.slots] at X953 l956 y957 z958 st959 hQ955
          subst y957 z958
          obtain ⟨rfl, N965, e966⟩ := hQ955
          have N968 : Fr n0 L950 := by rw [l956]; exact Fr.app N938 N965
          clear l956 N965
          have k969 : own_G p e below E0 T949 (mkF m 374 #[vi p0, vi p1, vi p2, vi p3, vi (1 : Int32), vi (0 : Int32), vi pre, vi adv, vi ((XT.ushr p3 (3 : Int32)) &&& (3 : Int32)), vi (1 : Int32), vd (FP.i2d p0), ss, vr a489, vd mv, ss, vd mt, ss, vi (0 : Int32), vi tI, vi nI, vd (FP.i2d nI), ss, vd mv, ss, vd mv, ss, vd mv, ss, vi (0 : Int32), vi (0 : Int32), uu, uu, uu, uu, uu, uu, uu, uu, uu] [(.double vl)]) := fun tQ kk => k948 tQ (st959.trans kk)
          clear k948 st959
          have k970 : own_G p e below E0 T949 (mkF m 378 #[vi p0, vi p1, vi p2, vi p3, vi (1 : Int32), vi (0 : Int32), vi pre, vi adv, vi ((XT.ushr p3 (3 : Int32)) &&& (3 : Int32)), vi (1 : Int32), vd (FP.i2d p0), ss, vr a489, vd mv, ss, vd mt, ss, vi (0 : Int32), vi tI, vi nI, vd (FP.i2d nI), ss, vd mv, ss, vd mv, ss, vd mv, ss, vi (0 : Int32), vi (0 : Int32), vd vl, ss, uu, uu, uu, uu, uu, uu, uu] [(.ref a489)]) := by
            intro tQ kk
            refine k969 tQ ?_
            refine XS.dstore X953.here hx rfl (hb hby at_374) rfl (l' := #[vi p0, vi p1, vi p2, vi p3, vi (1 : Int32), vi (0 : Int32), vi pre, vi adv, vi ((XT.ushr p3 (3 : Int32)) &&& (3 : Int32)), vi (1 : Int32), vd (FP.i2d p0), ss, vr a489, vd mv, ss, vd mt, ss, vi (0 : Int32), vi tI, vi nI, vd (FP.i2d nI), ss, vd mv, ss, vd mv, ss, vd mv, ss, vi (0 : Int32), vi (0 : Int32), vd vl, ss, uu, uu, uu, uu, uu, uu, uu]) rfl ?_
            refine XS.aload X953.here hx rfl (hb hby at_376) rfl rfl ?_
            exact kk
          clear k969
          obtain ⟨cq982, kq983, qa984, qb985, qc986⟩ := isOf hZ e966 F940
          obtain ⟨_, _, ⟨T971, L972, kc973, nc974⟩, -, X975, ⟨Lc976, hQ977, l978, y979, z980⟩, st981⟩ := X953.virtualBack hx (y := mn13) (z := mn13) hown (mvT hZ (tw44 hw)) (mvT hZ (tw45 hw)) (notFace_of_selects (args := #[]) (mvT hZ (tw47 hw))) (mvT hZ (tw47 hw)) (mvT hZ (tw46 hw)) (by decide) (backOf (W := 0) (rmMv l Z a0 hw [] a489 (0 : Int32) T913.heap n0 Z939 F947) hZ (tw48 hw) (tw2 hw) (by decide) (by decide)) qa984 qc986 (g := (mkF m 378 #[vi p0, vi p1, vi p2, vi p3, vi (1 : Int32), vi (0 : Int32), vi pre, vi adv, vi ((XT.ushr p3 (3 : Int32)) &&& (3 : Int32)), vi (1 : Int32), vd (FP.i2d p0), ss, vr a489, vd mv, ss, vd mt, ss, vi (0 : Int32), vi tI, vi nI, vd (FP.i2d nI), ss, vd mv, ss, vd mv, ss, vd mv, ss, vi (0 : Int32), vi (0 : Int32), vd vl, ss, uu, uu, uu, uu, uu, uu, uu] [(.ref a489)])) rfl (by rw [hml]; rfl) (Steps.refl _) (argsL := []) (rest := []) (lenOf pd_18 rfl) rfl (by show 2 * 0 + _ ≤ _; exact Nat.le_of_eq rfl) (hb hby at_378) (fun _ _ => ⟨rfl, e966, (by decide : 1 + 0 ≤ _), (by decide : 5 + 0 ≤ _)⟩)
          dsimp only [Pt.U, Pt.locs, Pt.cells, Pt.slots] at X975 l978 y979 z980 st981 hQ977
          subst y979 z980
          obtain ⟨rfl, N987, e988⟩ := hQ977
          have N990 : Fr n0 L972 := by rw [l978]; exact Fr.app N968 N987
          clear l978 N987
          have k991 : own_G p e below E0 T971 (mkF m 381 #[vi p0, vi p1, vi p2, vi p3, vi (1 : Int32), vi (0 : Int32), vi pre, vi adv, vi ((XT.ushr p3 (3 : Int32)) &&& (3 : Int32)), vi (1 : Int32), vd (FP.i2d p0), ss, vr a489, vd mv, ss, vd mt, ss, vi (0 : Int32), vi tI, vi nI, vd (FP.i2d nI), ss, vd mv, ss, vd mv, ss, vd mv, ss, vi (0 : Int32), vi (0 : Int32), vd vl, ss, uu, uu, uu, uu, uu, uu, uu] [(.int (own_mv (0 : Int32)))]) := fun tQ kk => k970 tQ (st981.trans kk)
          clear k970 st981
          have eq992 : (own_mv (0 : Int32)) = (0 : Int32) := by decide
          rw [eq992] at k991
          have k993 : own_G p e below E0 T971 (mkF m 385 #[vi p0, vi p1, vi p2, vi p3, vi (1 : Int32), vi (0 : Int32), vi pre, vi adv, vi ((XT.ushr p3 (3 : Int32)) &&& (3 : Int32)), vi (1 : Int32), vd (FP.i2d p0), ss, vr a489, vd mv, ss, vd mt, ss, vi (0 : Int32), vi tI, vi nI, vd (FP.i2d nI), ss, vd mv, ss, vd mv, ss, vd mv, ss, vi (0 : Int32), vi (0 : Int32), vd vl, ss, vi (0 : Int32), uu, uu, uu, uu, uu, uu] [(.ref a489)]) := by
            intro tQ kk
            refine k991 tQ ?_
            refine XS.istore X975.here hx rfl (hb hby at_381) rfl (l' := #[vi p0, vi p1, vi p2, vi p3, vi (1 : Int32), vi (0 : Int32), vi pre, vi adv, vi ((XT.ushr p3 (3 : Int32)) &&& (3 : Int32)), vi (1 : Int32), vd (FP.i2d p0), ss, vr a489, vd mv, ss, vd mt, ss, vi (0 : Int32), vi tI, vi nI, vd (FP.i2d nI), ss, vd mv, ss, vd mv, ss, vd mv, ss, vi (0 : Int32), vi (0 : Int32), vd vl, ss, vi (0 : Int32), uu, uu, uu, uu, uu, uu]) rfl ?_
            refine XS.aload X975.here hx rfl (hb hby at_383) rfl rfl ?_
            exact kk
          clear k991
          obtain ⟨cq1005, kq1006, qa1007, qb1008, qc1009⟩ := isOf hZ e988 F940
          obtain ⟨_, _, ⟨T994, L995, kc996, nc997⟩, -, X998, ⟨Lc999, hQ1000, l1001, y1002, z1003⟩, st1004⟩ := X975.virtualBack hx (y := mn12) (z := mn12) hown (mvT hZ (tw49 hw)) (mvT hZ (tw50 hw)) (notFace_of_selects (args := #[]) (mvT hZ (tw52 hw))) (mvT hZ (tw52 hw)) (mvT hZ (tw51 hw)) (by decide) (backOf (W := 0) (rmN l Z a0 hw [] a489 (1 : Int32) vl mt sp (0 : Int32) T913.heap n0 Z939 F940 g933 g934 F943 F945 F947 ge491 (fun z => absurd z (by decide))) hZ (tw53 hw) (tw2 hw) (by decide) (by decide)) qa1007 qc1009 (g := (mkF m 385 #[vi p0, vi p1, vi p2, vi p3, vi (1 : Int32), vi (0 : Int32), vi pre, vi adv, vi ((XT.ushr p3 (3 : Int32)) &&& (3 : Int32)), vi (1 : Int32), vd (FP.i2d p0), ss, vr a489, vd mv, ss, vd mt, ss, vi (0 : Int32), vi tI, vi nI, vd (FP.i2d nI), ss, vd mv, ss, vd mv, ss, vd mv, ss, vi (0 : Int32), vi (0 : Int32), vd vl, ss, vi (0 : Int32), uu, uu, uu, uu, uu, uu] [(.ref a489)])) rfl (by rw [hml]; rfl) (Steps.refl _) (argsL := []) (rest := []) (lenOf pd_16 rfl) rfl (by show 2 * 0 + _ ≤ _; exact Nat.le_of_eq rfl) (hb hby at_385) (fun _ _ => ⟨rfl, e988, (by decide : 1 + 0 ≤ _), (by decide : 5 + 0 ≤ _)⟩)
          dsimp only [Pt.U, Pt.locs, Pt.cells, Pt.slots] at X998 l1001 y1002 z1003 st1004 hQ1000
          subst y1002 z1003
          obtain ⟨rfl, N1010, K1013, g1014, g1015, g1016, g1017, g1018⟩ := hQ1000
          have N1019 : Fr n0 L995 := by rw [l1001]; exact Fr.app N990 N1010
          clear l1001 N1010
          have Z1020 : n0 ≤ T994.heap.size := Nat.le_trans Z939 K1013.1
          clear Z939
          have F1021 : xa7 Z T994.heap a489 := F940.keep K1013
          clear F940
          clear g933
          clear g934
          clear F943
          clear F945
          clear F947
          have k1022 : own_G p e below E0 T994 (mkF m 388 #[vi p0, vi p1, vi p2, vi p3, vi (1 : Int32), vi (0 : Int32), vi pre, vi adv, vi ((XT.ushr p3 (3 : Int32)) &&& (3 : Int32)), vi (1 : Int32), vd (FP.i2d p0), ss, vr a489, vd mv, ss, vd mt, ss, vi (0 : Int32), vi tI, vi nI, vd (FP.i2d nI), ss, vd mv, ss, vd mv, ss, vd mv, ss, vi (0 : Int32), vi (0 : Int32), vd vl, ss, vi (0 : Int32), uu, uu, uu, uu, uu, uu] [(.double (own_nv vl mt sp (0 : Int32)))]) := fun tQ kk => k993 tQ (st1004.trans kk)
          clear k993 st1004
          have eq1023 : (own_nv vl mt sp (0 : Int32)) = vl := by rw [own_nv, if_neg (by decide)]
          have F1024 : fd3 Z T994.heap a489 (.double vl) := by rw [← eq1023]; exact g1015
          have eq1025 : (own_nr (0 : Int32)) = (0 : Int32) := by decide
          have F1026 : fd6 Z T994.heap a489 (.int (0 : Int32)) := by rw [← eq1025]; exact g1018
          have eq1027 : (own_nv vl mt sp (0 : Int32)) = vl := by rw [own_nv, if_neg (by decide)]
          rw [eq1027] at k1022
          have k1028 : own_G p e below E0 T994 (mkF m 392 #[vi p0, vi p1, vi p2, vi p3, vi (1 : Int32), vi (0 : Int32), vi pre, vi adv, vi ((XT.ushr p3 (3 : Int32)) &&& (3 : Int32)), vi (1 : Int32), vd (FP.i2d p0), ss, vr a489, vd mv, ss, vd mt, ss, vi (0 : Int32), vi tI, vi nI, vd (FP.i2d nI), ss, vd mv, ss, vd mv, ss, vd mv, ss, vi (0 : Int32), vi (0 : Int32), vd vl, ss, vi (0 : Int32), vd vl, ss, uu, uu, uu, uu] [(.ref a489)]) := by
            intro tQ kk
            refine k1022 tQ ?_
            refine XS.dstore X998.here hx rfl (hb hby at_388) rfl (l' := #[vi p0, vi p1, vi p2, vi p3, vi (1 : Int32), vi (0 : Int32), vi pre, vi adv, vi ((XT.ushr p3 (3 : Int32)) &&& (3 : Int32)), vi (1 : Int32), vd (FP.i2d p0), ss, vr a489, vd mv, ss, vd mt, ss, vi (0 : Int32), vi tI, vi nI, vd (FP.i2d nI), ss, vd mv, ss, vd mv, ss, vd mv, ss, vi (0 : Int32), vi (0 : Int32), vd vl, ss, vi (0 : Int32), vd vl, ss, uu, uu, uu, uu]) rfl ?_
            refine XS.aload X998.here hx rfl (hb hby at_390) rfl rfl ?_
            exact kk
          clear k1022
          obtain ⟨cq1040, kq1041, qa1042, qb1043, qc1044⟩ := isOf hZ rfl F1021
          obtain ⟨_, _, ⟨T1029, L1030, kc1031, nc1032⟩, -, X1033, ⟨Lc1034, hQ1035, l1036, y1037, z1038⟩, st1039⟩ := X998.virtualBack hx (y := mn13) (z := mn13) hown (mvT hZ (tw44 hw)) (mvT hZ (tw45 hw)) (notFace_of_selects (args := #[]) (mvT hZ (tw47 hw))) (mvT hZ (tw47 hw)) (mvT hZ (tw46 hw)) (by decide) (backOf (W := 0) (rmMv l Z a0 hw [] a489 (0 : Int32) T994.heap n0 Z1020 F1026) hZ (tw48 hw) (tw2 hw) (by decide) (by decide)) qa1042 qc1044 (g := (mkF m 392 #[vi p0, vi p1, vi p2, vi p3, vi (1 : Int32), vi (0 : Int32), vi pre, vi adv, vi ((XT.ushr p3 (3 : Int32)) &&& (3 : Int32)), vi (1 : Int32), vd (FP.i2d p0), ss, vr a489, vd mv, ss, vd mt, ss, vi (0 : Int32), vi tI, vi nI, vd (FP.i2d nI), ss, vd mv, ss, vd mv, ss, vd mv, ss, vi (0 : Int32), vi (0 : Int32), vd vl, ss, vi (0 : Int32), vd vl, ss, uu, uu, uu, uu] [(.ref a489)])) rfl (by rw [hml]; rfl) (Steps.refl _) (argsL := []) (rest := []) (lenOf pd_18 rfl) rfl (by show 2 * 0 + _ ≤ _; exact Nat.le_of_eq rfl) (hb hby at_392) (fun _ _ => ⟨rfl, rfl, (by decide : 1 + 0 ≤ _), (by decide : 5 + 0 ≤ _)⟩)
          dsimp only [Pt.U, Pt.locs, Pt.cells, Pt.slots] at X1033 l1036 y1037 z1038 st1039 hQ1035
          subst y1037 z1038
          obtain ⟨rfl, N1045, e1046⟩ := hQ1035
          have N1048 : Fr n0 L1030 := by rw [l1036]; exact Fr.app N1019 N1045
          clear l1036 N1045
          have k1049 : own_G p e below E0 T1029 (mkF m 395 #[vi p0, vi p1, vi p2, vi p3, vi (1 : Int32), vi (0 : Int32), vi pre, vi adv, vi ((XT.ushr p3 (3 : Int32)) &&& (3 : Int32)), vi (1 : Int32), vd (FP.i2d p0), ss, vr a489, vd mv, ss, vd mt, ss, vi (0 : Int32), vi tI, vi nI, vd (FP.i2d nI), ss, vd mv, ss, vd mv, ss, vd mv, ss, vi (0 : Int32), vi (0 : Int32), vd vl, ss, vi (0 : Int32), vd vl, ss, uu, uu, uu, uu] [(.int (own_mv (0 : Int32)))]) := fun tQ kk => k1028 tQ (st1039.trans kk)
          clear k1028 st1039
          have eq1050 : (own_mv (0 : Int32)) = (0 : Int32) := by decide
          rw [eq1050] at k1049
          have k1051 : own_G p e below E0 T1029 (mkF m 399 #[vi p0, vi p1, vi p2, vi p3, vi (1 : Int32), vi (0 : Int32), vi pre, vi adv, vi ((XT.ushr p3 (3 : Int32)) &&& (3 : Int32)), vi (1 : Int32), vd (FP.i2d p0), ss, vr a489, vd mv, ss, vd mt, ss, vi (0 : Int32), vi tI, vi nI, vd (FP.i2d nI), ss, vd mv, ss, vd mv, ss, vd mv, ss, vi (0 : Int32), vi (0 : Int32), vd vl, ss, vi (0 : Int32), vd vl, ss, vi (0 : Int32), uu, uu, uu] [(.ref a489)]) := by
            intro tQ kk
            refine k1049 tQ ?_
            refine XS.istore X1033.here hx rfl (hb hby at_395) rfl (l' := #[vi p0, vi p1, vi p2, vi p3, vi (1 : Int32), vi (0 : Int32), vi pre, vi adv, vi ((XT.ushr p3 (3 : Int32)) &&& (3 : Int32)), vi (1 : Int32), vd (FP.i2d p0), ss, vr a489, vd mv, ss, vd mt, ss, vi (0 : Int32), vi tI, vi nI, vd (FP.i2d nI), ss, vd mv, ss, vd mv, ss, vd mv, ss, vi (0 : Int32), vi (0 : Int32), vd vl, ss, vi (0 : Int32), vd vl, ss, vi (0 : Int32), uu, uu, uu]) rfl ?_
            refine XS.aload X1033.here hx rfl (hb hby at_397) rfl rfl ?_
            exact kk
          clear k1049
          obtain ⟨cq1063, kq1064, qa1065, qb1066, qc1067⟩ := isOf hZ e1046 F1021
          obtain ⟨_, _, ⟨T1052, L1053, kc1054, nc1055⟩, -, X1056, ⟨Lc1057, hQ1058, l1059, y1060, z1061⟩, st1062⟩ := X1033.virtualBack hx (y := mn12) (z := mn12) hown (mvT hZ (tw49 hw)) (mvT hZ (tw50 hw)) (notFace_of_selects (args := #[]) (mvT hZ (tw52 hw))) (mvT hZ (tw52 hw)) (mvT hZ (tw51 hw)) (by decide) (backOf (W := 0) (rmN l Z a0 hw [] a489 (1 : Int32) vl mt sp (0 : Int32) T994.heap n0 Z1020 F1021 g1014 F1024 g1016 g1017 F1026 ge491 (fun z => absurd z (by decide))) hZ (tw53 hw) (tw2 hw) (by decide) (by decide)) qa1065 qc1067 (g := (mkF m 399 #[vi p0, vi p1, vi p2, vi p3, vi (1 : Int32), vi (0 : Int32), vi pre, vi adv, vi ((XT.ushr p3 (3 : Int32)) &&& (3 : Int32)), vi (1 : Int32), vd (FP.i2d p0), ss, vr a489, vd mv, ss, vd mt, ss, vi (0 : Int32), vi tI, vi nI, vd (FP.i2d nI), ss, vd mv, ss, vd mv, ss, vd mv, ss, vi (0 : Int32), vi (0 : Int32), vd vl, ss, vi (0 : Int32), vd vl, ss, vi (0 : Int32), uu, uu, uu] [(.ref a489)])) rfl (by rw [hml]; rfl) (Steps.refl _) (argsL := []) (rest := []) (lenOf pd_16 rfl) rfl (by show 2 * 0 + _ ≤ _; exact Nat.le_of_eq rfl) (hb hby at_399) (fun _ _ => ⟨rfl, e1046, (by decide : 1 + 0 ≤ _), (by decide : 5 + 0 ≤ _)⟩)
          dsimp only [Pt.U, Pt.locs, Pt.cells, Pt.slots] at X1056 l1059 y1060 z1061 st1062 hQ1058
          subst y1060 z1061
          obtain ⟨rfl, N1068, K1071, g1072, g1073, g1074, g1075, g1076⟩ := hQ1058
          have N1077 : Fr n0 L1053 := by rw [l1059]; exact Fr.app N1048 N1068
          clear l1059 N1068
          have Z1078 : n0 ≤ T1052.heap.size := Nat.le_trans Z1020 K1071.1
          clear Z1020
          have F1079 : xa7 Z T1052.heap a489 := F1021.keep K1071
          clear F1021
          clear g1014
          clear F1024
          clear g1016
          clear g1017
          clear F1026
          have k1080 : own_G p e below E0 T1052 (mkF m 402 #[vi p0, vi p1, vi p2, vi p3, vi (1 : Int32), vi (0 : Int32), vi pre, vi adv, vi ((XT.ushr p3 (3 : Int32)) &&& (3 : Int32)), vi (1 : Int32), vd (FP.i2d p0), ss, vr a489, vd mv, ss, vd mt, ss, vi (0 : Int32), vi tI, vi nI, vd (FP.i2d nI), ss, vd mv, ss, vd mv, ss, vd mv, ss, vi (0 : Int32), vi (0 : Int32), vd vl, ss, vi (0 : Int32), vd vl, ss, vi (0 : Int32), uu, uu, uu] [(.double (own_nv vl mt sp (0 : Int32)))]) := fun tQ kk => k1051 tQ (st1062.trans kk)
          clear k1051 st1062
          have eq1081 : (own_nv vl mt sp (0 : Int32)) = vl := by rw [own_nv, if_neg (by decide)]
          have F1082 : fd3 Z T1052.heap a489 (.double vl) := by rw [← eq1081]; exact g1073
          have eq1083 : (own_nr (0 : Int32)) = (0 : Int32) := by decide
          have F1084 : fd6 Z T1052.heap a489 (.int (0 : Int32)) := by rw [← eq1083]; exact g1076
          have eq1085 : (own_nv vl mt sp (0 : Int32)) = vl := by rw [own_nv, if_neg (by decide)]
          rw [eq1085] at k1080
          have k1086 : own_G p e below E0 T1052 (mkF m 406 #[vi p0, vi p1, vi p2, vi p3, vi (1 : Int32), vi (0 : Int32), vi pre, vi adv, vi ((XT.ushr p3 (3 : Int32)) &&& (3 : Int32)), vi (1 : Int32), vd (FP.i2d p0), ss, vr a489, vd mv, ss, vd mt, ss, vi (0 : Int32), vi tI, vi nI, vd (FP.i2d nI), ss, vd mv, ss, vd mv, ss, vd mv, ss, vi (0 : Int32), vi (0 : Int32), vd vl, ss, vi (0 : Int32), vd vl, ss, vi (0 : Int32), vd vl, ss, uu] [(.ref a489)]) := by
            intro tQ kk
            refine k1080 tQ ?_
            refine XS.dstore X1056.here hx rfl (hb hby at_402) rfl (l' := #[vi p0, vi p1, vi p2, vi p3, vi (1 : Int32), vi (0 : Int32), vi pre, vi adv, vi ((XT.ushr p3 (3 : Int32)) &&& (3 : Int32)), vi (1 : Int32), vd (FP.i2d p0), ss, vr a489, vd mv, ss, vd mt, ss, vi (0 : Int32), vi tI, vi nI, vd (FP.i2d nI), ss, vd mv, ss, vd mv, ss, vd mv, ss, vi (0 : Int32), vi (0 : Int32), vd vl, ss, vi (0 : Int32), vd vl, ss, vi (0 : Int32), vd vl, ss, uu]) rfl ?_
            refine XS.aload X1056.here hx rfl (hb hby at_404) rfl rfl ?_
            exact kk
          clear k1080
          obtain ⟨cq1098, kq1099, qa1100, qb1101, qc1102⟩ := isOf hZ rfl F1079
          obtain ⟨_, _, ⟨T1087, L1088, kc1089, nc1090⟩, -, X1091, ⟨Lc1092, hQ1093, l1094, y1095, z1096⟩, st1097⟩ := X1056.virtualBack hx (y := mn13) (z := mn13) hown (mvT hZ (tw44 hw)) (mvT hZ (tw45 hw)) (notFace_of_selects (args := #[]) (mvT hZ (tw47 hw))) (mvT hZ (tw47 hw)) (mvT hZ (tw46 hw)) (by decide) (backOf (W := 0) (rmMv l Z a0 hw [] a489 (0 : Int32) T1052.heap n0 Z1078 F1084) hZ (tw48 hw) (tw2 hw) (by decide) (by decide)) qa1100 qc1102 (g := (mkF m 406 #[vi p0, vi p1, vi p2, vi p3, vi (1 : Int32), vi (0 : Int32), vi pre, vi adv, vi ((XT.ushr p3 (3 : Int32)) &&& (3 : Int32)), vi (1 : Int32), vd (FP.i2d p0), ss, vr a489, vd mv, ss, vd mt, ss, vi (0 : Int32), vi tI, vi nI, vd (FP.i2d nI), ss, vd mv, ss, vd mv, ss, vd mv, ss, vi (0 : Int32), vi (0 : Int32), vd vl, ss, vi (0 : Int32), vd vl, ss, vi (0 : Int32), vd vl, ss, uu] [(.ref a489)])) rfl (by rw [hml]; rfl) (Steps.refl _) (argsL := []) (rest := []) (lenOf pd_18 rfl) rfl (by show 2 * 0 + _ ≤ _; exact Nat.le_of_eq rfl) (hb hby at_406) (fun _ _ => ⟨rfl, rfl, (by decide : 1 + 0 ≤ _), (by decide : 5 + 0 ≤ _)⟩)
          dsimp only [Pt.U, Pt.locs, Pt.cells, Pt.slots] at X1091 l1094 y1095 z1096 st1097 hQ1093
          subst y1095 z1096
          obtain ⟨rfl, N1103, e1104⟩ := hQ1093
          have N1106 : Fr n0 L1088 := by rw [l1094]; exact Fr.app N1077 N1103
          clear l1094 N1103
          have k1107 : own_G p e below E0 T1087 (mkF m 409 #[vi p0, vi p1, vi p2, vi p3, vi (1 : Int32), vi (0 : Int32), vi pre, vi adv, vi ((XT.ushr p3 (3 : Int32)) &&& (3 : Int32)), vi (1 : Int32), vd (FP.i2d p0), ss, vr a489, vd mv, ss, vd mt, ss, vi (0 : Int32), vi tI, vi nI, vd (FP.i2d nI), ss, vd mv, ss, vd mv, ss, vd mv, ss, vi (0 : Int32), vi (0 : Int32), vd vl, ss, vi (0 : Int32), vd vl, ss, vi (0 : Int32), vd vl, ss, uu] [(.int (own_mv (0 : Int32)))]) := fun tQ kk => k1086 tQ (st1097.trans kk)
          clear k1086 st1097
          have eq1108 : (own_mv (0 : Int32)) = (0 : Int32) := by decide
          rw [eq1108] at k1107
          have k1109 : own_G p e below E0 T1087 (mkF m 459 #[vi p0, vi p1, vi p2, vi p3, vi (1 : Int32), vi (0 : Int32), vi pre, vi adv, vi ((XT.ushr p3 (3 : Int32)) &&& (3 : Int32)), vi (1 : Int32), vd (FP.i2d p0), ss, vr a489, vd mv, ss, vd mt, ss, vi (0 : Int32), vi tI, vi nI, vd (FP.i2d nI), ss, vd mv, ss, vd mv, ss, vd mv, ss, vi (0 : Int32), vi (0 : Int32), vd vl, ss, vi (0 : Int32), vd vl, ss, vi (0 : Int32), vd vl, ss, vi (0 : Int32)] [(.int (1 : Int32))]) := by
            intro tQ kk
            refine k1107 tQ ?_
            refine XS.istore X1091.here hx rfl (hb hby at_409) rfl (l' := #[vi p0, vi p1, vi p2, vi p3, vi (1 : Int32), vi (0 : Int32), vi pre, vi adv, vi ((XT.ushr p3 (3 : Int32)) &&& (3 : Int32)), vi (1 : Int32), vd (FP.i2d p0), ss, vr a489, vd mv, ss, vd mt, ss, vi (0 : Int32), vi tI, vi nI, vd (FP.i2d nI), ss, vd mv, ss, vd mv, ss, vd mv, ss, vi (0 : Int32), vi (0 : Int32), vd vl, ss, vi (0 : Int32), vd vl, ss, vi (0 : Int32), vd vl, ss, vi (0 : Int32)]) rfl ?_
            refine XS.dload X1091.here hx rfl (hb hby at_411) rfl ?_
            refine XS.dload X1091.here hx rfl (hb hby at_413) rfl ?_
            refine XS.dcmpS (v := (0 : Int32)) X1091.here hx rfl (hb hby at_415) rfl (own_eqz .l hvl.1.noNaN hmv.1.noNaN (hvl.2.trans hmv.2.symm)) ?_
            show Steps p.tables e below (T1087.setTop (mkF m 416 #[vi p0, vi p1, vi p2, vi p3, vi (1 : Int32), vi (0 : Int32), vi pre, vi adv, vi ((XT.ushr p3 (3 : Int32)) &&& (3 : Int32)), vi (1 : Int32), vd (FP.i2d p0), ss, vr a489, vd mv, ss, vd mt, ss, vi (0 : Int32), vi tI, vi nI, vd (FP.i2d nI), ss, vd mv, ss, vd mv, ss, vd mv, ss, vi (0 : Int32), vi (0 : Int32), vd vl, ss, vi (0 : Int32), vd vl, ss, vi (0 : Int32), vd vl, ss, vi (0 : Int32)] [(.int (0 : Int32))])) tQ
            refine XS.ifNo X1091.here hx rfl (hb hby at_416) rfl (own_if_neN (by decide)) ?_
            refine XS.iload X1091.here hx rfl (hb hby at_419) rfl ?_
            refine XS.iload X1091.here hx rfl (hb hby at_421) rfl ?_
            refine XS.icmpNo X1091.here hx rfl (hb hby at_423) rfl (own_ic_neN (by decide)) ?_
            show Steps p.tables e below (T1087.setTop (mkF m 426 #[vi p0, vi p1, vi p2, vi p3, vi (1 : Int32), vi (0 : Int32), vi pre, vi adv, vi ((XT.ushr p3 (3 : Int32)) &&& (3 : Int32)), vi (1 : Int32), vd (FP.i2d p0), ss, vr a489, vd mv, ss, vd mt, ss, vi (0 : Int32), vi tI, vi nI, vd (FP.i2d nI), ss, vd mv, ss, vd mv, ss, vd mv, ss, vi (0 : Int32), vi (0 : Int32), vd vl, ss, vi (0 : Int32), vd vl, ss, vi (0 : Int32), vd vl, ss, vi (0 : Int32)] [])) tQ
            refine XS.dload X1091.here hx rfl (hb hby at_426) rfl ?_
            refine XS.dload X1091.here hx rfl (hb hby at_428) rfl ?_
            refine XS.dcmpS (v := (0 : Int32)) X1091.here hx rfl (hb hby at_430) rfl (own_eqz .l hvl.1.noNaN hmv.1.noNaN (hvl.2.trans hmv.2.symm)) ?_
            refine XS.ifNo X1091.here hx rfl (hb hby at_431) rfl (own_if_neN (by decide)) ?_
            show Steps p.tables e below (T1087.setTop (mkF m 434 #[vi p0, vi p1, vi p2, vi p3, vi (1 : Int32), vi (0 : Int32), vi pre, vi adv, vi ((XT.ushr p3 (3 : Int32)) &&& (3 : Int32)), vi (1 : Int32), vd (FP.i2d p0), ss, vr a489, vd mv, ss, vd mt, ss, vi (0 : Int32), vi tI, vi nI, vd (FP.i2d nI), ss, vd mv, ss, vd mv, ss, vd mv, ss, vi (0 : Int32), vi (0 : Int32), vd vl, ss, vi (0 : Int32), vd vl, ss, vi (0 : Int32), vd vl, ss, vi (0 : Int32)] [])) tQ
            refine XS.iload X1091.here hx rfl (hb hby at_434) rfl ?_
            refine XS.iload X1091.here hx rfl (hb hby at_436) rfl ?_
            refine XS.icmpNo X1091.here hx rfl (hb hby at_438) rfl (own_ic_neN (by decide)) ?_
            refine XS.dload X1091.here hx rfl (hb hby at_441) rfl ?_
            show Steps p.tables e below (T1087.setTop (mkF m 443 #[vi p0, vi p1, vi p2, vi p3, vi (1 : Int32), vi (0 : Int32), vi pre, vi adv, vi ((XT.ushr p3 (3 : Int32)) &&& (3 : Int32)), vi (1 : Int32), vd (FP.i2d p0), ss, vr a489, vd mv, ss, vd mt, ss, vi (0 : Int32), vi tI, vi nI, vd (FP.i2d nI), ss, vd mv, ss, vd mv, ss, vd mv, ss, vi (0 : Int32), vi (0 : Int32), vd vl, ss, vi (0 : Int32), vd vl, ss, vi (0 : Int32), vd vl, ss, vi (0 : Int32)] [(.double vl)])) tQ
            refine XS.dload X1091.here hx rfl (hb hby at_443) rfl ?_
            refine XS.dcmpS (v := (0 : Int32)) X1091.here hx rfl (hb hby at_445) rfl (own_eqz .l hvl.1.noNaN hmv.1.noNaN (hvl.2.trans hmv.2.symm)) ?_
            refine XS.ifNo X1091.here hx rfl (hb hby at_446) rfl (own_if_neN (by decide)) ?_
            refine XS.iload X1091.here hx rfl (hb hby at_449) rfl ?_
            show Steps p.tables e below (T1087.setTop (mkF m 451 #[vi p0, vi p1, vi p2, vi p3, vi (1 : Int32), vi (0 : Int32), vi pre, vi adv, vi ((XT.ushr p3 (3 : Int32)) &&& (3 : Int32)), vi (1 : Int32), vd (FP.i2d p0), ss, vr a489, vd mv, ss, vd mt, ss, vi (0 : Int32), vi tI, vi nI, vd (FP.i2d nI), ss, vd mv, ss, vd mv, ss, vd mv, ss, vi (0 : Int32), vi (0 : Int32), vd vl, ss, vi (0 : Int32), vd vl, ss, vi (0 : Int32), vd vl, ss, vi (0 : Int32)] [(.int (0 : Int32))])) tQ
            refine XS.ifNo X1091.here hx rfl (hb hby at_451) rfl (own_if_neN (by decide)) ?_
            refine XS.iconst X1091.here hx rfl (hb hby at_454) ?_
            refine XS.goto X1091.here hx rfl (pc0 := 455) (pc' := 459) rfl (hb hby at_455) (by decide) (by decide) ?_
            exact kk
          clear k1107
          obtain ⟨fs, hr, hrun, hended, hW, hsame⟩ := X1091.leave (v := some (.int (1 : Int32))) (fun h => by rw [Bd.returns] at h; cases h)
          have hrun0 := k1109 _ (retOut X1091 hx Bd.returns (t := .boolean) rfl (Or.inl ⟨rfl, Or.inr (Or.inl rfl), _, rfl⟩) (hb hby at_459) hr)
          subst hE0
          refine ⟨_, _, hrun0, hrun, hended, _, _, rfl, ?_, ⟨_, rfl⟩, hW, hsame.mono (by decide) (by decide)⟩
          show Qrm0 Z p0 p1 p2 p3 h0 n0 _ T1087.heap _
          rw [e1104]
          exact ⟨rfl, N1106⟩
        · skip
          have k1110 : own_G p e below E0 T690 (mkF m 366 #[vi p0, vi p1, vi p2, vi p3, vi (1 : Int32), vi (0 : Int32), vi pre, vi adv, vi ((XT.ushr p3 (3 : Int32)) &&& (3 : Int32)), vi (1 : Int32), vd (FP.i2d p0), ss, vr a489, vd mv, ss, vd mt, ss, vi (1 : Int32), vi tI, vi nI, vd (FP.i2d nI), ss, vd mv, ss, vd mt, ss, vd mt, ss, vi (1 : Int32), vi (0 : Int32), uu, uu, uu, uu, uu, uu, uu, uu, uu] [(.int (1 : Int32)), (.double (FP.i2d nI)), (.ref a489)]) := by
            intro tQ kk
            refine k911 tQ ?_
            refine XS.dload X691.here hx rfl (hb hby at_284) rfl ?_
            refine XS.dstore X691.here hx rfl (hb hby at_286) rfl (l' := #[vi p0, vi p1, vi p2, vi p3, vi (1 : Int32), vi (0 : Int32), vi pre, vi adv, vi ((XT.ushr p3 (3 : Int32)) &&& (3 : Int32)), vi (1 : Int32), vd (FP.i2d p0), ss, vr a489, vd mv, ss, vd mt, ss, vi (1 : Int32), vi tI, vi nI, vd (FP.i2d nI), ss, vd mv, ss, uu, uu, uu, uu, uu, uu, uu, uu, uu, uu, uu, uu, uu, uu, uu]) rfl ?_
            refine XS.iload X691.here hx rfl (hb hby at_288) rfl ?_
            refine XS.ifNo X691.here hx rfl (hb hby at_290) rfl (own_if_leN (by decide)) ?_
            show Steps p.tables e below (T690.setTop (mkF m 293 #[vi p0, vi p1, vi p2, vi p3, vi (1 : Int32), vi (0 : Int32), vi pre, vi adv, vi ((XT.ushr p3 (3 : Int32)) &&& (3 : Int32)), vi (1 : Int32), vd (FP.i2d p0), ss, vr a489, vd mv, ss, vd mt, ss, vi (1 : Int32), vi tI, vi nI, vd (FP.i2d nI), ss, vd mv, ss, uu, uu, uu, uu, uu, uu, uu, uu, uu, uu, uu, uu, uu, uu, uu] [])) tQ
            refine XS.iconst X691.here hx rfl (hb hby at_293) ?_
            refine XS.goto X691.here hx rfl (pc0 := 294) (pc' := 298) rfl (hb hby at_294) (by decide) (by decide) ?_
            refine XS.istore X691.here hx rfl (hb hby at_298) rfl (l' := #[vi p0, vi p1, vi p2, vi p3, vi (1 : Int32), vi (0 : Int32), vi pre, vi adv, vi ((XT.ushr p3 (3 : Int32)) &&& (3 : Int32)), vi (1 : Int32), vd (FP.i2d p0), ss, vr a489, vd mv, ss, vd mt, ss, vi (1 : Int32), vi tI, vi nI, vd (FP.i2d nI), ss, vd mv, ss, uu, uu, uu, uu, vi (1 : Int32), uu, uu, uu, uu, uu, uu, uu, uu, uu, uu]) rfl ?_
            refine XS.iload X691.here hx rfl (hb hby at_300) rfl ?_
            show Steps p.tables e below (T690.setTop (mkF m 302 #[vi p0, vi p1, vi p2, vi p3, vi (1 : Int32), vi (0 : Int32), vi pre, vi adv, vi ((XT.ushr p3 (3 : Int32)) &&& (3 : Int32)), vi (1 : Int32), vd (FP.i2d p0), ss, vr a489, vd mv, ss, vd mt, ss, vi (1 : Int32), vi tI, vi nI, vd (FP.i2d nI), ss, vd mv, ss, uu, uu, uu, uu, vi (1 : Int32), uu, uu, uu, uu, uu, uu, uu, uu, uu, uu] [(.int (1 : Int32))])) tQ
            refine XS.iconst X691.here hx rfl (hb hby at_302) ?_
            refine XS.icmpYes X691.here hx rfl (pc0 := 303) (pc' := 323) rfl (hb hby at_303) rfl (own_ic_neY (by decide)) (by decide) (by decide) ?_
            refine XS.iload X691.here hx rfl (hb hby at_323) rfl ?_
            refine XS.iconst X691.here hx rfl (hb hby at_325) ?_
            show Steps p.tables e below (T690.setTop (mkF m 326 #[vi p0, vi p1, vi p2, vi p3, vi (1 : Int32), vi (0 : Int32), vi pre, vi adv, vi ((XT.ushr p3 (3 : Int32)) &&& (3 : Int32)), vi (1 : Int32), vd (FP.i2d p0), ss, vr a489, vd mv, ss, vd mt, ss, vi (1 : Int32), vi tI, vi nI, vd (FP.i2d nI), ss, vd mv, ss, uu, uu, uu, uu, vi (1 : Int32), uu, uu, uu, uu, uu, uu, uu, uu, uu, uu] [(.int (1 : Int32)), (.int (1 : Int32))])) tQ
            refine XS.icmpNo X691.here hx rfl (hb hby at_326) rfl (own_ic_neN (by decide)) ?_
            refine XS.dload X691.here hx rfl (hb hby at_329) rfl ?_
            refine XS.dstore X691.here hx rfl (hb hby at_331) rfl (l' := #[vi p0, vi p1, vi p2, vi p3, vi (1 : Int32), vi (0 : Int32), vi pre, vi adv, vi ((XT.ushr p3 (3 : Int32)) &&& (3 : Int32)), vi (1 : Int32), vd (FP.i2d p0), ss, vr a489, vd mv, ss, vd mt, ss, vi (1 : Int32), vi tI, vi nI, vd (FP.i2d nI), ss, vd mv, ss, vd mt, ss, uu, uu, vi (1 : Int32), uu, uu, uu, uu, uu, uu, uu, uu, uu, uu]) rfl ?_
            refine XS.iconst X691.here hx rfl (hb hby at_333) ?_
            show Steps p.tables e below (T690.setTop (mkF m 334 #[vi p0, vi p1, vi p2, vi p3, vi (1 : Int32), vi (0 : Int32), vi pre, vi adv, vi ((XT.ushr p3 (3 : Int32)) &&& (3 : Int32)), vi (1 : Int32), vd (FP.i2d p0), ss, vr a489, vd mv, ss, vd mt, ss, vi (1 : Int32), vi tI, vi nI, vd (FP.i2d nI), ss, vd mv, ss, vd mt, ss, uu, uu, vi (1 : Int32), uu, uu, uu, uu, uu, uu, uu, uu, uu, uu] [(.int (0 : Int32))])) tQ
            refine XS.istore X691.here hx rfl (hb hby at_334) rfl (l' := #[vi p0, vi p1, vi p2, vi p3, vi (1 : Int32), vi (0 : Int32), vi pre, vi adv, vi ((XT.ushr p3 (3 : Int32)) &&& (3 : Int32)), vi (1 : Int32), vd (FP.i2d p0), ss, vr a489, vd mv, ss, vd mt, ss, vi (1 : Int32), vi tI, vi nI, vd (FP.i2d nI), ss, vd mv, ss, vd mt, ss, uu, uu, vi (1 : Int32), vi (0 : Int32), uu, uu, uu, uu, uu, uu, uu, uu, uu]) rfl ?_
            refine XS.goto X691.here hx rfl (pc0 := 336) (pc' := 346) rfl (hb hby at_336) (by decide) (by decide) ?_
            refine XS.iload X691.here hx rfl (hb hby at_346) rfl ?_
            refine XS.ifNo X691.here hx rfl (hb hby at_348) rfl (own_if_leN (by decide)) ?_
            show Steps p.tables e below (T690.setTop (mkF m 351 #[vi p0, vi p1, vi p2, vi p3, vi (1 : Int32), vi (0 : Int32), vi pre, vi adv, vi ((XT.ushr p3 (3 : Int32)) &&& (3 : Int32)), vi (1 : Int32), vd (FP.i2d p0), ss, vr a489, vd mv, ss, vd mt, ss, vi (1 : Int32), vi tI, vi nI, vd (FP.i2d nI), ss, vd mv, ss, vd mt, ss, uu, uu, vi (1 : Int32), vi (0 : Int32), uu, uu, uu, uu, uu, uu, uu, uu, uu] [])) tQ
            refine XS.dload X691.here hx rfl (hb hby at_351) rfl ?_
            refine XS.goto X691.here hx rfl (pc0 := 353) (pc' := 358) rfl (hb hby at_353) (by decide) (by decide) ?_
            refine XS.dstore X691.here hx rfl (hb hby at_358) rfl (l' := #[vi p0, vi p1, vi p2, vi p3, vi (1 : Int32), vi (0 : Int32), vi pre, vi adv, vi ((XT.ushr p3 (3 : Int32)) &&& (3 : Int32)), vi (1 : Int32), vd (FP.i2d p0), ss, vr a489, vd mv, ss, vd mt, ss, vi (1 : Int32), vi tI, vi nI, vd (FP.i2d nI), ss, vd mv, ss, vd mt, ss, vd mt, ss, vi (1 : Int32), vi (0 : Int32), uu, uu, uu, uu, uu, uu, uu, uu, uu]) rfl ?_
            refine XS.aload X691.here hx rfl (hb hby at_360) rfl rfl ?_
            show Steps p.tables e below (T690.setTop (mkF m 362 #[vi p0, vi p1, vi p2, vi p3, vi (1 : Int32), vi (0 : Int32), vi pre, vi adv, vi ((XT.ushr p3 (3 : Int32)) &&& (3 : Int32)), vi (1 : Int32), vd (FP.i2d p0), ss, vr a489, vd mv, ss, vd mt, ss, vi (1 : Int32), vi tI, vi nI, vd (FP.i2d nI), ss, vd mv, ss, vd mt, ss, vd mt, ss, vi (1 : Int32), vi (0 : Int32), uu, uu, uu, uu, uu, uu, uu, uu, uu] [(.ref a489)])) tQ
            refine XS.dload X691.here hx rfl (hb hby at_362) rfl ?_
            refine XS.iload X691.here hx rfl (hb hby at_364) rfl ?_
            exact kk
          clear k911
          obtain ⟨cq1122, kq1123, qa1124, qb1125, qc1126⟩ := isOf hZ e692 F697
          obtain ⟨_, _, ⟨T1111, L1112, kc1113, nc1114⟩, -, X1115, ⟨Lc1116, hQ1117, l1118, y1119, z1120⟩, st1121⟩ := X691.virtualBack hx (y := mn11) (z := mn11) hown (mvT hZ (tw32 hw)) (mvT hZ (tw33 hw)) (notFace_of_selects (args := #[]) (mvT hZ (tw35 hw))) (mvT hZ (tw35 hw)) (mvT hZ (tw34 hw)) (by decide) (backOf (W := 0) (rmS1 l Z a0 hw [] a489 (FP.i2d nI) (1 : Int32) vl mt sp (1 : Int32) h693 n0 Z695 F697 F698 F699 F700 F701 F702 ge491 (Fl.i2d_fin nI).noNaN nmt (fun _ => ⟨Fl.dsub_out (Fl.i2d_fin nI).noNaN hvl.1, (own_fspN nI (F := (1 : Int32)) bW hvl (by decide)).noNaN⟩)) hZ (tw36 hw) (tw2 hw) (by decide) (by decide)) qa1124 qc1126 (g := (mkF m 366 #[vi p0, vi p1, vi p2, vi p3, vi (1 : Int32), vi (0 : Int32), vi pre, vi adv, vi ((XT.ushr p3 (3 : Int32)) &&& (3 : Int32)), vi (1 : Int32), vd (FP.i2d p0), ss, vr a489, vd mv, ss, vd mt, ss, vi (1 : Int32), vi tI, vi nI, vd (FP.i2d nI), ss, vd mv, ss, vd mt, ss, vd mt, ss, vi (1 : Int32), vi (0 : Int32), uu, uu, uu, uu, uu, uu, uu, uu, uu] [(.int (1 : Int32)), (.double (FP.i2d nI)), (.ref a489)])) rfl (by rw [hml]; rfl) (Steps.refl _) (argsL := [(.double (FP.i2d nI)), (.int (1 : Int32))]) (rest := []) (lenOf pd_17 rfl) rfl (by show 2 * 0 + _ ≤ _; exact Nat.le_of_eq rfl) (hb hby at_366) (fun _ _ => ⟨rfl, e692, (by decide : 1 + 0 ≤ _), (by decide : 5 + 0 ≤ _)⟩)
          dsimp only [Pt.U, Pt.locs, Pt.cells, Pt.slots] at X1115 l1118 y1119 z1120 st1121 hQ1117
          subst y1119 z1120
          obtain ⟨rfl, N1127, K1130, g1131, g1132, g1133, g1134, g1135⟩ := hQ1117
          have N1136 : Fr n0 L1112 := by rw [l1118]; exact Fr.app N694 N1127
          clear l1118 N1127
          have Z1137 : n0 ≤ T1111.heap.size := Nat.le_trans Z695 K1130.1
          clear Z695
          have F1138 : xa7 Z T1111.heap a489 := F697.keep K1130
          clear F697
          clear F698
          clear F699
          clear F700
          clear F701
          clear F702
          have k1139 : own_G p e below E0 T1111 (mkF m 369 #[vi p0, vi p1, vi p2, vi p3, vi (1 : Int32), vi (0 : Int32), vi pre, vi adv, vi ((XT.ushr p3 (3 : Int32)) &&& (3 : Int32)), vi (1 : Int32), vd (FP.i2d p0), ss, vr a489, vd mv, ss, vd mt, ss, vi (1 : Int32), vi tI, vi nI, vd (FP.i2d nI), ss, vd mv, ss, vd mt, ss, vd mt, ss, vi (1 : Int32), vi (0 : Int32), uu, uu, uu, uu, uu, uu, uu, uu, uu] []) := fun tQ kk => k1110 tQ (st1121.trans kk)
          clear k1110 st1121
          have eq1140 : (own_tg (FP.i2d nI) mt) = mt := by rw [own_tg, if_pos cE]
          have F1141 : fd4 Z T1111.heap a489 (.double mt) := by rw [← eq1140]; exact g1133
          have eq1142 : (own_sp (FP.i2d nI) vl mt sp (1 : Int32)) = sp := by rw [own_sp, if_pos cE]
          have F1143 : fd5 Z T1111.heap a489 (.double sp) := by rw [← eq1142]; exact g1134
          have eq1144 : (own_rm (FP.i2d nI) mt (1 : Int32) (1 : Int32)) = (1 : Int32) := by rw [own_rm, if_pos cE]
          have F1145 : fd6 Z T1111.heap a489 (.int (1 : Int32)) := by rw [← eq1144]; exact g1135
          have k1146 : own_G p e below E0 T1111 (mkF m 371 #[vi p0, vi p1, vi p2, vi p3, vi (1 : Int32), vi (0 : Int32), vi pre, vi adv, vi ((XT.ushr p3 (3 : Int32)) &&& (3 : Int32)), vi (1 : Int32), vd (FP.i2d p0), ss, vr a489, vd mv, ss, vd mt, ss, vi (1 : Int32), vi tI, vi nI, vd (FP.i2d nI), ss, vd mv, ss, vd mt, ss, vd mt, ss, vi (1 : Int32), vi (0 : Int32), uu, uu, uu, uu, uu, uu, uu, uu, uu] [(.ref a489)]) := by
            intro tQ kk
            refine k1139 tQ ?_
            refine XS.aload X1115.here hx rfl (hb hby at_369) rfl rfl ?_
            exact kk
          clear k1139
          obtain ⟨cq1158, kq1159, qa1160, qb1161, qc1162⟩ := isOf hZ rfl F1138
          obtain ⟨_, _, ⟨T1147, L1148, kc1149, nc1150⟩, -, X1151, ⟨Lc1152, hQ1153, l1154, y1155, z1156⟩, st1157⟩ := X1115.virtualBack hx (y := mn14) (z := mn14) hown (mvT hZ (tw39 hw)) (mvT hZ (tw40 hw)) (notFace_of_selects (args := #[]) (mvT hZ (tw42 hw))) (mvT hZ (tw42 hw)) (mvT hZ (tw41 hw)) (by decide) (backOf (W := 0) (rmVl l Z a0 hw [] a489 vl T1111.heap n0 Z1137 g1132) hZ (tw43 hw) (tw2 hw) (by decide) (by decide)) qa1160 qc1162 (g := (mkF m 371 #[vi p0, vi p1, vi p2, vi p3, vi (1 : Int32), vi (0 : Int32), vi pre, vi adv, vi ((XT.ushr p3 (3 : Int32)) &&& (3 : Int32)), vi (1 : Int32), vd (FP.i2d p0), ss, vr a489, vd mv, ss, vd mt, ss, vi (1 : Int32), vi tI, vi nI, vd (FP.i2d nI), ss, vd mv, ss, vd mt, ss, vd mt, ss, vi (1 : Int32), vi (0 : Int32), uu, uu, uu, uu, uu, uu, uu, uu, uu] [(.ref a489)])) rfl (by rw [hml]; rfl) (Steps.refl _) (argsL := []) (rest := []) (lenOf pd_16 rfl) rfl (by show 2 * 0 + _ ≤ _; exact Nat.le_of_eq rfl) (hb hby at_371) (fun _ _ => ⟨rfl, rfl, (by decide : 1 + 0 ≤ _), (by decide : 5 + 0 ≤ _)⟩)
          dsimp only [Pt.U, Pt.locs, Pt.cells, Pt.slots] at X1151 l1154 y1155 z1156 st1157 hQ1153
          subst y1155 z1156
          obtain ⟨rfl, N1163, e1164⟩ := hQ1153
          have N1166 : Fr n0 L1148 := by rw [l1154]; exact Fr.app N1136 N1163
          clear l1154 N1163
          have k1167 : own_G p e below E0 T1147 (mkF m 374 #[vi p0, vi p1, vi p2, vi p3, vi (1 : Int32), vi (0 : Int32), vi pre, vi adv, vi ((XT.ushr p3 (3 : Int32)) &&& (3 : Int32)), vi (1 : Int32), vd (FP.i2d p0), ss, vr a489, vd mv, ss, vd mt, ss, vi (1 : Int32), vi tI, vi nI, vd (FP.i2d nI), ss, vd mv, ss, vd mt, ss, vd mt, ss, vi (1 : Int32), vi (0 : Int32), uu, uu, uu, uu, uu, uu, uu, uu, uu] [(.double vl)]) := fun tQ kk => k1146 tQ (st1157.trans kk)
          clear k1146 st1157
          have k1168 : own_G p e below E0 T1147 (mkF m 378 #[vi p0, vi p1, vi p2, vi p3, vi (1 : Int32), vi (0 : Int32), vi pre, vi adv, vi ((XT.ushr p3 (3 : Int32)) &&& (3 : Int32)), vi (1 : Int32), vd (FP.i2d p0), ss, vr a489, vd mv, ss, vd mt, ss, vi (1 : Int32), vi tI, vi nI, vd (FP.i2d nI), ss, vd mv, ss, vd mt, ss, vd mt, ss, vi (1 : Int32), vi (0 : Int32), vd vl, ss, uu, uu, uu, uu, uu, uu, uu] [(.ref a489)]) := by
            intro tQ kk
            refine k1167 tQ ?_
            refine XS.dstore X1151.here hx rfl (hb hby at_374) rfl (l' := #[vi p0, vi p1, vi p2, vi p3, vi (1 : Int32), vi (0 : Int32), vi pre, vi adv, vi ((XT.ushr p3 (3 : Int32)) &&& (3 : Int32)), vi (1 : Int32), vd (FP.i2d p0), ss, vr a489, vd mv, ss, vd mt, ss, vi (1 : Int32), vi tI, vi nI, vd (FP.i2d nI), ss, vd mv, ss, vd mt, ss, vd mt, ss, vi (1 : Int32), vi (0 : Int32), vd vl, ss, uu, uu, uu, uu, uu, uu, uu]) rfl ?_
            refine XS.aload X1151.here hx rfl (hb hby at_376) rfl rfl ?_
            exact kk
          clear k1167
          obtain ⟨cq1180, kq1181, qa1182, qb1183, qc1184⟩ := isOf hZ e1164 F1138
          obtain ⟨_, _, ⟨T1169, L1170, kc1171, nc1172⟩, -, X1173, ⟨Lc1174, hQ1175, l1176, y1177, z1178⟩, st1179⟩ := X1151.virtualBack hx (y := mn13) (z := mn13) hown (mvT hZ (tw44 hw)) (mvT hZ (tw45 hw)) (notFace_of_selects (args := #[]) (mvT hZ (tw47 hw))) (mvT hZ (tw47 hw)) (mvT hZ (tw46 hw)) (by decide) (backOf (W := 0) (rmMv l Z a0 hw [] a489 (1 : Int32) T1111.heap n0 Z1137 F1145) hZ (tw48 hw) (tw2 hw) (by decide) (by decide)) qa1182 qc1184 (g := (mkF m 378 #[vi p0, vi p1, vi p2, vi p3, vi (1 : Int32), vi (0 : Int32), vi pre, vi adv, vi ((XT.ushr p3 (3 : Int32)) &&& (3 : Int32)), vi (1 : Int32), vd (FP.i2d p0), ss, vr a489, vd mv, ss, vd mt, ss, vi (1 : Int32), vi tI, vi nI, vd (FP.i2d nI), ss, vd mv, ss, vd mt, ss, vd mt, ss, vi (1 : Int32), vi (0 : Int32), vd vl, ss, uu, uu, uu, uu, uu, uu, uu] [(.ref a489)])) rfl (by rw [hml]; rfl) (Steps.refl _) (argsL := []) (rest := []) (lenOf pd_18 rfl) rfl (by show 2 * 0 + _ ≤ _; exact Nat.le_of_eq rfl) (hb hby at_378) (fun _ _ => ⟨rfl, e1164, (by decide : 1 + 0 ≤ _), (by decide : 5 + 0 ≤ _)⟩)
          dsimp only [Pt.U, Pt.locs, Pt.cells, Pt.slots] at X1173 l1176 y1177 z1178 st1179 hQ1175
          subst y1177 z1178
          obtain ⟨rfl, N1185, e1186⟩ := hQ1175
          have N1188 : Fr n0 L1170 := by rw [l1176]; exact Fr.app N1166 N1185
          clear l1176 N1185
          have k1189 : own_G p e below E0 T1169 (mkF m 381 #[vi p0, vi p1, vi p2, vi p3, vi (1 : Int32), vi (0 : Int32), vi pre, vi adv, vi ((XT.ushr p3 (3 : Int32)) &&& (3 : Int32)), vi (1 : Int32), vd (FP.i2d p0), ss, vr a489, vd mv, ss, vd mt, ss, vi (1 : Int32), vi tI, vi nI, vd (FP.i2d nI), ss, vd mv, ss, vd mt, ss, vd mt, ss, vi (1 : Int32), vi (0 : Int32), vd vl, ss, uu, uu, uu, uu, uu, uu, uu] [(.int (own_mv (1 : Int32)))]) := fun tQ kk => k1168 tQ (st1179.trans kk)
          clear k1168 st1179
          have eq1190 : (own_mv (1 : Int32)) = (1 : Int32) := by decide
          rw [eq1190] at k1189
          have k1191 : own_G p e below E0 T1169 (mkF m 385 #[vi p0, vi p1, vi p2, vi p3, vi (1 : Int32), vi (0 : Int32), vi pre, vi adv, vi ((XT.ushr p3 (3 : Int32)) &&& (3 : Int32)), vi (1 : Int32), vd (FP.i2d p0), ss, vr a489, vd mv, ss, vd mt, ss, vi (1 : Int32), vi tI, vi nI, vd (FP.i2d nI), ss, vd mv, ss, vd mt, ss, vd mt, ss, vi (1 : Int32), vi (0 : Int32), vd vl, ss, vi (1 : Int32), uu, uu, uu, uu, uu, uu] [(.ref a489)]) := by
            intro tQ kk
            refine k1189 tQ ?_
            refine XS.istore X1173.here hx rfl (hb hby at_381) rfl (l' := #[vi p0, vi p1, vi p2, vi p3, vi (1 : Int32), vi (0 : Int32), vi pre, vi adv, vi ((XT.ushr p3 (3 : Int32)) &&& (3 : Int32)), vi (1 : Int32), vd (FP.i2d p0), ss, vr a489, vd mv, ss, vd mt, ss, vi (1 : Int32), vi tI, vi nI, vd (FP.i2d nI), ss, vd mv, ss, vd mt, ss, vd mt, ss, vi (1 : Int32), vi (0 : Int32), vd vl, ss, vi (1 : Int32), uu, uu, uu, uu, uu, uu]) rfl ?_
            refine XS.aload X1173.here hx rfl (hb hby at_383) rfl rfl ?_
            exact kk
          clear k1189
          obtain ⟨cq1203, kq1204, qa1205, qb1206, qc1207⟩ := isOf hZ e1186 F1138
          obtain ⟨_, _, ⟨T1192, L1193, kc1194, nc1195⟩, -, X1196, ⟨Lc1197, hQ1198, l1199, y1200, z1201⟩, st1202⟩ := X1173.virtualBack hx (y := mn12) (z := mn12) hown (mvT hZ (tw49 hw)) (mvT hZ (tw50 hw)) (notFace_of_selects (args := #[]) (mvT hZ (tw52 hw))) (mvT hZ (tw52 hw)) (mvT hZ (tw51 hw)) (by decide) (backOf (W := 0) (rmN l Z a0 hw [] a489 (1 : Int32) vl mt sp (1 : Int32) T1111.heap n0 Z1137 F1138 g1131 g1132 F1141 F1143 F1145 ge491 (fun _ => own_nn1 hsp fmt)) hZ (tw53 hw) (tw2 hw) (by decide) (by decide)) qa1205 qc1207 (g := (mkF m 385 #[vi p0, vi p1, vi p2, vi p3, vi (1 : Int32), vi (0 : Int32), vi pre, vi adv, vi ((XT.ushr p3 (3 : Int32)) &&& (3 : Int32)), vi (1 : Int32), vd (FP.i2d p0), ss, vr a489, vd mv, ss, vd mt, ss, vi (1 : Int32), vi tI, vi nI, vd (FP.i2d nI), ss, vd mv, ss, vd mt, ss, vd mt, ss, vi (1 : Int32), vi (0 : Int32), vd vl, ss, vi (1 : Int32), uu, uu, uu, uu, uu, uu] [(.ref a489)])) rfl (by rw [hml]; rfl) (Steps.refl _) (argsL := []) (rest := []) (lenOf pd_16 rfl) rfl (by show 2 * 0 + _ ≤ _; exact Nat.le_of_eq rfl) (hb hby at_385) (fun _ _ => ⟨rfl, e1186, (by decide : 1 + 0 ≤ _), (by decide : 5 + 0 ≤ _)⟩)
          dsimp only [Pt.U, Pt.locs, Pt.cells, Pt.slots] at X1196 l1199 y1200 z1201 st1202 hQ1198
          subst y1200 z1201
          obtain ⟨rfl, N1208, K1211, g1212, g1213, g1214, g1215, g1216⟩ := hQ1198
          have N1217 : Fr n0 L1193 := by rw [l1199]; exact Fr.app N1188 N1208
          clear l1199 N1208
          have Z1218 : n0 ≤ T1192.heap.size := Nat.le_trans Z1137 K1211.1
          clear Z1137
          have F1219 : xa7 Z T1192.heap a489 := F1138.keep K1211
          clear F1138
          clear g1131
          clear g1132
          clear F1141
          clear F1143
          clear F1145
          have k1220 : own_G p e below E0 T1192 (mkF m 388 #[vi p0, vi p1, vi p2, vi p3, vi (1 : Int32), vi (0 : Int32), vi pre, vi adv, vi ((XT.ushr p3 (3 : Int32)) &&& (3 : Int32)), vi (1 : Int32), vd (FP.i2d p0), ss, vr a489, vd mv, ss, vd mt, ss, vi (1 : Int32), vi tI, vi nI, vd (FP.i2d nI), ss, vd mv, ss, vd mt, ss, vd mt, ss, vi (1 : Int32), vi (0 : Int32), vd vl, ss, vi (1 : Int32), uu, uu, uu, uu, uu, uu] [(.double (own_nv vl mt sp (1 : Int32)))]) := fun tQ kk => k1191 tQ (st1202.trans kk)
          clear k1191 st1202
          have eq1221 : (own_nv vl mt sp (1 : Int32)) = (FP.dsub mt (FP.dmul (FP.i2d (0 : Int32)) sp)) := by rw [own_nv, if_pos (by decide), show (1 : Int32) - 1 = (0 : Int32) by decide]
          have F1222 : fd3 Z T1192.heap a489 (.double (FP.dsub mt (FP.dmul (FP.i2d (0 : Int32)) sp))) := by rw [← eq1221]; exact g1213
          have eq1223 : (own_nr (1 : Int32)) = (0 : Int32) := by decide
          have F1224 : fd6 Z T1192.heap a489 (.int (0 : Int32)) := by rw [← eq1223]; exact g1216
          have eq1225 : (own_nv vl mt sp (1 : Int32)) = (FP.dsub mt (FP.dmul (FP.i2d (0 : Int32)) sp)) := by rw [own_nv, if_pos (by decide), show (1 : Int32) - 1 = (0 : Int32) by decide]
          rw [eq1225] at k1220
          have k1226 : own_G p e below E0 T1192 (mkF m 392 #[vi p0, vi p1, vi p2, vi p3, vi (1 : Int32), vi (0 : Int32), vi pre, vi adv, vi ((XT.ushr p3 (3 : Int32)) &&& (3 : Int32)), vi (1 : Int32), vd (FP.i2d p0), ss, vr a489, vd mv, ss, vd mt, ss, vi (1 : Int32), vi tI, vi nI, vd (FP.i2d nI), ss, vd mv, ss, vd mt, ss, vd mt, ss, vi (1 : Int32), vi (0 : Int32), vd vl, ss, vi (1 : Int32), vd (FP.dsub mt (FP.dmul (FP.i2d (0 : Int32)) sp)), ss, uu, uu, uu, uu] [(.ref a489)]) := by
            intro tQ kk
            refine k1220 tQ ?_
            refine XS.dstore X1196.here hx rfl (hb hby at_388) rfl (l' := #[vi p0, vi p1, vi p2, vi p3, vi (1 : Int32), vi (0 : Int32), vi pre, vi adv, vi ((XT.ushr p3 (3 : Int32)) &&& (3 : Int32)), vi (1 : Int32), vd (FP.i2d p0), ss, vr a489, vd mv, ss, vd mt, ss, vi (1 : Int32), vi tI, vi nI, vd (FP.i2d nI), ss, vd mv, ss, vd mt, ss, vd mt, ss, vi (1 : Int32), vi (0 : Int32), vd vl, ss, vi (1 : Int32), vd (FP.dsub mt (FP.dmul (FP.i2d (0 : Int32)) sp)), ss, uu, uu, uu, uu]) rfl ?_
            refine XS.aload X1196.here hx rfl (hb hby at_390) rfl rfl ?_
            exact kk
          clear k1220
          obtain ⟨cq1238, kq1239, qa1240, qb1241, qc1242⟩ := isOf hZ rfl F1219
          obtain ⟨_, _, ⟨T1227, L1228, kc1229, nc1230⟩, -, X1231, ⟨Lc1232, hQ1233, l1234, y1235, z1236⟩, st1237⟩ := X1196.virtualBack hx (y := mn13) (z := mn13) hown (mvT hZ (tw44 hw)) (mvT hZ (tw45 hw)) (notFace_of_selects (args := #[]) (mvT hZ (tw47 hw))) (mvT hZ (tw47 hw)) (mvT hZ (tw46 hw)) (by decide) (backOf (W := 0) (rmMv l Z a0 hw [] a489 (0 : Int32) T1192.heap n0 Z1218 F1224) hZ (tw48 hw) (tw2 hw) (by decide) (by decide)) qa1240 qc1242 (g := (mkF m 392 #[vi p0, vi p1, vi p2, vi p3, vi (1 : Int32), vi (0 : Int32), vi pre, vi adv, vi ((XT.ushr p3 (3 : Int32)) &&& (3 : Int32)), vi (1 : Int32), vd (FP.i2d p0), ss, vr a489, vd mv, ss, vd mt, ss, vi (1 : Int32), vi tI, vi nI, vd (FP.i2d nI), ss, vd mv, ss, vd mt, ss, vd mt, ss, vi (1 : Int32), vi (0 : Int32), vd vl, ss, vi (1 : Int32), vd (FP.dsub mt (FP.dmul (FP.i2d (0 : Int32)) sp)), ss, uu, uu, uu, uu] [(.ref a489)])) rfl (by rw [hml]; rfl) (Steps.refl _) (argsL := []) (rest := []) (lenOf pd_18 rfl) rfl (by show 2 * 0 + _ ≤ _; exact Nat.le_of_eq rfl) (hb hby at_392) (fun _ _ => ⟨rfl, rfl, (by decide : 1 + 0 ≤ _), (by decide : 5 + 0 ≤ _)⟩)
          dsimp only [Pt.U, Pt.locs, Pt.cells, Pt.slots] at X1231 l1234 y1235 z1236 st1237 hQ1233
          subst y1235 z1236
          obtain ⟨rfl, N1243, e1244⟩ := hQ1233
          have N1246 : Fr n0 L1228 := by rw [l1234]; exact Fr.app N1217 N1243
          clear l1234 N1243
          have k1247 : own_G p e below E0 T1227 (mkF m 395 #[vi p0, vi p1, vi p2, vi p3, vi (1 : Int32), vi (0 : Int32), vi pre, vi adv, vi ((XT.ushr p3 (3 : Int32)) &&& (3 : Int32)), vi (1 : Int32), vd (FP.i2d p0), ss, vr a489, vd mv, ss, vd mt, ss, vi (1 : Int32), vi tI, vi nI, vd (FP.i2d nI), ss, vd mv, ss, vd mt, ss, vd mt, ss, vi (1 : Int32), vi (0 : Int32), vd vl, ss, vi (1 : Int32), vd (FP.dsub mt (FP.dmul (FP.i2d (0 : Int32)) sp)), ss, uu, uu, uu, uu] [(.int (own_mv (0 : Int32)))]) := fun tQ kk => k1226 tQ (st1237.trans kk)
          clear k1226 st1237
          have eq1248 : (own_mv (0 : Int32)) = (0 : Int32) := by decide
          rw [eq1248] at k1247
          have k1249 : own_G p e below E0 T1227 (mkF m 399 #[vi p0, vi p1, vi p2, vi p3, vi (1 : Int32), vi (0 : Int32), vi pre, vi adv, vi ((XT.ushr p3 (3 : Int32)) &&& (3 : Int32)), vi (1 : Int32), vd (FP.i2d p0), ss, vr a489, vd mv, ss, vd mt, ss, vi (1 : Int32), vi tI, vi nI, vd (FP.i2d nI), ss, vd mv, ss, vd mt, ss, vd mt, ss, vi (1 : Int32), vi (0 : Int32), vd vl, ss, vi (1 : Int32), vd (FP.dsub mt (FP.dmul (FP.i2d (0 : Int32)) sp)), ss, vi (0 : Int32), uu, uu, uu] [(.ref a489)]) := by
            intro tQ kk
            refine k1247 tQ ?_
            refine XS.istore X1231.here hx rfl (hb hby at_395) rfl (l' := #[vi p0, vi p1, vi p2, vi p3, vi (1 : Int32), vi (0 : Int32), vi pre, vi adv, vi ((XT.ushr p3 (3 : Int32)) &&& (3 : Int32)), vi (1 : Int32), vd (FP.i2d p0), ss, vr a489, vd mv, ss, vd mt, ss, vi (1 : Int32), vi tI, vi nI, vd (FP.i2d nI), ss, vd mv, ss, vd mt, ss, vd mt, ss, vi (1 : Int32), vi (0 : Int32), vd vl, ss, vi (1 : Int32), vd (FP.dsub mt (FP.dmul (FP.i2d (0 : Int32)) sp)), ss, vi (0 : Int32), uu, uu, uu]) rfl ?_
            refine XS.aload X1231.here hx rfl (hb hby at_397) rfl rfl ?_
            exact kk
          clear k1247
          obtain ⟨cq1261, kq1262, qa1263, qb1264, qc1265⟩ := isOf hZ e1244 F1219
          obtain ⟨_, _, ⟨T1250, L1251, kc1252, nc1253⟩, -, X1254, ⟨Lc1255, hQ1256, l1257, y1258, z1259⟩, st1260⟩ := X1231.virtualBack hx (y := mn12) (z := mn12) hown (mvT hZ (tw49 hw)) (mvT hZ (tw50 hw)) (notFace_of_selects (args := #[]) (mvT hZ (tw52 hw))) (mvT hZ (tw52 hw)) (mvT hZ (tw51 hw)) (by decide) (backOf (W := 0) (rmN l Z a0 hw [] a489 (1 : Int32) (FP.dsub mt (FP.dmul (FP.i2d (0 : Int32)) sp)) mt sp (0 : Int32) T1192.heap n0 Z1218 F1219 g1212 F1222 g1214 g1215 F1224 ge491 (fun z => absurd z (by decide))) hZ (tw53 hw) (tw2 hw) (by decide) (by decide)) qa1263 qc1265 (g := (mkF m 399 #[vi p0, vi p1, vi p2, vi p3, vi (1 : Int32), vi (0 : Int32), vi pre, vi adv, vi ((XT.ushr p3 (3 : Int32)) &&& (3 : Int32)), vi (1 : Int32), vd (FP.i2d p0), ss, vr a489, vd mv, ss, vd mt, ss, vi (1 : Int32), vi tI, vi nI, vd (FP.i2d nI), ss, vd mv, ss, vd mt, ss, vd mt, ss, vi (1 : Int32), vi (0 : Int32), vd vl, ss, vi (1 : Int32), vd (FP.dsub mt (FP.dmul (FP.i2d (0 : Int32)) sp)), ss, vi (0 : Int32), uu, uu, uu] [(.ref a489)])) rfl (by rw [hml]; rfl) (Steps.refl _) (argsL := []) (rest := []) (lenOf pd_16 rfl) rfl (by show 2 * 0 + _ ≤ _; exact Nat.le_of_eq rfl) (hb hby at_399) (fun _ _ => ⟨rfl, e1244, (by decide : 1 + 0 ≤ _), (by decide : 5 + 0 ≤ _)⟩)
          dsimp only [Pt.U, Pt.locs, Pt.cells, Pt.slots] at X1254 l1257 y1258 z1259 st1260 hQ1256
          subst y1258 z1259
          obtain ⟨rfl, N1266, K1269, g1270, g1271, g1272, g1273, g1274⟩ := hQ1256
          have N1275 : Fr n0 L1251 := by rw [l1257]; exact Fr.app N1246 N1266
          clear l1257 N1266
          have Z1276 : n0 ≤ T1250.heap.size := Nat.le_trans Z1218 K1269.1
          clear Z1218
          have F1277 : xa7 Z T1250.heap a489 := F1219.keep K1269
          clear F1219
          clear g1212
          clear F1222
          clear g1214
          clear g1215
          clear F1224
          have k1278 : own_G p e below E0 T1250 (mkF m 402 #[vi p0, vi p1, vi p2, vi p3, vi (1 : Int32), vi (0 : Int32), vi pre, vi adv, vi ((XT.ushr p3 (3 : Int32)) &&& (3 : Int32)), vi (1 : Int32), vd (FP.i2d p0), ss, vr a489, vd mv, ss, vd mt, ss, vi (1 : Int32), vi tI, vi nI, vd (FP.i2d nI), ss, vd mv, ss, vd mt, ss, vd mt, ss, vi (1 : Int32), vi (0 : Int32), vd vl, ss, vi (1 : Int32), vd (FP.dsub mt (FP.dmul (FP.i2d (0 : Int32)) sp)), ss, vi (0 : Int32), uu, uu, uu] [(.double (own_nv (FP.dsub mt (FP.dmul (FP.i2d (0 : Int32)) sp)) mt sp (0 : Int32)))]) := fun tQ kk => k1249 tQ (st1260.trans kk)
          clear k1249 st1260
          have eq1279 : (own_nv (FP.dsub mt (FP.dmul (FP.i2d (0 : Int32)) sp)) mt sp (0 : Int32)) = (FP.dsub mt (FP.dmul (FP.i2d (0 : Int32)) sp)) := by rw [own_nv, if_neg (by decide)]
          have F1280 : fd3 Z T1250.heap a489 (.double (FP.dsub mt (FP.dmul (FP.i2d (0 : Int32)) sp))) := by rw [← eq1279]; exact g1271
          have eq1281 : (own_nr (0 : Int32)) = (0 : Int32) := by decide
          have F1282 : fd6 Z T1250.heap a489 (.int (0 : Int32)) := by rw [← eq1281]; exact g1274
          have eq1283 : (own_nv (FP.dsub mt (FP.dmul (FP.i2d (0 : Int32)) sp)) mt sp (0 : Int32)) = (FP.dsub mt (FP.dmul (FP.i2d (0 : Int32)) sp)) := by rw [own_nv, if_neg (by decide)]
          rw [eq1283] at k1278
          have k1284 : own_G p e below E0 T1250 (mkF m 406 #[vi p0, vi p1, vi p2, vi p3, vi (1 : Int32), vi (0 : Int32), vi pre, vi adv, vi ((XT.ushr p3 (3 : Int32)) &&& (3 : Int32)), vi (1 : Int32), vd (FP.i2d p0), ss, vr a489, vd mv, ss, vd mt, ss, vi (1 : Int32), vi tI, vi nI, vd (FP.i2d nI), ss, vd mv, ss, vd mt, ss, vd mt, ss, vi (1 : Int32), vi (0 : Int32), vd vl, ss, vi (1 : Int32), vd (FP.dsub mt (FP.dmul (FP.i2d (0 : Int32)) sp)), ss, vi (0 : Int32), vd (FP.dsub mt (FP.dmul (FP.i2d (0 : Int32)) sp)), ss, uu] [(.ref a489)]) := by
            intro tQ kk
            refine k1278 tQ ?_
            refine XS.dstore X1254.here hx rfl (hb hby at_402) rfl (l' := #[vi p0, vi p1, vi p2, vi p3, vi (1 : Int32), vi (0 : Int32), vi pre, vi adv, vi ((XT.ushr p3 (3 : Int32)) &&& (3 : Int32)), vi (1 : Int32), vd (FP.i2d p0), ss, vr a489, vd mv, ss, vd mt, ss, vi (1 : Int32), vi tI, vi nI, vd (FP.i2d nI), ss, vd mv, ss, vd mt, ss, vd mt, ss, vi (1 : Int32), vi (0 : Int32), vd vl, ss, vi (1 : Int32), vd (FP.dsub mt (FP.dmul (FP.i2d (0 : Int32)) sp)), ss, vi (0 : Int32), vd (FP.dsub mt (FP.dmul (FP.i2d (0 : Int32)) sp)), ss, uu]) rfl ?_
            refine XS.aload X1254.here hx rfl (hb hby at_404) rfl rfl ?_
            exact kk
          clear k1278
          obtain ⟨cq1296, kq1297, qa1298, qb1299, qc1300⟩ := isOf hZ rfl F1277
          obtain ⟨_, _, ⟨T1285, L1286, kc1287, nc1288⟩, -, X1289, ⟨Lc1290, hQ1291, l1292, y1293, z1294⟩, st1295⟩ := X1254.virtualBack hx (y := mn13) (z := mn13) hown (mvT hZ (tw44 hw)) (mvT hZ (tw45 hw)) (notFace_of_selects (args := #[]) (mvT hZ (tw47 hw))) (mvT hZ (tw47 hw)) (mvT hZ (tw46 hw)) (by decide) (backOf (W := 0) (rmMv l Z a0 hw [] a489 (0 : Int32) T1250.heap n0 Z1276 F1282) hZ (tw48 hw) (tw2 hw) (by decide) (by decide)) qa1298 qc1300 (g := (mkF m 406 #[vi p0, vi p1, vi p2, vi p3, vi (1 : Int32), vi (0 : Int32), vi pre, vi adv, vi ((XT.ushr p3 (3 : Int32)) &&& (3 : Int32)), vi (1 : Int32), vd (FP.i2d p0), ss, vr a489, vd mv, ss, vd mt, ss, vi (1 : Int32), vi tI, vi nI, vd (FP.i2d nI), ss, vd mv, ss, vd mt, ss, vd mt, ss, vi (1 : Int32), vi (0 : Int32), vd vl, ss, vi (1 : Int32), vd (FP.dsub mt (FP.dmul (FP.i2d (0 : Int32)) sp)), ss, vi (0 : Int32), vd (FP.dsub mt (FP.dmul (FP.i2d (0 : Int32)) sp)), ss, uu] [(.ref a489)])) rfl (by rw [hml]; rfl) (Steps.refl _) (argsL := []) (rest := []) (lenOf pd_18 rfl) rfl (by show 2 * 0 + _ ≤ _; exact Nat.le_of_eq rfl) (hb hby at_406) (fun _ _ => ⟨rfl, rfl, (by decide : 1 + 0 ≤ _), (by decide : 5 + 0 ≤ _)⟩)
          dsimp only [Pt.U, Pt.locs, Pt.cells, Pt.slots] at X1289 l1292 y1293 z1294 st1295 hQ1291
          subst y1293 z1294
          obtain ⟨rfl, N1301, e1302⟩ := hQ1291
          have N1304 : Fr n0 L1286 := by rw [l1292]; exact Fr.app N1275 N1301
          clear l1292 N1301
          have k1305 : own_G p e below E0 T1285 (mkF m 409 #[vi p0, vi p1, vi p2, vi p3, vi (1 : Int32), vi (0 : Int32), vi pre, vi adv, vi ((XT.ushr p3 (3 : Int32)) &&& (3 : Int32)), vi (1 : Int32), vd (FP.i2d p0), ss, vr a489, vd mv, ss, vd mt, ss, vi (1 : Int32), vi tI, vi nI, vd (FP.i2d nI), ss, vd mv, ss, vd mt, ss, vd mt, ss, vi (1 : Int32), vi (0 : Int32), vd vl, ss, vi (1 : Int32), vd (FP.dsub mt (FP.dmul (FP.i2d (0 : Int32)) sp)), ss, vi (0 : Int32), vd (FP.dsub mt (FP.dmul (FP.i2d (0 : Int32)) sp)), ss, uu] [(.int (own_mv (0 : Int32)))]) := fun tQ kk => k1284 tQ (st1295.trans kk)
          clear k1284 st1295
          have eq1306 : (own_mv (0 : Int32)) = (0 : Int32) := by decide
          rw [eq1306] at k1305
          have k1307 : own_G p e below E0 T1285 (mkF m 459 #[vi p0, vi p1, vi p2, vi p3, vi (1 : Int32), vi (0 : Int32), vi pre, vi adv, vi ((XT.ushr p3 (3 : Int32)) &&& (3 : Int32)), vi (1 : Int32), vd (FP.i2d p0), ss, vr a489, vd mv, ss, vd mt, ss, vi (1 : Int32), vi tI, vi nI, vd (FP.i2d nI), ss, vd mv, ss, vd mt, ss, vd mt, ss, vi (1 : Int32), vi (0 : Int32), vd vl, ss, vi (1 : Int32), vd (FP.dsub mt (FP.dmul (FP.i2d (0 : Int32)) sp)), ss, vi (0 : Int32), vd (FP.dsub mt (FP.dmul (FP.i2d (0 : Int32)) sp)), ss, vi (0 : Int32)] [(.int (1 : Int32))]) := by
            intro tQ kk
            refine k1305 tQ ?_
            refine XS.istore X1289.here hx rfl (hb hby at_409) rfl (l' := #[vi p0, vi p1, vi p2, vi p3, vi (1 : Int32), vi (0 : Int32), vi pre, vi adv, vi ((XT.ushr p3 (3 : Int32)) &&& (3 : Int32)), vi (1 : Int32), vd (FP.i2d p0), ss, vr a489, vd mv, ss, vd mt, ss, vi (1 : Int32), vi tI, vi nI, vd (FP.i2d nI), ss, vd mv, ss, vd mt, ss, vd mt, ss, vi (1 : Int32), vi (0 : Int32), vd vl, ss, vi (1 : Int32), vd (FP.dsub mt (FP.dmul (FP.i2d (0 : Int32)) sp)), ss, vi (0 : Int32), vd (FP.dsub mt (FP.dmul (FP.i2d (0 : Int32)) sp)), ss, vi (0 : Int32)]) rfl ?_
            refine XS.dload X1289.here hx rfl (hb hby at_411) rfl ?_
            refine XS.dload X1289.here hx rfl (hb hby at_413) rfl ?_
            refine XS.dcmpS (v := (0 : Int32)) X1289.here hx rfl (hb hby at_415) rfl (own_eqz .l hvl.1.noNaN hmv.1.noNaN (hvl.2.trans hmv.2.symm)) ?_
            show Steps p.tables e below (T1285.setTop (mkF m 416 #[vi p0, vi p1, vi p2, vi p3, vi (1 : Int32), vi (0 : Int32), vi pre, vi adv, vi ((XT.ushr p3 (3 : Int32)) &&& (3 : Int32)), vi (1 : Int32), vd (FP.i2d p0), ss, vr a489, vd mv, ss, vd mt, ss, vi (1 : Int32), vi tI, vi nI, vd (FP.i2d nI), ss, vd mv, ss, vd mt, ss, vd mt, ss, vi (1 : Int32), vi (0 : Int32), vd vl, ss, vi (1 : Int32), vd (FP.dsub mt (FP.dmul (FP.i2d (0 : Int32)) sp)), ss, vi (0 : Int32), vd (FP.dsub mt (FP.dmul (FP.i2d (0 : Int32)) sp)), ss, vi (0 : Int32)] [(.int (0 : Int32))])) tQ
            refine XS.ifNo X1289.here hx rfl (hb hby at_416) rfl (own_if_neN (by decide)) ?_
            refine XS.iload X1289.here hx rfl (hb hby at_419) rfl ?_
            refine XS.iload X1289.here hx rfl (hb hby at_421) rfl ?_
            refine XS.icmpNo X1289.here hx rfl (hb hby at_423) rfl (own_ic_neN (by decide)) ?_
            show Steps p.tables e below (T1285.setTop (mkF m 426 #[vi p0, vi p1, vi p2, vi p3, vi (1 : Int32), vi (0 : Int32), vi pre, vi adv, vi ((XT.ushr p3 (3 : Int32)) &&& (3 : Int32)), vi (1 : Int32), vd (FP.i2d p0), ss, vr a489, vd mv, ss, vd mt, ss, vi (1 : Int32), vi tI, vi nI, vd (FP.i2d nI), ss, vd mv, ss, vd mt, ss, vd mt, ss, vi (1 : Int32), vi (0 : Int32), vd vl, ss, vi (1 : Int32), vd (FP.dsub mt (FP.dmul (FP.i2d (0 : Int32)) sp)), ss, vi (0 : Int32), vd (FP.dsub mt (FP.dmul (FP.i2d (0 : Int32)) sp)), ss, vi (0 : Int32)] [])) tQ
            refine XS.dload X1289.here hx rfl (hb hby at_426) rfl ?_
            refine XS.dload X1289.here hx rfl (hb hby at_428) rfl ?_
            refine XS.dcmpS (v := (0 : Int32)) X1289.here hx rfl (hb hby at_430) rfl (own_cz hsp fmt) ?_
            refine XS.ifNo X1289.here hx rfl (hb hby at_431) rfl (own_if_neN (by decide)) ?_
            show Steps p.tables e below (T1285.setTop (mkF m 434 #[vi p0, vi p1, vi p2, vi p3, vi (1 : Int32), vi (0 : Int32), vi pre, vi adv, vi ((XT.ushr p3 (3 : Int32)) &&& (3 : Int32)), vi (1 : Int32), vd (FP.i2d p0), ss, vr a489, vd mv, ss, vd mt, ss, vi (1 : Int32), vi tI, vi nI, vd (FP.i2d nI), ss, vd mv, ss, vd mt, ss, vd mt, ss, vi (1 : Int32), vi (0 : Int32), vd vl, ss, vi (1 : Int32), vd (FP.dsub mt (FP.dmul (FP.i2d (0 : Int32)) sp)), ss, vi (0 : Int32), vd (FP.dsub mt (FP.dmul (FP.i2d (0 : Int32)) sp)), ss, vi (0 : Int32)] [])) tQ
            refine XS.iload X1289.here hx rfl (hb hby at_434) rfl ?_
            refine XS.iload X1289.here hx rfl (hb hby at_436) rfl ?_
            refine XS.icmpNo X1289.here hx rfl (hb hby at_438) rfl (own_ic_neN (by decide)) ?_
            refine XS.dload X1289.here hx rfl (hb hby at_441) rfl ?_
            show Steps p.tables e below (T1285.setTop (mkF m 443 #[vi p0, vi p1, vi p2, vi p3, vi (1 : Int32), vi (0 : Int32), vi pre, vi adv, vi ((XT.ushr p3 (3 : Int32)) &&& (3 : Int32)), vi (1 : Int32), vd (FP.i2d p0), ss, vr a489, vd mv, ss, vd mt, ss, vi (1 : Int32), vi tI, vi nI, vd (FP.i2d nI), ss, vd mv, ss, vd mt, ss, vd mt, ss, vi (1 : Int32), vi (0 : Int32), vd vl, ss, vi (1 : Int32), vd (FP.dsub mt (FP.dmul (FP.i2d (0 : Int32)) sp)), ss, vi (0 : Int32), vd (FP.dsub mt (FP.dmul (FP.i2d (0 : Int32)) sp)), ss, vi (0 : Int32)] [(.double (FP.dsub mt (FP.dmul (FP.i2d (0 : Int32)) sp)))])) tQ
            refine XS.dload X1289.here hx rfl (hb hby at_443) rfl ?_
            refine XS.dcmpS (v := (0 : Int32)) X1289.here hx rfl (hb hby at_445) rfl (own_cz hsp fmt) ?_
            refine XS.ifNo X1289.here hx rfl (hb hby at_446) rfl (own_if_neN (by decide)) ?_
            refine XS.iload X1289.here hx rfl (hb hby at_449) rfl ?_
            show Steps p.tables e below (T1285.setTop (mkF m 451 #[vi p0, vi p1, vi p2, vi p3, vi (1 : Int32), vi (0 : Int32), vi pre, vi adv, vi ((XT.ushr p3 (3 : Int32)) &&& (3 : Int32)), vi (1 : Int32), vd (FP.i2d p0), ss, vr a489, vd mv, ss, vd mt, ss, vi (1 : Int32), vi tI, vi nI, vd (FP.i2d nI), ss, vd mv, ss, vd mt, ss, vd mt, ss, vi (1 : Int32), vi (0 : Int32), vd vl, ss, vi (1 : Int32), vd (FP.dsub mt (FP.dmul (FP.i2d (0 : Int32)) sp)), ss, vi (0 : Int32), vd (FP.dsub mt (FP.dmul (FP.i2d (0 : Int32)) sp)), ss, vi (0 : Int32)] [(.int (0 : Int32))])) tQ
            refine XS.ifNo X1289.here hx rfl (hb hby at_451) rfl (own_if_neN (by decide)) ?_
            refine XS.iconst X1289.here hx rfl (hb hby at_454) ?_
            refine XS.goto X1289.here hx rfl (pc0 := 455) (pc' := 459) rfl (hb hby at_455) (by decide) (by decide) ?_
            exact kk
          clear k1305
          obtain ⟨fs, hr, hrun, hended, hW, hsame⟩ := X1289.leave (v := some (.int (1 : Int32))) (fun h => by rw [Bd.returns] at h; cases h)
          have hrun0 := k1307 _ (retOut X1289 hx Bd.returns (t := .boolean) rfl (Or.inl ⟨rfl, Or.inr (Or.inl rfl), _, rfl⟩) (hb hby at_459) hr)
          subst hE0
          refine ⟨_, _, hrun0, hrun, hended, _, _, rfl, ?_, ⟨_, rfl⟩, hW, hsame.mono (by decide) (by decide)⟩
          show Qrm0 Z p0 p1 p2 p3 h0 n0 _ T1285.heap _
          rw [e1302]
          exact ⟨rfl, N1304⟩
        · skip
          exact absurd hF2 (by decide)
      · skip
        have k1308 : own_G p e below E0 T690 (mkF m 366 #[vi p0, vi p1, vi p2, vi p3, vi (1 : Int32), vi (0 : Int32), vi pre, vi adv, vi ((XT.ushr p3 (3 : Int32)) &&& (3 : Int32)), vi (1 : Int32), vd (FP.i2d p0), ss, vr a489, vd mv, ss, vd mt, ss, vi mr, vi tI, vi nI, vd (FP.i2d nI), ss, vd mv, ss, vd (FP.i2d nI), ss, vd (FP.i2d nI), ss, vi (1 : Int32), vi (0 : Int32), uu, uu, uu, uu, uu, uu, uu, uu, uu] [(.int (1 : Int32)), (.double (FP.i2d nI)), (.ref a489)]) := by
          intro tQ kk
          refine k909 tQ ?_
          refine XS.ifNo X691.here hx rfl (hb hby at_237) rfl (own_c_eqN cE) ?_
          refine XS.dload X691.here hx rfl (hb hby at_240) rfl ?_
          refine XS.dstore X691.here hx rfl (hb hby at_242) rfl (l' := #[vi p0, vi p1, vi p2, vi p3, vi (1 : Int32), vi (0 : Int32), vi pre, vi adv, vi ((XT.ushr p3 (3 : Int32)) &&& (3 : Int32)), vi (1 : Int32), vd (FP.i2d p0), ss, vr a489, vd mv, ss, vd mt, ss, vi mr, vi tI, vi nI, vd (FP.i2d nI), ss, vd mv, ss, uu, uu, uu, uu, uu, uu, uu, uu, uu, uu, uu, uu, uu, uu, uu]) rfl ?_
          refine XS.iconst X691.here hx rfl (hb hby at_244) ?_
          show Steps p.tables e below (T690.setTop (mkF m 245 #[vi p0, vi p1, vi p2, vi p3, vi (1 : Int32), vi (0 : Int32), vi pre, vi adv, vi ((XT.ushr p3 (3 : Int32)) &&& (3 : Int32)), vi (1 : Int32), vd (FP.i2d p0), ss, vr a489, vd mv, ss, vd mt, ss, vi mr, vi tI, vi nI, vd (FP.i2d nI), ss, vd mv, ss, uu, uu, uu, uu, uu, uu, uu, uu, uu, uu, uu, uu, uu, uu, uu] [(.int (1 : Int32))])) tQ
          refine XS.istore X691.here hx rfl (hb hby at_245) rfl (l' := #[vi p0, vi p1, vi p2, vi p3, vi (1 : Int32), vi (0 : Int32), vi pre, vi adv, vi ((XT.ushr p3 (3 : Int32)) &&& (3 : Int32)), vi (1 : Int32), vd (FP.i2d p0), ss, vr a489, vd mv, ss, vd mt, ss, vi mr, vi tI, vi nI, vd (FP.i2d nI), ss, vd mv, ss, uu, uu, uu, uu, vi (1 : Int32), uu, uu, uu, uu, uu, uu, uu, uu, uu, uu]) rfl ?_
          refine XS.iload X691.here hx rfl (hb hby at_247) rfl ?_
          refine XS.iconst X691.here hx rfl (hb hby at_249) ?_
          refine XS.icmpYes X691.here hx rfl (pc0 := 250) (pc' := 270) rfl (hb hby at_250) rfl (own_ic_neY (by decide)) (by decide) (by decide) ?_
          show Steps p.tables e below (T690.setTop (mkF m 270 #[vi p0, vi p1, vi p2, vi p3, vi (1 : Int32), vi (0 : Int32), vi pre, vi adv, vi ((XT.ushr p3 (3 : Int32)) &&& (3 : Int32)), vi (1 : Int32), vd (FP.i2d p0), ss, vr a489, vd mv, ss, vd mt, ss, vi mr, vi tI, vi nI, vd (FP.i2d nI), ss, vd mv, ss, uu, uu, uu, uu, vi (1 : Int32), uu, uu, uu, uu, uu, uu, uu, uu, uu, uu] [])) tQ
          refine XS.dload X691.here hx rfl (hb hby at_270) rfl ?_
          refine XS.dstore X691.here hx rfl (hb hby at_272) rfl (l' := #[vi p0, vi p1, vi p2, vi p3, vi (1 : Int32), vi (0 : Int32), vi pre, vi adv, vi ((XT.ushr p3 (3 : Int32)) &&& (3 : Int32)), vi (1 : Int32), vd (FP.i2d p0), ss, vr a489, vd mv, ss, vd mt, ss, vi mr, vi tI, vi nI, vd (FP.i2d nI), ss, vd mv, ss, vd (FP.i2d nI), ss, uu, uu, vi (1 : Int32), uu, uu, uu, uu, uu, uu, uu, uu, uu, uu]) rfl ?_
          refine XS.iconst X691.here hx rfl (hb hby at_274) ?_
          refine XS.istore X691.here hx rfl (hb hby at_275) rfl (l' := #[vi p0, vi p1, vi p2, vi p3, vi (1 : Int32), vi (0 : Int32), vi pre, vi adv, vi ((XT.ushr p3 (3 : Int32)) &&& (3 : Int32)), vi (1 : Int32), vd (FP.i2d p0), ss, vr a489, vd mv, ss, vd mt, ss, vi mr, vi tI, vi nI, vd (FP.i2d nI), ss, vd mv, ss, vd (FP.i2d nI), ss, uu, uu, vi (1 : Int32), vi (0 : Int32), uu, uu, uu, uu, uu, uu, uu, uu, uu]) rfl ?_
          show Steps p.tables e below (T690.setTop (mkF m 277 #[vi p0, vi p1, vi p2, vi p3, vi (1 : Int32), vi (0 : Int32), vi pre, vi adv, vi ((XT.ushr p3 (3 : Int32)) &&& (3 : Int32)), vi (1 : Int32), vd (FP.i2d p0), ss, vr a489, vd mv, ss, vd mt, ss, vi mr, vi tI, vi nI, vd (FP.i2d nI), ss, vd mv, ss, vd (FP.i2d nI), ss, uu, uu, vi (1 : Int32), vi (0 : Int32), uu, uu, uu, uu, uu, uu, uu, uu, uu] [])) tQ
          refine XS.dload X691.here hx rfl (hb hby at_277) rfl ?_
          refine XS.dstore X691.here hx rfl (hb hby at_279) rfl (l' := #[vi p0, vi p1, vi p2, vi p3, vi (1 : Int32), vi (0 : Int32), vi pre, vi adv, vi ((XT.ushr p3 (3 : Int32)) &&& (3 : Int32)), vi (1 : Int32), vd (FP.i2d p0), ss, vr a489, vd mv, ss, vd mt, ss, vi mr, vi tI, vi nI, vd (FP.i2d nI), ss, vd mv, ss, vd (FP.i2d nI), ss, vd (FP.i2d nI), ss, vi (1 : Int32), vi (0 : Int32), uu, uu, uu, uu, uu, uu, uu, uu, uu]) rfl ?_
          refine XS.goto X691.here hx rfl (pc0 := 281) (pc' := 360) rfl (hb hby at_281) (by decide) (by decide) ?_
          refine XS.aload X691.here hx rfl (hb hby at_360) rfl rfl ?_
          show Steps p.tables e below (T690.setTop (mkF m 362 #[vi p0, vi p1, vi p2, vi p3, vi (1 : Int32), vi (0 : Int32), vi pre, vi adv, vi ((XT.ushr p3 (3 : Int32)) &&& (3 : Int32)), vi (1 : Int32), vd (FP.i2d p0), ss, vr a489, vd mv, ss, vd mt, ss, vi mr, vi tI, vi nI, vd (FP.i2d nI), ss, vd mv, ss, vd (FP.i2d nI), ss, vd (FP.i2d nI), ss, vi (1 : Int32), vi (0 : Int32), uu, uu, uu, uu, uu, uu, uu, uu, uu] [(.ref a489)])) tQ
          refine XS.dload X691.here hx rfl (hb hby at_362) rfl ?_
          refine XS.iload X691.here hx rfl (hb hby at_364) rfl ?_
          exact kk
        clear k909
        obtain ⟨cq1320, kq1321, qa1322, qb1323, qc1324⟩ := isOf hZ e692 F697
        obtain ⟨_, _, ⟨T1309, L1310, kc1311, nc1312⟩, -, X1313, ⟨Lc1314, hQ1315, l1316, y1317, z1318⟩, st1319⟩ := X691.virtualBack hx (y := mn11) (z := mn11) hown (mvT hZ (tw32 hw)) (mvT hZ (tw33 hw)) (notFace_of_selects (args := #[]) (mvT hZ (tw35 hw))) (mvT hZ (tw35 hw)) (mvT hZ (tw34 hw)) (by decide) (backOf (W := 0) (rmS1 l Z a0 hw [] a489 (FP.i2d nI) (1 : Int32) vl mt sp mr h693 n0 Z695 F697 F698 F699 F700 F701 F702 ge491 (Fl.i2d_fin nI).noNaN nmt (fun _ => ⟨Fl.dsub_out (Fl.i2d_fin nI).noNaN hvl.1, (own_fspN nI (F := (1 : Int32)) bW hvl (by decide)).noNaN⟩)) hZ (tw36 hw) (tw2 hw) (by decide) (by decide)) qa1322 qc1324 (g := (mkF m 366 #[vi p0, vi p1, vi p2, vi p3, vi (1 : Int32), vi (0 : Int32), vi pre, vi adv, vi ((XT.ushr p3 (3 : Int32)) &&& (3 : Int32)), vi (1 : Int32), vd (FP.i2d p0), ss, vr a489, vd mv, ss, vd mt, ss, vi mr, vi tI, vi nI, vd (FP.i2d nI), ss, vd mv, ss, vd (FP.i2d nI), ss, vd (FP.i2d nI), ss, vi (1 : Int32), vi (0 : Int32), uu, uu, uu, uu, uu, uu, uu, uu, uu] [(.int (1 : Int32)), (.double (FP.i2d nI)), (.ref a489)])) rfl (by rw [hml]; rfl) (Steps.refl _) (argsL := [(.double (FP.i2d nI)), (.int (1 : Int32))]) (rest := []) (lenOf pd_17 rfl) rfl (by show 2 * 0 + _ ≤ _; exact Nat.le_of_eq rfl) (hb hby at_366) (fun _ _ => ⟨rfl, e692, (by decide : 1 + 0 ≤ _), (by decide : 5 + 0 ≤ _)⟩)
        dsimp only [Pt.U, Pt.locs, Pt.cells, Pt.slots] at X1313 l1316 y1317 z1318 st1319 hQ1315
        subst y1317 z1318
        obtain ⟨rfl, N1325, K1328, g1329, g1330, g1331, g1332, g1333⟩ := hQ1315
        have N1334 : Fr n0 L1310 := by rw [l1316]; exact Fr.app N694 N1325
        clear l1316 N1325
        have Z1335 : n0 ≤ T1309.heap.size := Nat.le_trans Z695 K1328.1
        clear Z695
        have F1336 : xa7 Z T1309.heap a489 := F697.keep K1328
        clear F697
        clear F698
        clear F699
        clear F700
        clear F701
        clear F702
        have k1337 : own_G p e below E0 T1309 (mkF m 369 #[vi p0, vi p1, vi p2, vi p3, vi (1 : Int32), vi (0 : Int32), vi pre, vi adv, vi ((XT.ushr p3 (3 : Int32)) &&& (3 : Int32)), vi (1 : Int32), vd (FP.i2d p0), ss, vr a489, vd mv, ss, vd mt, ss, vi mr, vi tI, vi nI, vd (FP.i2d nI), ss, vd mv, ss, vd (FP.i2d nI), ss, vd (FP.i2d nI), ss, vi (1 : Int32), vi (0 : Int32), uu, uu, uu, uu, uu, uu, uu, uu, uu] []) := fun tQ kk => k1308 tQ (st1319.trans kk)
        clear k1308 st1319
        have eq1338 : (own_tg (FP.i2d nI) mt) = (FP.i2d nI) := by rw [own_tg, if_neg cE]
        have F1339 : fd4 Z T1309.heap a489 (.double (FP.i2d nI)) := by rw [← eq1338]; exact g1331
        have eq1340 : (own_sp (FP.i2d nI) vl mt sp (1 : Int32)) = (FP.ddiv (FP.dsub (FP.i2d nI) vl) (FP.i2d (1 : Int32))) := by rw [own_sp, if_neg cE]
        have F1341 : fd5 Z T1309.heap a489 (.double (FP.ddiv (FP.dsub (FP.i2d nI) vl) (FP.i2d (1 : Int32)))) := by rw [← eq1340]; exact g1332
        have eq1342 : (own_rm (FP.i2d nI) mt mr (1 : Int32)) = (1 : Int32) := by rw [own_rm, if_neg cE]
        have F1343 : fd6 Z T1309.heap a489 (.int (1 : Int32)) := by rw [← eq1342]; exact g1333
        have k1344 : own_G p e below E0 T1309 (mkF m 371 #[vi p0, vi p1, vi p2, vi p3, vi (1 : Int32), vi (0 : Int32), vi pre, vi adv, vi ((XT.ushr p3 (3 : Int32)) &&& (3 : Int32)), vi (1 : Int32), vd (FP.i2d p0), ss, vr a489, vd mv, ss, vd mt, ss, vi mr, vi tI, vi nI, vd (FP.i2d nI), ss, vd mv, ss, vd (FP.i2d nI), ss, vd (FP.i2d nI), ss, vi (1 : Int32), vi (0 : Int32), uu, uu, uu, uu, uu, uu, uu, uu, uu] [(.ref a489)]) := by
          intro tQ kk
          refine k1337 tQ ?_
          refine XS.aload X1313.here hx rfl (hb hby at_369) rfl rfl ?_
          exact kk
        clear k1337
        obtain ⟨cq1356, kq1357, qa1358, qb1359, qc1360⟩ := isOf hZ rfl F1336
        obtain ⟨_, _, ⟨T1345, L1346, kc1347, nc1348⟩, -, X1349, ⟨Lc1350, hQ1351, l1352, y1353, z1354⟩, st1355⟩ := X1313.virtualBack hx (y := mn14) (z := mn14) hown (mvT hZ (tw39 hw)) (mvT hZ (tw40 hw)) (notFace_of_selects (args := #[]) (mvT hZ (tw42 hw))) (mvT hZ (tw42 hw)) (mvT hZ (tw41 hw)) (by decide) (backOf (W := 0) (rmVl l Z a0 hw [] a489 vl T1309.heap n0 Z1335 g1330) hZ (tw43 hw) (tw2 hw) (by decide) (by decide)) qa1358 qc1360 (g := (mkF m 371 #[vi p0, vi p1, vi p2, vi p3, vi (1 : Int32), vi (0 : Int32), vi pre, vi adv, vi ((XT.ushr p3 (3 : Int32)) &&& (3 : Int32)), vi (1 : Int32), vd (FP.i2d p0), ss, vr a489, vd mv, ss, vd mt, ss, vi mr, vi tI, vi nI, vd (FP.i2d nI), ss, vd mv, ss, vd (FP.i2d nI), ss, vd (FP.i2d nI), ss, vi (1 : Int32), vi (0 : Int32), uu, uu, uu, uu, uu, uu, uu, uu, uu] [(.ref a489)])) rfl (by rw [hml]; rfl) (Steps.refl _) (argsL := []) (rest := []) (lenOf pd_16 rfl) rfl (by show 2 * 0 + _ ≤ _; exact Nat.le_of_eq rfl) (hb hby at_371) (fun _ _ => ⟨rfl, rfl, (by decide : 1 + 0 ≤ _), (by decide : 5 + 0 ≤ _)⟩)
        dsimp only [Pt.U, Pt.locs, Pt.cells, Pt.slots] at X1349 l1352 y1353 z1354 st1355 hQ1351
        subst y1353 z1354
        obtain ⟨rfl, N1361, e1362⟩ := hQ1351
        have N1364 : Fr n0 L1346 := by rw [l1352]; exact Fr.app N1334 N1361
        clear l1352 N1361
        have k1365 : own_G p e below E0 T1345 (mkF m 374 #[vi p0, vi p1, vi p2, vi p3, vi (1 : Int32), vi (0 : Int32), vi pre, vi adv, vi ((XT.ushr p3 (3 : Int32)) &&& (3 : Int32)), vi (1 : Int32), vd (FP.i2d p0), ss, vr a489, vd mv, ss, vd mt, ss, vi mr, vi tI, vi nI, vd (FP.i2d nI), ss, vd mv, ss, vd (FP.i2d nI), ss, vd (FP.i2d nI), ss, vi (1 : Int32), vi (0 : Int32), uu, uu, uu, uu, uu, uu, uu, uu, uu] [(.double vl)]) := fun tQ kk => k1344 tQ (st1355.trans kk)
        clear k1344 st1355
        have k1366 : own_G p e below E0 T1345 (mkF m 378 #[vi p0, vi p1, vi p2, vi p3, vi (1 : Int32), vi (0 : Int32), vi pre, vi adv, vi ((XT.ushr p3 (3 : Int32)) &&& (3 : Int32)), vi (1 : Int32), vd (FP.i2d p0), ss, vr a489, vd mv, ss, vd mt, ss, vi mr, vi tI, vi nI, vd (FP.i2d nI), ss, vd mv, ss, vd (FP.i2d nI), ss, vd (FP.i2d nI), ss, vi (1 : Int32), vi (0 : Int32), vd vl, ss, uu, uu, uu, uu, uu, uu, uu] [(.ref a489)]) := by
          intro tQ kk
          refine k1365 tQ ?_
          refine XS.dstore X1349.here hx rfl (hb hby at_374) rfl (l' := #[vi p0, vi p1, vi p2, vi p3, vi (1 : Int32), vi (0 : Int32), vi pre, vi adv, vi ((XT.ushr p3 (3 : Int32)) &&& (3 : Int32)), vi (1 : Int32), vd (FP.i2d p0), ss, vr a489, vd mv, ss, vd mt, ss, vi mr, vi tI, vi nI, vd (FP.i2d nI), ss, vd mv, ss, vd (FP.i2d nI), ss, vd (FP.i2d nI), ss, vi (1 : Int32), vi (0 : Int32), vd vl, ss, uu, uu, uu, uu, uu, uu, uu]) rfl ?_
          refine XS.aload X1349.here hx rfl (hb hby at_376) rfl rfl ?_
          exact kk
        clear k1365
        obtain ⟨cq1378, kq1379, qa1380, qb1381, qc1382⟩ := isOf hZ e1362 F1336
        obtain ⟨_, _, ⟨T1367, L1368, kc1369, nc1370⟩, -, X1371, ⟨Lc1372, hQ1373, l1374, y1375, z1376⟩, st1377⟩ := X1349.virtualBack hx (y := mn13) (z := mn13) hown (mvT hZ (tw44 hw)) (mvT hZ (tw45 hw)) (notFace_of_selects (args := #[]) (mvT hZ (tw47 hw))) (mvT hZ (tw47 hw)) (mvT hZ (tw46 hw)) (by decide) (backOf (W := 0) (rmMv l Z a0 hw [] a489 (1 : Int32) T1309.heap n0 Z1335 F1343) hZ (tw48 hw) (tw2 hw) (by decide) (by decide)) qa1380 qc1382 (g := (mkF m 378 #[vi p0, vi p1, vi p2, vi p3, vi (1 : Int32), vi (0 : Int32), vi pre, vi adv, vi ((XT.ushr p3 (3 : Int32)) &&& (3 : Int32)), vi (1 : Int32), vd (FP.i2d p0), ss, vr a489, vd mv, ss, vd mt, ss, vi mr, vi tI, vi nI, vd (FP.i2d nI), ss, vd mv, ss, vd (FP.i2d nI), ss, vd (FP.i2d nI), ss, vi (1 : Int32), vi (0 : Int32), vd vl, ss, uu, uu, uu, uu, uu, uu, uu] [(.ref a489)])) rfl (by rw [hml]; rfl) (Steps.refl _) (argsL := []) (rest := []) (lenOf pd_18 rfl) rfl (by show 2 * 0 + _ ≤ _; exact Nat.le_of_eq rfl) (hb hby at_378) (fun _ _ => ⟨rfl, e1362, (by decide : 1 + 0 ≤ _), (by decide : 5 + 0 ≤ _)⟩)
        dsimp only [Pt.U, Pt.locs, Pt.cells, Pt.slots] at X1371 l1374 y1375 z1376 st1377 hQ1373
        subst y1375 z1376
        obtain ⟨rfl, N1383, e1384⟩ := hQ1373
        have N1386 : Fr n0 L1368 := by rw [l1374]; exact Fr.app N1364 N1383
        clear l1374 N1383
        have k1387 : own_G p e below E0 T1367 (mkF m 381 #[vi p0, vi p1, vi p2, vi p3, vi (1 : Int32), vi (0 : Int32), vi pre, vi adv, vi ((XT.ushr p3 (3 : Int32)) &&& (3 : Int32)), vi (1 : Int32), vd (FP.i2d p0), ss, vr a489, vd mv, ss, vd mt, ss, vi mr, vi tI, vi nI, vd (FP.i2d nI), ss, vd mv, ss, vd (FP.i2d nI), ss, vd (FP.i2d nI), ss, vi (1 : Int32), vi (0 : Int32), vd vl, ss, uu, uu, uu, uu, uu, uu, uu] [(.int (own_mv (1 : Int32)))]) := fun tQ kk => k1366 tQ (st1377.trans kk)
        clear k1366 st1377
        have eq1388 : (own_mv (1 : Int32)) = (1 : Int32) := by decide
        rw [eq1388] at k1387
        have k1389 : own_G p e below E0 T1367 (mkF m 385 #[vi p0, vi p1, vi p2, vi p3, vi (1 : Int32), vi (0 : Int32), vi pre, vi adv, vi ((XT.ushr p3 (3 : Int32)) &&& (3 : Int32)), vi (1 : Int32), vd (FP.i2d p0), ss, vr a489, vd mv, ss, vd mt, ss, vi mr, vi tI, vi nI, vd (FP.i2d nI), ss, vd mv, ss, vd (FP.i2d nI), ss, vd (FP.i2d nI), ss, vi (1 : Int32), vi (0 : Int32), vd vl, ss, vi (1 : Int32), uu, uu, uu, uu, uu, uu] [(.ref a489)]) := by
          intro tQ kk
          refine k1387 tQ ?_
          refine XS.istore X1371.here hx rfl (hb hby at_381) rfl (l' := #[vi p0, vi p1, vi p2, vi p3, vi (1 : Int32), vi (0 : Int32), vi pre, vi adv, vi ((XT.ushr p3 (3 : Int32)) &&& (3 : Int32)), vi (1 : Int32), vd (FP.i2d p0), ss, vr a489, vd mv, ss, vd mt, ss, vi mr, vi tI, vi nI, vd (FP.i2d nI), ss, vd mv, ss, vd (FP.i2d nI), ss, vd (FP.i2d nI), ss, vi (1 : Int32), vi (0 : Int32), vd vl, ss, vi (1 : Int32), uu, uu, uu, uu, uu, uu]) rfl ?_
          refine XS.aload X1371.here hx rfl (hb hby at_383) rfl rfl ?_
          exact kk
        clear k1387
        obtain ⟨cq1401, kq1402, qa1403, qb1404, qc1405⟩ := isOf hZ e1384 F1336
        obtain ⟨_, _, ⟨T1390, L1391, kc1392, nc1393⟩, -, X1394, ⟨Lc1395, hQ1396, l1397, y1398, z1399⟩, st1400⟩ := X1371.virtualBack hx (y := mn12) (z := mn12) hown (mvT hZ (tw49 hw)) (mvT hZ (tw50 hw)) (notFace_of_selects (args := #[]) (mvT hZ (tw52 hw))) (mvT hZ (tw52 hw)) (mvT hZ (tw51 hw)) (by decide) (backOf (W := 0) (rmN l Z a0 hw [] a489 (1 : Int32) vl (FP.i2d nI) (FP.ddiv (FP.dsub (FP.i2d nI) vl) (FP.i2d (1 : Int32))) (1 : Int32) T1309.heap n0 Z1335 F1336 g1329 g1330 F1339 F1341 F1343 ge491 (fun _ => own_nn1 (own_fspN nI (F := (1 : Int32)) bW hvl (by decide)) (Fl.i2d_fin nI))) hZ (tw53 hw) (tw2 hw) (by decide) (by decide)) qa1403 qc1405 (g := (mkF m 385 #[vi p0, vi p1, vi p2, vi p3, vi (1 : Int32), vi (0 : Int32), vi pre, vi adv, vi ((XT.ushr p3 (3 : Int32)) &&& (3 : Int32)), vi (1 : Int32), vd (FP.i2d p0), ss, vr a489, vd mv, ss, vd mt, ss, vi mr, vi tI, vi nI, vd (FP.i2d nI), ss, vd mv, ss, vd (FP.i2d nI), ss, vd (FP.i2d nI), ss, vi (1 : Int32), vi (0 : Int32), vd vl, ss, vi (1 : Int32), uu, uu, uu, uu, uu, uu] [(.ref a489)])) rfl (by rw [hml]; rfl) (Steps.refl _) (argsL := []) (rest := []) (lenOf pd_16 rfl) rfl (by show 2 * 0 + _ ≤ _; exact Nat.le_of_eq rfl) (hb hby at_385) (fun _ _ => ⟨rfl, e1384, (by decide : 1 + 0 ≤ _), (by decide : 5 + 0 ≤ _)⟩)
        dsimp only [Pt.U, Pt.locs, Pt.cells, Pt.slots] at X1394 l1397 y1398 z1399 st1400 hQ1396
        subst y1398 z1399
        obtain ⟨rfl, N1406, K1409, g1410, g1411, g1412, g1413, g1414⟩ := hQ1396
        have N1415 : Fr n0 L1391 := by rw [l1397]; exact Fr.app N1386 N1406
        clear l1397 N1406
        have Z1416 : n0 ≤ T1390.heap.size := Nat.le_trans Z1335 K1409.1
        clear Z1335
        have F1417 : xa7 Z T1390.heap a489 := F1336.keep K1409
        clear F1336
        clear g1329
        clear g1330
        clear F1339
        clear F1341
        clear F1343
        have k1418 : own_G p e below E0 T1390 (mkF m 388 #[vi p0, vi p1, vi p2, vi p3, vi (1 : Int32), vi (0 : Int32), vi pre, vi adv, vi ((XT.ushr p3 (3 : Int32)) &&& (3 : Int32)), vi (1 : Int32), vd (FP.i2d p0), ss, vr a489, vd mv, ss, vd mt, ss, vi mr, vi tI, vi nI, vd (FP.i2d nI), ss, vd mv, ss, vd (FP.i2d nI), ss, vd (FP.i2d nI), ss, vi (1 : Int32), vi (0 : Int32), vd vl, ss, vi (1 : Int32), uu, uu, uu, uu, uu, uu] [(.double (own_nv vl (FP.i2d nI) (FP.ddiv (FP.dsub (FP.i2d nI) vl) (FP.i2d (1 : Int32))) (1 : Int32)))]) := fun tQ kk => k1389 tQ (st1400.trans kk)
        clear k1389 st1400
        have eq1419 : (own_nv vl (FP.i2d nI) (FP.ddiv (FP.dsub (FP.i2d nI) vl) (FP.i2d (1 : Int32))) (1 : Int32)) = (FP.dsub (FP.i2d nI) (FP.dmul (FP.i2d (0 : Int32)) (FP.ddiv (FP.dsub (FP.i2d nI) vl) (FP.i2d (1 : Int32))))) := by rw [own_nv, if_pos (by decide), show (1 : Int32) - 1 = (0 : Int32) by decide]
        have F1420 : fd3 Z T1390.heap a489 (.double (FP.dsub (FP.i2d nI) (FP.dmul (FP.i2d (0 : Int32)) (FP.ddiv (FP.dsub (FP.i2d nI) vl) (FP.i2d (1 : Int32)))))) := by rw [← eq1419]; exact g1411
        have eq1421 : (own_nr (1 : Int32)) = (0 : Int32) := by decide
        have F1422 : fd6 Z T1390.heap a489 (.int (0 : Int32)) := by rw [← eq1421]; exact g1414
        have eq1423 : (own_nv vl (FP.i2d nI) (FP.ddiv (FP.dsub (FP.i2d nI) vl) (FP.i2d (1 : Int32))) (1 : Int32)) = (FP.dsub (FP.i2d nI) (FP.dmul (FP.i2d (0 : Int32)) (FP.ddiv (FP.dsub (FP.i2d nI) vl) (FP.i2d (1 : Int32))))) := by rw [own_nv, if_pos (by decide), show (1 : Int32) - 1 = (0 : Int32) by decide]
        rw [eq1423] at k1418
        have k1424 : own_G p e below E0 T1390 (mkF m 392 #[vi p0, vi p1, vi p2, vi p3, vi (1 : Int32), vi (0 : Int32), vi pre, vi adv, vi ((XT.ushr p3 (3 : Int32)) &&& (3 : Int32)), vi (1 : Int32), vd (FP.i2d p0), ss, vr a489, vd mv, ss, vd mt, ss, vi mr, vi tI, vi nI, vd (FP.i2d nI), ss, vd mv, ss, vd (FP.i2d nI), ss, vd (FP.i2d nI), ss, vi (1 : Int32), vi (0 : Int32), vd vl, ss, vi (1 : Int32), vd (FP.dsub (FP.i2d nI) (FP.dmul (FP.i2d (0 : Int32)) (FP.ddiv (FP.dsub (FP.i2d nI) vl) (FP.i2d (1 : Int32))))), ss, uu, uu, uu, uu] [(.ref a489)]) := by
          intro tQ kk
          refine k1418 tQ ?_
          refine XS.dstore X1394.here hx rfl (hb hby at_388) rfl (l' := #[vi p0, vi p1, vi p2, vi p3, vi (1 : Int32), vi (0 : Int32), vi pre, vi adv, vi ((XT.ushr p3 (3 : Int32)) &&& (3 : Int32)), vi (1 : Int32), vd (FP.i2d p0), ss, vr a489, vd mv, ss, vd mt, ss, vi mr, vi tI, vi nI, vd (FP.i2d nI), ss, vd mv, ss, vd (FP.i2d nI), ss, vd (FP.i2d nI), ss, vi (1 : Int32), vi (0 : Int32), vd vl, ss, vi (1 : Int32), vd (FP.dsub (FP.i2d nI) (FP.dmul (FP.i2d (0 : Int32)) (FP.ddiv (FP.dsub (FP.i2d nI) vl) (FP.i2d (1 : Int32))))), ss, uu, uu, uu, uu]) rfl ?_
          refine XS.aload X1394.here hx rfl (hb hby at_390) rfl rfl ?_
          exact kk
        clear k1418
        obtain ⟨cq1436, kq1437, qa1438, qb1439, qc1440⟩ := isOf hZ rfl F1417
        obtain ⟨_, _, ⟨T1425, L1426, kc1427, nc1428⟩, -, X1429, ⟨Lc1430, hQ1431, l1432, y1433, z1434⟩, st1435⟩ := X1394.virtualBack hx (y := mn13) (z := mn13) hown (mvT hZ (tw44 hw)) (mvT hZ (tw45 hw)) (notFace_of_selects (args := #[]) (mvT hZ (tw47 hw))) (mvT hZ (tw47 hw)) (mvT hZ (tw46 hw)) (by decide) (backOf (W := 0) (rmMv l Z a0 hw [] a489 (0 : Int32) T1390.heap n0 Z1416 F1422) hZ (tw48 hw) (tw2 hw) (by decide) (by decide)) qa1438 qc1440 (g := (mkF m 392 #[vi p0, vi p1, vi p2, vi p3, vi (1 : Int32), vi (0 : Int32), vi pre, vi adv, vi ((XT.ushr p3 (3 : Int32)) &&& (3 : Int32)), vi (1 : Int32), vd (FP.i2d p0), ss, vr a489, vd mv, ss, vd mt, ss, vi mr, vi tI, vi nI, vd (FP.i2d nI), ss, vd mv, ss, vd (FP.i2d nI), ss, vd (FP.i2d nI), ss, vi (1 : Int32), vi (0 : Int32), vd vl, ss, vi (1 : Int32), vd (FP.dsub (FP.i2d nI) (FP.dmul (FP.i2d (0 : Int32)) (FP.ddiv (FP.dsub (FP.i2d nI) vl) (FP.i2d (1 : Int32))))), ss, uu, uu, uu, uu] [(.ref a489)])) rfl (by rw [hml]; rfl) (Steps.refl _) (argsL := []) (rest := []) (lenOf pd_18 rfl) rfl (by show 2 * 0 + _ ≤ _; exact Nat.le_of_eq rfl) (hb hby at_392) (fun _ _ => ⟨rfl, rfl, (by decide : 1 + 0 ≤ _), (by decide : 5 + 0 ≤ _)⟩)
        dsimp only [Pt.U, Pt.locs, Pt.cells, Pt.slots] at X1429 l1432 y1433 z1434 st1435 hQ1431
        subst y1433 z1434
        obtain ⟨rfl, N1441, e1442⟩ := hQ1431
        have N1444 : Fr n0 L1426 := by rw [l1432]; exact Fr.app N1415 N1441
        clear l1432 N1441
        have k1445 : own_G p e below E0 T1425 (mkF m 395 #[vi p0, vi p1, vi p2, vi p3, vi (1 : Int32), vi (0 : Int32), vi pre, vi adv, vi ((XT.ushr p3 (3 : Int32)) &&& (3 : Int32)), vi (1 : Int32), vd (FP.i2d p0), ss, vr a489, vd mv, ss, vd mt, ss, vi mr, vi tI, vi nI, vd (FP.i2d nI), ss, vd mv, ss, vd (FP.i2d nI), ss, vd (FP.i2d nI), ss, vi (1 : Int32), vi (0 : Int32), vd vl, ss, vi (1 : Int32), vd (FP.dsub (FP.i2d nI) (FP.dmul (FP.i2d (0 : Int32)) (FP.ddiv (FP.dsub (FP.i2d nI) vl) (FP.i2d (1 : Int32))))), ss, uu, uu, uu, uu] [(.int (own_mv (0 : Int32)))]) := fun tQ kk => k1424 tQ (st1435.trans kk)
        clear k1424 st1435
        have eq1446 : (own_mv (0 : Int32)) = (0 : Int32) := by decide
        rw [eq1446] at k1445
        have k1447 : own_G p e below E0 T1425 (mkF m 399 #[vi p0, vi p1, vi p2, vi p3, vi (1 : Int32), vi (0 : Int32), vi pre, vi adv, vi ((XT.ushr p3 (3 : Int32)) &&& (3 : Int32)), vi (1 : Int32), vd (FP.i2d p0), ss, vr a489, vd mv, ss, vd mt, ss, vi mr, vi tI, vi nI, vd (FP.i2d nI), ss, vd mv, ss, vd (FP.i2d nI), ss, vd (FP.i2d nI), ss, vi (1 : Int32), vi (0 : Int32), vd vl, ss, vi (1 : Int32), vd (FP.dsub (FP.i2d nI) (FP.dmul (FP.i2d (0 : Int32)) (FP.ddiv (FP.dsub (FP.i2d nI) vl) (FP.i2d (1 : Int32))))), ss, vi (0 : Int32), uu, uu, uu] [(.ref a489)]) := by
          intro tQ kk
          refine k1445 tQ ?_
          refine XS.istore X1429.here hx rfl (hb hby at_395) rfl (l' := #[vi p0, vi p1, vi p2, vi p3, vi (1 : Int32), vi (0 : Int32), vi pre, vi adv, vi ((XT.ushr p3 (3 : Int32)) &&& (3 : Int32)), vi (1 : Int32), vd (FP.i2d p0), ss, vr a489, vd mv, ss, vd mt, ss, vi mr, vi tI, vi nI, vd (FP.i2d nI), ss, vd mv, ss, vd (FP.i2d nI), ss, vd (FP.i2d nI), ss, vi (1 : Int32), vi (0 : Int32), vd vl, ss, vi (1 : Int32), vd (FP.dsub (FP.i2d nI) (FP.dmul (FP.i2d (0 : Int32)) (FP.ddiv (FP.dsub (FP.i2d nI) vl) (FP.i2d (1 : Int32))))), ss, vi (0 : Int32), uu, uu, uu]) rfl ?_
          refine XS.aload X1429.here hx rfl (hb hby at_397) rfl rfl ?_
          exact kk
        clear k1445
        obtain ⟨cq1459, kq1460, qa1461, qb1462, qc1463⟩ := isOf hZ e1442 F1417
        obtain ⟨_, _, ⟨T1448, L1449, kc1450, nc1451⟩, -, X1452, ⟨Lc1453, hQ1454, l1455, y1456, z1457⟩, st1458⟩ := X1429.virtualBack hx (y := mn12) (z := mn12) hown (mvT hZ (tw49 hw)) (mvT hZ (tw50 hw)) (notFace_of_selects (args := #[]) (mvT hZ (tw52 hw))) (mvT hZ (tw52 hw)) (mvT hZ (tw51 hw)) (by decide) (backOf (W := 0) (rmN l Z a0 hw [] a489 (1 : Int32) (FP.dsub (FP.i2d nI) (FP.dmul (FP.i2d (0 : Int32)) (FP.ddiv (FP.dsub (FP.i2d nI) vl) (FP.i2d (1 : Int32))))) (FP.i2d nI) (FP.ddiv (FP.dsub (FP.i2d nI) vl) (FP.i2d (1 : Int32))) (0 : Int32) T1390.heap n0 Z1416 F1417 g1410 F1420 g1412 g1413 F1422 ge491 (fun z => absurd z (by decide))) hZ (tw53 hw) (tw2 hw) (by decide) (by decide)) qa1461 qc1463 (g := (mkF m 399 #[vi p0, vi p1, vi p2, vi p3, vi (1 : Int32), vi (0 : Int32), vi pre, vi adv, vi ((XT.ushr p3 (3 : Int32)) &&& (3 : Int32)), vi (1 : Int32), vd (FP.i2d p0), ss, vr a489, vd mv, ss, vd mt, ss, vi mr, vi tI, vi nI, vd (FP.i2d nI), ss, vd mv, ss, vd (FP.i2d nI), ss, vd (FP.i2d nI), ss, vi (1 : Int32), vi (0 : Int32), vd vl, ss, vi (1 : Int32), vd (FP.dsub (FP.i2d nI) (FP.dmul (FP.i2d (0 : Int32)) (FP.ddiv (FP.dsub (FP.i2d nI) vl) (FP.i2d (1 : Int32))))), ss, vi (0 : Int32), uu, uu, uu] [(.ref a489)])) rfl (by rw [hml]; rfl) (Steps.refl _) (argsL := []) (rest := []) (lenOf pd_16 rfl) rfl (by show 2 * 0 + _ ≤ _; exact Nat.le_of_eq rfl) (hb hby at_399) (fun _ _ => ⟨rfl, e1442, (by decide : 1 + 0 ≤ _), (by decide : 5 + 0 ≤ _)⟩)
        dsimp only [Pt.U, Pt.locs, Pt.cells, Pt.slots] at X1452 l1455 y1456 z1457 st1458 hQ1454
        subst y1456 z1457
        obtain ⟨rfl, N1464, K1467, g1468, g1469, g1470, g1471, g1472⟩ := hQ1454
        have N1473 : Fr n0 L1449 := by rw [l1455]; exact Fr.app N1444 N1464
        clear l1455 N1464
        have Z1474 : n0 ≤ T1448.heap.size := Nat.le_trans Z1416 K1467.1
        clear Z1416
        have F1475 : xa7 Z T1448.heap a489 := F1417.keep K1467
        clear F1417
        clear g1410
        clear F1420
        clear g1412
        clear g1413
        clear F1422
        have k1476 : own_G p e below E0 T1448 (mkF m 402 #[vi p0, vi p1, vi p2, vi p3, vi (1 : Int32), vi (0 : Int32), vi pre, vi adv, vi ((XT.ushr p3 (3 : Int32)) &&& (3 : Int32)), vi (1 : Int32), vd (FP.i2d p0), ss, vr a489, vd mv, ss, vd mt, ss, vi mr, vi tI, vi nI, vd (FP.i2d nI), ss, vd mv, ss, vd (FP.i2d nI), ss, vd (FP.i2d nI), ss, vi (1 : Int32), vi (0 : Int32), vd vl, ss, vi (1 : Int32), vd (FP.dsub (FP.i2d nI) (FP.dmul (FP.i2d (0 : Int32)) (FP.ddiv (FP.dsub (FP.i2d nI) vl) (FP.i2d (1 : Int32))))), ss, vi (0 : Int32), uu, uu, uu] [(.double (own_nv (FP.dsub (FP.i2d nI) (FP.dmul (FP.i2d (0 : Int32)) (FP.ddiv (FP.dsub (FP.i2d nI) vl) (FP.i2d (1 : Int32))))) (FP.i2d nI) (FP.ddiv (FP.dsub (FP.i2d nI) vl) (FP.i2d (1 : Int32))) (0 : Int32)))]) := fun tQ kk => k1447 tQ (st1458.trans kk)
        clear k1447 st1458
        have eq1477 : (own_nv (FP.dsub (FP.i2d nI) (FP.dmul (FP.i2d (0 : Int32)) (FP.ddiv (FP.dsub (FP.i2d nI) vl) (FP.i2d (1 : Int32))))) (FP.i2d nI) (FP.ddiv (FP.dsub (FP.i2d nI) vl) (FP.i2d (1 : Int32))) (0 : Int32)) = (FP.dsub (FP.i2d nI) (FP.dmul (FP.i2d (0 : Int32)) (FP.ddiv (FP.dsub (FP.i2d nI) vl) (FP.i2d (1 : Int32))))) := by rw [own_nv, if_neg (by decide)]
        have F1478 : fd3 Z T1448.heap a489 (.double (FP.dsub (FP.i2d nI) (FP.dmul (FP.i2d (0 : Int32)) (FP.ddiv (FP.dsub (FP.i2d nI) vl) (FP.i2d (1 : Int32)))))) := by rw [← eq1477]; exact g1469
        have eq1479 : (own_nr (0 : Int32)) = (0 : Int32) := by decide
        have F1480 : fd6 Z T1448.heap a489 (.int (0 : Int32)) := by rw [← eq1479]; exact g1472
        have eq1481 : (own_nv (FP.dsub (FP.i2d nI) (FP.dmul (FP.i2d (0 : Int32)) (FP.ddiv (FP.dsub (FP.i2d nI) vl) (FP.i2d (1 : Int32))))) (FP.i2d nI) (FP.ddiv (FP.dsub (FP.i2d nI) vl) (FP.i2d (1 : Int32))) (0 : Int32)) = (FP.dsub (FP.i2d nI) (FP.dmul (FP.i2d (0 : Int32)) (FP.ddiv (FP.dsub (FP.i2d nI) vl) (FP.i2d (1 : Int32))))) := by rw [own_nv, if_neg (by decide)]
        rw [eq1481] at k1476
        have k1482 : own_G p e below E0 T1448 (mkF m 406 #[vi p0, vi p1, vi p2, vi p3, vi (1 : Int32), vi (0 : Int32), vi pre, vi adv, vi ((XT.ushr p3 (3 : Int32)) &&& (3 : Int32)), vi (1 : Int32), vd (FP.i2d p0), ss, vr a489, vd mv, ss, vd mt, ss, vi mr, vi tI, vi nI, vd (FP.i2d nI), ss, vd mv, ss, vd (FP.i2d nI), ss, vd (FP.i2d nI), ss, vi (1 : Int32), vi (0 : Int32), vd vl, ss, vi (1 : Int32), vd (FP.dsub (FP.i2d nI) (FP.dmul (FP.i2d (0 : Int32)) (FP.ddiv (FP.dsub (FP.i2d nI) vl) (FP.i2d (1 : Int32))))), ss, vi (0 : Int32), vd (FP.dsub (FP.i2d nI) (FP.dmul (FP.i2d (0 : Int32)) (FP.ddiv (FP.dsub (FP.i2d nI) vl) (FP.i2d (1 : Int32))))), ss, uu] [(.ref a489)]) := by
          intro tQ kk
          refine k1476 tQ ?_
          refine XS.dstore X1452.here hx rfl (hb hby at_402) rfl (l' := #[vi p0, vi p1, vi p2, vi p3, vi (1 : Int32), vi (0 : Int32), vi pre, vi adv, vi ((XT.ushr p3 (3 : Int32)) &&& (3 : Int32)), vi (1 : Int32), vd (FP.i2d p0), ss, vr a489, vd mv, ss, vd mt, ss, vi mr, vi tI, vi nI, vd (FP.i2d nI), ss, vd mv, ss, vd (FP.i2d nI), ss, vd (FP.i2d nI), ss, vi (1 : Int32), vi (0 : Int32), vd vl, ss, vi (1 : Int32), vd (FP.dsub (FP.i2d nI) (FP.dmul (FP.i2d (0 : Int32)) (FP.ddiv (FP.dsub (FP.i2d nI) vl) (FP.i2d (1 : Int32))))), ss, vi (0 : Int32), vd (FP.dsub (FP.i2d nI) (FP.dmul (FP.i2d (0 : Int32)) (FP.ddiv (FP.dsub (FP.i2d nI) vl) (FP.i2d (1 : Int32))))), ss, uu]) rfl ?_
          refine XS.aload X1452.here hx rfl (hb hby at_404) rfl rfl ?_
          exact kk
        clear k1476
        obtain ⟨cq1494, kq1495, qa1496, qb1497, qc1498⟩ := isOf hZ rfl F1475
        obtain ⟨_, _, ⟨T1483, L1484, kc1485, nc1486⟩, -, X1487, ⟨Lc1488, hQ1489, l1490, y1491, z1492⟩, st1493⟩ := X1452.virtualBack hx (y := mn13) (z := mn13) hown (mvT hZ (tw44 hw)) (mvT hZ (tw45 hw)) (notFace_of_selects (args := #[]) (mvT hZ (tw47 hw))) (mvT hZ (tw47 hw)) (mvT hZ (tw46 hw)) (by decide) (backOf (W := 0) (rmMv l Z a0 hw [] a489 (0 : Int32) T1448.heap n0 Z1474 F1480) hZ (tw48 hw) (tw2 hw) (by decide) (by decide)) qa1496 qc1498 (g := (mkF m 406 #[vi p0, vi p1, vi p2, vi p3, vi (1 : Int32), vi (0 : Int32), vi pre, vi adv, vi ((XT.ushr p3 (3 : Int32)) &&& (3 : Int32)), vi (1 : Int32), vd (FP.i2d p0), ss, vr a489, vd mv, ss, vd mt, ss, vi mr, vi tI, vi nI, vd (FP.i2d nI), ss, vd mv, ss, vd (FP.i2d nI), ss, vd (FP.i2d nI), ss, vi (1 : Int32), vi (0 : Int32), vd vl, ss, vi (1 : Int32), vd (FP.dsub (FP.i2d nI) (FP.dmul (FP.i2d (0 : Int32)) (FP.ddiv (FP.dsub (FP.i2d nI) vl) (FP.i2d (1 : Int32))))), ss, vi (0 : Int32), vd (FP.dsub (FP.i2d nI) (FP.dmul (FP.i2d (0 : Int32)) (FP.ddiv (FP.dsub (FP.i2d nI) vl) (FP.i2d (1 : Int32))))), ss, uu] [(.ref a489)])) rfl (by rw [hml]; rfl) (Steps.refl _) (argsL := []) (rest := []) (lenOf pd_18 rfl) rfl (by show 2 * 0 + _ ≤ _; exact Nat.le_of_eq rfl) (hb hby at_406) (fun _ _ => ⟨rfl, rfl, (by decide : 1 + 0 ≤ _), (by decide : 5 + 0 ≤ _)⟩)
        dsimp only [Pt.U, Pt.locs, Pt.cells, Pt.slots] at X1487 l1490 y1491 z1492 st1493 hQ1489
        subst y1491 z1492
        obtain ⟨rfl, N1499, e1500⟩ := hQ1489
        have N1502 : Fr n0 L1484 := by rw [l1490]; exact Fr.app N1473 N1499
        clear l1490 N1499
        have k1503 : own_G p e below E0 T1483 (mkF m 409 #[vi p0, vi p1, vi p2, vi p3, vi (1 : Int32), vi (0 : Int32), vi pre, vi adv, vi ((XT.ushr p3 (3 : Int32)) &&& (3 : Int32)), vi (1 : Int32), vd (FP.i2d p0), ss, vr a489, vd mv, ss, vd mt, ss, vi mr, vi tI, vi nI, vd (FP.i2d nI), ss, vd mv, ss, vd (FP.i2d nI), ss, vd (FP.i2d nI), ss, vi (1 : Int32), vi (0 : Int32), vd vl, ss, vi (1 : Int32), vd (FP.dsub (FP.i2d nI) (FP.dmul (FP.i2d (0 : Int32)) (FP.ddiv (FP.dsub (FP.i2d nI) vl) (FP.i2d (1 : Int32))))), ss, vi (0 : Int32), vd (FP.dsub (FP.i2d nI) (FP.dmul (FP.i2d (0 : Int32)) (FP.ddiv (FP.dsub (FP.i2d nI) vl) (FP.i2d (1 : Int32))))), ss, uu] [(.int (own_mv (0 : Int32)))]) := fun tQ kk => k1482 tQ (st1493.trans kk)
        clear k1482 st1493
        have eq1504 : (own_mv (0 : Int32)) = (0 : Int32) := by decide
        rw [eq1504] at k1503
        have k1505 : own_G p e below E0 T1483 (mkF m 459 #[vi p0, vi p1, vi p2, vi p3, vi (1 : Int32), vi (0 : Int32), vi pre, vi adv, vi ((XT.ushr p3 (3 : Int32)) &&& (3 : Int32)), vi (1 : Int32), vd (FP.i2d p0), ss, vr a489, vd mv, ss, vd mt, ss, vi mr, vi tI, vi nI, vd (FP.i2d nI), ss, vd mv, ss, vd (FP.i2d nI), ss, vd (FP.i2d nI), ss, vi (1 : Int32), vi (0 : Int32), vd vl, ss, vi (1 : Int32), vd (FP.dsub (FP.i2d nI) (FP.dmul (FP.i2d (0 : Int32)) (FP.ddiv (FP.dsub (FP.i2d nI) vl) (FP.i2d (1 : Int32))))), ss, vi (0 : Int32), vd (FP.dsub (FP.i2d nI) (FP.dmul (FP.i2d (0 : Int32)) (FP.ddiv (FP.dsub (FP.i2d nI) vl) (FP.i2d (1 : Int32))))), ss, vi (0 : Int32)] [(.int (1 : Int32))]) := by
          intro tQ kk
          refine k1503 tQ ?_
          refine XS.istore X1487.here hx rfl (hb hby at_409) rfl (l' := #[vi p0, vi p1, vi p2, vi p3, vi (1 : Int32), vi (0 : Int32), vi pre, vi adv, vi ((XT.ushr p3 (3 : Int32)) &&& (3 : Int32)), vi (1 : Int32), vd (FP.i2d p0), ss, vr a489, vd mv, ss, vd mt, ss, vi mr, vi tI, vi nI, vd (FP.i2d nI), ss, vd mv, ss, vd (FP.i2d nI), ss, vd (FP.i2d nI), ss, vi (1 : Int32), vi (0 : Int32), vd vl, ss, vi (1 : Int32), vd (FP.dsub (FP.i2d nI) (FP.dmul (FP.i2d (0 : Int32)) (FP.ddiv (FP.dsub (FP.i2d nI) vl) (FP.i2d (1 : Int32))))), ss, vi (0 : Int32), vd (FP.dsub (FP.i2d nI) (FP.dmul (FP.i2d (0 : Int32)) (FP.ddiv (FP.dsub (FP.i2d nI) vl) (FP.i2d (1 : Int32))))), ss, vi (0 : Int32)]) rfl ?_
          refine XS.dload X1487.here hx rfl (hb hby at_411) rfl ?_
          refine XS.dload X1487.here hx rfl (hb hby at_413) rfl ?_
          refine XS.dcmpS (v := (0 : Int32)) X1487.here hx rfl (hb hby at_415) rfl (own_eqz .l hvl.1.noNaN hmv.1.noNaN (hvl.2.trans hmv.2.symm)) ?_
          show Steps p.tables e below (T1483.setTop (mkF m 416 #[vi p0, vi p1, vi p2, vi p3, vi (1 : Int32), vi (0 : Int32), vi pre, vi adv, vi ((XT.ushr p3 (3 : Int32)) &&& (3 : Int32)), vi (1 : Int32), vd (FP.i2d p0), ss, vr a489, vd mv, ss, vd mt, ss, vi mr, vi tI, vi nI, vd (FP.i2d nI), ss, vd mv, ss, vd (FP.i2d nI), ss, vd (FP.i2d nI), ss, vi (1 : Int32), vi (0 : Int32), vd vl, ss, vi (1 : Int32), vd (FP.dsub (FP.i2d nI) (FP.dmul (FP.i2d (0 : Int32)) (FP.ddiv (FP.dsub (FP.i2d nI) vl) (FP.i2d (1 : Int32))))), ss, vi (0 : Int32), vd (FP.dsub (FP.i2d nI) (FP.dmul (FP.i2d (0 : Int32)) (FP.ddiv (FP.dsub (FP.i2d nI) vl) (FP.i2d (1 : Int32))))), ss, vi (0 : Int32)] [(.int (0 : Int32))])) tQ
          refine XS.ifNo X1487.here hx rfl (hb hby at_416) rfl (own_if_neN (by decide)) ?_
          refine XS.iload X1487.here hx rfl (hb hby at_419) rfl ?_
          refine XS.iload X1487.here hx rfl (hb hby at_421) rfl ?_
          refine XS.icmpNo X1487.here hx rfl (hb hby at_423) rfl (own_ic_neN (by decide)) ?_
          show Steps p.tables e below (T1483.setTop (mkF m 426 #[vi p0, vi p1, vi p2, vi p3, vi (1 : Int32), vi (0 : Int32), vi pre, vi adv, vi ((XT.ushr p3 (3 : Int32)) &&& (3 : Int32)), vi (1 : Int32), vd (FP.i2d p0), ss, vr a489, vd mv, ss, vd mt, ss, vi mr, vi tI, vi nI, vd (FP.i2d nI), ss, vd mv, ss, vd (FP.i2d nI), ss, vd (FP.i2d nI), ss, vi (1 : Int32), vi (0 : Int32), vd vl, ss, vi (1 : Int32), vd (FP.dsub (FP.i2d nI) (FP.dmul (FP.i2d (0 : Int32)) (FP.ddiv (FP.dsub (FP.i2d nI) vl) (FP.i2d (1 : Int32))))), ss, vi (0 : Int32), vd (FP.dsub (FP.i2d nI) (FP.dmul (FP.i2d (0 : Int32)) (FP.ddiv (FP.dsub (FP.i2d nI) vl) (FP.i2d (1 : Int32))))), ss, vi (0 : Int32)] [])) tQ
          refine XS.dload X1487.here hx rfl (hb hby at_426) rfl ?_
          refine XS.dload X1487.here hx rfl (hb hby at_428) rfl ?_
          refine XS.dcmpS (v := (0 : Int32)) X1487.here hx rfl (hb hby at_430) rfl (own_cz (own_fspN nI (F := 1) bW hvl (by decide)) (Fl.i2d_fin nI)) ?_
          refine XS.ifNo X1487.here hx rfl (hb hby at_431) rfl (own_if_neN (by decide)) ?_
          show Steps p.tables e below (T1483.setTop (mkF m 434 #[vi p0, vi p1, vi p2, vi p3, vi (1 : Int32), vi (0 : Int32), vi pre, vi adv, vi ((XT.ushr p3 (3 : Int32)) &&& (3 : Int32)), vi (1 : Int32), vd (FP.i2d p0), ss, vr a489, vd mv, ss, vd mt, ss, vi mr, vi tI, vi nI, vd (FP.i2d nI), ss, vd mv, ss, vd (FP.i2d nI), ss, vd (FP.i2d nI), ss, vi (1 : Int32), vi (0 : Int32), vd vl, ss, vi (1 : Int32), vd (FP.dsub (FP.i2d nI) (FP.dmul (FP.i2d (0 : Int32)) (FP.ddiv (FP.dsub (FP.i2d nI) vl) (FP.i2d (1 : Int32))))), ss, vi (0 : Int32), vd (FP.dsub (FP.i2d nI) (FP.dmul (FP.i2d (0 : Int32)) (FP.ddiv (FP.dsub (FP.i2d nI) vl) (FP.i2d (1 : Int32))))), ss, vi (0 : Int32)] [])) tQ
          refine XS.iload X1487.here hx rfl (hb hby at_434) rfl ?_
          refine XS.iload X1487.here hx rfl (hb hby at_436) rfl ?_
          refine XS.icmpNo X1487.here hx rfl (hb hby at_438) rfl (own_ic_neN (by decide)) ?_
          refine XS.dload X1487.here hx rfl (hb hby at_441) rfl ?_
          show Steps p.tables e below (T1483.setTop (mkF m 443 #[vi p0, vi p1, vi p2, vi p3, vi (1 : Int32), vi (0 : Int32), vi pre, vi adv, vi ((XT.ushr p3 (3 : Int32)) &&& (3 : Int32)), vi (1 : Int32), vd (FP.i2d p0), ss, vr a489, vd mv, ss, vd mt, ss, vi mr, vi tI, vi nI, vd (FP.i2d nI), ss, vd mv, ss, vd (FP.i2d nI), ss, vd (FP.i2d nI), ss, vi (1 : Int32), vi (0 : Int32), vd vl, ss, vi (1 : Int32), vd (FP.dsub (FP.i2d nI) (FP.dmul (FP.i2d (0 : Int32)) (FP.ddiv (FP.dsub (FP.i2d nI) vl) (FP.i2d (1 : Int32))))), ss, vi (0 : Int32), vd (FP.dsub (FP.i2d nI) (FP.dmul (FP.i2d (0 : Int32)) (FP.ddiv (FP.dsub (FP.i2d nI) vl) (FP.i2d (1 : Int32))))), ss, vi (0 : Int32)] [(.double (FP.dsub (FP.i2d nI) (FP.dmul (FP.i2d (0 : Int32)) (FP.ddiv (FP.dsub (FP.i2d nI) vl) (FP.i2d (1 : Int32))))))])) tQ
          refine XS.dload X1487.here hx rfl (hb hby at_443) rfl ?_
          refine XS.dcmpS (v := (0 : Int32)) X1487.here hx rfl (hb hby at_445) rfl (own_cz (own_fspN nI (F := 1) bW hvl (by decide)) (Fl.i2d_fin nI)) ?_
          refine XS.ifNo X1487.here hx rfl (hb hby at_446) rfl (own_if_neN (by decide)) ?_
          refine XS.iload X1487.here hx rfl (hb hby at_449) rfl ?_
          show Steps p.tables e below (T1483.setTop (mkF m 451 #[vi p0, vi p1, vi p2, vi p3, vi (1 : Int32), vi (0 : Int32), vi pre, vi adv, vi ((XT.ushr p3 (3 : Int32)) &&& (3 : Int32)), vi (1 : Int32), vd (FP.i2d p0), ss, vr a489, vd mv, ss, vd mt, ss, vi mr, vi tI, vi nI, vd (FP.i2d nI), ss, vd mv, ss, vd (FP.i2d nI), ss, vd (FP.i2d nI), ss, vi (1 : Int32), vi (0 : Int32), vd vl, ss, vi (1 : Int32), vd (FP.dsub (FP.i2d nI) (FP.dmul (FP.i2d (0 : Int32)) (FP.ddiv (FP.dsub (FP.i2d nI) vl) (FP.i2d (1 : Int32))))), ss, vi (0 : Int32), vd (FP.dsub (FP.i2d nI) (FP.dmul (FP.i2d (0 : Int32)) (FP.ddiv (FP.dsub (FP.i2d nI) vl) (FP.i2d (1 : Int32))))), ss, vi (0 : Int32)] [(.int (0 : Int32))])) tQ
          refine XS.ifNo X1487.here hx rfl (hb hby at_451) rfl (own_if_neN (by decide)) ?_
          refine XS.iconst X1487.here hx rfl (hb hby at_454) ?_
          refine XS.goto X1487.here hx rfl (pc0 := 455) (pc' := 459) rfl (hb hby at_455) (by decide) (by decide) ?_
          exact kk
        clear k1503
        obtain ⟨fs, hr, hrun, hended, hW, hsame⟩ := X1487.leave (v := some (.int (1 : Int32))) (fun h => by rw [Bd.returns] at h; cases h)
        have hrun0 := k1505 _ (retOut X1487 hx Bd.returns (t := .boolean) rfl (Or.inl ⟨rfl, Or.inr (Or.inl rfl), _, rfl⟩) (hb hby at_459) hr)
        subst hE0
        refine ⟨_, _, hrun0, hrun, hended, _, _, rfl, ?_, ⟨_, rfl⟩, hW, hsame.mono (by decide) (by decide)⟩
        show Qrm0 Z p0 p1 p2 p3 h0 n0 _ T1483.heap _
        rw [e1500]
        exact ⟨rfl, N1502⟩
  · skip
    have k1506 : own_G p e below E0 s₁ (mkF m 27 #[vi p0, vi p1, vi p2, vi p3, vi (2 : Int32), vi (100 : Int32), uu, uu, uu, uu, uu, uu, uu, uu, uu, uu, uu, uu, uu, uu, uu, uu, uu, uu, uu, uu, uu, uu, uu, uu, uu, uu, uu, uu, uu, uu, uu, uu, uu] []) := by
      intro tQ kk
      refine k454 tQ ?_
      refine XS.ifNo X0.here hx rfl (hb hby at_3) rfl (own_if_eqN c455) ?_
      refine XS.iconst X0.here hx rfl (hb hby at_6) ?_
      refine XS.goto X0.here hx rfl (pc0 := 7) (pc' := 11) rfl (hb hby at_7) (by decide) (by decide) ?_
      refine XS.istore X0.here hx rfl (hb hby at_11) rfl (l' := #[vi p0, vi p1, vi p2, vi p3, vi (2 : Int32), uu, uu, uu, uu, uu, uu, uu, uu, uu, uu, uu, uu, uu, uu, uu, uu, uu, uu, uu, uu, uu, uu, uu, uu, uu, uu, uu, uu, uu, uu, uu, uu, uu, uu]) rfl ?_
      show Steps p.tables e below (s₁.setTop (mkF m 13 #[vi p0, vi p1, vi p2, vi p3, vi (2 : Int32), uu, uu, uu, uu, uu, uu, uu, uu, uu, uu, uu, uu, uu, uu, uu, uu, uu, uu, uu, uu, uu, uu, uu, uu, uu, uu, uu, uu, uu, uu, uu, uu, uu, uu] [])) tQ
      refine XS.iload X0.here hx rfl (hb hby at_13) rfl ?_
      refine XS.iconst X0.here hx rfl (hb hby at_15) ?_
      refine XS.icmpNo X0.here hx rfl (hb hby at_16) rfl (own_ic_neN (by decide)) ?_
      refine XS.bipush X0.here hx rfl (hb hby at_19) ?_
      show Steps p.tables e below (s₁.setTop (mkF m 21 #[vi p0, vi p1, vi p2, vi p3, vi (2 : Int32), uu, uu, uu, uu, uu, uu, uu, uu, uu, uu, uu, uu, uu, uu, uu, uu, uu, uu, uu, uu, uu, uu, uu, uu, uu, uu, uu, uu, uu, uu, uu, uu, uu, uu] [(.int (100 : Int32))])) tQ
      refine XS.goto X0.here hx rfl (pc0 := 21) (pc' := 25) rfl (hb hby at_21) (by decide) (by decide) ?_
      refine XS.istore X0.here hx rfl (hb hby at_25) rfl (l' := #[vi p0, vi p1, vi p2, vi p3, vi (2 : Int32), vi (100 : Int32), uu, uu, uu, uu, uu, uu, uu, uu, uu, uu, uu, uu, uu, uu, uu, uu, uu, uu, uu, uu, uu, uu, uu, uu, uu, uu, uu, uu, uu, uu, uu, uu, uu]) rfl ?_
      exact kk
    clear k454
    have jn1512 : ∃ (pre : Int32), ((((p3 &&& (2 : Int32)) = 0) ∧ pre = (0 : Int32)) ∨ (¬ ((p3 &&& (2 : Int32)) = 0) ∧ pre = (1 : Int32))) ∧ (own_G p e below E0 s₁ (mkF m 38 #[vi p0, vi p1, vi p2, vi p3, vi (2 : Int32), vi (100 : Int32), uu, uu, uu, uu, uu, uu, uu, uu, uu, uu, uu, uu, uu, uu, uu, uu, uu, uu, uu, uu, uu, uu, uu, uu, uu, uu, uu, uu, uu, uu, uu, uu, uu] [(.int pre)])) := by
      have k1507 : own_G p e below E0 s₁ (mkF m 30 #[vi p0, vi p1, vi p2, vi p3, vi (2 : Int32), vi (100 : Int32), uu, uu, uu, uu, uu, uu, uu, uu, uu, uu, uu, uu, uu, uu, uu, uu, uu, uu, uu, uu, uu, uu, uu, uu, uu, uu, uu, uu, uu, uu, uu, uu, uu] [(.int (p3 &&& (2 : Int32)))]) := by
        intro tQ kk
        refine k1506 tQ ?_
        refine XS.iloadN X0.here hx rfl (hb hby at_27) rfl ?_
        refine XS.iconst X0.here hx rfl (hb hby at_28) ?_
        refine XS.iand X0.here hx rfl (hb hby at_29) rfl ?_
        exact kk
      clear k1506
      by_cases c1508 : (p3 &&& (2 : Int32)) = 0
      · skip
        have k1509 : own_G p e below E0 s₁ (mkF m 38 #[vi p0, vi p1, vi p2, vi p3, vi (2 : Int32), vi (100 : Int32), uu, uu, uu, uu, uu, uu, uu, uu, uu, uu, uu, uu, uu, uu, uu, uu, uu, uu, uu, uu, uu, uu, uu, uu, uu, uu, uu, uu, uu, uu, uu, uu, uu] [(.int (0 : Int32))]) := by
          intro tQ kk
          refine k1507 tQ ?_
          refine XS.ifYes X0.here hx rfl (pc0 := 30) (pc' := 37) rfl (hb hby at_30) rfl (own_if_eqY c1508) (by decide) (by decide) ?_
          refine XS.iconst X0.here hx rfl (hb hby at_37) ?_
          exact kk
        clear k1507
        exact ⟨(0 : Int32), (Or.inl (⟨c1508, rfl⟩)), k1509⟩
      · skip
        have k1510 : own_G p e below E0 s₁ (mkF m 38 #[vi p0, vi p1, vi p2, vi p3, vi (2 : Int32), vi (100 : Int32), uu, uu, uu, uu, uu, uu, uu, uu, uu, uu, uu, uu, uu, uu, uu, uu, uu, uu, uu, uu, uu, uu, uu, uu, uu, uu, uu, uu, uu, uu, uu, uu, uu] [(.int (1 : Int32))]) := by
          intro tQ kk
          refine k1507 tQ ?_
          refine XS.ifNo X0.here hx rfl (hb hby at_30) rfl (own_if_eqN c1508) ?_
          refine XS.iconst X0.here hx rfl (hb hby at_33) ?_
          refine XS.goto X0.here hx rfl (pc0 := 34) (pc' := 38) rfl (hb hby at_34) (by decide) (by decide) ?_
          exact kk
        clear k1507
        exact ⟨(1 : Int32), (Or.inr (⟨c1508, rfl⟩)), k1510⟩
    obtain ⟨pre, hD1513, k1511⟩ := jn1512
    have k1514 : own_G p e below E0 s₁ (mkF m 40 #[vi p0, vi p1, vi p2, vi p3, vi (2 : Int32), vi (100 : Int32), vi pre, uu, uu, uu, uu, uu, uu, uu, uu, uu, uu, uu, uu, uu, uu, uu, uu, uu, uu, uu, uu, uu, uu, uu, uu, uu, uu, uu, uu, uu, uu, uu, uu] []) := by
      intro tQ kk
      refine k1511 tQ ?_
      refine XS.istore X0.here hx rfl (hb hby at_38) rfl (l' := #[vi p0, vi p1, vi p2, vi p3, vi (2 : Int32), vi (100 : Int32), vi pre, uu, uu, uu, uu, uu, uu, uu, uu, uu, uu, uu, uu, uu, uu, uu, uu, uu, uu, uu, uu, uu, uu, uu, uu, uu, uu, uu, uu, uu, uu, uu, uu]) rfl ?_
      exact kk
    clear k1511
    have jn1520 : ∃ (adv : Int32), ((((p3 &&& (4 : Int32)) = 0) ∧ adv = (0 : Int32)) ∨ (¬ ((p3 &&& (4 : Int32)) = 0) ∧ adv = (1 : Int32))) ∧ (own_G p e below E0 s₁ (mkF m 51 #[vi p0, vi p1, vi p2, vi p3, vi (2 : Int32), vi (100 : Int32), vi pre, uu, uu, uu, uu, uu, uu, uu, uu, uu, uu, uu, uu, uu, uu, uu, uu, uu, uu, uu, uu, uu, uu, uu, uu, uu, uu, uu, uu, uu, uu, uu, uu] [(.int adv)])) := by
      have k1515 : own_G p e below E0 s₁ (mkF m 43 #[vi p0, vi p1, vi p2, vi p3, vi (2 : Int32), vi (100 : Int32), vi pre, uu, uu, uu, uu, uu, uu, uu, uu, uu, uu, uu, uu, uu, uu, uu, uu, uu, uu, uu, uu, uu, uu, uu, uu, uu, uu, uu, uu, uu, uu, uu, uu] [(.int (p3 &&& (4 : Int32)))]) := by
        intro tQ kk
        refine k1514 tQ ?_
        refine XS.iloadN X0.here hx rfl (hb hby at_40) rfl ?_
        refine XS.iconst X0.here hx rfl (hb hby at_41) ?_
        refine XS.iand X0.here hx rfl (hb hby at_42) rfl ?_
        exact kk
      clear k1514
      by_cases c1516 : (p3 &&& (4 : Int32)) = 0
      · skip
        have k1517 : own_G p e below E0 s₁ (mkF m 51 #[vi p0, vi p1, vi p2, vi p3, vi (2 : Int32), vi (100 : Int32), vi pre, uu, uu, uu, uu, uu, uu, uu, uu, uu, uu, uu, uu, uu, uu, uu, uu, uu, uu, uu, uu, uu, uu, uu, uu, uu, uu, uu, uu, uu, uu, uu, uu] [(.int (0 : Int32))]) := by
          intro tQ kk
          refine k1515 tQ ?_
          refine XS.ifYes X0.here hx rfl (pc0 := 43) (pc' := 50) rfl (hb hby at_43) rfl (own_if_eqY c1516) (by decide) (by decide) ?_
          refine XS.iconst X0.here hx rfl (hb hby at_50) ?_
          exact kk
        clear k1515
        exact ⟨(0 : Int32), (Or.inl (⟨c1516, rfl⟩)), k1517⟩
      · skip
        have k1518 : own_G p e below E0 s₁ (mkF m 51 #[vi p0, vi p1, vi p2, vi p3, vi (2 : Int32), vi (100 : Int32), vi pre, uu, uu, uu, uu, uu, uu, uu, uu, uu, uu, uu, uu, uu, uu, uu, uu, uu, uu, uu, uu, uu, uu, uu, uu, uu, uu, uu, uu, uu, uu, uu, uu] [(.int (1 : Int32))]) := by
          intro tQ kk
          refine k1515 tQ ?_
          refine XS.ifNo X0.here hx rfl (hb hby at_43) rfl (own_if_eqN c1516) ?_
          refine XS.iconst X0.here hx rfl (hb hby at_46) ?_
          refine XS.goto X0.here hx rfl (pc0 := 47) (pc' := 51) rfl (hb hby at_47) (by decide) (by decide) ?_
          exact kk
        clear k1515
        exact ⟨(1 : Int32), (Or.inr (⟨c1516, rfl⟩)), k1518⟩
    obtain ⟨adv, hD1521, k1519⟩ := jn1520
    have k1522 : own_G p e below E0 s₁ (mkF m 60 #[vi p0, vi p1, vi p2, vi p3, vi (2 : Int32), vi (100 : Int32), vi pre, vi adv, vi ((XT.ushr p3 (3 : Int32)) &&& (3 : Int32)), uu, uu, uu, uu, uu, uu, uu, uu, uu, uu, uu, uu, uu, uu, uu, uu, uu, uu, uu, uu, uu, uu, uu, uu, uu, uu, uu, uu, uu, uu] []) := by
      intro tQ kk
      refine k1519 tQ ?_
      refine XS.istore X0.here hx rfl (hb hby at_51) rfl (l' := #[vi p0, vi p1, vi p2, vi p3, vi (2 : Int32), vi (100 : Int32), vi pre, vi adv, uu, uu, uu, uu, uu, uu, uu, uu, uu, uu, uu, uu, uu, uu, uu, uu, uu, uu, uu, uu, uu, uu, uu, uu, uu, uu, uu, uu, uu, uu, uu]) rfl ?_
      refine XS.iloadN X0.here hx rfl (hb hby at_53) rfl ?_
      refine XS.iconst X0.here hx rfl (hb hby at_54) ?_
      refine XT.iushr X0.here hx rfl (hb hby at_55) rfl ?_
      show Steps p.tables e below (s₁.setTop (mkF m 56 #[vi p0, vi p1, vi p2, vi p3, vi (2 : Int32), vi (100 : Int32), vi pre, vi adv, uu, uu, uu, uu, uu, uu, uu, uu, uu, uu, uu, uu, uu, uu, uu, uu, uu, uu, uu, uu, uu, uu, uu, uu, uu, uu, uu, uu, uu, uu, uu] [(.int (XT.ushr p3 (3 : Int32)))])) tQ
      refine XS.iconst X0.here hx rfl (hb hby at_56) ?_
      refine XS.iand X0.here hx rfl (hb hby at_57) rfl ?_
      refine XS.istore X0.here hx rfl (hb hby at_58) rfl (l' := #[vi p0, vi p1, vi p2, vi p3, vi (2 : Int32), vi (100 : Int32), vi pre, vi adv, vi ((XT.ushr p3 (3 : Int32)) &&& (3 : Int32)), uu, uu, uu, uu, uu, uu, uu, uu, uu, uu, uu, uu, uu, uu, uu, uu, uu, uu, uu, uu, uu, uu, uu, uu, uu, uu, uu, uu, uu, uu]) rfl ?_
      exact kk
    clear k1519
    have jn1528 : ∃ (gl : Int32), ((((p3 &&& (32 : Int32)) = 0) ∧ gl = (0 : Int32)) ∨ (¬ ((p3 &&& (32 : Int32)) = 0) ∧ gl = (1 : Int32))) ∧ (own_G p e below E0 s₁ (mkF m 72 #[vi p0, vi p1, vi p2, vi p3, vi (2 : Int32), vi (100 : Int32), vi pre, vi adv, vi ((XT.ushr p3 (3 : Int32)) &&& (3 : Int32)), uu, uu, uu, uu, uu, uu, uu, uu, uu, uu, uu, uu, uu, uu, uu, uu, uu, uu, uu, uu, uu, uu, uu, uu, uu, uu, uu, uu, uu, uu] [(.int gl)])) := by
      have k1523 : own_G p e below E0 s₁ (mkF m 64 #[vi p0, vi p1, vi p2, vi p3, vi (2 : Int32), vi (100 : Int32), vi pre, vi adv, vi ((XT.ushr p3 (3 : Int32)) &&& (3 : Int32)), uu, uu, uu, uu, uu, uu, uu, uu, uu, uu, uu, uu, uu, uu, uu, uu, uu, uu, uu, uu, uu, uu, uu, uu, uu, uu, uu, uu, uu, uu] [(.int (p3 &&& (32 : Int32)))]) := by
        intro tQ kk
        refine k1522 tQ ?_
        refine XS.iloadN X0.here hx rfl (hb hby at_60) rfl ?_
        refine XS.bipush X0.here hx rfl (hb hby at_61) ?_
        refine XS.iand X0.here hx rfl (hb hby at_63) rfl ?_
        exact kk
      clear k1522
      by_cases c1524 : (p3 &&& (32 : Int32)) = 0
      · skip
        have k1525 : own_G p e below E0 s₁ (mkF m 72 #[vi p0, vi p1, vi p2, vi p3, vi (2 : Int32), vi (100 : Int32), vi pre, vi adv, vi ((XT.ushr p3 (3 : Int32)) &&& (3 : Int32)), uu, uu, uu, uu, uu, uu, uu, uu, uu, uu, uu, uu, uu, uu, uu, uu, uu, uu, uu, uu, uu, uu, uu, uu, uu, uu, uu, uu, uu, uu] [(.int (0 : Int32))]) := by
          intro tQ kk
          refine k1523 tQ ?_
          refine XS.ifYes X0.here hx rfl (pc0 := 64) (pc' := 71) rfl (hb hby at_64) rfl (own_if_eqY c1524) (by decide) (by decide) ?_
          refine XS.iconst X0.here hx rfl (hb hby at_71) ?_
          exact kk
        clear k1523
        exact ⟨(0 : Int32), (Or.inl (⟨c1524, rfl⟩)), k1525⟩
      · skip
        have k1526 : own_G p e below E0 s₁ (mkF m 72 #[vi p0, vi p1, vi p2, vi p3, vi (2 : Int32), vi (100 : Int32), vi pre, vi adv, vi ((XT.ushr p3 (3 : Int32)) &&& (3 : Int32)), uu, uu, uu, uu, uu, uu, uu, uu, uu, uu, uu, uu, uu, uu, uu, uu, uu, uu, uu, uu, uu, uu, uu, uu, uu, uu, uu, uu, uu, uu] [(.int (1 : Int32))]) := by
          intro tQ kk
          refine k1523 tQ ?_
          refine XS.ifNo X0.here hx rfl (hb hby at_64) rfl (own_if_eqN c1524) ?_
          refine XS.iconst X0.here hx rfl (hb hby at_67) ?_
          refine XS.goto X0.here hx rfl (pc0 := 68) (pc' := 72) rfl (hb hby at_68) (by decide) (by decide) ?_
          exact kk
        clear k1523
        exact ⟨(1 : Int32), (Or.inr (⟨c1524, rfl⟩)), k1526⟩
    obtain ⟨gl, hD1529, k1527⟩ := jn1528
    have k1530 : own_G p e below E0 s₁ (mkF m 78 #[vi p0, vi p1, vi p2, vi p3, vi (2 : Int32), vi (100 : Int32), vi pre, vi adv, vi ((XT.ushr p3 (3 : Int32)) &&& (3 : Int32)), vi gl, vd (FP.i2d p0), ss, uu, uu, uu, uu, uu, uu, uu, uu, uu, uu, uu, uu, uu, uu, uu, uu, uu, uu, uu, uu, uu, uu, uu, uu, uu, uu, uu] []) := by
      intro tQ kk
      refine k1527 tQ ?_
      refine XS.istore X0.here hx rfl (hb hby at_72) rfl (l' := #[vi p0, vi p1, vi p2, vi p3, vi (2 : Int32), vi (100 : Int32), vi pre, vi adv, vi ((XT.ushr p3 (3 : Int32)) &&& (3 : Int32)), vi gl, uu, uu, uu, uu, uu, uu, uu, uu, uu, uu, uu, uu, uu, uu, uu, uu, uu, uu, uu, uu, uu, uu, uu, uu, uu, uu, uu, uu, uu]) rfl ?_
      refine XS.iloadN X0.here hx rfl (hb hby at_74) rfl ?_
      refine XS.i2dS X0.here hx rfl (hb hby at_75) rfl rfl ?_
      refine XS.dstore X0.here hx rfl (hb hby at_76) rfl (l' := #[vi p0, vi p1, vi p2, vi p3, vi (2 : Int32), vi (100 : Int32), vi pre, vi adv, vi ((XT.ushr p3 (3 : Int32)) &&& (3 : Int32)), vi gl, vd (FP.i2d p0), ss, uu, uu, uu, uu, uu, uu, uu, uu, uu, uu, uu, uu, uu, uu, uu, uu, uu, uu, uu, uu, uu, uu, uu, uu, uu, uu, uu]) rfl ?_
      exact kk
    clear k1527
    obtain ⟨T1531, h1532, X1533, e1534, E1535, A1536, D1537, -, st1538⟩ := newO X0 hx hZ hown (tw0 hw) (tw1 hw) (tw2 hw) e0 (g := (mkF m 78 #[vi p0, vi p1, vi p2, vi p3, vi (2 : Int32), vi (100 : Int32), vi pre, vi adv, vi ((XT.ushr p3 (3 : Int32)) &&& (3 : Int32)), vi gl, vd (FP.i2d p0), ss, uu, uu, uu, uu, uu, uu, uu, uu, uu, uu, uu, uu, uu, uu, uu, uu, uu, uu, uu, uu, uu, uu, uu, uu, uu, uu, uu] [])) rfl (hb hby at_78) (by decide) (by decide)
    obtain ⟨a1539, g1540⟩ : ∃ zA : Nat, zA = h0.size := ⟨_, rfl⟩
    rw [← g1540] at A1536 D1537 st1538
    have ge1541 : n0 ≤ a1539 := own_ge_of Z0 g1540
    have Z1542 : n0 ≤ h1532.size := Nat.le_trans Z0 E1535.1
    have F1543 : Fld Z h1532 a1539 "com/example/lampwork/lampwork/Glide" "frames" "I" (.int (0 : Int32)) := (D1537 (Or.inr (tw27 hw)) (ty := .int) (by decide))
    have F1544 : Fld Z h1532 a1539 "com/example/lampwork/lampwork/Glide" "value" "D" (.double (0 : UInt64)) := (D1537 (Or.inl (tw29 hw)) (ty := .double) (by decide))
    have F1545 : Fld Z h1532 a1539 "com/example/lampwork/lampwork/Glide" "target" "D" (.double (0 : UInt64)) := (D1537 (Or.inl (tw31 hw)) (ty := .double) (by decide))
    have F1546 : Fld Z h1532 a1539 "com/example/lampwork/lampwork/Glide" "remaining" "I" (.int (0 : Int32)) := (D1537 (Or.inl (tw38 hw)) (ty := .int) (by decide))
    have F1547 : Fld Z h1532 a1539 "com/example/lampwork/lampwork/Glide" "step" "D" (.double (0 : UInt64)) := (D1537 (Or.inl (tw55 hw)) (ty := .double) (by decide))
    have k1548 : own_G p e below E0 T1531 (mkF m 81 #[vi p0, vi p1, vi p2, vi p3, vi (2 : Int32), vi (100 : Int32), vi pre, vi adv, vi ((XT.ushr p3 (3 : Int32)) &&& (3 : Int32)), vi gl, vd (FP.i2d p0), ss, uu, uu, uu, uu, uu, uu, uu, uu, uu, uu, uu, uu, uu, uu, uu, uu, uu, uu, uu, uu, uu, uu, uu, uu, uu, uu, uu] [(.ref a1539)]) := fun tQ kk => k1530 tQ (st1538 _ kk)
    clear k1530 st1538
    have k1549 : own_G p e below E0 T1531 (mkF m 86 #[vi p0, vi p1, vi p2, vi p3, vi (2 : Int32), vi (100 : Int32), vi pre, vi adv, vi ((XT.ushr p3 (3 : Int32)) &&& (3 : Int32)), vi gl, vd (FP.i2d p0), ss, uu, uu, uu, uu, uu, uu, uu, uu, uu, uu, uu, uu, uu, uu, uu, uu, uu, uu, uu, uu, uu, uu, uu, uu, uu, uu, uu] [(.int (100 : Int32)), (.double (FP.i2d p0)), (.ref a1539), (.ref a1539)]) := by
      intro tQ kk
      refine k1548 tQ ?_
      refine XS.dup X1533.here hx rfl (hb hby at_81) rfl rfl ?_
      refine XS.dload X1533.here hx rfl (hb hby at_82) rfl ?_
      refine XS.iload X1533.here hx rfl (hb hby at_84) rfl ?_
      exact kk
    clear k1548
    obtain ⟨_, _, ⟨T1550, L1551, kc1552, nc1553⟩, -, X1554, ⟨Lc1555, hQ1556, l1557, y1558, z1559⟩, st1560⟩ := X1533.specialBack hx (y := mn8) rfl hown (mvT hZ (tw3 hw)) (mvT hZ (tw4 hw)) (mvT hZ (tw5 hw)) (by decide) (backOf (W := 1) (rmI l Z a0 hw [] a1539 (FP.i2d p0) (1 : Int32) h1532 n0 Z1542 A1536 F1543 F1544 F1545 F1547 F1546 ge1541 (by decide)) hZ (tw5 hw) (tw2 hw) (by decide) (by decide)) (g := (mkF m 86 #[vi p0, vi p1, vi p2, vi p3, vi (2 : Int32), vi (100 : Int32), vi pre, vi adv, vi ((XT.ushr p3 (3 : Int32)) &&& (3 : Int32)), vi gl, vd (FP.i2d p0), ss, uu, uu, uu, uu, uu, uu, uu, uu, uu, uu, uu, uu, uu, uu, uu, uu, uu, uu, uu, uu, uu, uu, uu, uu, uu, uu, uu] [(.int (100 : Int32)), (.double (FP.i2d p0)), (.ref a1539), (.ref a1539)])) rfl (by rw [hml]; rfl) (Steps.refl _) (a := a1539) (argsL := [(.double (FP.i2d p0)), (.int (100 : Int32))]) (rest := [(.ref a1539)]) (lenOf pd_15 rfl) rfl (by show 2 * 0 + _ ≤ _; exact Nat.le_of_eq rfl) (hb hby at_86) (fun _ _ => ⟨rfl, e1534, (by decide : 1 + 0 ≤ _), (by decide : 5 + 0 ≤ _)⟩)
    dsimp only [Pt.U, Pt.locs, Pt.cells, Pt.slots] at X1554 l1557 y1558 z1559 st1560 hQ1556
    subst y1558 z1559
    obtain ⟨rfl, N1561, K1564, g1565, g1566, g1567, g1568, g1569⟩ := hQ1556
    have N1570 : Fr n0 L1551 := by rw [l1557]; exact Fr.app N0 N1561
    clear l1557 N1561
    have Z1571 : n0 ≤ T1550.heap.size := Nat.le_trans Z1542 K1564.1
    clear Z1542
    have F1572 : xa7 Z T1550.heap a1539 := A1536.keep K1564
    clear A1536
    clear F1543
    clear F1544
    clear F1545
    clear F1546
    clear F1547
    have k1573 : own_G p e below E0 T1550 (mkF m 89 #[vi p0, vi p1, vi p2, vi p3, vi (2 : Int32), vi (100 : Int32), vi pre, vi adv, vi ((XT.ushr p3 (3 : Int32)) &&& (3 : Int32)), vi gl, vd (FP.i2d p0), ss, uu, uu, uu, uu, uu, uu, uu, uu, uu, uu, uu, uu, uu, uu, uu, uu, uu, uu, uu, uu, uu, uu, uu, uu, uu, uu, uu] [(.ref a1539)]) := fun tQ kk => k1549 tQ (st1560.trans kk)
    clear k1549 st1560
    have eq1574 : (own_F (1 : Int32)) = (2 : Int32) := by decide
    have F1575 : fd2 Z T1550.heap a1539 (.int (2 : Int32)) := by rw [← eq1574]; exact g1565
    have k1576 : own_G p e below E0 T1550 (mkF m 105 #[vi p0, vi p1, vi p2, vi p3, vi (2 : Int32), vi (100 : Int32), vi pre, vi adv, vi ((XT.ushr p3 (3 : Int32)) &&& (3 : Int32)), vi gl, vd (FP.i2d p0), ss, vr a1539, vd (FP.i2d p0), ss, vd (FP.i2d p0), ss, vi (0 : Int32), vi p0, uu, uu, uu, uu, uu, uu, uu, uu, uu, uu, uu, uu, uu, uu, uu, uu, uu, uu, uu, uu] []) := by
      intro tQ kk
      refine k1573 tQ ?_
      refine XS.astore X1554.here hx rfl (hb hby at_89) rfl rfl (l' := #[vi p0, vi p1, vi p2, vi p3, vi (2 : Int32), vi (100 : Int32), vi pre, vi adv, vi ((XT.ushr p3 (3 : Int32)) &&& (3 : Int32)), vi gl, vd (FP.i2d p0), ss, vr a1539, uu, uu, uu, uu, uu, uu, uu, uu, uu, uu, uu, uu, uu, uu, uu, uu, uu, uu, uu, uu, uu, uu, uu, uu, uu, uu]) rfl ?_
      refine XS.dload X1554.here hx rfl (hb hby at_91) rfl ?_
      refine XS.dstore X1554.here hx rfl (hb hby at_93) rfl (l' := #[vi p0, vi p1, vi p2, vi p3, vi (2 : Int32), vi (100 : Int32), vi pre, vi adv, vi ((XT.ushr p3 (3 : Int32)) &&& (3 : Int32)), vi gl, vd (FP.i2d p0), ss, vr a1539, vd (FP.i2d p0), ss, uu, uu, uu, uu, uu, uu, uu, uu, uu, uu, uu, uu, uu, uu, uu, uu, uu, uu, uu, uu, uu, uu, uu, uu]) rfl ?_
      refine XS.dload X1554.here hx rfl (hb hby at_95) rfl ?_
      show Steps p.tables e below (T1550.setTop (mkF m 97 #[vi p0, vi p1, vi p2, vi p3, vi (2 : Int32), vi (100 : Int32), vi pre, vi adv, vi ((XT.ushr p3 (3 : Int32)) &&& (3 : Int32)), vi gl, vd (FP.i2d p0), ss, vr a1539, vd (FP.i2d p0), ss, uu, uu, uu, uu, uu, uu, uu, uu, uu, uu, uu, uu, uu, uu, uu, uu, uu, uu, uu, uu, uu, uu, uu, uu] [(.double (FP.i2d p0))])) tQ
      refine XS.dstore X1554.here hx rfl (hb hby at_97) rfl (l' := #[vi p0, vi p1, vi p2, vi p3, vi (2 : Int32), vi (100 : Int32), vi pre, vi adv, vi ((XT.ushr p3 (3 : Int32)) &&& (3 : Int32)), vi gl, vd (FP.i2d p0), ss, vr a1539, vd (FP.i2d p0), ss, vd (FP.i2d p0), ss, uu, uu, uu, uu, uu, uu, uu, uu, uu, uu, uu, uu, uu, uu, uu, uu, uu, uu, uu, uu, uu, uu]) rfl ?_
      refine XS.iconst X1554.here hx rfl (hb hby at_99) ?_
      refine XS.istore X1554.here hx rfl (hb hby at_100) rfl (l' := #[vi p0, vi p1, vi p2, vi p3, vi (2 : Int32), vi (100 : Int32), vi pre, vi adv, vi ((XT.ushr p3 (3 : Int32)) &&& (3 : Int32)), vi gl, vd (FP.i2d p0), ss, vr a1539, vd (FP.i2d p0), ss, vd (FP.i2d p0), ss, vi (0 : Int32), uu, uu, uu, uu, uu, uu, uu, uu, uu, uu, uu, uu, uu, uu, uu, uu, uu, uu, uu, uu, uu]) rfl ?_
      refine XS.iloadN X1554.here hx rfl (hb hby at_102) rfl ?_
      show Steps p.tables e below (T1550.setTop (mkF m 103 #[vi p0, vi p1, vi p2, vi p3, vi (2 : Int32), vi (100 : Int32), vi pre, vi adv, vi ((XT.ushr p3 (3 : Int32)) &&& (3 : Int32)), vi gl, vd (FP.i2d p0), ss, vr a1539, vd (FP.i2d p0), ss, vd (FP.i2d p0), ss, vi (0 : Int32), uu, uu, uu, uu, uu, uu, uu, uu, uu, uu, uu, uu, uu, uu, uu, uu, uu, uu, uu, uu, uu] [(.int p0)])) tQ
      refine XS.istore X1554.here hx rfl (hb hby at_103) rfl (l' := #[vi p0, vi p1, vi p2, vi p3, vi (2 : Int32), vi (100 : Int32), vi pre, vi adv, vi ((XT.ushr p3 (3 : Int32)) &&& (3 : Int32)), vi gl, vd (FP.i2d p0), ss, vr a1539, vd (FP.i2d p0), ss, vd (FP.i2d p0), ss, vi (0 : Int32), vi p0, uu, uu, uu, uu, uu, uu, uu, uu, uu, uu, uu, uu, uu, uu, uu, uu, uu, uu, uu, uu]) rfl ?_
      exact kk
    clear k1573
    have jn1757 : ∃ (T1743 : State), ∃ (h1746 : Heap), ∃ (L1749 : List Loc), ∃ (mv : UInt64), ∃ (mt : UInt64), ∃ (mr : Int32), ∃ (tI : Int32), ∃ (vl : UInt64), ∃ (sp : UInt64), (own_S (2 : Int32) mv mt mr tI vl mt sp mr) ∧ (Stand p l e room_1 s m #[(.int p0), (.int p1), (.int p2), (.int p3)] below meth c T1743 L1749 1 5) ∧ (T1743.heap = h1746) ∧ (Fr n0 L1749) ∧ (n0 ≤ h1746.size) ∧ (xa7 Z h1746 a1539) ∧ (fd2 Z h1746 a1539 (.int (2 : Int32))) ∧ (fd3 Z h1746 a1539 (.double vl)) ∧ (fd4 Z h1746 a1539 (.double mt)) ∧ (fd5 Z h1746 a1539 (.double sp)) ∧ (fd6 Z h1746 a1539 (.int mr)) ∧ (own_G p e below E0 T1743 (mkF m 177 #[vi p0, vi p1, vi p2, vi p3, vi (2 : Int32), vi (100 : Int32), vi pre, vi adv, vi ((XT.ushr p3 (3 : Int32)) &&& (3 : Int32)), vi gl, vd (FP.i2d p0), ss, vr a1539, vd mv, ss, vd mt, ss, vi mr, vi tI, uu, uu, uu, uu, uu, uu, uu, uu, uu, uu, uu, uu, uu, uu, uu, uu, uu, uu, uu, uu] [])) := by
      have k1577 : own_G p e below E0 T1550 (mkF m 107 #[vi p0, vi p1, vi p2, vi p3, vi (2 : Int32), vi (100 : Int32), vi pre, vi adv, vi ((XT.ushr p3 (3 : Int32)) &&& (3 : Int32)), vi gl, vd (FP.i2d p0), ss, vr a1539, vd (FP.i2d p0), ss, vd (FP.i2d p0), ss, vi (0 : Int32), vi p0, uu, uu, uu, uu, uu, uu, uu, uu, uu, uu, uu, uu, uu, uu, uu, uu, uu, uu, uu, uu] [(.int pre)]) := by
        intro tQ kk
        refine k1576 tQ ?_
        refine XS.iload X1554.here hx rfl (hb hby at_105) rfl ?_
        exact kk
      clear k1576
      by_cases cpre : pre = 0
      · skip
        have k1579 : own_G p e below E0 T1550 (mkF m 136 #[vi p0, vi p1, vi p2, vi p3, vi (2 : Int32), vi (100 : Int32), vi pre, vi adv, vi ((XT.ushr p3 (3 : Int32)) &&& (3 : Int32)), vi gl, vd (FP.i2d p0), ss, vr a1539, vd (FP.i2d p0), ss, vd (FP.i2d p0), ss, vi (0 : Int32), vi p0, uu, uu, uu, uu, uu, uu, uu, uu, uu, uu, uu, uu, uu, uu, uu, uu, uu, uu, uu, uu] [(.int adv)]) := by
          intro tQ kk
          refine k1577 tQ ?_
          refine XS.ifYes X1554.here hx rfl (pc0 := 107) (pc' := 134) rfl (hb hby at_107) rfl (own_if_eqY cpre) (by decide) (by decide) ?_
          refine XS.iload X1554.here hx rfl (hb hby at_134) rfl ?_
          exact kk
        clear k1577
        by_cases cadv : adv = 0
        · skip
          have k1581 : own_G p e below E0 T1550 (mkF m 177 #[vi p0, vi p1, vi p2, vi p3, vi (2 : Int32), vi (100 : Int32), vi pre, vi adv, vi ((XT.ushr p3 (3 : Int32)) &&& (3 : Int32)), vi gl, vd (FP.i2d p0), ss, vr a1539, vd (FP.i2d p0), ss, vd (FP.i2d p0), ss, vi (0 : Int32), vi p0, uu, uu, uu, uu, uu, uu, uu, uu, uu, uu, uu, uu, uu, uu, uu, uu, uu, uu, uu, uu] []) := by
            intro tQ kk
            refine k1579 tQ ?_
            refine XS.ifYes X1554.here hx rfl (pc0 := 136) (pc' := 177) rfl (hb hby at_136) rfl (own_if_eqY cadv) (by decide) (by decide) ?_
            exact kk
          clear k1579
          exact ⟨T1550, T1550.heap, _, (FP.i2d p0), (FP.i2d p0), (0 : Int32), p0, (FP.i2d p0), (0 : UInt64), (own_S0 _ p0), X1554, rfl, N1570, Z1571, F1572, F1575, g1566, g1567, g1568, g1569, k1581⟩
        · skip
          have k1582 : own_G p e below E0 T1550 (mkF m 141 #[vi p0, vi p1, vi p2, vi p3, vi (2 : Int32), vi (100 : Int32), vi pre, vi adv, vi ((XT.ushr p3 (3 : Int32)) &&& (3 : Int32)), vi gl, vd (FP.i2d p0), ss, vr a1539, vd (FP.i2d p0), ss, vd (FP.i2d p0), ss, vi (0 : Int32), vi p0, uu, uu, uu, uu, uu, uu, uu, uu, uu, uu, uu, uu, uu, uu, uu, uu, uu, uu, uu, uu] [(.ref a1539)]) := by
            intro tQ kk
            refine k1579 tQ ?_
            refine XS.ifNo X1554.here hx rfl (hb hby at_136) rfl (own_if_eqN cadv) ?_
            refine XS.aload X1554.here hx rfl (hb hby at_139) rfl rfl ?_
            exact kk
          clear k1579
          obtain ⟨cq1594, kq1595, qa1596, qb1597, qc1598⟩ := isOf hZ rfl F1572
          obtain ⟨_, _, ⟨T1583, L1584, kc1585, nc1586⟩, -, X1587, ⟨Lc1588, hQ1589, l1590, y1591, z1592⟩, st1593⟩ := X1554.virtualBack hx (y := mn12) (z := mn12) hown (mvT hZ (tw49 hw)) (mvT hZ (tw50 hw)) (notFace_of_selects (args := #[]) (mvT hZ (tw52 hw))) (mvT hZ (tw52 hw)) (mvT hZ (tw51 hw)) (by decide) (backOf (W := 0) (rmN l Z a0 hw [] a1539 (2 : Int32) (FP.i2d p0) (FP.i2d p0) (0 : UInt64) (0 : Int32) T1550.heap n0 Z1571 F1572 F1575 g1566 g1567 g1568 g1569 ge1541 (fun z => absurd z (by decide))) hZ (tw53 hw) (tw2 hw) (by decide) (by decide)) qa1596 qc1598 (g := (mkF m 141 #[vi p0, vi p1, vi p2, vi p3, vi (2 : Int32), vi (100 : Int32), vi pre, vi adv, vi ((XT.ushr p3 (3 : Int32)) &&& (3 : Int32)), vi gl, vd (FP.i2d p0), ss, vr a1539, vd (FP.i2d p0), ss, vd (FP.i2d p0), ss, vi (0 : Int32), vi p0, uu, uu, uu, uu, uu, uu, uu, uu, uu, uu, uu, uu, uu, uu, uu, uu, uu, uu, uu, uu] [(.ref a1539)])) rfl (by rw [hml]; rfl) (Steps.refl _) (argsL := []) (rest := []) (lenOf pd_16 rfl) rfl (by show 2 * 0 + _ ≤ _; exact Nat.le_of_eq rfl) (hb hby at_141) (fun _ _ => ⟨rfl, rfl, (by decide : 1 + 0 ≤ _), (by decide : 5 + 0 ≤ _)⟩)
          dsimp only [Pt.U, Pt.locs, Pt.cells, Pt.slots] at X1587 l1590 y1591 z1592 st1593 hQ1589
          subst y1591 z1592
          obtain ⟨rfl, N1599, K1602, g1603, g1604, g1605, g1606, g1607⟩ := hQ1589
          have N1608 : Fr n0 L1584 := by rw [l1590]; exact Fr.app N1570 N1599
          clear l1590 N1599
          have Z1609 : n0 ≤ T1583.heap.size := Nat.le_trans Z1571 K1602.1
          clear Z1571
          have F1610 : xa7 Z T1583.heap a1539 := F1572.keep K1602
          clear F1572
          clear F1575
          clear g1566
          clear g1567
          clear g1568
          clear g1569
          have k1611 : own_G p e below E0 T1583 (mkF m 144 #[vi p0, vi p1, vi p2, vi p3, vi (2 : Int32), vi (100 : Int32), vi pre, vi adv, vi ((XT.ushr p3 (3 : Int32)) &&& (3 : Int32)), vi gl, vd (FP.i2d p0), ss, vr a1539, vd (FP.i2d p0), ss, vd (FP.i2d p0), ss, vi (0 : Int32), vi p0, uu, uu, uu, uu, uu, uu, uu, uu, uu, uu, uu, uu, uu, uu, uu, uu, uu, uu, uu, uu] [(.double (own_nv (FP.i2d p0) (FP.i2d p0) (0 : UInt64) (0 : Int32)))]) := fun tQ kk => k1582 tQ (st1593.trans kk)
          clear k1582 st1593
          have eq1612 : (own_nv (FP.i2d p0) (FP.i2d p0) (0 : UInt64) (0 : Int32)) = (FP.i2d p0) := by rw [own_nv, if_neg (by decide)]
          have F1613 : fd3 Z T1583.heap a1539 (.double (FP.i2d p0)) := by rw [← eq1612]; exact g1604
          have eq1614 : (own_nr (0 : Int32)) = (0 : Int32) := by decide
          have F1615 : fd6 Z T1583.heap a1539 (.int (0 : Int32)) := by rw [← eq1614]; exact g1607
          have eq1616 : (own_nv (FP.i2d p0) (FP.i2d p0) (0 : UInt64) (0 : Int32)) = (FP.i2d p0) := by rw [own_nv, if_neg (by decide)]
          rw [eq1616] at k1611
          have k1617 : own_G p e below E0 T1583 (mkF m 177 #[vi p0, vi p1, vi p2, vi p3, vi (2 : Int32), vi (100 : Int32), vi pre, vi adv, vi ((XT.ushr p3 (3 : Int32)) &&& (3 : Int32)), vi gl, vd (FP.i2d p0), ss, vr a1539, vd (FP.i2d p0), ss, vd (FP.i2d p0), ss, vi (0 : Int32), vi p0, uu, uu, uu, uu, uu, uu, uu, uu, uu, uu, uu, uu, uu, uu, uu, uu, uu, uu, uu, uu] []) := by
            intro tQ kk
            refine k1611 tQ ?_
            refine own_pop2D X1587.here hx rfl (hb hby at_144) rfl ?_
            refine XS.iload X1587.here hx rfl (hb hby at_145) rfl ?_
            refine XS.ifYes X1587.here hx rfl (pc0 := 147) (pc' := 177) rfl (hb hby at_147) rfl (own_if_leY (by decide)) (by decide) (by decide) ?_
            exact kk
          clear k1611
          exact ⟨T1583, T1583.heap, _, (FP.i2d p0), (FP.i2d p0), (0 : Int32), p0, (FP.i2d p0), (0 : UInt64), (own_S0 _ p0), X1587, rfl, N1608, Z1609, F1610, g1603, F1613, g1605, g1606, F1615, k1617⟩
      · skip
        have k1618 : own_G p e below E0 T1550 (mkF m 115 #[vi p0, vi p1, vi p2, vi p3, vi (2 : Int32), vi (100 : Int32), vi pre, vi adv, vi ((XT.ushr p3 (3 : Int32)) &&& (3 : Int32)), vi gl, vd (FP.i2d p0), ss, vr a1539, vd (FP.i2d p0), ss, vd (FP.i2d p0), ss, vi (0 : Int32), vi p0, uu, uu, uu, uu, uu, uu, uu, uu, uu, uu, uu, uu, uu, uu, uu, uu, uu, uu, uu, uu] [(.int (1 : Int32)), (.double (FP.i2d p1)), (.ref a1539)]) := by
          intro tQ kk
          refine k1577 tQ ?_
          refine XS.ifNo X1554.here hx rfl (hb hby at_107) rfl (own_if_eqN cpre) ?_
          refine XS.aload X1554.here hx rfl (hb hby at_110) rfl rfl ?_
          refine XS.iloadN X1554.here hx rfl (hb hby at_112) rfl ?_
          refine XS.i2dS X1554.here hx rfl (hb hby at_113) rfl rfl ?_
          show Steps p.tables e below (T1550.setTop (mkF m 114 #[vi p0, vi p1, vi p2, vi p3, vi (2 : Int32), vi (100 : Int32), vi pre, vi adv, vi ((XT.ushr p3 (3 : Int32)) &&& (3 : Int32)), vi gl, vd (FP.i2d p0), ss, vr a1539, vd (FP.i2d p0), ss, vd (FP.i2d p0), ss, vi (0 : Int32), vi p0, uu, uu, uu, uu, uu, uu, uu, uu, uu, uu, uu, uu, uu, uu, uu, uu, uu, uu, uu, uu] [(.double (FP.i2d p1)), (.ref a1539)])) tQ
          refine XS.iconst X1554.here hx rfl (hb hby at_114) ?_
          exact kk
        clear k1577
        obtain ⟨cq1630, kq1631, qa1632, qb1633, qc1634⟩ := isOf hZ rfl F1572
        obtain ⟨_, _, ⟨T1619, L1620, kc1621, nc1622⟩, -, X1623, ⟨Lc1624, hQ1625, l1626, y1627, z1628⟩, st1629⟩ := X1554.virtualBack hx (y := mn11) (z := mn11) hown (mvT hZ (tw32 hw)) (mvT hZ (tw33 hw)) (notFace_of_selects (args := #[]) (mvT hZ (tw35 hw))) (mvT hZ (tw35 hw)) (mvT hZ (tw34 hw)) (by decide) (backOf (W := 0) (rmS1 l Z a0 hw [] a1539 (FP.i2d p1) (2 : Int32) (FP.i2d p0) (FP.i2d p0) (0 : UInt64) (0 : Int32) T1550.heap n0 Z1571 F1572 F1575 g1566 g1567 g1568 g1569 ge1541 (Fl.i2d_fin p1).noNaN (Fl.i2d_fin p0).noNaN (fun _ => ⟨Fl.dsub_out (Fl.i2d_fin p1).noNaN (Fl.i2d_fin p0), (own_fsp0 p0 p1 (F := (2 : Int32)) (by decide)).noNaN⟩)) hZ (tw36 hw) (tw2 hw) (by decide) (by decide)) qa1632 qc1634 (g := (mkF m 115 #[vi p0, vi p1, vi p2, vi p3, vi (2 : Int32), vi (100 : Int32), vi pre, vi adv, vi ((XT.ushr p3 (3 : Int32)) &&& (3 : Int32)), vi gl, vd (FP.i2d p0), ss, vr a1539, vd (FP.i2d p0), ss, vd (FP.i2d p0), ss, vi (0 : Int32), vi p0, uu, uu, uu, uu, uu, uu, uu, uu, uu, uu, uu, uu, uu, uu, uu, uu, uu, uu, uu, uu] [(.int (1 : Int32)), (.double (FP.i2d p1)), (.ref a1539)])) rfl (by rw [hml]; rfl) (Steps.refl _) (argsL := [(.double (FP.i2d p1)), (.int (1 : Int32))]) (rest := []) (lenOf pd_17 rfl) rfl (by show 2 * 0 + _ ≤ _; exact Nat.le_of_eq rfl) (hb hby at_115) (fun _ _ => ⟨rfl, rfl, (by decide : 1 + 0 ≤ _), (by decide : 5 + 0 ≤ _)⟩)
        dsimp only [Pt.U, Pt.locs, Pt.cells, Pt.slots] at X1623 l1626 y1627 z1628 st1629 hQ1625
        subst y1627 z1628
        obtain ⟨rfl, N1635, K1638, g1639, g1640, g1641, g1642, g1643⟩ := hQ1625
        have N1644 : Fr n0 L1620 := by rw [l1626]; exact Fr.app N1570 N1635
        clear l1626 N1635
        have Z1645 : n0 ≤ T1619.heap.size := Nat.le_trans Z1571 K1638.1
        clear Z1571
        have F1646 : xa7 Z T1619.heap a1539 := F1572.keep K1638
        clear F1572
        clear F1575
        clear g1566
        clear g1567
        clear g1568
        clear g1569
        have k1647 : own_G p e below E0 T1619 (mkF m 118 #[vi p0, vi p1, vi p2, vi p3, vi (2 : Int32), vi (100 : Int32), vi pre, vi adv, vi ((XT.ushr p3 (3 : Int32)) &&& (3 : Int32)), vi gl, vd (FP.i2d p0), ss, vr a1539, vd (FP.i2d p0), ss, vd (FP.i2d p0), ss, vi (0 : Int32), vi p0, uu, uu, uu, uu, uu, uu, uu, uu, uu, uu, uu, uu, uu, uu, uu, uu, uu, uu, uu, uu] []) := fun tQ kk => k1618 tQ (st1629.trans kk)
        clear k1618 st1629
        have k1648 : own_G p e below E0 T1619 (mkF m 120 #[vi p0, vi p1, vi p2, vi p3, vi (2 : Int32), vi (100 : Int32), vi pre, vi adv, vi ((XT.ushr p3 (3 : Int32)) &&& (3 : Int32)), vi gl, vd (FP.i2d p0), ss, vr a1539, vd (FP.i2d p0), ss, vd (FP.i2d p0), ss, vi (0 : Int32), vi p0, uu, uu, uu, uu, uu, uu, uu, uu, uu, uu, uu, uu, uu, uu, uu, uu, uu, uu, uu, uu] [(.int p0), (.int p1)]) := by
          intro tQ kk
          refine k1647 tQ ?_
          refine XS.iloadN X1623.here hx rfl (hb hby at_118) rfl ?_
          refine XS.iloadN X1623.here hx rfl (hb hby at_119) rfl ?_
          exact kk
        clear k1647
        by_cases cba : p1 = p0
        · skip
          have hzE : own_z (FP.i2d p1) = own_z (FP.i2d p0) := by rw [cba]
          have eq1650 : (own_tg (FP.i2d p1) (FP.i2d p0)) = (FP.i2d p0) := by rw [own_tg, if_pos hzE]
          have F1651 : fd4 Z T1619.heap a1539 (.double (FP.i2d p0)) := by rw [← eq1650]; exact g1641
          have eq1652 : (own_sp (FP.i2d p1) (FP.i2d p0) (FP.i2d p0) (0 : UInt64) (2 : Int32)) = (0 : UInt64) := by rw [own_sp, if_pos hzE]
          have F1653 : fd5 Z T1619.heap a1539 (.double (0 : UInt64)) := by rw [← eq1652]; exact g1642
          have eq1654 : (own_rm (FP.i2d p1) (FP.i2d p0) (0 : Int32) (2 : Int32)) = (0 : Int32) := by rw [own_rm, if_pos hzE]
          have F1655 : fd6 Z T1619.heap a1539 (.int (0 : Int32)) := by rw [← eq1654]; exact g1643
          have k1656 : own_G p e below E0 T1619 (mkF m 136 #[vi p0, vi p1, vi p2, vi p3, vi (2 : Int32), vi (100 : Int32), vi pre, vi adv, vi ((XT.ushr p3 (3 : Int32)) &&& (3 : Int32)), vi gl, vd (FP.i2d p0), ss, vr a1539, vd (FP.i2d p0), ss, vd (FP.i2d p0), ss, vi (0 : Int32), vi p0, uu, uu, uu, uu, uu, uu, uu, uu, uu, uu, uu, uu, uu, uu, uu, uu, uu, uu, uu, uu] [(.int adv)]) := by
            intro tQ kk
            refine k1648 tQ ?_
            refine XS.icmpYes X1623.here hx rfl (pc0 := 120) (pc' := 134) rfl (hb hby at_120) rfl (own_ic_eqY cba) (by decide) (by decide) ?_
            refine XS.iload X1623.here hx rfl (hb hby at_134) rfl ?_
            exact kk
          clear k1648
          by_cases cadv : adv = 0
          · skip
            have k1658 : own_G p e below E0 T1619 (mkF m 177 #[vi p0, vi p1, vi p2, vi p3, vi (2 : Int32), vi (100 : Int32), vi pre, vi adv, vi ((XT.ushr p3 (3 : Int32)) &&& (3 : Int32)), vi gl, vd (FP.i2d p0), ss, vr a1539, vd (FP.i2d p0), ss, vd (FP.i2d p0), ss, vi (0 : Int32), vi p0, uu, uu, uu, uu, uu, uu, uu, uu, uu, uu, uu, uu, uu, uu, uu, uu, uu, uu, uu, uu] []) := by
              intro tQ kk
              refine k1656 tQ ?_
              refine XS.ifYes X1623.here hx rfl (pc0 := 136) (pc' := 177) rfl (hb hby at_136) rfl (own_if_eqY cadv) (by decide) (by decide) ?_
              exact kk
            clear k1656
            exact ⟨T1619, T1619.heap, _, (FP.i2d p0), (FP.i2d p0), (0 : Int32), p0, (FP.i2d p0), (0 : UInt64), (own_S0 _ p0), X1623, rfl, N1644, Z1645, F1646, g1639, g1640, F1651, F1653, F1655, k1658⟩
          · skip
            have k1659 : own_G p e below E0 T1619 (mkF m 141 #[vi p0, vi p1, vi p2, vi p3, vi (2 : Int32), vi (100 : Int32), vi pre, vi adv, vi ((XT.ushr p3 (3 : Int32)) &&& (3 : Int32)), vi gl, vd (FP.i2d p0), ss, vr a1539, vd (FP.i2d p0), ss, vd (FP.i2d p0), ss, vi (0 : Int32), vi p0, uu, uu, uu, uu, uu, uu, uu, uu, uu, uu, uu, uu, uu, uu, uu, uu, uu, uu, uu, uu] [(.ref a1539)]) := by
              intro tQ kk
              refine k1656 tQ ?_
              refine XS.ifNo X1623.here hx rfl (hb hby at_136) rfl (own_if_eqN cadv) ?_
              refine XS.aload X1623.here hx rfl (hb hby at_139) rfl rfl ?_
              exact kk
            clear k1656
            obtain ⟨cq1671, kq1672, qa1673, qb1674, qc1675⟩ := isOf hZ rfl F1646
            obtain ⟨_, _, ⟨T1660, L1661, kc1662, nc1663⟩, -, X1664, ⟨Lc1665, hQ1666, l1667, y1668, z1669⟩, st1670⟩ := X1623.virtualBack hx (y := mn12) (z := mn12) hown (mvT hZ (tw49 hw)) (mvT hZ (tw50 hw)) (notFace_of_selects (args := #[]) (mvT hZ (tw52 hw))) (mvT hZ (tw52 hw)) (mvT hZ (tw51 hw)) (by decide) (backOf (W := 0) (rmN l Z a0 hw [] a1539 (2 : Int32) (FP.i2d p0) (FP.i2d p0) (0 : UInt64) (0 : Int32) T1619.heap n0 Z1645 F1646 g1639 g1640 F1651 F1653 F1655 ge1541 (fun z => absurd z (by decide))) hZ (tw53 hw) (tw2 hw) (by decide) (by decide)) qa1673 qc1675 (g := (mkF m 141 #[vi p0, vi p1, vi p2, vi p3, vi (2 : Int32), vi (100 : Int32), vi pre, vi adv, vi ((XT.ushr p3 (3 : Int32)) &&& (3 : Int32)), vi gl, vd (FP.i2d p0), ss, vr a1539, vd (FP.i2d p0), ss, vd (FP.i2d p0), ss, vi (0 : Int32), vi p0, uu, uu, uu, uu, uu, uu, uu, uu, uu, uu, uu, uu, uu, uu, uu, uu, uu, uu, uu, uu] [(.ref a1539)])) rfl (by rw [hml]; rfl) (Steps.refl _) (argsL := []) (rest := []) (lenOf pd_16 rfl) rfl (by show 2 * 0 + _ ≤ _; exact Nat.le_of_eq rfl) (hb hby at_141) (fun _ _ => ⟨rfl, rfl, (by decide : 1 + 0 ≤ _), (by decide : 5 + 0 ≤ _)⟩)
            dsimp only [Pt.U, Pt.locs, Pt.cells, Pt.slots] at X1664 l1667 y1668 z1669 st1670 hQ1666
            subst y1668 z1669
            obtain ⟨rfl, N1676, K1679, g1680, g1681, g1682, g1683, g1684⟩ := hQ1666
            have N1685 : Fr n0 L1661 := by rw [l1667]; exact Fr.app N1644 N1676
            clear l1667 N1676
            have Z1686 : n0 ≤ T1660.heap.size := Nat.le_trans Z1645 K1679.1
            clear Z1645
            have F1687 : xa7 Z T1660.heap a1539 := F1646.keep K1679
            clear F1646
            clear g1639
            clear g1640
            clear F1651
            clear F1653
            clear F1655
            have k1688 : own_G p e below E0 T1660 (mkF m 144 #[vi p0, vi p1, vi p2, vi p3, vi (2 : Int32), vi (100 : Int32), vi pre, vi adv, vi ((XT.ushr p3 (3 : Int32)) &&& (3 : Int32)), vi gl, vd (FP.i2d p0), ss, vr a1539, vd (FP.i2d p0), ss, vd (FP.i2d p0), ss, vi (0 : Int32), vi p0, uu, uu, uu, uu, uu, uu, uu, uu, uu, uu, uu, uu, uu, uu, uu, uu, uu, uu, uu, uu] [(.double (own_nv (FP.i2d p0) (FP.i2d p0) (0 : UInt64) (0 : Int32)))]) := fun tQ kk => k1659 tQ (st1670.trans kk)
            clear k1659 st1670
            have eq1689 : (own_nv (FP.i2d p0) (FP.i2d p0) (0 : UInt64) (0 : Int32)) = (FP.i2d p0) := by rw [own_nv, if_neg (by decide)]
            have F1690 : fd3 Z T1660.heap a1539 (.double (FP.i2d p0)) := by rw [← eq1689]; exact g1681
            have eq1691 : (own_nr (0 : Int32)) = (0 : Int32) := by decide
            have F1692 : fd6 Z T1660.heap a1539 (.int (0 : Int32)) := by rw [← eq1691]; exact g1684
            have eq1693 : (own_nv (FP.i2d p0) (FP.i2d p0) (0 : UInt64) (0 : Int32)) = (FP.i2d p0) := by rw [own_nv, if_neg (by decide)]
            rw [eq1693] at k1688
            have k1694 : own_G p e below E0 T1660 (mkF m 177 #[vi p0, vi p1, vi p2, vi p3, vi (2 : Int32), vi (100 : Int32), vi pre, vi adv, vi ((XT.ushr p3 (3 : Int32)) &&& (3 : Int32)), vi gl, vd (FP.i2d p0), ss, vr a1539, vd (FP.i2d p0), ss, vd (FP.i2d p0), ss, vi (0 : Int32), vi p0, uu, uu, uu, uu, uu, uu, uu, uu, uu, uu, uu, uu, uu, uu, uu, uu, uu, uu, uu, uu] []) := by
              intro tQ kk
              refine k1688 tQ ?_
              refine own_pop2D X1664.here hx rfl (hb hby at_144) rfl ?_
              refine XS.iload X1664.here hx rfl (hb hby at_145) rfl ?_
              refine XS.ifYes X1664.here hx rfl (pc0 := 147) (pc' := 177) rfl (hb hby at_147) rfl (own_if_leY (by decide)) (by decide) (by decide) ?_
              exact kk
            clear k1688
            exact ⟨T1660, T1660.heap, _, (FP.i2d p0), (FP.i2d p0), (0 : Int32), p0, (FP.i2d p0), (0 : UInt64), (own_S0 _ p0), X1664, rfl, N1685, Z1686, F1687, g1680, F1690, g1682, g1683, F1692, k1694⟩
        · skip
          have hzN : ¬ own_z (FP.i2d p1) = own_z (FP.i2d p0) := fun z => cba (own_zeq32 z)
          have eq1695 : (own_tg (FP.i2d p1) (FP.i2d p0)) = (FP.i2d p1) := by rw [own_tg, if_neg hzN]
          have F1696 : fd4 Z T1619.heap a1539 (.double (FP.i2d p1)) := by rw [← eq1695]; exact g1641
          have eq1697 : (own_sp (FP.i2d p1) (FP.i2d p0) (FP.i2d p0) (0 : UInt64) (2 : Int32)) = (FP.ddiv (FP.dsub (FP.i2d p1) (FP.i2d p0)) (FP.i2d (2 : Int32))) := by rw [own_sp, if_neg hzN]
          have F1698 : fd5 Z T1619.heap a1539 (.double (FP.ddiv (FP.dsub (FP.i2d p1) (FP.i2d p0)) (FP.i2d (2 : Int32)))) := by rw [← eq1697]; exact g1642
          have eq1699 : (own_rm (FP.i2d p1) (FP.i2d p0) (0 : Int32) (2 : Int32)) = (2 : Int32) := by rw [own_rm, if_neg hzN]
          have F1700 : fd6 Z T1619.heap a1539 (.int (2 : Int32)) := by rw [← eq1699]; exact g1643
          have k1701 : own_G p e below E0 T1619 (mkF m 136 #[vi p0, vi p1, vi p2, vi p3, vi (2 : Int32), vi (100 : Int32), vi pre, vi adv, vi ((XT.ushr p3 (3 : Int32)) &&& (3 : Int32)), vi gl, vd (FP.i2d p0), ss, vr a1539, vd (FP.i2d p0), ss, vd (FP.i2d p1), ss, vi (2 : Int32), vi p1, uu, uu, uu, uu, uu, uu, uu, uu, uu, uu, uu, uu, uu, uu, uu, uu, uu, uu, uu, uu] [(.int adv)]) := by
            intro tQ kk
            refine k1648 tQ ?_
            refine XS.icmpNo X1623.here hx rfl (hb hby at_120) rfl (own_ic_eqN cba) ?_
            refine XS.iloadN X1623.here hx rfl (hb hby at_123) rfl ?_
            refine XS.i2dS X1623.here hx rfl (hb hby at_124) rfl rfl ?_
            refine XS.dstore X1623.here hx rfl (hb hby at_125) rfl (l' := #[vi p0, vi p1, vi p2, vi p3, vi (2 : Int32), vi (100 : Int32), vi pre, vi adv, vi ((XT.ushr p3 (3 : Int32)) &&& (3 : Int32)), vi gl, vd (FP.i2d p0), ss, vr a1539, vd (FP.i2d p0), ss, vd (FP.i2d p1), ss, vi (0 : Int32), vi p0, uu, uu, uu, uu, uu, uu, uu, uu, uu, uu, uu, uu, uu, uu, uu, uu, uu, uu, uu, uu]) rfl ?_
            show Steps p.tables e below (T1619.setTop (mkF m 127 #[vi p0, vi p1, vi p2, vi p3, vi (2 : Int32), vi (100 : Int32), vi pre, vi adv, vi ((XT.ushr p3 (3 : Int32)) &&& (3 : Int32)), vi gl, vd (FP.i2d p0), ss, vr a1539, vd (FP.i2d p0), ss, vd (FP.i2d p1), ss, vi (0 : Int32), vi p0, uu, uu, uu, uu, uu, uu, uu, uu, uu, uu, uu, uu, uu, uu, uu, uu, uu, uu, uu, uu] [])) tQ
            refine XS.iload X1623.here hx rfl (hb hby at_127) rfl ?_
            refine XS.istore X1623.here hx rfl (hb hby at_129) rfl (l' := #[vi p0, vi p1, vi p2, vi p3, vi (2 : Int32), vi (100 : Int32), vi pre, vi adv, vi ((XT.ushr p3 (3 : Int32)) &&& (3 : Int32)), vi gl, vd (FP.i2d p0), ss, vr a1539, vd (FP.i2d p0), ss, vd (FP.i2d p1), ss, vi (2 : Int32), vi p0, uu, uu, uu, uu, uu, uu, uu, uu, uu, uu, uu, uu, uu, uu, uu, uu, uu, uu, uu, uu]) rfl ?_
            refine XS.iloadN X1623.here hx rfl (hb hby at_131) rfl ?_
            refine XS.istore X1623.here hx rfl (hb hby at_132) rfl (l' := #[vi p0, vi p1, vi p2, vi p3, vi (2 : Int32), vi (100 : Int32), vi pre, vi adv, vi ((XT.ushr p3 (3 : Int32)) &&& (3 : Int32)), vi gl, vd (FP.i2d p0), ss, vr a1539, vd (FP.i2d p0), ss, vd (FP.i2d p1), ss, vi (2 : Int32), vi p1, uu, uu, uu, uu, uu, uu, uu, uu, uu, uu, uu, uu, uu, uu, uu, uu, uu, uu, uu, uu]) rfl ?_
            show Steps p.tables e below (T1619.setTop (mkF m 134 #[vi p0, vi p1, vi p2, vi p3, vi (2 : Int32), vi (100 : Int32), vi pre, vi adv, vi ((XT.ushr p3 (3 : Int32)) &&& (3 : Int32)), vi gl, vd (FP.i2d p0), ss, vr a1539, vd (FP.i2d p0), ss, vd (FP.i2d p1), ss, vi (2 : Int32), vi p1, uu, uu, uu, uu, uu, uu, uu, uu, uu, uu, uu, uu, uu, uu, uu, uu, uu, uu, uu, uu] [])) tQ
            refine XS.iload X1623.here hx rfl (hb hby at_134) rfl ?_
            exact kk
          clear k1648
          by_cases cadv : adv = 0
          · skip
            have k1703 : own_G p e below E0 T1619 (mkF m 177 #[vi p0, vi p1, vi p2, vi p3, vi (2 : Int32), vi (100 : Int32), vi pre, vi adv, vi ((XT.ushr p3 (3 : Int32)) &&& (3 : Int32)), vi gl, vd (FP.i2d p0), ss, vr a1539, vd (FP.i2d p0), ss, vd (FP.i2d p1), ss, vi (2 : Int32), vi p1, uu, uu, uu, uu, uu, uu, uu, uu, uu, uu, uu, uu, uu, uu, uu, uu, uu, uu, uu, uu] []) := by
              intro tQ kk
              refine k1701 tQ ?_
              refine XS.ifYes X1623.here hx rfl (pc0 := 136) (pc' := 177) rfl (hb hby at_136) rfl (own_if_eqY cadv) (by decide) (by decide) ?_
              exact kk
            clear k1701
            exact ⟨T1619, T1619.heap, _, (FP.i2d p0), (FP.i2d p1), (2 : Int32), p1, (FP.i2d p0), (FP.ddiv (FP.dsub (FP.i2d p1) (FP.i2d p0)) (FP.i2d (2 : Int32))), (own_Sn2 p0 p1), X1623, rfl, N1644, Z1645, F1646, g1639, g1640, F1696, F1698, F1700, k1703⟩
          · skip
            have k1704 : own_G p e below E0 T1619 (mkF m 141 #[vi p0, vi p1, vi p2, vi p3, vi (2 : Int32), vi (100 : Int32), vi pre, vi adv, vi ((XT.ushr p3 (3 : Int32)) &&& (3 : Int32)), vi gl, vd (FP.i2d p0), ss, vr a1539, vd (FP.i2d p0), ss, vd (FP.i2d p1), ss, vi (2 : Int32), vi p1, uu, uu, uu, uu, uu, uu, uu, uu, uu, uu, uu, uu, uu, uu, uu, uu, uu, uu, uu, uu] [(.ref a1539)]) := by
              intro tQ kk
              refine k1701 tQ ?_
              refine XS.ifNo X1623.here hx rfl (hb hby at_136) rfl (own_if_eqN cadv) ?_
              refine XS.aload X1623.here hx rfl (hb hby at_139) rfl rfl ?_
              exact kk
            clear k1701
            obtain ⟨cq1716, kq1717, qa1718, qb1719, qc1720⟩ := isOf hZ rfl F1646
            obtain ⟨_, _, ⟨T1705, L1706, kc1707, nc1708⟩, -, X1709, ⟨Lc1710, hQ1711, l1712, y1713, z1714⟩, st1715⟩ := X1623.virtualBack hx (y := mn12) (z := mn12) hown (mvT hZ (tw49 hw)) (mvT hZ (tw50 hw)) (notFace_of_selects (args := #[]) (mvT hZ (tw52 hw))) (mvT hZ (tw52 hw)) (mvT hZ (tw51 hw)) (by decide) (backOf (W := 0) (rmN l Z a0 hw [] a1539 (2 : Int32) (FP.i2d p0) (FP.i2d p1) (FP.ddiv (FP.dsub (FP.i2d p1) (FP.i2d p0)) (FP.i2d (2 : Int32))) (2 : Int32) T1619.heap n0 Z1645 F1646 g1639 g1640 F1696 F1698 F1700 ge1541 (fun _ => own_nn2 (own_fsp0 p0 p1 (F := (2 : Int32)) (by decide)) (Fl.i2d_fin p1))) hZ (tw53 hw) (tw2 hw) (by decide) (by decide)) qa1718 qc1720 (g := (mkF m 141 #[vi p0, vi p1, vi p2, vi p3, vi (2 : Int32), vi (100 : Int32), vi pre, vi adv, vi ((XT.ushr p3 (3 : Int32)) &&& (3 : Int32)), vi gl, vd (FP.i2d p0), ss, vr a1539, vd (FP.i2d p0), ss, vd (FP.i2d p1), ss, vi (2 : Int32), vi p1, uu, uu, uu, uu, uu, uu, uu, uu, uu, uu, uu, uu, uu, uu, uu, uu, uu, uu, uu, uu] [(.ref a1539)])) rfl (by rw [hml]; rfl) (Steps.refl _) (argsL := []) (rest := []) (lenOf pd_16 rfl) rfl (by show 2 * 0 + _ ≤ _; exact Nat.le_of_eq rfl) (hb hby at_141) (fun _ _ => ⟨rfl, rfl, (by decide : 1 + 0 ≤ _), (by decide : 5 + 0 ≤ _)⟩)
            dsimp only [Pt.U, Pt.locs, Pt.cells, Pt.slots] at X1709 l1712 y1713 z1714 st1715 hQ1711
            subst y1713 z1714
            obtain ⟨rfl, N1721, K1724, g1725, g1726, g1727, g1728, g1729⟩ := hQ1711
            have N1730 : Fr n0 L1706 := by rw [l1712]; exact Fr.app N1644 N1721
            clear l1712 N1721
            have Z1731 : n0 ≤ T1705.heap.size := Nat.le_trans Z1645 K1724.1
            clear Z1645
            have F1732 : xa7 Z T1705.heap a1539 := F1646.keep K1724
            clear F1646
            clear g1639
            clear g1640
            clear F1696
            clear F1698
            clear F1700
            have k1733 : own_G p e below E0 T1705 (mkF m 144 #[vi p0, vi p1, vi p2, vi p3, vi (2 : Int32), vi (100 : Int32), vi pre, vi adv, vi ((XT.ushr p3 (3 : Int32)) &&& (3 : Int32)), vi gl, vd (FP.i2d p0), ss, vr a1539, vd (FP.i2d p0), ss, vd (FP.i2d p1), ss, vi (2 : Int32), vi p1, uu, uu, uu, uu, uu, uu, uu, uu, uu, uu, uu, uu, uu, uu, uu, uu, uu, uu, uu, uu] [(.double (own_nv (FP.i2d p0) (FP.i2d p1) (FP.ddiv (FP.dsub (FP.i2d p1) (FP.i2d p0)) (FP.i2d (2 : Int32))) (2 : Int32)))]) := fun tQ kk => k1704 tQ (st1715.trans kk)
            clear k1704 st1715
            have eq1734 : (own_nv (FP.i2d p0) (FP.i2d p1) (FP.ddiv (FP.dsub (FP.i2d p1) (FP.i2d p0)) (FP.i2d (2 : Int32))) (2 : Int32)) = (FP.dsub (FP.i2d p1) (FP.dmul (FP.i2d (1 : Int32)) (FP.ddiv (FP.dsub (FP.i2d p1) (FP.i2d p0)) (FP.i2d (2 : Int32))))) := by rw [own_nv, if_pos (by decide), show (2 : Int32) - 1 = (1 : Int32) by decide]
            have F1735 : fd3 Z T1705.heap a1539 (.double (FP.dsub (FP.i2d p1) (FP.dmul (FP.i2d (1 : Int32)) (FP.ddiv (FP.dsub (FP.i2d p1) (FP.i2d p0)) (FP.i2d (2 : Int32)))))) := by rw [← eq1734]; exact g1726
            have eq1736 : (own_nr (2 : Int32)) = (1 : Int32) := by decide
            have F1737 : fd6 Z T1705.heap a1539 (.int (1 : Int32)) := by rw [← eq1736]; exact g1729
            have eq1738 : (own_nv (FP.i2d p0) (FP.i2d p1) (FP.ddiv (FP.dsub (FP.i2d p1) (FP.i2d p0)) (FP.i2d (2 : Int32))) (2 : Int32)) = (FP.dsub (FP.i2d p1) (FP.dmul (FP.i2d (1 : Int32)) (FP.ddiv (FP.dsub (FP.i2d p1) (FP.i2d p0)) (FP.i2d (2 : Int32))))) := by rw [own_nv, if_pos (by decide), show (2 : Int32) - 1 = (1 : Int32) by decide]
            rw [eq1738] at k1733
            have k1739 : own_G p e below E0 T1705 (mkF m 171 #[vi p0, vi p1, vi p2, vi p3, vi (2 : Int32), vi (100 : Int32), vi pre, vi adv, vi ((XT.ushr p3 (3 : Int32)) &&& (3 : Int32)), vi gl, vd (FP.i2d p0), ss, vr a1539, vd (FP.i2d p0), ss, vd (FP.i2d p1), ss, vi (1 : Int32), vi p1, uu, uu, uu, uu, uu, uu, uu, uu, uu, uu, uu, uu, uu, uu, uu, uu, uu, uu, uu, uu] [(.double (FP.dadd (FP.i2d p1) (FP.i2d p0)))]) := by
              intro tQ kk
              refine k1733 tQ ?_
              refine own_pop2D X1709.here hx rfl (hb hby at_144) rfl ?_
              refine XS.iload X1709.here hx rfl (hb hby at_145) rfl ?_
              refine XS.ifNo X1709.here hx rfl (hb hby at_147) rfl (own_if_leN (by decide)) ?_
              refine XS.iload X1709.here hx rfl (hb hby at_150) rfl ?_
              show Steps p.tables e below (T1705.setTop (mkF m 152 #[vi p0, vi p1, vi p2, vi p3, vi (2 : Int32), vi (100 : Int32), vi pre, vi adv, vi ((XT.ushr p3 (3 : Int32)) &&& (3 : Int32)), vi gl, vd (FP.i2d p0), ss, vr a1539, vd (FP.i2d p0), ss, vd (FP.i2d p1), ss, vi (2 : Int32), vi p1, uu, uu, uu, uu, uu, uu, uu, uu, uu, uu, uu, uu, uu, uu, uu, uu, uu, uu, uu, uu] [(.int (2 : Int32))])) tQ
              refine XS.iconst X1709.here hx rfl (hb hby at_152) ?_
              refine XS.isub X1709.here hx rfl (hb hby at_153) rfl ?_
              refine XS.istore X1709.here hx rfl (hb hby at_154) rfl (l' := #[vi p0, vi p1, vi p2, vi p3, vi (2 : Int32), vi (100 : Int32), vi pre, vi adv, vi ((XT.ushr p3 (3 : Int32)) &&& (3 : Int32)), vi gl, vd (FP.i2d p0), ss, vr a1539, vd (FP.i2d p0), ss, vd (FP.i2d p1), ss, vi (1 : Int32), vi p1, uu, uu, uu, uu, uu, uu, uu, uu, uu, uu, uu, uu, uu, uu, uu, uu, uu, uu, uu, uu]) rfl ?_
              refine XS.iload X1709.here hx rfl (hb hby at_156) rfl ?_
              show Steps p.tables e below (T1705.setTop (mkF m 158 #[vi p0, vi p1, vi p2, vi p3, vi (2 : Int32), vi (100 : Int32), vi pre, vi adv, vi ((XT.ushr p3 (3 : Int32)) &&& (3 : Int32)), vi gl, vd (FP.i2d p0), ss, vr a1539, vd (FP.i2d p0), ss, vd (FP.i2d p1), ss, vi (1 : Int32), vi p1, uu, uu, uu, uu, uu, uu, uu, uu, uu, uu, uu, uu, uu, uu, uu, uu, uu, uu, uu, uu] [(.int (1 : Int32))])) tQ
              refine XS.ifYes X1709.here hx rfl (pc0 := 158) (pc' := 166) rfl (hb hby at_158) rfl (own_if_neY (by decide)) (by decide) (by decide) ?_
              refine XS.dload X1709.here hx rfl (hb hby at_166) rfl ?_
              refine XS.dload X1709.here hx rfl (hb hby at_168) rfl ?_
              refine XS.daddS X1709.here hx rfl (hb hby at_170) rfl (Fl.dadd_out (Fl.i2d_fin p1).noNaN (Fl.i2d_fin p0)) rfl ?_
              exact kk
            clear k1733
            have st1740 := X1709.ldc2DoubleC hx hown (mvT hZ (tw56 hw)) (g := (mkF m 171 #[vi p0, vi p1, vi p2, vi p3, vi (2 : Int32), vi (100 : Int32), vi pre, vi adv, vi ((XT.ushr p3 (3 : Int32)) &&& (3 : Int32)), vi gl, vd (FP.i2d p0), ss, vr a1539, vd (FP.i2d p0), ss, vd (FP.i2d p1), ss, vi (1 : Int32), vi p1, uu, uu, uu, uu, uu, uu, uu, uu, uu, uu, uu, uu, uu, uu, uu, uu, uu, uu, uu, uu] [(.double (FP.dadd (FP.i2d p1) (FP.i2d p0)))])) rfl (hb hby at_171)
            have k1741 : own_G p e below E0 T1705 (mkF m 174 #[vi p0, vi p1, vi p2, vi p3, vi (2 : Int32), vi (100 : Int32), vi pre, vi adv, vi ((XT.ushr p3 (3 : Int32)) &&& (3 : Int32)), vi gl, vd (FP.i2d p0), ss, vr a1539, vd (FP.i2d p0), ss, vd (FP.i2d p1), ss, vi (1 : Int32), vi p1, uu, uu, uu, uu, uu, uu, uu, uu, uu, uu, uu, uu, uu, uu, uu, uu, uu, uu, uu, uu] [(.double (4611686018427387904 : UInt64)), (.double (FP.dadd (FP.i2d p1) (FP.i2d p0)))]) := fun tQ kk => k1739 tQ (st1740 _ kk)
            clear k1739 st1740
            have k1742 : own_G p e below E0 T1705 (mkF m 177 #[vi p0, vi p1, vi p2, vi p3, vi (2 : Int32), vi (100 : Int32), vi pre, vi adv, vi ((XT.ushr p3 (3 : Int32)) &&& (3 : Int32)), vi gl, vd (FP.i2d p0), ss, vr a1539, vd (FP.ddiv (FP.dadd (FP.i2d p1) (FP.i2d p0)) (4611686018427387904 : UInt64)), ss, vd (FP.i2d p1), ss, vi (1 : Int32), vi p1, uu, uu, uu, uu, uu, uu, uu, uu, uu, uu, uu, uu, uu, uu, uu, uu, uu, uu, uu, uu] []) := by
              intro tQ kk
              refine k1741 tQ ?_
              refine XS.ddivS X1709.here hx rfl (hb hby at_174) rfl (Fl.ddiv_out (Fl.dadd_out (Fl.i2d_fin p1).noNaN (Fl.i2d_fin p0)) own_f2 own_nz2) rfl ?_
              refine XS.dstore X1709.here hx rfl (hb hby at_175) rfl (l' := #[vi p0, vi p1, vi p2, vi p3, vi (2 : Int32), vi (100 : Int32), vi pre, vi adv, vi ((XT.ushr p3 (3 : Int32)) &&& (3 : Int32)), vi gl, vd (FP.i2d p0), ss, vr a1539, vd (FP.ddiv (FP.dadd (FP.i2d p1) (FP.i2d p0)) (4611686018427387904 : UInt64)), ss, vd (FP.i2d p1), ss, vi (1 : Int32), vi p1, uu, uu, uu, uu, uu, uu, uu, uu, uu, uu, uu, uu, uu, uu, uu, uu, uu, uu, uu, uu]) rfl ?_
              exact kk
            clear k1741
            exact ⟨T1705, T1705.heap, _, (FP.ddiv (FP.dadd (FP.i2d p1) (FP.i2d p0)) (4611686018427387904 : UInt64)), (FP.i2d p1), (1 : Int32), p1, (FP.dsub (FP.i2d p1) (FP.dmul (FP.i2d (1 : Int32)) (FP.ddiv (FP.dsub (FP.i2d p1) (FP.i2d p0)) (FP.i2d (2 : Int32))))), (FP.ddiv (FP.dsub (FP.i2d p1) (FP.i2d p0)) (FP.i2d (2 : Int32))), (own_Sa2 p0 p1), X1709, rfl, N1730, Z1731, F1732, g1725, F1735, g1727, g1728, F1737, k1742⟩
    obtain ⟨T1743, h1746, L1749, mv, mt, mr, tI, vl, sp, hD1758, X1744, e1745, N1747, Z1748, F1750, F1751, F1752, F1753, F1754, F1755, k1756⟩ := jn1757
    obtain ⟨hmt, -, -, ⟨W, bW, hvl, hmv⟩, hmr⟩ := hD1758
    have nmt : NoNaN64 mt := hmt ▸ (Fl.i2d_fin tI).noNaN
    have fmt : Fin64 mt := hmt ▸ Fl.i2d_fin tI
    have jn1767 : ∃ (nI : Int32), (((((XT.ushr p3 (3 : Int32)) &&& (3 : Int32)) = (1 : Int32)) ∧ nI = tI) ∨ (¬ (((XT.ushr p3 (3 : Int32)) &&& (3 : Int32)) = (1 : Int32)) ∧ (((XT.ushr p3 (3 : Int32)) &&& (3 : Int32)) = (2 : Int32)) ∧ nI = p0) ∨ (¬ (((XT.ushr p3 (3 : Int32)) &&& (3 : Int32)) = (1 : Int32)) ∧ ¬ (((XT.ushr p3 (3 : Int32)) &&& (3 : Int32)) = (2 : Int32)) ∧ nI = p2)) ∧ (own_G p e below E0 T1743 (mkF m 199 #[vi p0, vi p1, vi p2, vi p3, vi (2 : Int32), vi (100 : Int32), vi pre, vi adv, vi ((XT.ushr p3 (3 : Int32)) &&& (3 : Int32)), vi gl, vd (FP.i2d p0), ss, vr a1539, vd mv, ss, vd mt, ss, vi mr, vi tI, uu, uu, uu, uu, uu, uu, uu, uu, uu, uu, uu, uu, uu, uu, uu, uu, uu, uu, uu, uu] [(.int nI)])) := by
      have k1759 : own_G p e below E0 T1743 (mkF m 180 #[vi p0, vi p1, vi p2, vi p3, vi (2 : Int32), vi (100 : Int32), vi pre, vi adv, vi ((XT.ushr p3 (3 : Int32)) &&& (3 : Int32)), vi gl, vd (FP.i2d p0), ss, vr a1539, vd mv, ss, vd mt, ss, vi mr, vi tI, uu, uu, uu, uu, uu, uu, uu, uu, uu, uu, uu, uu, uu, uu, uu, uu, uu, uu, uu, uu] [(.int (1 : Int32)), (.int ((XT.ushr p3 (3 : Int32)) &&& (3 : Int32)))]) := by
        intro tQ kk
        refine k1756 tQ ?_
        refine XS.iload X1744.here hx rfl (hb hby at_177) rfl ?_
        refine XS.iconst X1744.here hx rfl (hb hby at_179) ?_
        exact kk
      clear k1756
      by_cases c1760 : ((XT.ushr p3 (3 : Int32)) &&& (3 : Int32)) = (1 : Int32)
      · skip
        have k1761 : own_G p e below E0 T1743 (mkF m 199 #[vi p0, vi p1, vi p2, vi p3, vi (2 : Int32), vi (100 : Int32), vi pre, vi adv, vi ((XT.ushr p3 (3 : Int32)) &&& (3 : Int32)), vi gl, vd (FP.i2d p0), ss, vr a1539, vd mv, ss, vd mt, ss, vi mr, vi tI, uu, uu, uu, uu, uu, uu, uu, uu, uu, uu, uu, uu, uu, uu, uu, uu, uu, uu, uu, uu] [(.int tI)]) := by
          intro tQ kk
          refine k1759 tQ ?_
          refine XS.icmpNo X1744.here hx rfl (hb hby at_180) rfl (own_ic_neN c1760) ?_
          refine XS.iload X1744.here hx rfl (hb hby at_183) rfl ?_
          refine XS.goto X1744.here hx rfl (pc0 := 185) (pc' := 199) rfl (hb hby at_185) (by decide) (by decide) ?_
          exact kk
        clear k1759
        exact ⟨tI, (Or.inl (⟨c1760, rfl⟩)), k1761⟩
      · skip
        have k1762 : own_G p e below E0 T1743 (mkF m 191 #[vi p0, vi p1, vi p2, vi p3, vi (2 : Int32), vi (100 : Int32), vi pre, vi adv, vi ((XT.ushr p3 (3 : Int32)) &&& (3 : Int32)), vi gl, vd (FP.i2d p0), ss, vr a1539, vd mv, ss, vd mt, ss, vi mr, vi tI, uu, uu, uu, uu, uu, uu, uu, uu, uu, uu, uu, uu, uu, uu, uu, uu, uu, uu, uu, uu] [(.int (2 : Int32)), (.int ((XT.ushr p3 (3 : Int32)) &&& (3 : Int32)))]) := by
          intro tQ kk
          refine k1759 tQ ?_
          refine XS.icmpYes X1744.here hx rfl (pc0 := 180) (pc' := 188) rfl (hb hby at_180) rfl (own_ic_neY c1760) (by decide) (by decide) ?_
          refine XS.iload X1744.here hx rfl (hb hby at_188) rfl ?_
          refine XS.iconst X1744.here hx rfl (hb hby at_190) ?_
          exact kk
        clear k1759
        by_cases c1763 : ((XT.ushr p3 (3 : Int32)) &&& (3 : Int32)) = (2 : Int32)
        · skip
          have k1764 : own_G p e below E0 T1743 (mkF m 199 #[vi p0, vi p1, vi p2, vi p3, vi (2 : Int32), vi (100 : Int32), vi pre, vi adv, vi ((XT.ushr p3 (3 : Int32)) &&& (3 : Int32)), vi gl, vd (FP.i2d p0), ss, vr a1539, vd mv, ss, vd mt, ss, vi mr, vi tI, uu, uu, uu, uu, uu, uu, uu, uu, uu, uu, uu, uu, uu, uu, uu, uu, uu, uu, uu, uu] [(.int p0)]) := by
            intro tQ kk
            refine k1762 tQ ?_
            refine XS.icmpNo X1744.here hx rfl (hb hby at_191) rfl (own_ic_neN c1763) ?_
            refine XS.iloadN X1744.here hx rfl (hb hby at_194) rfl ?_
            refine XS.goto X1744.here hx rfl (pc0 := 195) (pc' := 199) rfl (hb hby at_195) (by decide) (by decide) ?_
            exact kk
          clear k1762
          exact ⟨p0, (Or.inr (Or.inl (⟨c1760, c1763, rfl⟩))), k1764⟩
        · skip
          have k1765 : own_G p e below E0 T1743 (mkF m 199 #[vi p0, vi p1, vi p2, vi p3, vi (2 : Int32), vi (100 : Int32), vi pre, vi adv, vi ((XT.ushr p3 (3 : Int32)) &&& (3 : Int32)), vi gl, vd (FP.i2d p0), ss, vr a1539, vd mv, ss, vd mt, ss, vi mr, vi tI, uu, uu, uu, uu, uu, uu, uu, uu, uu, uu, uu, uu, uu, uu, uu, uu, uu, uu, uu, uu] [(.int p2)]) := by
            intro tQ kk
            refine k1762 tQ ?_
            refine XS.icmpYes X1744.here hx rfl (pc0 := 191) (pc' := 198) rfl (hb hby at_191) rfl (own_ic_neY c1763) (by decide) (by decide) ?_
            refine XS.iloadN X1744.here hx rfl (hb hby at_198) rfl ?_
            exact kk
          clear k1762
          exact ⟨p2, (Or.inr (Or.inr (⟨c1760, c1763, rfl⟩))), k1765⟩
    obtain ⟨nI, hD1768, k1766⟩ := jn1767
    have k1769 : own_G p e below E0 T1743 (mkF m 206 #[vi p0, vi p1, vi p2, vi p3, vi (2 : Int32), vi (100 : Int32), vi pre, vi adv, vi ((XT.ushr p3 (3 : Int32)) &&& (3 : Int32)), vi gl, vd (FP.i2d p0), ss, vr a1539, vd mv, ss, vd mt, ss, vi mr, vi tI, vi nI, vd (FP.i2d nI), ss, uu, uu, uu, uu, uu, uu, uu, uu, uu, uu, uu, uu, uu, uu, uu, uu, uu] []) := by
      intro tQ kk
      refine k1766 tQ ?_
      refine XS.istore X1744.here hx rfl (hb hby at_199) rfl (l' := #[vi p0, vi p1, vi p2, vi p3, vi (2 : Int32), vi (100 : Int32), vi pre, vi adv, vi ((XT.ushr p3 (3 : Int32)) &&& (3 : Int32)), vi gl, vd (FP.i2d p0), ss, vr a1539, vd mv, ss, vd mt, ss, vi mr, vi tI, vi nI, uu, uu, uu, uu, uu, uu, uu, uu, uu, uu, uu, uu, uu, uu, uu, uu, uu, uu, uu]) rfl ?_
      refine XS.iload X1744.here hx rfl (hb hby at_201) rfl ?_
      refine XS.i2dS X1744.here hx rfl (hb hby at_203) rfl rfl ?_
      refine XS.dstore X1744.here hx rfl (hb hby at_204) rfl (l' := #[vi p0, vi p1, vi p2, vi p3, vi (2 : Int32), vi (100 : Int32), vi pre, vi adv, vi ((XT.ushr p3 (3 : Int32)) &&& (3 : Int32)), vi gl, vd (FP.i2d p0), ss, vr a1539, vd mv, ss, vd mt, ss, vi mr, vi tI, vi nI, vd (FP.i2d nI), ss, uu, uu, uu, uu, uu, uu, uu, uu, uu, uu, uu, uu, uu, uu, uu, uu, uu]) rfl ?_
      exact kk
    clear k1766
    rcases hD1529 with ⟨_, rfl⟩ | ⟨_, rfl⟩
    · skip
      have k1770 : own_G p e below E0 T1743 (mkF m 366 #[vi p0, vi p1, vi p2, vi p3, vi (2 : Int32), vi (100 : Int32), vi pre, vi adv, vi ((XT.ushr p3 (3 : Int32)) &&& (3 : Int32)), vi (0 : Int32), vd (FP.i2d p0), ss, vr a1539, vd mv, ss, vd mt, ss, vi mr, vi tI, vi nI, vd (FP.i2d nI), ss, vd (FP.i2d nI), ss, vd (FP.i2d nI), ss, vd (FP.i2d nI), ss, vi (0 : Int32), vi (0 : Int32), uu, uu, uu, uu, uu, uu, uu, uu, uu] [(.int (0 : Int32)), (.double (FP.i2d nI)), (.ref a1539)]) := by
        intro tQ kk
        refine k1769 tQ ?_
        refine XS.iload X1744.here hx rfl (hb hby at_206) rfl ?_
        refine XS.ifNo X1744.here hx rfl (hb hby at_208) rfl (own_if_neN (by decide)) ?_
        refine XS.dload X1744.here hx rfl (hb hby at_211) rfl ?_
        refine XS.dstore X1744.here hx rfl (hb hby at_213) rfl (l' := #[vi p0, vi p1, vi p2, vi p3, vi (2 : Int32), vi (100 : Int32), vi pre, vi adv, vi ((XT.ushr p3 (3 : Int32)) &&& (3 : Int32)), vi (0 : Int32), vd (FP.i2d p0), ss, vr a1539, vd mv, ss, vd mt, ss, vi mr, vi tI, vi nI, vd (FP.i2d nI), ss, vd (FP.i2d nI), ss, uu, uu, uu, uu, uu, uu, uu, uu, uu, uu, uu, uu, uu, uu, uu]) rfl ?_
        show Steps p.tables e below (T1743.setTop (mkF m 215 #[vi p0, vi p1, vi p2, vi p3, vi (2 : Int32), vi (100 : Int32), vi pre, vi adv, vi ((XT.ushr p3 (3 : Int32)) &&& (3 : Int32)), vi (0 : Int32), vd (FP.i2d p0), ss, vr a1539, vd mv, ss, vd mt, ss, vi mr, vi tI, vi nI, vd (FP.i2d nI), ss, vd (FP.i2d nI), ss, uu, uu, uu, uu, uu, uu, uu, uu, uu, uu, uu, uu, uu, uu, uu] [])) tQ
        refine XS.dload X1744.here hx rfl (hb hby at_215) rfl ?_
        refine XS.dstore X1744.here hx rfl (hb hby at_217) rfl (l' := #[vi p0, vi p1, vi p2, vi p3, vi (2 : Int32), vi (100 : Int32), vi pre, vi adv, vi ((XT.ushr p3 (3 : Int32)) &&& (3 : Int32)), vi (0 : Int32), vd (FP.i2d p0), ss, vr a1539, vd mv, ss, vd mt, ss, vi mr, vi tI, vi nI, vd (FP.i2d nI), ss, vd (FP.i2d nI), ss, vd (FP.i2d nI), ss, uu, uu, uu, uu, uu, uu, uu, uu, uu, uu, uu, uu, uu]) rfl ?_
        refine XS.dload X1744.here hx rfl (hb hby at_219) rfl ?_
        refine XS.dstore X1744.here hx rfl (hb hby at_221) rfl (l' := #[vi p0, vi p1, vi p2, vi p3, vi (2 : Int32), vi (100 : Int32), vi pre, vi adv, vi ((XT.ushr p3 (3 : Int32)) &&& (3 : Int32)), vi (0 : Int32), vd (FP.i2d p0), ss, vr a1539, vd mv, ss, vd mt, ss, vi mr, vi tI, vi nI, vd (FP.i2d nI), ss, vd (FP.i2d nI), ss, vd (FP.i2d nI), ss, vd (FP.i2d nI), ss, uu, uu, uu, uu, uu, uu, uu, uu, uu, uu, uu]) rfl ?_
        show Steps p.tables e below (T1743.setTop (mkF m 223 #[vi p0, vi p1, vi p2, vi p3, vi (2 : Int32), vi (100 : Int32), vi pre, vi adv, vi ((XT.ushr p3 (3 : Int32)) &&& (3 : Int32)), vi (0 : Int32), vd (FP.i2d p0), ss, vr a1539, vd mv, ss, vd mt, ss, vi mr, vi tI, vi nI, vd (FP.i2d nI), ss, vd (FP.i2d nI), ss, vd (FP.i2d nI), ss, vd (FP.i2d nI), ss, uu, uu, uu, uu, uu, uu, uu, uu, uu, uu, uu] [])) tQ
        refine XS.iconst X1744.here hx rfl (hb hby at_223) ?_
        refine XS.istore X1744.here hx rfl (hb hby at_224) rfl (l' := #[vi p0, vi p1, vi p2, vi p3, vi (2 : Int32), vi (100 : Int32), vi pre, vi adv, vi ((XT.ushr p3 (3 : Int32)) &&& (3 : Int32)), vi (0 : Int32), vd (FP.i2d p0), ss, vr a1539, vd mv, ss, vd mt, ss, vi mr, vi tI, vi nI, vd (FP.i2d nI), ss, vd (FP.i2d nI), ss, vd (FP.i2d nI), ss, vd (FP.i2d nI), ss, vi (0 : Int32), uu, uu, uu, uu, uu, uu, uu, uu, uu, uu]) rfl ?_
        refine XS.iconst X1744.here hx rfl (hb hby at_226) ?_
        refine XS.istore X1744.here hx rfl (hb hby at_227) rfl (l' := #[vi p0, vi p1, vi p2, vi p3, vi (2 : Int32), vi (100 : Int32), vi pre, vi adv, vi ((XT.ushr p3 (3 : Int32)) &&& (3 : Int32)), vi (0 : Int32), vd (FP.i2d p0), ss, vr a1539, vd mv, ss, vd mt, ss, vi mr, vi tI, vi nI, vd (FP.i2d nI), ss, vd (FP.i2d nI), ss, vd (FP.i2d nI), ss, vd (FP.i2d nI), ss, vi (0 : Int32), vi (0 : Int32), uu, uu, uu, uu, uu, uu, uu, uu, uu]) rfl ?_
        show Steps p.tables e below (T1743.setTop (mkF m 229 #[vi p0, vi p1, vi p2, vi p3, vi (2 : Int32), vi (100 : Int32), vi pre, vi adv, vi ((XT.ushr p3 (3 : Int32)) &&& (3 : Int32)), vi (0 : Int32), vd (FP.i2d p0), ss, vr a1539, vd mv, ss, vd mt, ss, vi mr, vi tI, vi nI, vd (FP.i2d nI), ss, vd (FP.i2d nI), ss, vd (FP.i2d nI), ss, vd (FP.i2d nI), ss, vi (0 : Int32), vi (0 : Int32), uu, uu, uu, uu, uu, uu, uu, uu, uu] [])) tQ
        refine XS.goto X1744.here hx rfl (pc0 := 229) (pc' := 360) rfl (hb hby at_229) (by decide) (by decide) ?_
        refine XS.aload X1744.here hx rfl (hb hby at_360) rfl rfl ?_
        refine XS.dload X1744.here hx rfl (hb hby at_362) rfl ?_
        refine XS.iload X1744.here hx rfl (hb hby at_364) rfl ?_
        exact kk
      clear k1769
      obtain ⟨cq1782, kq1783, qa1784, qb1785, qc1786⟩ := isOf hZ e1745 F1750
      obtain ⟨_, _, ⟨T1771, L1772, kc1773, nc1774⟩, -, X1775, ⟨Lc1776, hQ1777, l1778, y1779, z1780⟩, st1781⟩ := X1744.virtualBack hx (y := mn11) (z := mn11) hown (mvT hZ (tw32 hw)) (mvT hZ (tw33 hw)) (notFace_of_selects (args := #[]) (mvT hZ (tw35 hw))) (mvT hZ (tw35 hw)) (mvT hZ (tw34 hw)) (by decide) (backOf (W := 0) (rmS0 l Z a0 hw [] a1539 (FP.i2d nI) (2 : Int32) vl mt sp mr h1746 n0 Z1748 F1750 F1751 F1752 F1753 F1754 F1755 ge1541) hZ (tw36 hw) (tw2 hw) (by decide) (by decide)) qa1784 qc1786 (g := (mkF m 366 #[vi p0, vi p1, vi p2, vi p3, vi (2 : Int32), vi (100 : Int32), vi pre, vi adv, vi ((XT.ushr p3 (3 : Int32)) &&& (3 : Int32)), vi (0 : Int32), vd (FP.i2d p0), ss, vr a1539, vd mv, ss, vd mt, ss, vi mr, vi tI, vi nI, vd (FP.i2d nI), ss, vd (FP.i2d nI), ss, vd (FP.i2d nI), ss, vd (FP.i2d nI), ss, vi (0 : Int32), vi (0 : Int32), uu, uu, uu, uu, uu, uu, uu, uu, uu] [(.int (0 : Int32)), (.double (FP.i2d nI)), (.ref a1539)])) rfl (by rw [hml]; rfl) (Steps.refl _) (argsL := [(.double (FP.i2d nI)), (.int (0 : Int32))]) (rest := []) (lenOf pd_17 rfl) rfl (by show 2 * 0 + _ ≤ _; exact Nat.le_of_eq rfl) (hb hby at_366) (fun _ _ => ⟨rfl, e1745, (by decide : 1 + 0 ≤ _), (by decide : 5 + 0 ≤ _)⟩)
      dsimp only [Pt.U, Pt.locs, Pt.cells, Pt.slots] at X1775 l1778 y1779 z1780 st1781 hQ1777
      subst y1779 z1780
      obtain ⟨rfl, N1787, K1790, g1791, g1792, g1793, g1794, g1795⟩ := hQ1777
      have N1796 : Fr n0 L1772 := by rw [l1778]; exact Fr.app N1747 N1787
      clear l1778 N1787
      have Z1797 : n0 ≤ T1771.heap.size := Nat.le_trans Z1748 K1790.1
      clear Z1748
      have F1798 : xa7 Z T1771.heap a1539 := F1750.keep K1790
      clear F1750
      clear F1751
      clear F1752
      clear F1753
      clear F1754
      clear F1755
      have k1799 : own_G p e below E0 T1771 (mkF m 369 #[vi p0, vi p1, vi p2, vi p3, vi (2 : Int32), vi (100 : Int32), vi pre, vi adv, vi ((XT.ushr p3 (3 : Int32)) &&& (3 : Int32)), vi (0 : Int32), vd (FP.i2d p0), ss, vr a1539, vd mv, ss, vd mt, ss, vi mr, vi tI, vi nI, vd (FP.i2d nI), ss, vd (FP.i2d nI), ss, vd (FP.i2d nI), ss, vd (FP.i2d nI), ss, vi (0 : Int32), vi (0 : Int32), uu, uu, uu, uu, uu, uu, uu, uu, uu] []) := fun tQ kk => k1770 tQ (st1781.trans kk)
      clear k1770 st1781
      have k1800 : own_G p e below E0 T1771 (mkF m 371 #[vi p0, vi p1, vi p2, vi p3, vi (2 : Int32), vi (100 : Int32), vi pre, vi adv, vi ((XT.ushr p3 (3 : Int32)) &&& (3 : Int32)), vi (0 : Int32), vd (FP.i2d p0), ss, vr a1539, vd mv, ss, vd mt, ss, vi mr, vi tI, vi nI, vd (FP.i2d nI), ss, vd (FP.i2d nI), ss, vd (FP.i2d nI), ss, vd (FP.i2d nI), ss, vi (0 : Int32), vi (0 : Int32), uu, uu, uu, uu, uu, uu, uu, uu, uu] [(.ref a1539)]) := by
        intro tQ kk
        refine k1799 tQ ?_
        refine XS.aload X1775.here hx rfl (hb hby at_369) rfl rfl ?_
        exact kk
      clear k1799
      obtain ⟨cq1812, kq1813, qa1814, qb1815, qc1816⟩ := isOf hZ rfl F1798
      obtain ⟨_, _, ⟨T1801, L1802, kc1803, nc1804⟩, -, X1805, ⟨Lc1806, hQ1807, l1808, y1809, z1810⟩, st1811⟩ := X1775.virtualBack hx (y := mn14) (z := mn14) hown (mvT hZ (tw39 hw)) (mvT hZ (tw40 hw)) (notFace_of_selects (args := #[]) (mvT hZ (tw42 hw))) (mvT hZ (tw42 hw)) (mvT hZ (tw41 hw)) (by decide) (backOf (W := 0) (rmVl l Z a0 hw [] a1539 (FP.i2d nI) T1771.heap n0 Z1797 g1792) hZ (tw43 hw) (tw2 hw) (by decide) (by decide)) qa1814 qc1816 (g := (mkF m 371 #[vi p0, vi p1, vi p2, vi p3, vi (2 : Int32), vi (100 : Int32), vi pre, vi adv, vi ((XT.ushr p3 (3 : Int32)) &&& (3 : Int32)), vi (0 : Int32), vd (FP.i2d p0), ss, vr a1539, vd mv, ss, vd mt, ss, vi mr, vi tI, vi nI, vd (FP.i2d nI), ss, vd (FP.i2d nI), ss, vd (FP.i2d nI), ss, vd (FP.i2d nI), ss, vi (0 : Int32), vi (0 : Int32), uu, uu, uu, uu, uu, uu, uu, uu, uu] [(.ref a1539)])) rfl (by rw [hml]; rfl) (Steps.refl _) (argsL := []) (rest := []) (lenOf pd_16 rfl) rfl (by show 2 * 0 + _ ≤ _; exact Nat.le_of_eq rfl) (hb hby at_371) (fun _ _ => ⟨rfl, rfl, (by decide : 1 + 0 ≤ _), (by decide : 5 + 0 ≤ _)⟩)
      dsimp only [Pt.U, Pt.locs, Pt.cells, Pt.slots] at X1805 l1808 y1809 z1810 st1811 hQ1807
      subst y1809 z1810
      obtain ⟨rfl, N1817, e1818⟩ := hQ1807
      have N1820 : Fr n0 L1802 := by rw [l1808]; exact Fr.app N1796 N1817
      clear l1808 N1817
      have k1821 : own_G p e below E0 T1801 (mkF m 374 #[vi p0, vi p1, vi p2, vi p3, vi (2 : Int32), vi (100 : Int32), vi pre, vi adv, vi ((XT.ushr p3 (3 : Int32)) &&& (3 : Int32)), vi (0 : Int32), vd (FP.i2d p0), ss, vr a1539, vd mv, ss, vd mt, ss, vi mr, vi tI, vi nI, vd (FP.i2d nI), ss, vd (FP.i2d nI), ss, vd (FP.i2d nI), ss, vd (FP.i2d nI), ss, vi (0 : Int32), vi (0 : Int32), uu, uu, uu, uu, uu, uu, uu, uu, uu] [(.double (FP.i2d nI))]) := fun tQ kk => k1800 tQ (st1811.trans kk)
      clear k1800 st1811
      have k1822 : own_G p e below E0 T1801 (mkF m 378 #[vi p0, vi p1, vi p2, vi p3, vi (2 : Int32), vi (100 : Int32), vi pre, vi adv, vi ((XT.ushr p3 (3 : Int32)) &&& (3 : Int32)), vi (0 : Int32), vd (FP.i2d p0), ss, vr a1539, vd mv, ss, vd mt, ss, vi mr, vi tI, vi nI, vd (FP.i2d nI), ss, vd (FP.i2d nI), ss, vd (FP.i2d nI), ss, vd (FP.i2d nI), ss, vi (0 : Int32), vi (0 : Int32), vd (FP.i2d nI), ss, uu, uu, uu, uu, uu, uu, uu] [(.ref a1539)]) := by
        intro tQ kk
        refine k1821 tQ ?_
        refine XS.dstore X1805.here hx rfl (hb hby at_374) rfl (l' := #[vi p0, vi p1, vi p2, vi p3, vi (2 : Int32), vi (100 : Int32), vi pre, vi adv, vi ((XT.ushr p3 (3 : Int32)) &&& (3 : Int32)), vi (0 : Int32), vd (FP.i2d p0), ss, vr a1539, vd mv, ss, vd mt, ss, vi mr, vi tI, vi nI, vd (FP.i2d nI), ss, vd (FP.i2d nI), ss, vd (FP.i2d nI), ss, vd (FP.i2d nI), ss, vi (0 : Int32), vi (0 : Int32), vd (FP.i2d nI), ss, uu, uu, uu, uu, uu, uu, uu]) rfl ?_
        refine XS.aload X1805.here hx rfl (hb hby at_376) rfl rfl ?_
        exact kk
      clear k1821
      obtain ⟨cq1834, kq1835, qa1836, qb1837, qc1838⟩ := isOf hZ e1818 F1798
      obtain ⟨_, _, ⟨T1823, L1824, kc1825, nc1826⟩, -, X1827, ⟨Lc1828, hQ1829, l1830, y1831, z1832⟩, st1833⟩ := X1805.virtualBack hx (y := mn13) (z := mn13) hown (mvT hZ (tw44 hw)) (mvT hZ (tw45 hw)) (notFace_of_selects (args := #[]) (mvT hZ (tw47 hw))) (mvT hZ (tw47 hw)) (mvT hZ (tw46 hw)) (by decide) (backOf (W := 0) (rmMv l Z a0 hw [] a1539 (0 : Int32) T1771.heap n0 Z1797 g1795) hZ (tw48 hw) (tw2 hw) (by decide) (by decide)) qa1836 qc1838 (g := (mkF m 378 #[vi p0, vi p1, vi p2, vi p3, vi (2 : Int32), vi (100 : Int32), vi pre, vi adv, vi ((XT.ushr p3 (3 : Int32)) &&& (3 : Int32)), vi (0 : Int32), vd (FP.i2d p0), ss, vr a1539, vd mv, ss, vd mt, ss, vi mr, vi tI, vi nI, vd (FP.i2d nI), ss, vd (FP.i2d nI), ss, vd (FP.i2d nI), ss, vd (FP.i2d nI), ss, vi (0 : Int32), vi (0 : Int32), vd (FP.i2d nI), ss, uu, uu, uu, uu, uu, uu, uu] [(.ref a1539)])) rfl (by rw [hml]; rfl) (Steps.refl _) (argsL := []) (rest := []) (lenOf pd_18 rfl) rfl (by show 2 * 0 + _ ≤ _; exact Nat.le_of_eq rfl) (hb hby at_378) (fun _ _ => ⟨rfl, e1818, (by decide : 1 + 0 ≤ _), (by decide : 5 + 0 ≤ _)⟩)
      dsimp only [Pt.U, Pt.locs, Pt.cells, Pt.slots] at X1827 l1830 y1831 z1832 st1833 hQ1829
      subst y1831 z1832
      obtain ⟨rfl, N1839, e1840⟩ := hQ1829
      have N1842 : Fr n0 L1824 := by rw [l1830]; exact Fr.app N1820 N1839
      clear l1830 N1839
      have k1843 : own_G p e below E0 T1823 (mkF m 381 #[vi p0, vi p1, vi p2, vi p3, vi (2 : Int32), vi (100 : Int32), vi pre, vi adv, vi ((XT.ushr p3 (3 : Int32)) &&& (3 : Int32)), vi (0 : Int32), vd (FP.i2d p0), ss, vr a1539, vd mv, ss, vd mt, ss, vi mr, vi tI, vi nI, vd (FP.i2d nI), ss, vd (FP.i2d nI), ss, vd (FP.i2d nI), ss, vd (FP.i2d nI), ss, vi (0 : Int32), vi (0 : Int32), vd (FP.i2d nI), ss, uu, uu, uu, uu, uu, uu, uu] [(.int (own_mv (0 : Int32)))]) := fun tQ kk => k1822 tQ (st1833.trans kk)
      clear k1822 st1833
      have eq1844 : (own_mv (0 : Int32)) = (0 : Int32) := by decide
      rw [eq1844] at k1843
      have k1845 : own_G p e below E0 T1823 (mkF m 385 #[vi p0, vi p1, vi p2, vi p3, vi (2 : Int32), vi (100 : Int32), vi pre, vi adv, vi ((XT.ushr p3 (3 : Int32)) &&& (3 : Int32)), vi (0 : Int32), vd (FP.i2d p0), ss, vr a1539, vd mv, ss, vd mt, ss, vi mr, vi tI, vi nI, vd (FP.i2d nI), ss, vd (FP.i2d nI), ss, vd (FP.i2d nI), ss, vd (FP.i2d nI), ss, vi (0 : Int32), vi (0 : Int32), vd (FP.i2d nI), ss, vi (0 : Int32), uu, uu, uu, uu, uu, uu] [(.ref a1539)]) := by
        intro tQ kk
        refine k1843 tQ ?_
        refine XS.istore X1827.here hx rfl (hb hby at_381) rfl (l' := #[vi p0, vi p1, vi p2, vi p3, vi (2 : Int32), vi (100 : Int32), vi pre, vi adv, vi ((XT.ushr p3 (3 : Int32)) &&& (3 : Int32)), vi (0 : Int32), vd (FP.i2d p0), ss, vr a1539, vd mv, ss, vd mt, ss, vi mr, vi tI, vi nI, vd (FP.i2d nI), ss, vd (FP.i2d nI), ss, vd (FP.i2d nI), ss, vd (FP.i2d nI), ss, vi (0 : Int32), vi (0 : Int32), vd (FP.i2d nI), ss, vi (0 : Int32), uu, uu, uu, uu, uu, uu]) rfl ?_
        refine XS.aload X1827.here hx rfl (hb hby at_383) rfl rfl ?_
        exact kk
      clear k1843
      obtain ⟨cq1857, kq1858, qa1859, qb1860, qc1861⟩ := isOf hZ e1840 F1798
      obtain ⟨_, _, ⟨T1846, L1847, kc1848, nc1849⟩, -, X1850, ⟨Lc1851, hQ1852, l1853, y1854, z1855⟩, st1856⟩ := X1827.virtualBack hx (y := mn12) (z := mn12) hown (mvT hZ (tw49 hw)) (mvT hZ (tw50 hw)) (notFace_of_selects (args := #[]) (mvT hZ (tw52 hw))) (mvT hZ (tw52 hw)) (mvT hZ (tw51 hw)) (by decide) (backOf (W := 0) (rmN l Z a0 hw [] a1539 (2 : Int32) (FP.i2d nI) (FP.i2d nI) sp (0 : Int32) T1771.heap n0 Z1797 F1798 g1791 g1792 g1793 g1794 g1795 ge1541 (fun z => absurd z (by decide))) hZ (tw53 hw) (tw2 hw) (by decide) (by decide)) qa1859 qc1861 (g := (mkF m 385 #[vi p0, vi p1, vi p2, vi p3, vi (2 : Int32), vi (100 : Int32), vi pre, vi adv, vi ((XT.ushr p3 (3 : Int32)) &&& (3 : Int32)), vi (0 : Int32), vd (FP.i2d p0), ss, vr a1539, vd mv, ss, vd mt, ss, vi mr, vi tI, vi nI, vd (FP.i2d nI), ss, vd (FP.i2d nI), ss, vd (FP.i2d nI), ss, vd (FP.i2d nI), ss, vi (0 : Int32), vi (0 : Int32), vd (FP.i2d nI), ss, vi (0 : Int32), uu, uu, uu, uu, uu, uu] [(.ref a1539)])) rfl (by rw [hml]; rfl) (Steps.refl _) (argsL := []) (rest := []) (lenOf pd_16 rfl) rfl (by show 2 * 0 + _ ≤ _; exact Nat.le_of_eq rfl) (hb hby at_385) (fun _ _ => ⟨rfl, e1840, (by decide : 1 + 0 ≤ _), (by decide : 5 + 0 ≤ _)⟩)
      dsimp only [Pt.U, Pt.locs, Pt.cells, Pt.slots] at X1850 l1853 y1854 z1855 st1856 hQ1852
      subst y1854 z1855
      obtain ⟨rfl, N1862, K1865, g1866, g1867, g1868, g1869, g1870⟩ := hQ1852
      have N1871 : Fr n0 L1847 := by rw [l1853]; exact Fr.app N1842 N1862
      clear l1853 N1862
      have Z1872 : n0 ≤ T1846.heap.size := Nat.le_trans Z1797 K1865.1
      clear Z1797
      have F1873 : xa7 Z T1846.heap a1539 := F1798.keep K1865
      clear F1798
      clear g1791
      clear g1792
      clear g1793
      clear g1794
      clear g1795
      have k1874 : own_G p e below E0 T1846 (mkF m 388 #[vi p0, vi p1, vi p2, vi p3, vi (2 : Int32), vi (100 : Int32), vi pre, vi adv, vi ((XT.ushr p3 (3 : Int32)) &&& (3 : Int32)), vi (0 : Int32), vd (FP.i2d p0), ss, vr a1539, vd mv, ss, vd mt, ss, vi mr, vi tI, vi nI, vd (FP.i2d nI), ss, vd (FP.i2d nI), ss, vd (FP.i2d nI), ss, vd (FP.i2d nI), ss, vi (0 : Int32), vi (0 : Int32), vd (FP.i2d nI), ss, vi (0 : Int32), uu, uu, uu, uu, uu, uu] [(.double (own_nv (FP.i2d nI) (FP.i2d nI) sp (0 : Int32)))]) := fun tQ kk => k1845 tQ (st1856.trans kk)
      clear k1845 st1856
      have eq1875 : (own_nv (FP.i2d nI) (FP.i2d nI) sp (0 : Int32)) = (FP.i2d nI) := by rw [own_nv, if_neg (by decide)]
      have F1876 : fd3 Z T1846.heap a1539 (.double (FP.i2d nI)) := by rw [← eq1875]; exact g1867
      have eq1877 : (own_nr (0 : Int32)) = (0 : Int32) := by decide
      have F1878 : fd6 Z T1846.heap a1539 (.int (0 : Int32)) := by rw [← eq1877]; exact g1870
      have eq1879 : (own_nv (FP.i2d nI) (FP.i2d nI) sp (0 : Int32)) = (FP.i2d nI) := by rw [own_nv, if_neg (by decide)]
      rw [eq1879] at k1874
      have k1880 : own_G p e below E0 T1846 (mkF m 392 #[vi p0, vi p1, vi p2, vi p3, vi (2 : Int32), vi (100 : Int32), vi pre, vi adv, vi ((XT.ushr p3 (3 : Int32)) &&& (3 : Int32)), vi (0 : Int32), vd (FP.i2d p0), ss, vr a1539, vd mv, ss, vd mt, ss, vi mr, vi tI, vi nI, vd (FP.i2d nI), ss, vd (FP.i2d nI), ss, vd (FP.i2d nI), ss, vd (FP.i2d nI), ss, vi (0 : Int32), vi (0 : Int32), vd (FP.i2d nI), ss, vi (0 : Int32), vd (FP.i2d nI), ss, uu, uu, uu, uu] [(.ref a1539)]) := by
        intro tQ kk
        refine k1874 tQ ?_
        refine XS.dstore X1850.here hx rfl (hb hby at_388) rfl (l' := #[vi p0, vi p1, vi p2, vi p3, vi (2 : Int32), vi (100 : Int32), vi pre, vi adv, vi ((XT.ushr p3 (3 : Int32)) &&& (3 : Int32)), vi (0 : Int32), vd (FP.i2d p0), ss, vr a1539, vd mv, ss, vd mt, ss, vi mr, vi tI, vi nI, vd (FP.i2d nI), ss, vd (FP.i2d nI), ss, vd (FP.i2d nI), ss, vd (FP.i2d nI), ss, vi (0 : Int32), vi (0 : Int32), vd (FP.i2d nI), ss, vi (0 : Int32), vd (FP.i2d nI), ss, uu, uu, uu, uu]) rfl ?_
        refine XS.aload X1850.here hx rfl (hb hby at_390) rfl rfl ?_
        exact kk
      clear k1874
      obtain ⟨cq1892, kq1893, qa1894, qb1895, qc1896⟩ := isOf hZ rfl F1873
      obtain ⟨_, _, ⟨T1881, L1882, kc1883, nc1884⟩, -, X1885, ⟨Lc1886, hQ1887, l1888, y1889, z1890⟩, st1891⟩ := X1850.virtualBack hx (y := mn13) (z := mn13) hown (mvT hZ (tw44 hw)) (mvT hZ (tw45 hw)) (notFace_of_selects (args := #[]) (mvT hZ (tw47 hw))) (mvT hZ (tw47 hw)) (mvT hZ (tw46 hw)) (by decide) (backOf (W := 0) (rmMv l Z a0 hw [] a1539 (0 : Int32) T1846.heap n0 Z1872 F1878) hZ (tw48 hw) (tw2 hw) (by decide) (by decide)) qa1894 qc1896 (g := (mkF m 392 #[vi p0, vi p1, vi p2, vi p3, vi (2 : Int32), vi (100 : Int32), vi pre, vi adv, vi ((XT.ushr p3 (3 : Int32)) &&& (3 : Int32)), vi (0 : Int32), vd (FP.i2d p0), ss, vr a1539, vd mv, ss, vd mt, ss, vi mr, vi tI, vi nI, vd (FP.i2d nI), ss, vd (FP.i2d nI), ss, vd (FP.i2d nI), ss, vd (FP.i2d nI), ss, vi (0 : Int32), vi (0 : Int32), vd (FP.i2d nI), ss, vi (0 : Int32), vd (FP.i2d nI), ss, uu, uu, uu, uu] [(.ref a1539)])) rfl (by rw [hml]; rfl) (Steps.refl _) (argsL := []) (rest := []) (lenOf pd_18 rfl) rfl (by show 2 * 0 + _ ≤ _; exact Nat.le_of_eq rfl) (hb hby at_392) (fun _ _ => ⟨rfl, rfl, (by decide : 1 + 0 ≤ _), (by decide : 5 + 0 ≤ _)⟩)
      dsimp only [Pt.U, Pt.locs, Pt.cells, Pt.slots] at X1885 l1888 y1889 z1890 st1891 hQ1887
      subst y1889 z1890
      obtain ⟨rfl, N1897, e1898⟩ := hQ1887
      have N1900 : Fr n0 L1882 := by rw [l1888]; exact Fr.app N1871 N1897
      clear l1888 N1897
      have k1901 : own_G p e below E0 T1881 (mkF m 395 #[vi p0, vi p1, vi p2, vi p3, vi (2 : Int32), vi (100 : Int32), vi pre, vi adv, vi ((XT.ushr p3 (3 : Int32)) &&& (3 : Int32)), vi (0 : Int32), vd (FP.i2d p0), ss, vr a1539, vd mv, ss, vd mt, ss, vi mr, vi tI, vi nI, vd (FP.i2d nI), ss, vd (FP.i2d nI), ss, vd (FP.i2d nI), ss, vd (FP.i2d nI), ss, vi (0 : Int32), vi (0 : Int32), vd (FP.i2d nI), ss, vi (0 : Int32), vd (FP.i2d nI), ss, uu, uu, uu, uu] [(.int (own_mv (0 : Int32)))]) := fun tQ kk => k1880 tQ (st1891.trans kk)
      clear k1880 st1891
      have eq1902 : (own_mv (0 : Int32)) = (0 : Int32) := by decide
      rw [eq1902] at k1901
      have k1903 : own_G p e below E0 T1881 (mkF m 399 #[vi p0, vi p1, vi p2, vi p3, vi (2 : Int32), vi (100 : Int32), vi pre, vi adv, vi ((XT.ushr p3 (3 : Int32)) &&& (3 : Int32)), vi (0 : Int32), vd (FP.i2d p0), ss, vr a1539, vd mv, ss, vd mt, ss, vi mr, vi tI, vi nI, vd (FP.i2d nI), ss, vd (FP.i2d nI), ss, vd (FP.i2d nI), ss, vd (FP.i2d nI), ss, vi (0 : Int32), vi (0 : Int32), vd (FP.i2d nI), ss, vi (0 : Int32), vd (FP.i2d nI), ss, vi (0 : Int32), uu, uu, uu] [(.ref a1539)]) := by
        intro tQ kk
        refine k1901 tQ ?_
        refine XS.istore X1885.here hx rfl (hb hby at_395) rfl (l' := #[vi p0, vi p1, vi p2, vi p3, vi (2 : Int32), vi (100 : Int32), vi pre, vi adv, vi ((XT.ushr p3 (3 : Int32)) &&& (3 : Int32)), vi (0 : Int32), vd (FP.i2d p0), ss, vr a1539, vd mv, ss, vd mt, ss, vi mr, vi tI, vi nI, vd (FP.i2d nI), ss, vd (FP.i2d nI), ss, vd (FP.i2d nI), ss, vd (FP.i2d nI), ss, vi (0 : Int32), vi (0 : Int32), vd (FP.i2d nI), ss, vi (0 : Int32), vd (FP.i2d nI), ss, vi (0 : Int32), uu, uu, uu]) rfl ?_
        refine XS.aload X1885.here hx rfl (hb hby at_397) rfl rfl ?_
        exact kk
      clear k1901
      obtain ⟨cq1915, kq1916, qa1917, qb1918, qc1919⟩ := isOf hZ e1898 F1873
      obtain ⟨_, _, ⟨T1904, L1905, kc1906, nc1907⟩, -, X1908, ⟨Lc1909, hQ1910, l1911, y1912, z1913⟩, st1914⟩ := X1885.virtualBack hx (y := mn12) (z := mn12) hown (mvT hZ (tw49 hw)) (mvT hZ (tw50 hw)) (notFace_of_selects (args := #[]) (mvT hZ (tw52 hw))) (mvT hZ (tw52 hw)) (mvT hZ (tw51 hw)) (by decide) (backOf (W := 0) (rmN l Z a0 hw [] a1539 (2 : Int32) (FP.i2d nI) (FP.i2d nI) sp (0 : Int32) T1846.heap n0 Z1872 F1873 g1866 F1876 g1868 g1869 F1878 ge1541 (fun z => absurd z (by decide))) hZ (tw53 hw) (tw2 hw) (by decide) (by decide)) qa1917 qc1919 (g := (mkF m 399 #[vi p0, vi p1, vi p2, vi p3, vi (2 : Int32), vi (100 : Int32), vi pre, vi adv, vi ((XT.ushr p3 (3 : Int32)) &&& (3 : Int32)), vi (0 : Int32), vd (FP.i2d p0), ss, vr a1539, vd mv, ss, vd mt, ss, vi mr, vi tI, vi nI, vd (FP.i2d nI), ss, vd (FP.i2d nI), ss, vd (FP.i2d nI), ss, vd (FP.i2d nI), ss, vi (0 : Int32), vi (0 : Int32), vd (FP.i2d nI), ss, vi (0 : Int32), vd (FP.i2d nI), ss, vi (0 : Int32), uu, uu, uu] [(.ref a1539)])) rfl (by rw [hml]; rfl) (Steps.refl _) (argsL := []) (rest := []) (lenOf pd_16 rfl) rfl (by show 2 * 0 + _ ≤ _; exact Nat.le_of_eq rfl) (hb hby at_399) (fun _ _ => ⟨rfl, e1898, (by decide : 1 + 0 ≤ _), (by decide : 5 + 0 ≤ _)⟩)
      dsimp only [Pt.U, Pt.locs, Pt.cells, Pt.slots] at X1908 l1911 y1912 z1913 st1914 hQ1910
      subst y1912 z1913
      obtain ⟨rfl, N1920, K1923, g1924, g1925, g1926, g1927, g1928⟩ := hQ1910
      have N1929 : Fr n0 L1905 := by rw [l1911]; exact Fr.app N1900 N1920
      clear l1911 N1920
      have Z1930 : n0 ≤ T1904.heap.size := Nat.le_trans Z1872 K1923.1
      clear Z1872
      have F1931 : xa7 Z T1904.heap a1539 := F1873.keep K1923
      clear F1873
      clear g1866
      clear F1876
      clear g1868
      clear g1869
      clear F1878
      have k1932 : own_G p e below E0 T1904 (mkF m 402 #[vi p0, vi p1, vi p2, vi p3, vi (2 : Int32), vi (100 : Int32), vi pre, vi adv, vi ((XT.ushr p3 (3 : Int32)) &&& (3 : Int32)), vi (0 : Int32), vd (FP.i2d p0), ss, vr a1539, vd mv, ss, vd mt, ss, vi mr, vi tI, vi nI, vd (FP.i2d nI), ss, vd (FP.i2d nI), ss, vd (FP.i2d nI), ss, vd (FP.i2d nI), ss, vi (0 : Int32), vi (0 : Int32), vd (FP.i2d nI), ss, vi (0 : Int32), vd (FP.i2d nI), ss, vi (0 : Int32), uu, uu, uu] [(.double (own_nv (FP.i2d nI) (FP.i2d nI) sp (0 : Int32)))]) := fun tQ kk => k1903 tQ (st1914.trans kk)
      clear k1903 st1914
      have eq1933 : (own_nv (FP.i2d nI) (FP.i2d nI) sp (0 : Int32)) = (FP.i2d nI) := by rw [own_nv, if_neg (by decide)]
      have F1934 : fd3 Z T1904.heap a1539 (.double (FP.i2d nI)) := by rw [← eq1933]; exact g1925
      have eq1935 : (own_nr (0 : Int32)) = (0 : Int32) := by decide
      have F1936 : fd6 Z T1904.heap a1539 (.int (0 : Int32)) := by rw [← eq1935]; exact g1928
      have eq1937 : (own_nv (FP.i2d nI) (FP.i2d nI) sp (0 : Int32)) = (FP.i2d nI) := by rw [own_nv, if_neg (by decide)]
      rw [eq1937] at k1932
      have k1938 : own_G p e below E0 T1904 (mkF m 406 #[vi p0, vi p1, vi p2, vi p3, vi (2 : Int32), vi (100 : Int32), vi pre, vi adv, vi ((XT.ushr p3 (3 : Int32)) &&& (3 : Int32)), vi (0 : Int32), vd (FP.i2d p0), ss, vr a1539, vd mv, ss, vd mt, ss, vi mr, vi tI, vi nI, vd (FP.i2d nI), ss, vd (FP.i2d nI), ss, vd (FP.i2d nI), ss, vd (FP.i2d nI), ss, vi (0 : Int32), vi (0 : Int32), vd (FP.i2d nI), ss, vi (0 : Int32), vd (FP.i2d nI), ss, vi (0 : Int32), vd (FP.i2d nI), ss, uu] [(.ref a1539)]) := by
        intro tQ kk
        refine k1932 tQ ?_
        refine XS.dstore X1908.here hx rfl (hb hby at_402) rfl (l' := #[vi p0, vi p1, vi p2, vi p3, vi (2 : Int32), vi (100 : Int32), vi pre, vi adv, vi ((XT.ushr p3 (3 : Int32)) &&& (3 : Int32)), vi (0 : Int32), vd (FP.i2d p0), ss, vr a1539, vd mv, ss, vd mt, ss, vi mr, vi tI, vi nI, vd (FP.i2d nI), ss, vd (FP.i2d nI), ss, vd (FP.i2d nI), ss, vd (FP.i2d nI), ss, vi (0 : Int32), vi (0 : Int32), vd (FP.i2d nI), ss, vi (0 : Int32), vd (FP.i2d nI), ss, vi (0 : Int32), vd (FP.i2d nI), ss, uu]) rfl ?_
        refine XS.aload X1908.here hx rfl (hb hby at_404) rfl rfl ?_
        exact kk
      clear k1932
      obtain ⟨cq1950, kq1951, qa1952, qb1953, qc1954⟩ := isOf hZ rfl F1931
      obtain ⟨_, _, ⟨T1939, L1940, kc1941, nc1942⟩, -, X1943, ⟨Lc1944, hQ1945, l1946, y1947, z1948⟩, st1949⟩ := X1908.virtualBack hx (y := mn13) (z := mn13) hown (mvT hZ (tw44 hw)) (mvT hZ (tw45 hw)) (notFace_of_selects (args := #[]) (mvT hZ (tw47 hw))) (mvT hZ (tw47 hw)) (mvT hZ (tw46 hw)) (by decide) (backOf (W := 0) (rmMv l Z a0 hw [] a1539 (0 : Int32) T1904.heap n0 Z1930 F1936) hZ (tw48 hw) (tw2 hw) (by decide) (by decide)) qa1952 qc1954 (g := (mkF m 406 #[vi p0, vi p1, vi p2, vi p3, vi (2 : Int32), vi (100 : Int32), vi pre, vi adv, vi ((XT.ushr p3 (3 : Int32)) &&& (3 : Int32)), vi (0 : Int32), vd (FP.i2d p0), ss, vr a1539, vd mv, ss, vd mt, ss, vi mr, vi tI, vi nI, vd (FP.i2d nI), ss, vd (FP.i2d nI), ss, vd (FP.i2d nI), ss, vd (FP.i2d nI), ss, vi (0 : Int32), vi (0 : Int32), vd (FP.i2d nI), ss, vi (0 : Int32), vd (FP.i2d nI), ss, vi (0 : Int32), vd (FP.i2d nI), ss, uu] [(.ref a1539)])) rfl (by rw [hml]; rfl) (Steps.refl _) (argsL := []) (rest := []) (lenOf pd_18 rfl) rfl (by show 2 * 0 + _ ≤ _; exact Nat.le_of_eq rfl) (hb hby at_406) (fun _ _ => ⟨rfl, rfl, (by decide : 1 + 0 ≤ _), (by decide : 5 + 0 ≤ _)⟩)
      dsimp only [Pt.U, Pt.locs, Pt.cells, Pt.slots] at X1943 l1946 y1947 z1948 st1949 hQ1945
      subst y1947 z1948
      obtain ⟨rfl, N1955, e1956⟩ := hQ1945
      have N1958 : Fr n0 L1940 := by rw [l1946]; exact Fr.app N1929 N1955
      clear l1946 N1955
      have k1959 : own_G p e below E0 T1939 (mkF m 409 #[vi p0, vi p1, vi p2, vi p3, vi (2 : Int32), vi (100 : Int32), vi pre, vi adv, vi ((XT.ushr p3 (3 : Int32)) &&& (3 : Int32)), vi (0 : Int32), vd (FP.i2d p0), ss, vr a1539, vd mv, ss, vd mt, ss, vi mr, vi tI, vi nI, vd (FP.i2d nI), ss, vd (FP.i2d nI), ss, vd (FP.i2d nI), ss, vd (FP.i2d nI), ss, vi (0 : Int32), vi (0 : Int32), vd (FP.i2d nI), ss, vi (0 : Int32), vd (FP.i2d nI), ss, vi (0 : Int32), vd (FP.i2d nI), ss, uu] [(.int (own_mv (0 : Int32)))]) := fun tQ kk => k1938 tQ (st1949.trans kk)
      clear k1938 st1949
      have eq1960 : (own_mv (0 : Int32)) = (0 : Int32) := by decide
      rw [eq1960] at k1959
      have k1961 : own_G p e below E0 T1939 (mkF m 459 #[vi p0, vi p1, vi p2, vi p3, vi (2 : Int32), vi (100 : Int32), vi pre, vi adv, vi ((XT.ushr p3 (3 : Int32)) &&& (3 : Int32)), vi (0 : Int32), vd (FP.i2d p0), ss, vr a1539, vd mv, ss, vd mt, ss, vi mr, vi tI, vi nI, vd (FP.i2d nI), ss, vd (FP.i2d nI), ss, vd (FP.i2d nI), ss, vd (FP.i2d nI), ss, vi (0 : Int32), vi (0 : Int32), vd (FP.i2d nI), ss, vi (0 : Int32), vd (FP.i2d nI), ss, vi (0 : Int32), vd (FP.i2d nI), ss, vi (0 : Int32)] [(.int (1 : Int32))]) := by
        intro tQ kk
        refine k1959 tQ ?_
        refine XS.istore X1943.here hx rfl (hb hby at_409) rfl (l' := #[vi p0, vi p1, vi p2, vi p3, vi (2 : Int32), vi (100 : Int32), vi pre, vi adv, vi ((XT.ushr p3 (3 : Int32)) &&& (3 : Int32)), vi (0 : Int32), vd (FP.i2d p0), ss, vr a1539, vd mv, ss, vd mt, ss, vi mr, vi tI, vi nI, vd (FP.i2d nI), ss, vd (FP.i2d nI), ss, vd (FP.i2d nI), ss, vd (FP.i2d nI), ss, vi (0 : Int32), vi (0 : Int32), vd (FP.i2d nI), ss, vi (0 : Int32), vd (FP.i2d nI), ss, vi (0 : Int32), vd (FP.i2d nI), ss, vi (0 : Int32)]) rfl ?_
        refine XS.dload X1943.here hx rfl (hb hby at_411) rfl ?_
        refine XS.dload X1943.here hx rfl (hb hby at_413) rfl ?_
        refine XS.dcmpS (v := (0 : Int32)) X1943.here hx rfl (hb hby at_415) rfl (dcmpV_self (Fl.i2d_fin nI).noNaN .l) ?_
        show Steps p.tables e below (T1939.setTop (mkF m 416 #[vi p0, vi p1, vi p2, vi p3, vi (2 : Int32), vi (100 : Int32), vi pre, vi adv, vi ((XT.ushr p3 (3 : Int32)) &&& (3 : Int32)), vi (0 : Int32), vd (FP.i2d p0), ss, vr a1539, vd mv, ss, vd mt, ss, vi mr, vi tI, vi nI, vd (FP.i2d nI), ss, vd (FP.i2d nI), ss, vd (FP.i2d nI), ss, vd (FP.i2d nI), ss, vi (0 : Int32), vi (0 : Int32), vd (FP.i2d nI), ss, vi (0 : Int32), vd (FP.i2d nI), ss, vi (0 : Int32), vd (FP.i2d nI), ss, vi (0 : Int32)] [(.int (0 : Int32))])) tQ
        refine XS.ifNo X1943.here hx rfl (hb hby at_416) rfl (own_if_neN (by decide)) ?_
        refine XS.iload X1943.here hx rfl (hb hby at_419) rfl ?_
        refine XS.iload X1943.here hx rfl (hb hby at_421) rfl ?_
        refine XS.icmpNo X1943.here hx rfl (hb hby at_423) rfl (own_ic_neN (by decide)) ?_
        show Steps p.tables e below (T1939.setTop (mkF m 426 #[vi p0, vi p1, vi p2, vi p3, vi (2 : Int32), vi (100 : Int32), vi pre, vi adv, vi ((XT.ushr p3 (3 : Int32)) &&& (3 : Int32)), vi (0 : Int32), vd (FP.i2d p0), ss, vr a1539, vd mv, ss, vd mt, ss, vi mr, vi tI, vi nI, vd (FP.i2d nI), ss, vd (FP.i2d nI), ss, vd (FP.i2d nI), ss, vd (FP.i2d nI), ss, vi (0 : Int32), vi (0 : Int32), vd (FP.i2d nI), ss, vi (0 : Int32), vd (FP.i2d nI), ss, vi (0 : Int32), vd (FP.i2d nI), ss, vi (0 : Int32)] [])) tQ
        refine XS.dload X1943.here hx rfl (hb hby at_426) rfl ?_
        refine XS.dload X1943.here hx rfl (hb hby at_428) rfl ?_
        refine XS.dcmpS (v := (0 : Int32)) X1943.here hx rfl (hb hby at_430) rfl (dcmpV_self (Fl.i2d_fin nI).noNaN .l) ?_
        refine XS.ifNo X1943.here hx rfl (hb hby at_431) rfl (own_if_neN (by decide)) ?_
        show Steps p.tables e below (T1939.setTop (mkF m 434 #[vi p0, vi p1, vi p2, vi p3, vi (2 : Int32), vi (100 : Int32), vi pre, vi adv, vi ((XT.ushr p3 (3 : Int32)) &&& (3 : Int32)), vi (0 : Int32), vd (FP.i2d p0), ss, vr a1539, vd mv, ss, vd mt, ss, vi mr, vi tI, vi nI, vd (FP.i2d nI), ss, vd (FP.i2d nI), ss, vd (FP.i2d nI), ss, vd (FP.i2d nI), ss, vi (0 : Int32), vi (0 : Int32), vd (FP.i2d nI), ss, vi (0 : Int32), vd (FP.i2d nI), ss, vi (0 : Int32), vd (FP.i2d nI), ss, vi (0 : Int32)] [])) tQ
        refine XS.iload X1943.here hx rfl (hb hby at_434) rfl ?_
        refine XS.iload X1943.here hx rfl (hb hby at_436) rfl ?_
        refine XS.icmpNo X1943.here hx rfl (hb hby at_438) rfl (own_ic_neN (by decide)) ?_
        refine XS.dload X1943.here hx rfl (hb hby at_441) rfl ?_
        show Steps p.tables e below (T1939.setTop (mkF m 443 #[vi p0, vi p1, vi p2, vi p3, vi (2 : Int32), vi (100 : Int32), vi pre, vi adv, vi ((XT.ushr p3 (3 : Int32)) &&& (3 : Int32)), vi (0 : Int32), vd (FP.i2d p0), ss, vr a1539, vd mv, ss, vd mt, ss, vi mr, vi tI, vi nI, vd (FP.i2d nI), ss, vd (FP.i2d nI), ss, vd (FP.i2d nI), ss, vd (FP.i2d nI), ss, vi (0 : Int32), vi (0 : Int32), vd (FP.i2d nI), ss, vi (0 : Int32), vd (FP.i2d nI), ss, vi (0 : Int32), vd (FP.i2d nI), ss, vi (0 : Int32)] [(.double (FP.i2d nI))])) tQ
        refine XS.dload X1943.here hx rfl (hb hby at_443) rfl ?_
        refine XS.dcmpS (v := (0 : Int32)) X1943.here hx rfl (hb hby at_445) rfl (dcmpV_self (Fl.i2d_fin nI).noNaN .l) ?_
        refine XS.ifNo X1943.here hx rfl (hb hby at_446) rfl (own_if_neN (by decide)) ?_
        refine XS.iload X1943.here hx rfl (hb hby at_449) rfl ?_
        show Steps p.tables e below (T1939.setTop (mkF m 451 #[vi p0, vi p1, vi p2, vi p3, vi (2 : Int32), vi (100 : Int32), vi pre, vi adv, vi ((XT.ushr p3 (3 : Int32)) &&& (3 : Int32)), vi (0 : Int32), vd (FP.i2d p0), ss, vr a1539, vd mv, ss, vd mt, ss, vi mr, vi tI, vi nI, vd (FP.i2d nI), ss, vd (FP.i2d nI), ss, vd (FP.i2d nI), ss, vd (FP.i2d nI), ss, vi (0 : Int32), vi (0 : Int32), vd (FP.i2d nI), ss, vi (0 : Int32), vd (FP.i2d nI), ss, vi (0 : Int32), vd (FP.i2d nI), ss, vi (0 : Int32)] [(.int (0 : Int32))])) tQ
        refine XS.ifNo X1943.here hx rfl (hb hby at_451) rfl (own_if_neN (by decide)) ?_
        refine XS.iconst X1943.here hx rfl (hb hby at_454) ?_
        refine XS.goto X1943.here hx rfl (pc0 := 455) (pc' := 459) rfl (hb hby at_455) (by decide) (by decide) ?_
        exact kk
      clear k1959
      obtain ⟨fs, hr, hrun, hended, hW, hsame⟩ := X1943.leave (v := some (.int (1 : Int32))) (fun h => by rw [Bd.returns] at h; cases h)
      have hrun0 := k1961 _ (retOut X1943 hx Bd.returns (t := .boolean) rfl (Or.inl ⟨rfl, Or.inr (Or.inl rfl), _, rfl⟩) (hb hby at_459) hr)
      subst hE0
      refine ⟨_, _, hrun0, hrun, hended, _, _, rfl, ?_, ⟨_, rfl⟩, hW, hsame.mono (by decide) (by decide)⟩
      show Qrm0 Z p0 p1 p2 p3 h0 n0 _ T1939.heap _
      rw [e1956]
      exact ⟨rfl, N1958⟩
    · skip
      have k1962 : own_G p e below E0 T1743 (mkF m 237 #[vi p0, vi p1, vi p2, vi p3, vi (2 : Int32), vi (100 : Int32), vi pre, vi adv, vi ((XT.ushr p3 (3 : Int32)) &&& (3 : Int32)), vi (1 : Int32), vd (FP.i2d p0), ss, vr a1539, vd mv, ss, vd mt, ss, vi mr, vi tI, vi nI, vd (FP.i2d nI), ss, uu, uu, uu, uu, uu, uu, uu, uu, uu, uu, uu, uu, uu, uu, uu, uu, uu] [(.int (own_c (own_z (FP.i2d nI)) (own_z mt)))]) := by
        intro tQ kk
        refine k1769 tQ ?_
        refine XS.iload X1744.here hx rfl (hb hby at_206) rfl ?_
        refine XS.ifYes X1744.here hx rfl (pc0 := 208) (pc' := 232) rfl (hb hby at_208) rfl (own_if_neY (by decide)) (by decide) (by decide) ?_
        refine XS.dload X1744.here hx rfl (hb hby at_232) rfl ?_
        refine XS.dload X1744.here hx rfl (hb hby at_234) rfl ?_
        show Steps p.tables e below (T1743.setTop (mkF m 236 #[vi p0, vi p1, vi p2, vi p3, vi (2 : Int32), vi (100 : Int32), vi pre, vi adv, vi ((XT.ushr p3 (3 : Int32)) &&& (3 : Int32)), vi (1 : Int32), vd (FP.i2d p0), ss, vr a1539, vd mv, ss, vd mt, ss, vi mr, vi tI, vi nI, vd (FP.i2d nI), ss, uu, uu, uu, uu, uu, uu, uu, uu, uu, uu, uu, uu, uu, uu, uu, uu, uu] [(.double mt), (.double (FP.i2d nI))])) tQ
        refine XS.dcmpS (v := (own_c (own_z (FP.i2d nI)) (own_z mt))) X1744.here hx rfl (hb hby at_236) rfl (own_cE .l (own_cmpz (Fl.i2d_fin nI).noNaN nmt)) ?_
        exact kk
      clear k1769
      by_cases cE : (own_z (FP.i2d nI)) = (own_z mt)
      · skip
        have k1964 : own_G p e below E0 T1743 (mkF m 284 #[vi p0, vi p1, vi p2, vi p3, vi (2 : Int32), vi (100 : Int32), vi pre, vi adv, vi ((XT.ushr p3 (3 : Int32)) &&& (3 : Int32)), vi (1 : Int32), vd (FP.i2d p0), ss, vr a1539, vd mv, ss, vd mt, ss, vi mr, vi tI, vi nI, vd (FP.i2d nI), ss, uu, uu, uu, uu, uu, uu, uu, uu, uu, uu, uu, uu, uu, uu, uu, uu, uu] []) := by
          intro tQ kk
          refine k1962 tQ ?_
          refine XS.ifYes X1744.here hx rfl (pc0 := 237) (pc' := 284) rfl (hb hby at_237) rfl (own_c_eqY cE) (by decide) (by decide) ?_
          exact kk
        clear k1962
        rcases hmr with rfl | ⟨rfl, hsp⟩ | ⟨rfl, hF2, hsp⟩
        · skip
          have k1965 : own_G p e below E0 T1743 (mkF m 366 #[vi p0, vi p1, vi p2, vi p3, vi (2 : Int32), vi (100 : Int32), vi pre, vi adv, vi ((XT.ushr p3 (3 : Int32)) &&& (3 : Int32)), vi (1 : Int32), vd (FP.i2d p0), ss, vr a1539, vd mv, ss, vd mt, ss, vi (0 : Int32), vi tI, vi nI, vd (FP.i2d nI), ss, vd mv, ss, vd mv, ss, vd mv, ss, vi (0 : Int32), vi (0 : Int32), uu, uu, uu, uu, uu, uu, uu, uu, uu] [(.int (1 : Int32)), (.double (FP.i2d nI)), (.ref a1539)]) := by
            intro tQ kk
            refine k1964 tQ ?_
            refine XS.dload X1744.here hx rfl (hb hby at_284) rfl ?_
            refine XS.dstore X1744.here hx rfl (hb hby at_286) rfl (l' := #[vi p0, vi p1, vi p2, vi p3, vi (2 : Int32), vi (100 : Int32), vi pre, vi adv, vi ((XT.ushr p3 (3 : Int32)) &&& (3 : Int32)), vi (1 : Int32), vd (FP.i2d p0), ss, vr a1539, vd mv, ss, vd mt, ss, vi (0 : Int32), vi tI, vi nI, vd (FP.i2d nI), ss, vd mv, ss, uu, uu, uu, uu, uu, uu, uu, uu, uu, uu, uu, uu, uu, uu, uu]) rfl ?_
            refine XS.iload X1744.here hx rfl (hb hby at_288) rfl ?_
            refine XS.ifYes X1744.here hx rfl (pc0 := 290) (pc' := 297) rfl (hb hby at_290) rfl (own_if_leY (by decide)) (by decide) (by decide) ?_
            show Steps p.tables e below (T1743.setTop (mkF m 297 #[vi p0, vi p1, vi p2, vi p3, vi (2 : Int32), vi (100 : Int32), vi pre, vi adv, vi ((XT.ushr p3 (3 : Int32)) &&& (3 : Int32)), vi (1 : Int32), vd (FP.i2d p0), ss, vr a1539, vd mv, ss, vd mt, ss, vi (0 : Int32), vi tI, vi nI, vd (FP.i2d nI), ss, vd mv, ss, uu, uu, uu, uu, uu, uu, uu, uu, uu, uu, uu, uu, uu, uu, uu] [])) tQ
            refine XS.iconst X1744.here hx rfl (hb hby at_297) ?_
            refine XS.istore X1744.here hx rfl (hb hby at_298) rfl (l' := #[vi p0, vi p1, vi p2, vi p3, vi (2 : Int32), vi (100 : Int32), vi pre, vi adv, vi ((XT.ushr p3 (3 : Int32)) &&& (3 : Int32)), vi (1 : Int32), vd (FP.i2d p0), ss, vr a1539, vd mv, ss, vd mt, ss, vi (0 : Int32), vi tI, vi nI, vd (FP.i2d nI), ss, vd mv, ss, uu, uu, uu, uu, vi (0 : Int32), uu, uu, uu, uu, uu, uu, uu, uu, uu, uu]) rfl ?_
            refine XS.iload X1744.here hx rfl (hb hby at_300) rfl ?_
            refine XS.iconst X1744.here hx rfl (hb hby at_302) ?_
            show Steps p.tables e below (T1743.setTop (mkF m 303 #[vi p0, vi p1, vi p2, vi p3, vi (2 : Int32), vi (100 : Int32), vi pre, vi adv, vi ((XT.ushr p3 (3 : Int32)) &&& (3 : Int32)), vi (1 : Int32), vd (FP.i2d p0), ss, vr a1539, vd mv, ss, vd mt, ss, vi (0 : Int32), vi tI, vi nI, vd (FP.i2d nI), ss, vd mv, ss, uu, uu, uu, uu, vi (0 : Int32), uu, uu, uu, uu, uu, uu, uu, uu, uu, uu] [(.int (2 : Int32)), (.int (0 : Int32))])) tQ
            refine XS.icmpYes X1744.here hx rfl (pc0 := 303) (pc' := 323) rfl (hb hby at_303) rfl (own_ic_neY (by decide)) (by decide) (by decide) ?_
            refine XS.iload X1744.here hx rfl (hb hby at_323) rfl ?_
            refine XS.iconst X1744.here hx rfl (hb hby at_325) ?_
            refine XS.icmpYes X1744.here hx rfl (pc0 := 326) (pc' := 339) rfl (hb hby at_326) rfl (own_ic_neY (by decide)) (by decide) (by decide) ?_
            show Steps p.tables e below (T1743.setTop (mkF m 339 #[vi p0, vi p1, vi p2, vi p3, vi (2 : Int32), vi (100 : Int32), vi pre, vi adv, vi ((XT.ushr p3 (3 : Int32)) &&& (3 : Int32)), vi (1 : Int32), vd (FP.i2d p0), ss, vr a1539, vd mv, ss, vd mt, ss, vi (0 : Int32), vi tI, vi nI, vd (FP.i2d nI), ss, vd mv, ss, uu, uu, uu, uu, vi (0 : Int32), uu, uu, uu, uu, uu, uu, uu, uu, uu, uu] [])) tQ
            refine XS.dload X1744.here hx rfl (hb hby at_339) rfl ?_
            refine XS.dstore X1744.here hx rfl (hb hby at_341) rfl (l' := #[vi p0, vi p1, vi p2, vi p3, vi (2 : Int32), vi (100 : Int32), vi pre, vi adv, vi ((XT.ushr p3 (3 : Int32)) &&& (3 : Int32)), vi (1 : Int32), vd (FP.i2d p0), ss, vr a1539, vd mv, ss, vd mt, ss, vi (0 : Int32), vi tI, vi nI, vd (FP.i2d nI), ss, vd mv, ss, vd mv, ss, uu, uu, vi (0 : Int32), uu, uu, uu, uu, uu, uu, uu, uu, uu, uu]) rfl ?_
            refine XS.iconst X1744.here hx rfl (hb hby at_343) ?_
            refine XS.istore X1744.here hx rfl (hb hby at_344) rfl (l' := #[vi p0, vi p1, vi p2, vi p3, vi (2 : Int32), vi (100 : Int32), vi pre, vi adv, vi ((XT.ushr p3 (3 : Int32)) &&& (3 : Int32)), vi (1 : Int32), vd (FP.i2d p0), ss, vr a1539, vd mv, ss, vd mt, ss, vi (0 : Int32), vi tI, vi nI, vd (FP.i2d nI), ss, vd mv, ss, vd mv, ss, uu, uu, vi (0 : Int32), vi (0 : Int32), uu, uu, uu, uu, uu, uu, uu, uu, uu]) rfl ?_
            show Steps p.tables e below (T1743.setTop (mkF m 346 #[vi p0, vi p1, vi p2, vi p3, vi (2 : Int32), vi (100 : Int32), vi pre, vi adv, vi ((XT.ushr p3 (3 : Int32)) &&& (3 : Int32)), vi (1 : Int32), vd (FP.i2d p0), ss, vr a1539, vd mv, ss, vd mt, ss, vi (0 : Int32), vi tI, vi nI, vd (FP.i2d nI), ss, vd mv, ss, vd mv, ss, uu, uu, vi (0 : Int32), vi (0 : Int32), uu, uu, uu, uu, uu, uu, uu, uu, uu] [])) tQ
            refine XS.iload X1744.here hx rfl (hb hby at_346) rfl ?_
            refine XS.ifYes X1744.here hx rfl (pc0 := 348) (pc' := 356) rfl (hb hby at_348) rfl (own_if_leY (by decide)) (by decide) (by decide) ?_
            refine XS.dload X1744.here hx rfl (hb hby at_356) rfl ?_
            refine XS.dstore X1744.here hx rfl (hb hby at_358) rfl (l' := #[vi p0, vi p1, vi p2, vi p3, vi (2 : Int32), vi (100 : Int32), vi pre, vi adv, vi ((XT.ushr p3 (3 : Int32)) &&& (3 : Int32)), vi (1 : Int32), vd (FP.i2d p0), ss, vr a1539, vd mv, ss, vd mt, ss, vi (0 : Int32), vi tI, vi nI, vd (FP.i2d nI), ss, vd mv, ss, vd mv, ss, vd mv, ss, vi (0 : Int32), vi (0 : Int32), uu, uu, uu, uu, uu, uu, uu, uu, uu]) rfl ?_
            show Steps p.tables e below (T1743.setTop (mkF m 360 #[vi p0, vi p1, vi p2, vi p3, vi (2 : Int32), vi (100 : Int32), vi pre, vi adv, vi ((XT.ushr p3 (3 : Int32)) &&& (3 : Int32)), vi (1 : Int32), vd (FP.i2d p0), ss, vr a1539, vd mv, ss, vd mt, ss, vi (0 : Int32), vi tI, vi nI, vd (FP.i2d nI), ss, vd mv, ss, vd mv, ss, vd mv, ss, vi (0 : Int32), vi (0 : Int32), uu, uu, uu, uu, uu, uu, uu, uu, uu] [])) tQ
            refine XS.aload X1744.here hx rfl (hb hby at_360) rfl rfl ?_
            refine XS.dload X1744.here hx rfl (hb hby at_362) rfl ?_
            refine XS.iload X1744.here hx rfl (hb hby at_364) rfl ?_
            exact kk
          clear k1964
          obtain ⟨cq1977, kq1978, qa1979, qb1980, qc1981⟩ := isOf hZ e1745 F1750
          obtain ⟨_, _, ⟨T1966, L1967, kc1968, nc1969⟩, -, X1970, ⟨Lc1971, hQ1972, l1973, y1974, z1975⟩, st1976⟩ := X1744.virtualBack hx (y := mn11) (z := mn11) hown (mvT hZ (tw32 hw)) (mvT hZ (tw33 hw)) (notFace_of_selects (args := #[]) (mvT hZ (tw35 hw))) (mvT hZ (tw35 hw)) (mvT hZ (tw34 hw)) (by decide) (backOf (W := 0) (rmS1 l Z a0 hw [] a1539 (FP.i2d nI) (2 : Int32) vl mt sp (0 : Int32) h1746 n0 Z1748 F1750 F1751 F1752 F1753 F1754 F1755 ge1541 (Fl.i2d_fin nI).noNaN nmt (fun _ => ⟨Fl.dsub_out (Fl.i2d_fin nI).noNaN hvl.1, (own_fspN nI (F := (2 : Int32)) bW hvl (by decide)).noNaN⟩)) hZ (tw36 hw) (tw2 hw) (by decide) (by decide)) qa1979 qc1981 (g := (mkF m 366 #[vi p0, vi p1, vi p2, vi p3, vi (2 : Int32), vi (100 : Int32), vi pre, vi adv, vi ((XT.ushr p3 (3 : Int32)) &&& (3 : Int32)), vi (1 : Int32), vd (FP.i2d p0), ss, vr a1539, vd mv, ss, vd mt, ss, vi (0 : Int32), vi tI, vi nI, vd (FP.i2d nI), ss, vd mv, ss, vd mv, ss, vd mv, ss, vi (0 : Int32), vi (0 : Int32), uu, uu, uu, uu, uu, uu, uu, uu, uu] [(.int (1 : Int32)), (.double (FP.i2d nI)), (.ref a1539)])) rfl (by rw [hml]; rfl) (Steps.refl _) (argsL := [(.double (FP.i2d nI)), (.int (1 : Int32))]) (rest := []) (lenOf pd_17 rfl) rfl (by show 2 * 0 + _ ≤ _; exact Nat.le_of_eq rfl) (hb hby at_366) (fun _ _ => ⟨rfl, e1745, (by decide : 1 + 0 ≤ _), (by decide : 5 + 0 ≤ _)⟩)
          dsimp only [Pt.U, Pt.locs, Pt.cells, Pt.slots] at X1970 l1973 y1974 z1975 st1976 hQ1972
          subst y1974 z1975
          obtain ⟨rfl, N1982, K1985, g1986, g1987, g1988, g1989, g1990⟩ := hQ1972
          have N1991 : Fr n0 L1967 := by rw [l1973]; exact Fr.app N1747 N1982
          clear l1973 N1982
          have Z1992 : n0 ≤ T1966.heap.size := Nat.le_trans Z1748 K1985.1
          clear Z1748
          have F1993 : xa7 Z T1966.heap a1539 := F1750.keep K1985
          clear F1750
          clear F1751
          clear F1752
          clear F1753
          clear F1754
          clear F1755
          have k1994 : own_G p e below E0 T1966 (mkF m 369 #[vi p0, vi p1, vi p2, vi p3, vi (2 : Int32), vi (100 : Int32), vi pre, vi adv, vi ((XT.ushr p3 (3 : Int32)) &&& (3 : Int32)), vi (1 : Int32), vd (FP.i2d p0), ss, vr a1539, vd mv, ss, vd mt, ss, vi (0 : Int32), vi tI, vi nI, vd (FP.i2d nI), ss, vd mv, ss, vd mv, ss, vd mv, ss, vi (0 : Int32), vi (0 : Int32), uu, uu, uu, uu, uu, uu, uu, uu, uu] []) := fun tQ kk => k1965 tQ (st1976.trans kk)
          clear k1965 st1976
          have eq1995 : (own_tg (FP.i2d nI) mt) = mt := by rw [own_tg, if_pos cE]
          have F1996 : fd4 Z T1966.heap a1539 (.double mt) := by rw [← eq1995]; exact g1988
          have eq1997 : (own_sp (FP.i2d nI) vl mt sp (2 : Int32)) = sp := by rw [own_sp, if_pos cE]
          have F1998 : fd5 Z T1966.heap a1539 (.double sp) := by rw [← eq1997]; exact g1989
          have eq1999 : (own_rm (FP.i2d nI) mt (0 : Int32) (2 : Int32)) = (0 : Int32) := by rw [own_rm, if_pos cE]
          have F2000 : fd6 Z T1966.heap a1539 (.int (0 : Int32)) := by rw [← eq1999]; exact g1990
          have k2001 : own_G p e below E0 T1966 (mkF m 371 #[vi p0, vi p1, vi p2, vi p3, vi (2 : Int32), vi (100 : Int32), vi pre, vi adv, vi ((XT.ushr p3 (3 : Int32)) &&& (3 : Int32)), vi (1 : Int32), vd (FP.i2d p0), ss, vr a1539, vd mv, ss, vd mt, ss, vi (0 : Int32), vi tI, vi nI, vd (FP.i2d nI), ss, vd mv, ss, vd mv, ss, vd mv, ss, vi (0 : Int32), vi (0 : Int32), uu, uu, uu, uu, uu, uu, uu, uu, uu] [(.ref a1539)]) := by
            intro tQ kk
            refine k1994 tQ ?_
            refine XS.aload X1970.here hx rfl (hb hby at_369) rfl rfl ?_
            exact kk
          clear k1994
          obtain ⟨cq2013, kq2014, qa2015, qb2016, qc2017⟩ := isOf hZ rfl F1993
          obtain ⟨_, _, ⟨T2002, L2003, kc2004, nc2005⟩, -, X2006, ⟨Lc2007, hQ2008, l2009, y2010, z2011⟩, st2012⟩ := X1970.virtualBack hx (y := mn14) (z := mn14) hown (mvT hZ (tw39 hw)) (mvT hZ (tw40 hw)) (notFace_of_selects (args := #[]) (mvT hZ (tw42 hw))) (mvT hZ (tw42 hw)) (mvT hZ (tw41 hw)) (by decide) (backOf (W := 0) (rmVl l Z a0 hw [] a1539 vl T1966.heap n0 Z1992 g1987) hZ (tw43 hw) (tw2 hw) (by decide) (by decide)) qa2015 qc2017 (g := (mkF m 371 #[vi p0, vi p1, vi p2, vi p3, vi (2 : Int32), vi (100 : Int32), vi pre, vi adv, vi ((XT.ushr p3 (3 : Int32)) &&& (3 : Int32)), vi (1 : Int32), vd (FP.i2d p0), ss, vr a1539, vd mv, ss, vd mt, ss, vi (0 : Int32), vi tI, vi nI, vd (FP.i2d nI), ss, vd mv, ss, vd mv, ss, vd mv, ss, vi (0 : Int32), vi (0 : Int32), uu, uu, uu, uu, uu, uu, uu, uu, uu] [(.ref a1539)])) rfl (by rw [hml]; rfl) (Steps.refl _) (argsL := []) (rest := []) (lenOf pd_16 rfl) rfl (by show 2 * 0 + _ ≤ _; exact Nat.le_of_eq rfl) (hb hby at_371) (fun _ _ => ⟨rfl, rfl, (by decide : 1 + 0 ≤ _), (by decide : 5 + 0 ≤ _)⟩)
          dsimp only [Pt.U, Pt.locs, Pt.cells, Pt.slots] at X2006 l2009 y2010 z2011 st2012 hQ2008
          subst y2010 z2011
          obtain ⟨rfl, N2018, e2019⟩ := hQ2008
          have N2021 : Fr n0 L2003 := by rw [l2009]; exact Fr.app N1991 N2018
          clear l2009 N2018
          have k2022 : own_G p e below E0 T2002 (mkF m 374 #[vi p0, vi p1, vi p2, vi p3, vi (2 : Int32), vi (100 : Int32), vi pre, vi adv, vi ((XT.ushr p3 (3 : Int32)) &&& (3 : Int32)), vi (1 : Int32), vd (FP.i2d p0), ss, vr a1539, vd mv, ss, vd mt, ss, vi (0 : Int32), vi tI, vi nI, vd (FP.i2d nI), ss, vd mv, ss, vd mv, ss, vd mv, ss, vi (0 : Int32), vi (0 : Int32), uu, uu, uu, uu, uu, uu, uu, uu, uu] [(.double vl)]) := fun tQ kk => k2001 tQ (st2012.trans kk)
          clear k2001 st2012
          have k2023 : own_G p e below E0 T2002 (mkF m 378 #[vi p0, vi p1, vi p2, vi p3, vi (2 : Int32), vi (100 : Int32), vi pre, vi adv, vi ((XT.ushr p3 (3 : Int32)) &&& (3 : Int32)), vi (1 : Int32), vd (FP.i2d p0), ss, vr a1539, vd mv, ss, vd mt, ss, vi (0 : Int32), vi tI, vi nI, vd (FP.i2d nI), ss, vd mv, ss, vd mv, ss, vd mv, ss, vi (0 : Int32), vi (0 : Int32), vd vl, ss, uu, uu, uu, uu, uu, uu, uu] [(.ref a1539)]) := by
            intro tQ kk
            refine k2022 tQ ?_
            refine XS.dstore X2006.here hx rfl (hb hby at_374) rfl (l' := #[vi p0, vi p1, vi p2, vi p3, vi (2 : Int32), vi (100 : Int32), vi pre, vi adv, vi ((XT.ushr p3 (3 : Int32)) &&& (3 : Int32)), vi (1 : Int32), vd (FP.i2d p0), ss, vr a1539, vd mv, ss, vd mt, ss, vi (0 : Int32), vi tI, vi nI, vd (FP.i2d nI), ss, vd mv, ss, vd mv, ss, vd mv, ss, vi (0 : Int32), vi (0 : Int32), vd vl, ss, uu, uu, uu, uu, uu, uu, uu]) rfl ?_
            refine XS.aload X2006.here hx rfl (hb hby at_376) rfl rfl ?_
            exact kk
          clear k2022
          obtain ⟨cq2035, kq2036, qa2037, qb2038, qc2039⟩ := isOf hZ e2019 F1993
          obtain ⟨_, _, ⟨T2024, L2025, kc2026, nc2027⟩, -, X2028, ⟨Lc2029, hQ2030, l2031, y2032, z2033⟩, st2034⟩ := X2006.virtualBack hx (y := mn13) (z := mn13) hown (mvT hZ (tw44 hw)) (mvT hZ (tw45 hw)) (notFace_of_selects (args := #[]) (mvT hZ (tw47 hw))) (mvT hZ (tw47 hw)) (mvT hZ (tw46 hw)) (by decide) (backOf (W := 0) (rmMv l Z a0 hw [] a1539 (0 : Int32) T1966.heap n0 Z1992 F2000) hZ (tw48 hw) (tw2 hw) (by decide) (by decide)) qa2037 qc2039 (g := (mkF m 378 #[vi p0, vi p1, vi p2, vi p3, vi (2 : Int32), vi (100 : Int32), vi pre, vi adv, vi ((XT.ushr p3 (3 : Int32)) &&& (3 : Int32)), vi (1 : Int32), vd (FP.i2d p0), ss, vr a1539, vd mv, ss, vd mt, ss, vi (0 : Int32), vi tI, vi nI, vd (FP.i2d nI), ss, vd mv, ss, vd mv, ss, vd mv, ss, vi (0 : Int32), vi (0 : Int32), vd vl, ss, uu, uu, uu, uu, uu, uu, uu] [(.ref a1539)])) rfl (by rw [hml]; rfl) (Steps.refl _) (argsL := []) (rest := []) (lenOf pd_18 rfl) rfl (by show 2 * 0 + _ ≤ _; exact Nat.le_of_eq rfl) (hb hby at_378) (fun _ _ => ⟨rfl, e2019, (by decide : 1 + 0 ≤ _), (by decide : 5 + 0 ≤ _)⟩)
          dsimp only [Pt.U, Pt.locs, Pt.cells, Pt.slots] at X2028 l2031 y2032 z2033 st2034 hQ2030
          subst y2032 z2033
          obtain ⟨rfl, N2040, e2041⟩ := hQ2030
          have N2043 : Fr n0 L2025 := by rw [l2031]; exact Fr.app N2021 N2040
          clear l2031 N2040
          have k2044 : own_G p e below E0 T2024 (mkF m 381 #[vi p0, vi p1, vi p2, vi p3, vi (2 : Int32), vi (100 : Int32), vi pre, vi adv, vi ((XT.ushr p3 (3 : Int32)) &&& (3 : Int32)), vi (1 : Int32), vd (FP.i2d p0), ss, vr a1539, vd mv, ss, vd mt, ss, vi (0 : Int32), vi tI, vi nI, vd (FP.i2d nI), ss, vd mv, ss, vd mv, ss, vd mv, ss, vi (0 : Int32), vi (0 : Int32), vd vl, ss, uu, uu, uu, uu, uu, uu, uu] [(.int (own_mv (0 : Int32)))]) := fun tQ kk => k2023 tQ (st2034.trans kk)
          clear k2023 st2034
          have eq2045 : (own_mv (0 : Int32)) = (0 : Int32) := by decide
          rw [eq2045] at k2044
          have k2046 : own_G p e below E0 T2024 (mkF m 385 #[vi p0, vi p1, vi p2, vi p3, vi (2 : Int32), vi (100 : Int32), vi pre, vi adv, vi ((XT.ushr p3 (3 : Int32)) &&& (3 : Int32)), vi (1 : Int32), vd (FP.i2d p0), ss, vr a1539, vd mv, ss, vd mt, ss, vi (0 : Int32), vi tI, vi nI, vd (FP.i2d nI), ss, vd mv, ss, vd mv, ss, vd mv, ss, vi (0 : Int32), vi (0 : Int32), vd vl, ss, vi (0 : Int32), uu, uu, uu, uu, uu, uu] [(.ref a1539)]) := by
            intro tQ kk
            refine k2044 tQ ?_
            refine XS.istore X2028.here hx rfl (hb hby at_381) rfl (l' := #[vi p0, vi p1, vi p2, vi p3, vi (2 : Int32), vi (100 : Int32), vi pre, vi adv, vi ((XT.ushr p3 (3 : Int32)) &&& (3 : Int32)), vi (1 : Int32), vd (FP.i2d p0), ss, vr a1539, vd mv, ss, vd mt, ss, vi (0 : Int32), vi tI, vi nI, vd (FP.i2d nI), ss, vd mv, ss, vd mv, ss, vd mv, ss, vi (0 : Int32), vi (0 : Int32), vd vl, ss, vi (0 : Int32), uu, uu, uu, uu, uu, uu]) rfl ?_
            refine XS.aload X2028.here hx rfl (hb hby at_383) rfl rfl ?_
            exact kk
          clear k2044
          obtain ⟨cq2058, kq2059, qa2060, qb2061, qc2062⟩ := isOf hZ e2041 F1993
          obtain ⟨_, _, ⟨T2047, L2048, kc2049, nc2050⟩, -, X2051, ⟨Lc2052, hQ2053, l2054, y2055, z2056⟩, st2057⟩ := X2028.virtualBack hx (y := mn12) (z := mn12) hown (mvT hZ (tw49 hw)) (mvT hZ (tw50 hw)) (notFace_of_selects (args := #[]) (mvT hZ (tw52 hw))) (mvT hZ (tw52 hw)) (mvT hZ (tw51 hw)) (by decide) (backOf (W := 0) (rmN l Z a0 hw [] a1539 (2 : Int32) vl mt sp (0 : Int32) T1966.heap n0 Z1992 F1993 g1986 g1987 F1996 F1998 F2000 ge1541 (fun z => absurd z (by decide))) hZ (tw53 hw) (tw2 hw) (by decide) (by decide)) qa2060 qc2062 (g := (mkF m 385 #[vi p0, vi p1, vi p2, vi p3, vi (2 : Int32), vi (100 : Int32), vi pre, vi adv, vi ((XT.ushr p3 (3 : Int32)) &&& (3 : Int32)), vi (1 : Int32), vd (FP.i2d p0), ss, vr a1539, vd mv, ss, vd mt, ss, vi (0 : Int32), vi tI, vi nI, vd (FP.i2d nI), ss, vd mv, ss, vd mv, ss, vd mv, ss, vi (0 : Int32), vi (0 : Int32), vd vl, ss, vi (0 : Int32), uu, uu, uu, uu, uu, uu] [(.ref a1539)])) rfl (by rw [hml]; rfl) (Steps.refl _) (argsL := []) (rest := []) (lenOf pd_16 rfl) rfl (by show 2 * 0 + _ ≤ _; exact Nat.le_of_eq rfl) (hb hby at_385) (fun _ _ => ⟨rfl, e2041, (by decide : 1 + 0 ≤ _), (by decide : 5 + 0 ≤ _)⟩)
          dsimp only [Pt.U, Pt.locs, Pt.cells, Pt.slots] at X2051 l2054 y2055 z2056 st2057 hQ2053
          subst y2055 z2056
          obtain ⟨rfl, N2063, K2066, g2067, g2068, g2069, g2070, g2071⟩ := hQ2053
          have N2072 : Fr n0 L2048 := by rw [l2054]; exact Fr.app N2043 N2063
          clear l2054 N2063
          have Z2073 : n0 ≤ T2047.heap.size := Nat.le_trans Z1992 K2066.1
          clear Z1992
          have F2074 : xa7 Z T2047.heap a1539 := F1993.keep K2066
          clear F1993
          clear g1986
          clear g1987
          clear F1996
          clear F1998
          clear F2000
          have k2075 : own_G p e below E0 T2047 (mkF m 388 #[vi p0, vi p1, vi p2, vi p3, vi (2 : Int32), vi (100 : Int32), vi pre, vi adv, vi ((XT.ushr p3 (3 : Int32)) &&& (3 : Int32)), vi (1 : Int32), vd (FP.i2d p0), ss, vr a1539, vd mv, ss, vd mt, ss, vi (0 : Int32), vi tI, vi nI, vd (FP.i2d nI), ss, vd mv, ss, vd mv, ss, vd mv, ss, vi (0 : Int32), vi (0 : Int32), vd vl, ss, vi (0 : Int32), uu, uu, uu, uu, uu, uu] [(.double (own_nv vl mt sp (0 : Int32)))]) := fun tQ kk => k2046 tQ (st2057.trans kk)
          clear k2046 st2057
          have eq2076 : (own_nv vl mt sp (0 : Int32)) = vl := by rw [own_nv, if_neg (by decide)]
          have F2077 : fd3 Z T2047.heap a1539 (.double vl) := by rw [← eq2076]; exact g2068
          have eq2078 : (own_nr (0 : Int32)) = (0 : Int32) := by decide
          have F2079 : fd6 Z T2047.heap a1539 (.int (0 : Int32)) := by rw [← eq2078]; exact g2071
          have eq2080 : (own_nv vl mt sp (0 : Int32)) = vl := by rw [own_nv, if_neg (by decide)]
          rw [eq2080] at k2075
          have k2081 : own_G p e below E0 T2047 (mkF m 392 #[vi p0, vi p1, vi p2, vi p3, vi (2 : Int32), vi (100 : Int32), vi pre, vi adv, vi ((XT.ushr p3 (3 : Int32)) &&& (3 : Int32)), vi (1 : Int32), vd (FP.i2d p0), ss, vr a1539, vd mv, ss, vd mt, ss, vi (0 : Int32), vi tI, vi nI, vd (FP.i2d nI), ss, vd mv, ss, vd mv, ss, vd mv, ss, vi (0 : Int32), vi (0 : Int32), vd vl, ss, vi (0 : Int32), vd vl, ss, uu, uu, uu, uu] [(.ref a1539)]) := by
            intro tQ kk
            refine k2075 tQ ?_
            refine XS.dstore X2051.here hx rfl (hb hby at_388) rfl (l' := #[vi p0, vi p1, vi p2, vi p3, vi (2 : Int32), vi (100 : Int32), vi pre, vi adv, vi ((XT.ushr p3 (3 : Int32)) &&& (3 : Int32)), vi (1 : Int32), vd (FP.i2d p0), ss, vr a1539, vd mv, ss, vd mt, ss, vi (0 : Int32), vi tI, vi nI, vd (FP.i2d nI), ss, vd mv, ss, vd mv, ss, vd mv, ss, vi (0 : Int32), vi (0 : Int32), vd vl, ss, vi (0 : Int32), vd vl, ss, uu, uu, uu, uu]) rfl ?_
            refine XS.aload X2051.here hx rfl (hb hby at_390) rfl rfl ?_
            exact kk
          clear k2075
          obtain ⟨cq2093, kq2094, qa2095, qb2096, qc2097⟩ := isOf hZ rfl F2074
          obtain ⟨_, _, ⟨T2082, L2083, kc2084, nc2085⟩, -, X2086, ⟨Lc2087, hQ2088, l2089, y2090, z2091⟩, st2092⟩ := X2051.virtualBack hx (y := mn13) (z := mn13) hown (mvT hZ (tw44 hw)) (mvT hZ (tw45 hw)) (notFace_of_selects (args := #[]) (mvT hZ (tw47 hw))) (mvT hZ (tw47 hw)) (mvT hZ (tw46 hw)) (by decide) (backOf (W := 0) (rmMv l Z a0 hw [] a1539 (0 : Int32) T2047.heap n0 Z2073 F2079) hZ (tw48 hw) (tw2 hw) (by decide) (by decide)) qa2095 qc2097 (g := (mkF m 392 #[vi p0, vi p1, vi p2, vi p3, vi (2 : Int32), vi (100 : Int32), vi pre, vi adv, vi ((XT.ushr p3 (3 : Int32)) &&& (3 : Int32)), vi (1 : Int32), vd (FP.i2d p0), ss, vr a1539, vd mv, ss, vd mt, ss, vi (0 : Int32), vi tI, vi nI, vd (FP.i2d nI), ss, vd mv, ss, vd mv, ss, vd mv, ss, vi (0 : Int32), vi (0 : Int32), vd vl, ss, vi (0 : Int32), vd vl, ss, uu, uu, uu, uu] [(.ref a1539)])) rfl (by rw [hml]; rfl) (Steps.refl _) (argsL := []) (rest := []) (lenOf pd_18 rfl) rfl (by show 2 * 0 + _ ≤ _; exact Nat.le_of_eq rfl) (hb hby at_392) (fun _ _ => ⟨rfl, rfl, (by decide : 1 + 0 ≤ _), (by decide : 5 + 0 ≤ _)⟩)
          dsimp only [Pt.U, Pt.locs, Pt.cells, Pt.slots] at X2086 l2089 y2090 z2091 st2092 hQ2088
          subst y2090 z2091
          obtain ⟨rfl, N2098, e2099⟩ := hQ2088
          have N2101 : Fr n0 L2083 := by rw [l2089]; exact Fr.app N2072 N2098
          clear l2089 N2098
          have k2102 : own_G p e below E0 T2082 (mkF m 395 #[vi p0, vi p1, vi p2, vi p3, vi (2 : Int32), vi (100 : Int32), vi pre, vi adv, vi ((XT.ushr p3 (3 : Int32)) &&& (3 : Int32)), vi (1 : Int32), vd (FP.i2d p0), ss, vr a1539, vd mv, ss, vd mt, ss, vi (0 : Int32), vi tI, vi nI, vd (FP.i2d nI), ss, vd mv, ss, vd mv, ss, vd mv, ss, vi (0 : Int32), vi (0 : Int32), vd vl, ss, vi (0 : Int32), vd vl, ss, uu, uu, uu, uu] [(.int (own_mv (0 : Int32)))]) := fun tQ kk => k2081 tQ (st2092.trans kk)
          clear k2081 st2092
          have eq2103 : (own_mv (0 : Int32)) = (0 : Int32) := by decide
          rw [eq2103] at k2102
          have k2104 : own_G p e below E0 T2082 (mkF m 399 #[vi p0, vi p1, vi p2, vi p3, vi (2 : Int32), vi (100 : Int32), vi pre, vi adv, vi ((XT.ushr p3 (3 : Int32)) &&& (3 : Int32)), vi (1 : Int32), vd (FP.i2d p0), ss, vr a1539, vd mv, ss, vd mt, ss, vi (0 : Int32), vi tI, vi nI, vd (FP.i2d nI), ss, vd mv, ss, vd mv, ss, vd mv, ss, vi (0 : Int32), vi (0 : Int32), vd vl, ss, vi (0 : Int32), vd vl, ss, vi (0 : Int32), uu, uu, uu] [(.ref a1539)]) := by
            intro tQ kk
            refine k2102 tQ ?_
            refine XS.istore X2086.here hx rfl (hb hby at_395) rfl (l' := #[vi p0, vi p1, vi p2, vi p3, vi (2 : Int32), vi (100 : Int32), vi pre, vi adv, vi ((XT.ushr p3 (3 : Int32)) &&& (3 : Int32)), vi (1 : Int32), vd (FP.i2d p0), ss, vr a1539, vd mv, ss, vd mt, ss, vi (0 : Int32), vi tI, vi nI, vd (FP.i2d nI), ss, vd mv, ss, vd mv, ss, vd mv, ss, vi (0 : Int32), vi (0 : Int32), vd vl, ss, vi (0 : Int32), vd vl, ss, vi (0 : Int32), uu, uu, uu]) rfl ?_
            refine XS.aload X2086.here hx rfl (hb hby at_397) rfl rfl ?_
            exact kk
          clear k2102
          obtain ⟨cq2116, kq2117, qa2118, qb2119, qc2120⟩ := isOf hZ e2099 F2074
          obtain ⟨_, _, ⟨T2105, L2106, kc2107, nc2108⟩, -, X2109, ⟨Lc2110, hQ2111, l2112, y2113, z2114⟩, st2115⟩ := X2086.virtualBack hx (y := mn12) (z := mn12) hown (mvT hZ (tw49 hw)) (mvT hZ (tw50 hw)) (notFace_of_selects (args := #[]) (mvT hZ (tw52 hw))) (mvT hZ (tw52 hw)) (mvT hZ (tw51 hw)) (by decide) (backOf (W := 0) (rmN l Z a0 hw [] a1539 (2 : Int32) vl mt sp (0 : Int32) T2047.heap n0 Z2073 F2074 g2067 F2077 g2069 g2070 F2079 ge1541 (fun z => absurd z (by decide))) hZ (tw53 hw) (tw2 hw) (by decide) (by decide)) qa2118 qc2120 (g := (mkF m 399 #[vi p0, vi p1, vi p2, vi p3, vi (2 : Int32), vi (100 : Int32), vi pre, vi adv, vi ((XT.ushr p3 (3 : Int32)) &&& (3 : Int32)), vi (1 : Int32), vd (FP.i2d p0), ss, vr a1539, vd mv, ss, vd mt, ss, vi (0 : Int32), vi tI, vi nI, vd (FP.i2d nI), ss, vd mv, ss, vd mv, ss, vd mv, ss, vi (0 : Int32), vi (0 : Int32), vd vl, ss, vi (0 : Int32), vd vl, ss, vi (0 : Int32), uu, uu, uu] [(.ref a1539)])) rfl (by rw [hml]; rfl) (Steps.refl _) (argsL := []) (rest := []) (lenOf pd_16 rfl) rfl (by show 2 * 0 + _ ≤ _; exact Nat.le_of_eq rfl) (hb hby at_399) (fun _ _ => ⟨rfl, e2099, (by decide : 1 + 0 ≤ _), (by decide : 5 + 0 ≤ _)⟩)
          dsimp only [Pt.U, Pt.locs, Pt.cells, Pt.slots] at X2109 l2112 y2113 z2114 st2115 hQ2111
          subst y2113 z2114
          obtain ⟨rfl, N2121, K2124, g2125, g2126, g2127, g2128, g2129⟩ := hQ2111
          have N2130 : Fr n0 L2106 := by rw [l2112]; exact Fr.app N2101 N2121
          clear l2112 N2121
          have Z2131 : n0 ≤ T2105.heap.size := Nat.le_trans Z2073 K2124.1
          clear Z2073
          have F2132 : xa7 Z T2105.heap a1539 := F2074.keep K2124
          clear F2074
          clear g2067
          clear F2077
          clear g2069
          clear g2070
          clear F2079
          have k2133 : own_G p e below E0 T2105 (mkF m 402 #[vi p0, vi p1, vi p2, vi p3, vi (2 : Int32), vi (100 : Int32), vi pre, vi adv, vi ((XT.ushr p3 (3 : Int32)) &&& (3 : Int32)), vi (1 : Int32), vd (FP.i2d p0), ss, vr a1539, vd mv, ss, vd mt, ss, vi (0 : Int32), vi tI, vi nI, vd (FP.i2d nI), ss, vd mv, ss, vd mv, ss, vd mv, ss, vi (0 : Int32), vi (0 : Int32), vd vl, ss, vi (0 : Int32), vd vl, ss, vi (0 : Int32), uu, uu, uu] [(.double (own_nv vl mt sp (0 : Int32)))]) := fun tQ kk => k2104 tQ (st2115.trans kk)
          clear k2104 st2115
          have eq2134 : (own_nv vl mt sp (0 : Int32)) = vl := by rw [own_nv, if_neg (by decide)]
          have F2135 : fd3 Z T2105.heap a1539 (.double vl) := by rw [← eq2134]; exact g2126
          have eq2136 : (own_nr (0 : Int32)) = (0 : Int32) := by decide
          have F2137 : fd6 Z T2105.heap a1539 (.int (0 : Int32)) := by rw [← eq2136]; exact g2129
          have eq2138 : (own_nv vl mt sp (0 : Int32)) = vl := by rw [own_nv, if_neg (by decide)]
          rw [eq2138] at k2133
          have k2139 : own_G p e below E0 T2105 (mkF m 406 #[vi p0, vi p1, vi p2, vi p3, vi (2 : Int32), vi (100 : Int32), vi pre, vi adv, vi ((XT.ushr p3 (3 : Int32)) &&& (3 : Int32)), vi (1 : Int32), vd (FP.i2d p0), ss, vr a1539, vd mv, ss, vd mt, ss, vi (0 : Int32), vi tI, vi nI, vd (FP.i2d nI), ss, vd mv, ss, vd mv, ss, vd mv, ss, vi (0 : Int32), vi (0 : Int32), vd vl, ss, vi (0 : Int32), vd vl, ss, vi (0 : Int32), vd vl, ss, uu] [(.ref a1539)]) := by
            intro tQ kk
            refine k2133 tQ ?_
            refine XS.dstore X2109.here hx rfl (hb hby at_402) rfl (l' := #[vi p0, vi p1, vi p2, vi p3, vi (2 : Int32), vi (100 : Int32), vi pre, vi adv, vi ((XT.ushr p3 (3 : Int32)) &&& (3 : Int32)), vi (1 : Int32), vd (FP.i2d p0), ss, vr a1539, vd mv, ss, vd mt, ss, vi (0 : Int32), vi tI, vi nI, vd (FP.i2d nI), ss, vd mv, ss, vd mv, ss, vd mv, ss, vi (0 : Int32), vi (0 : Int32), vd vl, ss, vi (0 : Int32), vd vl, ss, vi (0 : Int32), vd vl, ss, uu]) rfl ?_
            refine XS.aload X2109.here hx rfl (hb hby at_404) rfl rfl ?_
            exact kk
          clear k2133
          obtain ⟨cq2151, kq2152, qa2153, qb2154, qc2155⟩ := isOf hZ rfl F2132
          obtain ⟨_, _, ⟨T2140, L2141, kc2142, nc2143⟩, -, X2144, ⟨Lc2145, hQ2146, l2147, y2148, z2149⟩, st2150⟩ := X2109.virtualBack hx (y := mn13) (z := mn13) hown (mvT hZ (tw44 hw)) (mvT hZ (tw45 hw)) (notFace_of_selects (args := #[]) (mvT hZ (tw47 hw))) (mvT hZ (tw47 hw)) (mvT hZ (tw46 hw)) (by decide) (backOf (W := 0) (rmMv l Z a0 hw [] a1539 (0 : Int32) T2105.heap n0 Z2131 F2137) hZ (tw48 hw) (tw2 hw) (by decide) (by decide)) qa2153 qc2155 (g := (mkF m 406 #[vi p0, vi p1, vi p2, vi p3, vi (2 : Int32), vi (100 : Int32), vi pre, vi adv, vi ((XT.ushr p3 (3 : Int32)) &&& (3 : Int32)), vi (1 : Int32), vd (FP.i2d p0), ss, vr a1539, vd mv, ss, vd mt, ss, vi (0 : Int32), vi tI, vi nI, vd (FP.i2d nI), ss, vd mv, ss, vd mv, ss, vd mv, ss, vi (0 : Int32), vi (0 : Int32), vd vl, ss, vi (0 : Int32), vd vl, ss, vi (0 : Int32), vd vl, ss, uu] [(.ref a1539)])) rfl (by rw [hml]; rfl) (Steps.refl _) (argsL := []) (rest := []) (lenOf pd_18 rfl) rfl (by show 2 * 0 + _ ≤ _; exact Nat.le_of_eq rfl) (hb hby at_406) (fun _ _ => ⟨rfl, rfl, (by decide : 1 + 0 ≤ _), (by decide : 5 + 0 ≤ _)⟩)
          dsimp only [Pt.U, Pt.locs, Pt.cells, Pt.slots] at X2144 l2147 y2148 z2149 st2150 hQ2146
          subst y2148 z2149
          obtain ⟨rfl, N2156, e2157⟩ := hQ2146
          have N2159 : Fr n0 L2141 := by rw [l2147]; exact Fr.app N2130 N2156
          clear l2147 N2156
          have k2160 : own_G p e below E0 T2140 (mkF m 409 #[vi p0, vi p1, vi p2, vi p3, vi (2 : Int32), vi (100 : Int32), vi pre, vi adv, vi ((XT.ushr p3 (3 : Int32)) &&& (3 : Int32)), vi (1 : Int32), vd (FP.i2d p0), ss, vr a1539, vd mv, ss, vd mt, ss, vi (0 : Int32), vi tI, vi nI, vd (FP.i2d nI), ss, vd mv, ss, vd mv, ss, vd mv, ss, vi (0 : Int32), vi (0 : Int32), vd vl, ss, vi (0 : Int32), vd vl, ss, vi (0 : Int32), vd vl, ss, uu] [(.int (own_mv (0 : Int32)))]) := fun tQ kk => k2139 tQ (st2150.trans kk)
          clear k2139 st2150
          have eq2161 : (own_mv (0 : Int32)) = (0 : Int32) := by decide
          rw [eq2161] at k2160
          have k2162 : own_G p e below E0 T2140 (mkF m 459 #[vi p0, vi p1, vi p2, vi p3, vi (2 : Int32), vi (100 : Int32), vi pre, vi adv, vi ((XT.ushr p3 (3 : Int32)) &&& (3 : Int32)), vi (1 : Int32), vd (FP.i2d p0), ss, vr a1539, vd mv, ss, vd mt, ss, vi (0 : Int32), vi tI, vi nI, vd (FP.i2d nI), ss, vd mv, ss, vd mv, ss, vd mv, ss, vi (0 : Int32), vi (0 : Int32), vd vl, ss, vi (0 : Int32), vd vl, ss, vi (0 : Int32), vd vl, ss, vi (0 : Int32)] [(.int (1 : Int32))]) := by
            intro tQ kk
            refine k2160 tQ ?_
            refine XS.istore X2144.here hx rfl (hb hby at_409) rfl (l' := #[vi p0, vi p1, vi p2, vi p3, vi (2 : Int32), vi (100 : Int32), vi pre, vi adv, vi ((XT.ushr p3 (3 : Int32)) &&& (3 : Int32)), vi (1 : Int32), vd (FP.i2d p0), ss, vr a1539, vd mv, ss, vd mt, ss, vi (0 : Int32), vi tI, vi nI, vd (FP.i2d nI), ss, vd mv, ss, vd mv, ss, vd mv, ss, vi (0 : Int32), vi (0 : Int32), vd vl, ss, vi (0 : Int32), vd vl, ss, vi (0 : Int32), vd vl, ss, vi (0 : Int32)]) rfl ?_
            refine XS.dload X2144.here hx rfl (hb hby at_411) rfl ?_
            refine XS.dload X2144.here hx rfl (hb hby at_413) rfl ?_
            refine XS.dcmpS (v := (0 : Int32)) X2144.here hx rfl (hb hby at_415) rfl (own_eqz .l hvl.1.noNaN hmv.1.noNaN (hvl.2.trans hmv.2.symm)) ?_
            show Steps p.tables e below (T2140.setTop (mkF m 416 #[vi p0, vi p1, vi p2, vi p3, vi (2 : Int32), vi (100 : Int32), vi pre, vi adv, vi ((XT.ushr p3 (3 : Int32)) &&& (3 : Int32)), vi (1 : Int32), vd (FP.i2d p0), ss, vr a1539, vd mv, ss, vd mt, ss, vi (0 : Int32), vi tI, vi nI, vd (FP.i2d nI), ss, vd mv, ss, vd mv, ss, vd mv, ss, vi (0 : Int32), vi (0 : Int32), vd vl, ss, vi (0 : Int32), vd vl, ss, vi (0 : Int32), vd vl, ss, vi (0 : Int32)] [(.int (0 : Int32))])) tQ
            refine XS.ifNo X2144.here hx rfl (hb hby at_416) rfl (own_if_neN (by decide)) ?_
            refine XS.iload X2144.here hx rfl (hb hby at_419) rfl ?_
            refine XS.iload X2144.here hx rfl (hb hby at_421) rfl ?_
            refine XS.icmpNo X2144.here hx rfl (hb hby at_423) rfl (own_ic_neN (by decide)) ?_
            show Steps p.tables e below (T2140.setTop (mkF m 426 #[vi p0, vi p1, vi p2, vi p3, vi (2 : Int32), vi (100 : Int32), vi pre, vi adv, vi ((XT.ushr p3 (3 : Int32)) &&& (3 : Int32)), vi (1 : Int32), vd (FP.i2d p0), ss, vr a1539, vd mv, ss, vd mt, ss, vi (0 : Int32), vi tI, vi nI, vd (FP.i2d nI), ss, vd mv, ss, vd mv, ss, vd mv, ss, vi (0 : Int32), vi (0 : Int32), vd vl, ss, vi (0 : Int32), vd vl, ss, vi (0 : Int32), vd vl, ss, vi (0 : Int32)] [])) tQ
            refine XS.dload X2144.here hx rfl (hb hby at_426) rfl ?_
            refine XS.dload X2144.here hx rfl (hb hby at_428) rfl ?_
            refine XS.dcmpS (v := (0 : Int32)) X2144.here hx rfl (hb hby at_430) rfl (own_eqz .l hvl.1.noNaN hmv.1.noNaN (hvl.2.trans hmv.2.symm)) ?_
            refine XS.ifNo X2144.here hx rfl (hb hby at_431) rfl (own_if_neN (by decide)) ?_
            show Steps p.tables e below (T2140.setTop (mkF m 434 #[vi p0, vi p1, vi p2, vi p3, vi (2 : Int32), vi (100 : Int32), vi pre, vi adv, vi ((XT.ushr p3 (3 : Int32)) &&& (3 : Int32)), vi (1 : Int32), vd (FP.i2d p0), ss, vr a1539, vd mv, ss, vd mt, ss, vi (0 : Int32), vi tI, vi nI, vd (FP.i2d nI), ss, vd mv, ss, vd mv, ss, vd mv, ss, vi (0 : Int32), vi (0 : Int32), vd vl, ss, vi (0 : Int32), vd vl, ss, vi (0 : Int32), vd vl, ss, vi (0 : Int32)] [])) tQ
            refine XS.iload X2144.here hx rfl (hb hby at_434) rfl ?_
            refine XS.iload X2144.here hx rfl (hb hby at_436) rfl ?_
            refine XS.icmpNo X2144.here hx rfl (hb hby at_438) rfl (own_ic_neN (by decide)) ?_
            refine XS.dload X2144.here hx rfl (hb hby at_441) rfl ?_
            show Steps p.tables e below (T2140.setTop (mkF m 443 #[vi p0, vi p1, vi p2, vi p3, vi (2 : Int32), vi (100 : Int32), vi pre, vi adv, vi ((XT.ushr p3 (3 : Int32)) &&& (3 : Int32)), vi (1 : Int32), vd (FP.i2d p0), ss, vr a1539, vd mv, ss, vd mt, ss, vi (0 : Int32), vi tI, vi nI, vd (FP.i2d nI), ss, vd mv, ss, vd mv, ss, vd mv, ss, vi (0 : Int32), vi (0 : Int32), vd vl, ss, vi (0 : Int32), vd vl, ss, vi (0 : Int32), vd vl, ss, vi (0 : Int32)] [(.double vl)])) tQ
            refine XS.dload X2144.here hx rfl (hb hby at_443) rfl ?_
            refine XS.dcmpS (v := (0 : Int32)) X2144.here hx rfl (hb hby at_445) rfl (own_eqz .l hvl.1.noNaN hmv.1.noNaN (hvl.2.trans hmv.2.symm)) ?_
            refine XS.ifNo X2144.here hx rfl (hb hby at_446) rfl (own_if_neN (by decide)) ?_
            refine XS.iload X2144.here hx rfl (hb hby at_449) rfl ?_
            show Steps p.tables e below (T2140.setTop (mkF m 451 #[vi p0, vi p1, vi p2, vi p3, vi (2 : Int32), vi (100 : Int32), vi pre, vi adv, vi ((XT.ushr p3 (3 : Int32)) &&& (3 : Int32)), vi (1 : Int32), vd (FP.i2d p0), ss, vr a1539, vd mv, ss, vd mt, ss, vi (0 : Int32), vi tI, vi nI, vd (FP.i2d nI), ss, vd mv, ss, vd mv, ss, vd mv, ss, vi (0 : Int32), vi (0 : Int32), vd vl, ss, vi (0 : Int32), vd vl, ss, vi (0 : Int32), vd vl, ss, vi (0 : Int32)] [(.int (0 : Int32))])) tQ
            refine XS.ifNo X2144.here hx rfl (hb hby at_451) rfl (own_if_neN (by decide)) ?_
            refine XS.iconst X2144.here hx rfl (hb hby at_454) ?_
            refine XS.goto X2144.here hx rfl (pc0 := 455) (pc' := 459) rfl (hb hby at_455) (by decide) (by decide) ?_
            exact kk
          clear k2160
          obtain ⟨fs, hr, hrun, hended, hW, hsame⟩ := X2144.leave (v := some (.int (1 : Int32))) (fun h => by rw [Bd.returns] at h; cases h)
          have hrun0 := k2162 _ (retOut X2144 hx Bd.returns (t := .boolean) rfl (Or.inl ⟨rfl, Or.inr (Or.inl rfl), _, rfl⟩) (hb hby at_459) hr)
          subst hE0
          refine ⟨_, _, hrun0, hrun, hended, _, _, rfl, ?_, ⟨_, rfl⟩, hW, hsame.mono (by decide) (by decide)⟩
          show Qrm0 Z p0 p1 p2 p3 h0 n0 _ T2140.heap _
          rw [e2157]
          exact ⟨rfl, N2159⟩
        · skip
          have k2163 : own_G p e below E0 T1743 (mkF m 366 #[vi p0, vi p1, vi p2, vi p3, vi (2 : Int32), vi (100 : Int32), vi pre, vi adv, vi ((XT.ushr p3 (3 : Int32)) &&& (3 : Int32)), vi (1 : Int32), vd (FP.i2d p0), ss, vr a1539, vd mv, ss, vd mt, ss, vi (1 : Int32), vi tI, vi nI, vd (FP.i2d nI), ss, vd mv, ss, vd mt, ss, vd mt, ss, vi (1 : Int32), vi (0 : Int32), uu, uu, uu, uu, uu, uu, uu, uu, uu] [(.int (1 : Int32)), (.double (FP.i2d nI)), (.ref a1539)]) := by
            intro tQ kk
            refine k1964 tQ ?_
            refine XS.dload X1744.here hx rfl (hb hby at_284) rfl ?_
            refine XS.dstore X1744.here hx rfl (hb hby at_286) rfl (l' := #[vi p0, vi p1, vi p2, vi p3, vi (2 : Int32), vi (100 : Int32), vi pre, vi adv, vi ((XT.ushr p3 (3 : Int32)) &&& (3 : Int32)), vi (1 : Int32), vd (FP.i2d p0), ss, vr a1539, vd mv, ss, vd mt, ss, vi (1 : Int32), vi tI, vi nI, vd (FP.i2d nI), ss, vd mv, ss, uu, uu, uu, uu, uu, uu, uu, uu, uu, uu, uu, uu, uu, uu, uu]) rfl ?_
            refine XS.iload X1744.here hx rfl (hb hby at_288) rfl ?_
            refine XS.ifNo X1744.here hx rfl (hb hby at_290) rfl (own_if_leN (by decide)) ?_
            show Steps p.tables e below (T1743.setTop (mkF m 293 #[vi p0, vi p1, vi p2, vi p3, vi (2 : Int32), vi (100 : Int32), vi pre, vi adv, vi ((XT.ushr p3 (3 : Int32)) &&& (3 : Int32)), vi (1 : Int32), vd (FP.i2d p0), ss, vr a1539, vd mv, ss, vd mt, ss, vi (1 : Int32), vi tI, vi nI, vd (FP.i2d nI), ss, vd mv, ss, uu, uu, uu, uu, uu, uu, uu, uu, uu, uu, uu, uu, uu, uu, uu] [])) tQ
            refine XS.iconst X1744.here hx rfl (hb hby at_293) ?_
            refine XS.goto X1744.here hx rfl (pc0 := 294) (pc' := 298) rfl (hb hby at_294) (by decide) (by decide) ?_
            refine XS.istore X1744.here hx rfl (hb hby at_298) rfl (l' := #[vi p0, vi p1, vi p2, vi p3, vi (2 : Int32), vi (100 : Int32), vi pre, vi adv, vi ((XT.ushr p3 (3 : Int32)) &&& (3 : Int32)), vi (1 : Int32), vd (FP.i2d p0), ss, vr a1539, vd mv, ss, vd mt, ss, vi (1 : Int32), vi tI, vi nI, vd (FP.i2d nI), ss, vd mv, ss, uu, uu, uu, uu, vi (1 : Int32), uu, uu, uu, uu, uu, uu, uu, uu, uu, uu]) rfl ?_
            refine XS.iload X1744.here hx rfl (hb hby at_300) rfl ?_
            show Steps p.tables e below (T1743.setTop (mkF m 302 #[vi p0, vi p1, vi p2, vi p3, vi (2 : Int32), vi (100 : Int32), vi pre, vi adv, vi ((XT.ushr p3 (3 : Int32)) &&& (3 : Int32)), vi (1 : Int32), vd (FP.i2d p0), ss, vr a1539, vd mv, ss, vd mt, ss, vi (1 : Int32), vi tI, vi nI, vd (FP.i2d nI), ss, vd mv, ss, uu, uu, uu, uu, vi (1 : Int32), uu, uu, uu, uu, uu, uu, uu, uu, uu, uu] [(.int (1 : Int32))])) tQ
            refine XS.iconst X1744.here hx rfl (hb hby at_302) ?_
            refine XS.icmpYes X1744.here hx rfl (pc0 := 303) (pc' := 323) rfl (hb hby at_303) rfl (own_ic_neY (by decide)) (by decide) (by decide) ?_
            refine XS.iload X1744.here hx rfl (hb hby at_323) rfl ?_
            refine XS.iconst X1744.here hx rfl (hb hby at_325) ?_
            show Steps p.tables e below (T1743.setTop (mkF m 326 #[vi p0, vi p1, vi p2, vi p3, vi (2 : Int32), vi (100 : Int32), vi pre, vi adv, vi ((XT.ushr p3 (3 : Int32)) &&& (3 : Int32)), vi (1 : Int32), vd (FP.i2d p0), ss, vr a1539, vd mv, ss, vd mt, ss, vi (1 : Int32), vi tI, vi nI, vd (FP.i2d nI), ss, vd mv, ss, uu, uu, uu, uu, vi (1 : Int32), uu, uu, uu, uu, uu, uu, uu, uu, uu, uu] [(.int (1 : Int32)), (.int (1 : Int32))])) tQ
            refine XS.icmpNo X1744.here hx rfl (hb hby at_326) rfl (own_ic_neN (by decide)) ?_
            refine XS.dload X1744.here hx rfl (hb hby at_329) rfl ?_
            refine XS.dstore X1744.here hx rfl (hb hby at_331) rfl (l' := #[vi p0, vi p1, vi p2, vi p3, vi (2 : Int32), vi (100 : Int32), vi pre, vi adv, vi ((XT.ushr p3 (3 : Int32)) &&& (3 : Int32)), vi (1 : Int32), vd (FP.i2d p0), ss, vr a1539, vd mv, ss, vd mt, ss, vi (1 : Int32), vi tI, vi nI, vd (FP.i2d nI), ss, vd mv, ss, vd mt, ss, uu, uu, vi (1 : Int32), uu, uu, uu, uu, uu, uu, uu, uu, uu, uu]) rfl ?_
            refine XS.iconst X1744.here hx rfl (hb hby at_333) ?_
            show Steps p.tables e below (T1743.setTop (mkF m 334 #[vi p0, vi p1, vi p2, vi p3, vi (2 : Int32), vi (100 : Int32), vi pre, vi adv, vi ((XT.ushr p3 (3 : Int32)) &&& (3 : Int32)), vi (1 : Int32), vd (FP.i2d p0), ss, vr a1539, vd mv, ss, vd mt, ss, vi (1 : Int32), vi tI, vi nI, vd (FP.i2d nI), ss, vd mv, ss, vd mt, ss, uu, uu, vi (1 : Int32), uu, uu, uu, uu, uu, uu, uu, uu, uu, uu] [(.int (0 : Int32))])) tQ
            refine XS.istore X1744.here hx rfl (hb hby at_334) rfl (l' := #[vi p0, vi p1, vi p2, vi p3, vi (2 : Int32), vi (100 : Int32), vi pre, vi adv, vi ((XT.ushr p3 (3 : Int32)) &&& (3 : Int32)), vi (1 : Int32), vd (FP.i2d p0), ss, vr a1539, vd mv, ss, vd mt, ss, vi (1 : Int32), vi tI, vi nI, vd (FP.i2d nI), ss, vd mv, ss, vd mt, ss, uu, uu, vi (1 : Int32), vi (0 : Int32), uu, uu, uu, uu, uu, uu, uu, uu, uu]) rfl ?_
            refine XS.goto X1744.here hx rfl (pc0 := 336) (pc' := 346) rfl (hb hby at_336) (by decide) (by decide) ?_
            refine XS.iload X1744.here hx rfl (hb hby at_346) rfl ?_
            refine XS.ifNo X1744.here hx rfl (hb hby at_348) rfl (own_if_leN (by decide)) ?_
            show Steps p.tables e below (T1743.setTop (mkF m 351 #[vi p0, vi p1, vi p2, vi p3, vi (2 : Int32), vi (100 : Int32), vi pre, vi adv, vi ((XT.ushr p3 (3 : Int32)) &&& (3 : Int32)), vi (1 : Int32), vd (FP.i2d p0), ss, vr a1539, vd mv, ss, vd mt, ss, vi (1 : Int32), vi tI, vi nI, vd (FP.i2d nI), ss, vd mv, ss, vd mt, ss, uu, uu, vi (1 : Int32), vi (0 : Int32), uu, uu, uu, uu, uu, uu, uu, uu, uu] [])) tQ
            refine XS.dload X1744.here hx rfl (hb hby at_351) rfl ?_
            refine XS.goto X1744.here hx rfl (pc0 := 353) (pc' := 358) rfl (hb hby at_353) (by decide) (by decide) ?_
            refine XS.dstore X1744.here hx rfl (hb hby at_358) rfl (l' := #[vi p0, vi p1, vi p2, vi p3, vi (2 : Int32), vi (100 : Int32), vi pre, vi adv, vi ((XT.ushr p3 (3 : Int32)) &&& (3 : Int32)), vi (1 : Int32), vd (FP.i2d p0), ss, vr a1539, vd mv, ss, vd mt, ss, vi (1 : Int32), vi tI, vi nI, vd (FP.i2d nI), ss, vd mv, ss, vd mt, ss, vd mt, ss, vi (1 : Int32), vi (0 : Int32), uu, uu, uu, uu, uu, uu, uu, uu, uu]) rfl ?_
            refine XS.aload X1744.here hx rfl (hb hby at_360) rfl rfl ?_
            show Steps p.tables e below (T1743.setTop (mkF m 362 #[vi p0, vi p1, vi p2, vi p3, vi (2 : Int32), vi (100 : Int32), vi pre, vi adv, vi ((XT.ushr p3 (3 : Int32)) &&& (3 : Int32)), vi (1 : Int32), vd (FP.i2d p0), ss, vr a1539, vd mv, ss, vd mt, ss, vi (1 : Int32), vi tI, vi nI, vd (FP.i2d nI), ss, vd mv, ss, vd mt, ss, vd mt, ss, vi (1 : Int32), vi (0 : Int32), uu, uu, uu, uu, uu, uu, uu, uu, uu] [(.ref a1539)])) tQ
            refine XS.dload X1744.here hx rfl (hb hby at_362) rfl ?_
            refine XS.iload X1744.here hx rfl (hb hby at_364) rfl ?_
            exact kk
          clear k1964
          obtain ⟨cq2175, kq2176, qa2177, qb2178, qc2179⟩ := isOf hZ e1745 F1750
          obtain ⟨_, _, ⟨T2164, L2165, kc2166, nc2167⟩, -, X2168, ⟨Lc2169, hQ2170, l2171, y2172, z2173⟩, st2174⟩ := X1744.virtualBack hx (y := mn11) (z := mn11) hown (mvT hZ (tw32 hw)) (mvT hZ (tw33 hw)) (notFace_of_selects (args := #[]) (mvT hZ (tw35 hw))) (mvT hZ (tw35 hw)) (mvT hZ (tw34 hw)) (by decide) (backOf (W := 0) (rmS1 l Z a0 hw [] a1539 (FP.i2d nI) (2 : Int32) vl mt sp (1 : Int32) h1746 n0 Z1748 F1750 F1751 F1752 F1753 F1754 F1755 ge1541 (Fl.i2d_fin nI).noNaN nmt (fun _ => ⟨Fl.dsub_out (Fl.i2d_fin nI).noNaN hvl.1, (own_fspN nI (F := (2 : Int32)) bW hvl (by decide)).noNaN⟩)) hZ (tw36 hw) (tw2 hw) (by decide) (by decide)) qa2177 qc2179 (g := (mkF m 366 #[vi p0, vi p1, vi p2, vi p3, vi (2 : Int32), vi (100 : Int32), vi pre, vi adv, vi ((XT.ushr p3 (3 : Int32)) &&& (3 : Int32)), vi (1 : Int32), vd (FP.i2d p0), ss, vr a1539, vd mv, ss, vd mt, ss, vi (1 : Int32), vi tI, vi nI, vd (FP.i2d nI), ss, vd mv, ss, vd mt, ss, vd mt, ss, vi (1 : Int32), vi (0 : Int32), uu, uu, uu, uu, uu, uu, uu, uu, uu] [(.int (1 : Int32)), (.double (FP.i2d nI)), (.ref a1539)])) rfl (by rw [hml]; rfl) (Steps.refl _) (argsL := [(.double (FP.i2d nI)), (.int (1 : Int32))]) (rest := []) (lenOf pd_17 rfl) rfl (by show 2 * 0 + _ ≤ _; exact Nat.le_of_eq rfl) (hb hby at_366) (fun _ _ => ⟨rfl, e1745, (by decide : 1 + 0 ≤ _), (by decide : 5 + 0 ≤ _)⟩)
          dsimp only [Pt.U, Pt.locs, Pt.cells, Pt.slots] at X2168 l2171 y2172 z2173 st2174 hQ2170
          subst y2172 z2173
          obtain ⟨rfl, N2180, K2183, g2184, g2185, g2186, g2187, g2188⟩ := hQ2170
          have N2189 : Fr n0 L2165 := by rw [l2171]; exact Fr.app N1747 N2180
          clear l2171 N2180
          have Z2190 : n0 ≤ T2164.heap.size := Nat.le_trans Z1748 K2183.1
          clear Z1748
          have F2191 : xa7 Z T2164.heap a1539 := F1750.keep K2183
          clear F1750
          clear F1751
          clear F1752
          clear F1753
          clear F1754
          clear F1755
          have k2192 : own_G p e below E0 T2164 (mkF m 369 #[vi p0, vi p1, vi p2, vi p3, vi (2 : Int32), vi (100 : Int32), vi pre, vi adv, vi ((XT.ushr p3 (3 : Int32)) &&& (3 : Int32)), vi (1 : Int32), vd (FP.i2d p0), ss, vr a1539, vd mv, ss, vd mt, ss, vi (1 : Int32), vi tI, vi nI, vd (FP.i2d nI), ss, vd mv, ss, vd mt, ss, vd mt, ss, vi (1 : Int32), vi (0 : Int32), uu, uu, uu, uu, uu, uu, uu, uu, uu] []) := fun tQ kk => k2163 tQ (st2174.trans kk)
          clear k2163 st2174
          have eq2193 : (own_tg (FP.i2d nI) mt) = mt := by rw [own_tg, if_pos cE]
          have F2194 : fd4 Z T2164.heap a1539 (.double mt) := by rw [← eq2193]; exact g2186
          have eq2195 : (own_sp (FP.i2d nI) vl mt sp (2 : Int32)) = sp := by rw [own_sp, if_pos cE]
          have F2196 : fd5 Z T2164.heap a1539 (.double sp) := by rw [← eq2195]; exact g2187
          have eq2197 : (own_rm (FP.i2d nI) mt (1 : Int32) (2 : Int32)) = (1 : Int32) := by rw [own_rm, if_pos cE]
          have F2198 : fd6 Z T2164.heap a1539 (.int (1 : Int32)) := by rw [← eq2197]; exact g2188
          have k2199 : own_G p e below E0 T2164 (mkF m 371 #[vi p0, vi p1, vi p2, vi p3, vi (2 : Int32), vi (100 : Int32), vi pre, vi adv, vi ((XT.ushr p3 (3 : Int32)) &&& (3 : Int32)), vi (1 : Int32), vd (FP.i2d p0), ss, vr a1539, vd mv, ss, vd mt, ss, vi (1 : Int32), vi tI, vi nI, vd (FP.i2d nI), ss, vd mv, ss, vd mt, ss, vd mt, ss, vi (1 : Int32), vi (0 : Int32), uu, uu, uu, uu, uu, uu, uu, uu, uu] [(.ref a1539)]) := by
            intro tQ kk
            refine k2192 tQ ?_
            refine XS.aload X2168.here hx rfl (hb hby at_369) rfl rfl ?_
            exact kk
          clear k2192
          obtain ⟨cq2211, kq2212, qa2213, qb2214, qc2215⟩ := isOf hZ rfl F2191
          obtain ⟨_, _, ⟨T2200, L2201, kc2202, nc2203⟩, -, X2204, ⟨Lc2205, hQ2206, l2207, y2208, z2209⟩, st2210⟩ := X2168.virtualBack hx (y := mn14) (z := mn14) hown (mvT hZ (tw39 hw)) (mvT hZ (tw40 hw)) (notFace_of_selects (args := #[]) (mvT hZ (tw42 hw))) (mvT hZ (tw42 hw)) (mvT hZ (tw41 hw)) (by decide) (backOf (W := 0) (rmVl l Z a0 hw [] a1539 vl T2164.heap n0 Z2190 g2185) hZ (tw43 hw) (tw2 hw) (by decide) (by decide)) qa2213 qc2215 (g := (mkF m 371 #[vi p0, vi p1, vi p2, vi p3, vi (2 : Int32), vi (100 : Int32), vi pre, vi adv, vi ((XT.ushr p3 (3 : Int32)) &&& (3 : Int32)), vi (1 : Int32), vd (FP.i2d p0), ss, vr a1539, vd mv, ss, vd mt, ss, vi (1 : Int32), vi tI, vi nI, vd (FP.i2d nI), ss, vd mv, ss, vd mt, ss, vd mt, ss, vi (1 : Int32), vi (0 : Int32), uu, uu, uu, uu, uu, uu, uu, uu, uu] [(.ref a1539)])) rfl (by rw [hml]; rfl) (Steps.refl _) (argsL := []) (rest := []) (lenOf pd_16 rfl) rfl (by show 2 * 0 + _ ≤ _; exact Nat.le_of_eq rfl) (hb hby at_371) (fun _ _ => ⟨rfl, rfl, (by decide : 1 + 0 ≤ _), (by decide : 5 + 0 ≤ _)⟩)
          dsimp only [Pt.U, Pt.locs, Pt.cells, Pt.slots] at X2204 l2207 y2208 z2209 st2210 hQ2206
          subst y2208 z2209
          obtain ⟨rfl, N2216, e2217⟩ := hQ2206
          have N2219 : Fr n0 L2201 := by rw [l2207]; exact Fr.app N2189 N2216
          clear l2207 N2216
          have k2220 : own_G p e below E0 T2200 (mkF m 374 #[vi p0, vi p1, vi p2, vi p3, vi (2 : Int32), vi (100 : Int32), vi pre, vi adv, vi ((XT.ushr p3 (3 : Int32)) &&& (3 : Int32)), vi (1 : Int32), vd (FP.i2d p0), ss, vr a1539, vd mv, ss, vd mt, ss, vi (1 : Int32), vi tI, vi nI, vd (FP.i2d nI), ss, vd mv, ss, vd mt, ss, vd mt, ss, vi (1 : Int32), vi (0 : Int32), uu, uu, uu, uu, uu, uu, uu, uu, uu] [(.double vl)]) := fun tQ kk => k2199 tQ (st2210.trans kk)
          clear k2199 st2210
          have k2221 : own_G p e below E0 T2200 (mkF m 378 #[vi p0, vi p1, vi p2, vi p3, vi (2 : Int32), vi (100 : Int32), vi pre, vi adv, vi ((XT.ushr p3 (3 : Int32)) &&& (3 : Int32)), vi (1 : Int32), vd (FP.i2d p0), ss, vr a1539, vd mv, ss, vd mt, ss, vi (1 : Int32), vi tI, vi nI, vd (FP.i2d nI), ss, vd mv, ss, vd mt, ss, vd mt, ss, vi (1 : Int32), vi (0 : Int32), vd vl, ss, uu, uu, uu, uu, uu, uu, uu] [(.ref a1539)]) := by
            intro tQ kk
            refine k2220 tQ ?_
            refine XS.dstore X2204.here hx rfl (hb hby at_374) rfl (l' := #[vi p0, vi p1, vi p2, vi p3, vi (2 : Int32), vi (100 : Int32), vi pre, vi adv, vi ((XT.ushr p3 (3 : Int32)) &&& (3 : Int32)), vi (1 : Int32), vd (FP.i2d p0), ss, vr a1539, vd mv, ss, vd mt, ss, vi (1 : Int32), vi tI, vi nI, vd (FP.i2d nI), ss, vd mv, ss, vd mt, ss, vd mt, ss, vi (1 : Int32), vi (0 : Int32), vd vl, ss, uu, uu, uu, uu, uu, uu, uu]) rfl ?_
            refine XS.aload X2204.here hx rfl (hb hby at_376) rfl rfl ?_
            exact kk
          clear k2220
          obtain ⟨cq2233, kq2234, qa2235, qb2236, qc2237⟩ := isOf hZ e2217 F2191
          obtain ⟨_, _, ⟨T2222, L2223, kc2224, nc2225⟩, -, X2226, ⟨Lc2227, hQ2228, l2229, y2230, z2231⟩, st2232⟩ := X2204.virtualBack hx (y := mn13) (z := mn13) hown (mvT hZ (tw44 hw)) (mvT hZ (tw45 hw)) (notFace_of_selects (args := #[]) (mvT hZ (tw47 hw))) (mvT hZ (tw47 hw)) (mvT hZ (tw46 hw)) (by decide) (backOf (W := 0) (rmMv l Z a0 hw [] a1539 (1 : Int32) T2164.heap n0 Z2190 F2198) hZ (tw48 hw) (tw2 hw) (by decide) (by decide)) qa2235 qc2237 (g := (mkF m 378 #[vi p0, vi p1, vi p2, vi p3, vi (2 : Int32), vi (100 : Int32), vi pre, vi adv, vi ((XT.ushr p3 (3 : Int32)) &&& (3 : Int32)), vi (1 : Int32), vd (FP.i2d p0), ss, vr a1539, vd mv, ss, vd mt, ss, vi (1 : Int32), vi tI, vi nI, vd (FP.i2d nI), ss, vd mv, ss, vd mt, ss, vd mt, ss, vi (1 : Int32), vi (0 : Int32), vd vl, ss, uu, uu, uu, uu, uu, uu, uu] [(.ref a1539)])) rfl (by rw [hml]; rfl) (Steps.refl _) (argsL := []) (rest := []) (lenOf pd_18 rfl) rfl (by show 2 * 0 + _ ≤ _; exact Nat.le_of_eq rfl) (hb hby at_378) (fun _ _ => ⟨rfl, e2217, (by decide : 1 + 0 ≤ _), (by decide : 5 + 0 ≤ _)⟩)
          dsimp only [Pt.U, Pt.locs, Pt.cells, Pt.slots] at X2226 l2229 y2230 z2231 st2232 hQ2228
          subst y2230 z2231
          obtain ⟨rfl, N2238, e2239⟩ := hQ2228
          have N2241 : Fr n0 L2223 := by rw [l2229]; exact Fr.app N2219 N2238
          clear l2229 N2238
          have k2242 : own_G p e below E0 T2222 (mkF m 381 #[vi p0, vi p1, vi p2, vi p3, vi (2 : Int32), vi (100 : Int32), vi pre, vi adv, vi ((XT.ushr p3 (3 : Int32)) &&& (3 : Int32)), vi (1 : Int32), vd (FP.i2d p0), ss, vr a1539, vd mv, ss, vd mt, ss, vi (1 : Int32), vi tI, vi nI, vd (FP.i2d nI), ss, vd mv, ss, vd mt, ss, vd mt, ss, vi (1 : Int32), vi (0 : Int32), vd vl, ss, uu, uu, uu, uu, uu, uu, uu] [(.int (own_mv (1 : Int32)))]) := fun tQ kk => k2221 tQ (st2232.trans kk)
          clear k2221 st2232
          have eq2243 : (own_mv (1 : Int32)) = (1 : Int32) := by decide
          rw [eq2243] at k2242
          have k2244 : own_G p e below E0 T2222 (mkF m 385 #[vi p0, vi p1, vi p2, vi p3, vi (2 : Int32), vi (100 : Int32), vi pre, vi adv, vi ((XT.ushr p3 (3 : Int32)) &&& (3 : Int32)), vi (1 : Int32), vd (FP.i2d p0), ss, vr a1539, vd mv, ss, vd mt, ss, vi (1 : Int32), vi tI, vi nI, vd (FP.i2d nI), ss, vd mv, ss, vd mt, ss, vd mt, ss, vi (1 : Int32), vi (0 : Int32), vd vl, ss, vi (1 : Int32), uu, uu, uu, uu, uu, uu] [(.ref a1539)]) := by
            intro tQ kk
            refine k2242 tQ ?_
            refine XS.istore X2226.here hx rfl (hb hby at_381) rfl (l' := #[vi p0, vi p1, vi p2, vi p3, vi (2 : Int32), vi (100 : Int32), vi pre, vi adv, vi ((XT.ushr p3 (3 : Int32)) &&& (3 : Int32)), vi (1 : Int32), vd (FP.i2d p0), ss, vr a1539, vd mv, ss, vd mt, ss, vi (1 : Int32), vi tI, vi nI, vd (FP.i2d nI), ss, vd mv, ss, vd mt, ss, vd mt, ss, vi (1 : Int32), vi (0 : Int32), vd vl, ss, vi (1 : Int32), uu, uu, uu, uu, uu, uu]) rfl ?_
            refine XS.aload X2226.here hx rfl (hb hby at_383) rfl rfl ?_
            exact kk
          clear k2242
          obtain ⟨cq2256, kq2257, qa2258, qb2259, qc2260⟩ := isOf hZ e2239 F2191
          obtain ⟨_, _, ⟨T2245, L2246, kc2247, nc2248⟩, -, X2249, ⟨Lc2250, hQ2251, l2252, y2253, z2254⟩, st2255⟩ := X2226.virtualBack hx (y := mn12) (z := mn12) hown (mvT hZ (tw49 hw)) (mvT hZ (tw50 hw)) (notFace_of_selects (args := #[]) (mvT hZ (tw52 hw))) (mvT hZ (tw52 hw)) (mvT hZ (tw51 hw)) (by decide) (backOf (W := 0) (rmN l Z a0 hw [] a1539 (2 : Int32) vl mt sp (1 : Int32) T2164.heap n0 Z2190 F2191 g2184 g2185 F2194 F2196 F2198 ge1541 (fun _ => own_nn1 hsp fmt)) hZ (tw53 hw) (tw2 hw) (by decide) (by decide)) qa2258 qc2260 (g := (mkF m 385 #[vi p0, vi p1, vi p2, vi p3, vi (2 : Int32), vi (100 : Int32), vi pre, vi adv, vi ((XT.ushr p3 (3 : Int32)) &&& (3 : Int32)), vi (1 : Int32), vd (FP.i2d p0), ss, vr a1539, vd mv, ss, vd mt, ss, vi (1 : Int32), vi tI, vi nI, vd (FP.i2d nI), ss, vd mv, ss, vd mt, ss, vd mt, ss, vi (1 : Int32), vi (0 : Int32), vd vl, ss, vi (1 : Int32), uu, uu, uu, uu, uu, uu] [(.ref a1539)])) rfl (by rw [hml]; rfl) (Steps.refl _) (argsL := []) (rest := []) (lenOf pd_16 rfl) rfl (by show 2 * 0 + _ ≤ _; exact Nat.le_of_eq rfl) (hb hby at_385) (fun _ _ => ⟨rfl, e2239, (by decide : 1 + 0 ≤ _), (by decide : 5 + 0 ≤ _)⟩)
          dsimp only [Pt.U, Pt.locs, Pt.cells, Pt.slots] at X2249 l2252 y2253 z2254 st2255 hQ2251
          subst y2253 z2254
          obtain ⟨rfl, N2261, K2264, g2265, g2266, g2267, g2268, g2269⟩ := hQ2251
          have N2270 : Fr n0 L2246 := by rw [l2252]; exact Fr.app N2241 N2261
          clear l2252 N2261
          have Z2271 : n0 ≤ T2245.heap.size := Nat.le_trans Z2190 K2264.1
          clear Z2190
          have F2272 : xa7 Z T2245.heap a1539 := F2191.keep K2264
          clear F2191
          clear g2184
          clear g2185
          clear F2194
          clear F2196
          clear F2198
          have k2273 : own_G p e below E0 T2245 (mkF m 388 #[vi p0, vi p1, vi p2, vi p3, vi (2 : Int32), vi (100 : Int32), vi pre, vi adv, vi ((XT.ushr p3 (3 : Int32)) &&& (3 : Int32)), vi (1 : Int32), vd (FP.i2d p0), ss, vr a1539, vd mv, ss, vd mt, ss, vi (1 : Int32), vi tI, vi nI, vd (FP.i2d nI), ss, vd mv, ss, vd mt, ss, vd mt, ss, vi (1 : Int32), vi (0 : Int32), vd vl, ss, vi (1 : Int32), uu, uu, uu, uu, uu, uu] [(.double (own_nv vl mt sp (1 : Int32)))]) := fun tQ kk => k2244 tQ (st2255.trans kk)
          clear k2244 st2255
          have eq2274 : (own_nv vl mt sp (1 : Int32)) = (FP.dsub mt (FP.dmul (FP.i2d (0 : Int32)) sp)) := by rw [own_nv, if_pos (by decide), show (1 : Int32) - 1 = (0 : Int32) by decide]
          have F2275 : fd3 Z T2245.heap a1539 (.double (FP.dsub mt (FP.dmul (FP.i2d (0 : Int32)) sp))) := by rw [← eq2274]; exact g2266
          have eq2276 : (own_nr (1 : Int32)) = (0 : Int32) := by decide
          have F2277 : fd6 Z T2245.heap a1539 (.int (0 : Int32)) := by rw [← eq2276]; exact g2269
          have eq2278 : (own_nv vl mt sp (1 : Int32)) = (FP.dsub mt (FP.dmul (FP.i2d (0 : Int32)) sp)) := by rw [own_nv, if_pos (by decide), show (1 : Int32) - 1 = (0 : Int32) by decide]
          rw [eq2278] at k2273
          have k2279 : own_G p e below E0 T2245 (mkF m 392 #[vi p0, vi p1, vi p2, vi p3, vi (2 : Int32), vi (100 : Int32), vi pre, vi adv, vi ((XT.ushr p3 (3 : Int32)) &&& (3 : Int32)), vi (1 : Int32), vd (FP.i2d p0), ss, vr a1539, vd mv, ss, vd mt, ss, vi (1 : Int32), vi tI, vi nI, vd (FP.i2d nI), ss, vd mv, ss, vd mt, ss, vd mt, ss, vi (1 : Int32), vi (0 : Int32), vd vl, ss, vi (1 : Int32), vd (FP.dsub mt (FP.dmul (FP.i2d (0 : Int32)) sp)), ss, uu, uu, uu, uu] [(.ref a1539)]) := by
            intro tQ kk
            refine k2273 tQ ?_
            refine XS.dstore X2249.here hx rfl (hb hby at_388) rfl (l' := #[vi p0, vi p1, vi p2, vi p3, vi (2 : Int32), vi (100 : Int32), vi pre, vi adv, vi ((XT.ushr p3 (3 : Int32)) &&& (3 : Int32)), vi (1 : Int32), vd (FP.i2d p0), ss, vr a1539, vd mv, ss, vd mt, ss, vi (1 : Int32), vi tI, vi nI, vd (FP.i2d nI), ss, vd mv, ss, vd mt, ss, vd mt, ss, vi (1 : Int32), vi (0 : Int32), vd vl, ss, vi (1 : Int32), vd (FP.dsub mt (FP.dmul (FP.i2d (0 : Int32)) sp)), ss, uu, uu, uu, uu]) rfl ?_
            refine XS.aload X2249.here hx rfl (hb hby at_390) rfl rfl ?_
            exact kk
          clear k2273
          obtain ⟨cq2291, kq2292, qa2293, qb2294, qc2295⟩ := isOf hZ rfl F2272
          obtain ⟨_, _, ⟨T2280, L2281, kc2282, nc2283⟩, -, X2284, ⟨Lc2285, hQ2286, l2287, y2288, z2289⟩, st2290⟩ := X2249.virtualBack hx (y := mn13) (z := mn13) hown (mvT hZ (tw44 hw)) (mvT hZ (tw45 hw)) (notFace_of_selects (args := #[]) (mvT hZ (tw47 hw))) (mvT hZ (tw47 hw)) (mvT hZ (tw46 hw)) (by decide) (backOf (W := 0) (rmMv l Z a0 hw [] a1539 (0 : Int32) T2245.heap n0 Z2271 F2277) hZ (tw48 hw) (tw2 hw) (by decide) (by decide)) qa2293 qc2295 (g := (mkF m 392 #[vi p0, vi p1, vi p2, vi p3, vi (2 : Int32), vi (100 : Int32), vi pre, vi adv, vi ((XT.ushr p3 (3 : Int32)) &&& (3 : Int32)), vi (1 : Int32), vd (FP.i2d p0), ss, vr a1539, vd mv, ss, vd mt, ss, vi (1 : Int32), vi tI, vi nI, vd (FP.i2d nI), ss, vd mv, ss, vd mt, ss, vd mt, ss, vi (1 : Int32), vi (0 : Int32), vd vl, ss, vi (1 : Int32), vd (FP.dsub mt (FP.dmul (FP.i2d (0 : Int32)) sp)), ss, uu, uu, uu, uu] [(.ref a1539)])) rfl (by rw [hml]; rfl) (Steps.refl _) (argsL := []) (rest := []) (lenOf pd_18 rfl) rfl (by show 2 * 0 + _ ≤ _; exact Nat.le_of_eq rfl) (hb hby at_392) (fun _ _ => ⟨rfl, rfl, (by decide : 1 + 0 ≤ _), (by decide : 5 + 0 ≤ _)⟩)
          dsimp only [Pt.U, Pt.locs, Pt.cells, Pt.slots] at X2284 l2287 y2288 z2289 st2290 hQ2286
          subst y2288 z2289
          obtain ⟨rfl, N2296, e2297⟩ := hQ2286
          have N2299 : Fr n0 L2281 := by rw [l2287]; exact Fr.app N2270 N2296
          clear l2287 N2296
          have k2300 : own_G p e below E0 T2280 (mkF m 395 #[vi p0, vi p1, vi p2, vi p3, vi (2 : Int32), vi (100 : Int32), vi pre, vi adv, vi ((XT.ushr p3 (3 : Int32)) &&& (3 : Int32)), vi (1 : Int32), vd (FP.i2d p0), ss, vr a1539, vd mv, ss, vd mt, ss, vi (1 : Int32), vi tI, vi nI, vd (FP.i2d nI), ss, vd mv, ss, vd mt, ss, vd mt, ss, vi (1 : Int32), vi (0 : Int32), vd vl, ss, vi (1 : Int32), vd (FP.dsub mt (FP.dmul (FP.i2d (0 : Int32)) sp)), ss, uu, uu, uu, uu] [(.int (own_mv (0 : Int32)))]) := fun tQ kk => k2279 tQ (st2290.trans kk)
          clear k2279 st2290
          have eq2301 : (own_mv (0 : Int32)) = (0 : Int32) := by decide
          rw [eq2301] at k2300
          have k2302 : own_G p e below E0 T2280 (mkF m 399 #[vi p0, vi p1, vi p2, vi p3, vi (2 : Int32), vi (100 : Int32), vi pre, vi adv, vi ((XT.ushr p3 (3 : Int32)) &&& (3 : Int32)), vi (1 : Int32), vd (FP.i2d p0), ss, vr a1539, vd mv, ss, vd mt, ss, vi (1 : Int32), vi tI, vi nI, vd (FP.i2d nI), ss, vd mv, ss, vd mt, ss, vd mt, ss, vi (1 : Int32), vi (0 : Int32), vd vl, ss, vi (1 : Int32), vd (FP.dsub mt (FP.dmul (FP.i2d (0 : Int32)) sp)), ss, vi (0 : Int32), uu, uu, uu] [(.ref a1539)]) := by
            intro tQ kk
            refine k2300 tQ ?_
            refine XS.istore X2284.here hx rfl (hb hby at_395) rfl (l' := #[vi p0, vi p1, vi p2, vi p3, vi (2 : Int32), vi (100 : Int32), vi pre, vi adv, vi ((XT.ushr p3 (3 : Int32)) &&& (3 : Int32)), vi (1 : Int32), vd (FP.i2d p0), ss, vr a1539, vd mv, ss, vd mt, ss, vi (1 : Int32), vi tI, vi nI, vd (FP.i2d nI), ss, vd mv, ss, vd mt, ss, vd mt, ss, vi (1 : Int32), vi (0 : Int32), vd vl, ss, vi (1 : Int32), vd (FP.dsub mt (FP.dmul (FP.i2d (0 : Int32)) sp)), ss, vi (0 : Int32), uu, uu, uu]) rfl ?_
            refine XS.aload X2284.here hx rfl (hb hby at_397) rfl rfl ?_
            exact kk
          clear k2300
          obtain ⟨cq2314, kq2315, qa2316, qb2317, qc2318⟩ := isOf hZ e2297 F2272
          obtain ⟨_, _, ⟨T2303, L2304, kc2305, nc2306⟩, -, X2307, ⟨Lc2308, hQ2309, l2310, y2311, z2312⟩, st2313⟩ := X2284.virtualBack hx (y := mn12) (z := mn12) hown (mvT hZ (tw49 hw)) (mvT hZ (tw50 hw)) (notFace_of_selects (args := #[]) (mvT hZ (tw52 hw))) (mvT hZ (tw52 hw)) (mvT hZ (tw51 hw)) (by decide) (backOf (W := 0) (rmN l Z a0 hw [] a1539 (2 : Int32) (FP.dsub mt (FP.dmul (FP.i2d (0 : Int32)) sp)) mt sp (0 : Int32) T2245.heap n0 Z2271 F2272 g2265 F2275 g2267 g2268 F2277 ge1541 (fun z => absurd z (by decide))) hZ (tw53 hw) (tw2 hw) (by decide) (by decide)) qa2316 qc2318 (g := (mkF m 399 #[vi p0, vi p1, vi p2, vi p3, vi (2 : Int32), vi (100 : Int32), vi pre, vi adv, vi ((XT.ushr p3 (3 : Int32)) &&& (3 : Int32)), vi (1 : Int32), vd (FP.i2d p0), ss, vr a1539, vd mv, ss, vd mt, ss, vi (1 : Int32), vi tI, vi nI, vd (FP.i2d nI), ss, vd mv, ss, vd mt, ss, vd mt, ss, vi (1 : Int32), vi (0 : Int32), vd vl, ss, vi (1 : Int32), vd (FP.dsub mt (FP.dmul (FP.i2d (0 : Int32)) sp)), ss, vi (0 : Int32), uu, uu, uu] [(.ref a1539)])) rfl (by rw [hml]; rfl) (Steps.refl _) (argsL := []) (rest := []) (lenOf pd_16 rfl) rfl (by show 2 * 0 + _ ≤ _; exact Nat.le_of_eq rfl) (hb hby at_399) (fun _ _ => ⟨rfl, e2297, (by decide : 1 + 0 ≤ _), (by decide : 5 + 0 ≤ _)⟩)
          dsimp only [Pt.U, Pt.locs, Pt.cells, Pt.slots] at X2307 l2310 y2311 z2312 st2313 hQ2309
          subst y2311 z2312
          obtain ⟨rfl, N2319, K2322, g2323, g2324, g2325, g2326, g2327⟩ := hQ2309
          have N2328 : Fr n0 L2304 := by rw [l2310]; exact Fr.app N2299 N2319
          clear l2310 N2319
          have Z2329 : n0 ≤ T2303.heap.size := Nat.le_trans Z2271 K2322.1
          clear Z2271
          have F2330 : xa7 Z T2303.heap a1539 := F2272.keep K2322
          clear F2272
          clear g2265
          clear F2275
          clear g2267
          clear g2268
          clear F2277
          have k2331 : own_G p e below E0 T2303 (mkF m 402 #[vi p0, vi p1, vi p2, vi p3, vi (2 : Int32), vi (100 : Int32), vi pre, vi adv, vi ((XT.ushr p3 (3 : Int32)) &&& (3 : Int32)), vi (1 : Int32), vd (FP.i2d p0), ss, vr a1539, vd mv, ss, vd mt, ss, vi (1 : Int32), vi tI, vi nI, vd (FP.i2d nI), ss, vd mv, ss, vd mt, ss, vd mt, ss, vi (1 : Int32), vi (0 : Int32), vd vl, ss, vi (1 : Int32), vd (FP.dsub mt (FP.dmul (FP.i2d (0 : Int32)) sp)), ss, vi (0 : Int32), uu, uu, uu] [(.double (own_nv (FP.dsub mt (FP.dmul (FP.i2d (0 : Int32)) sp)) mt sp (0 : Int32)))]) := fun tQ kk => k2302 tQ (st2313.trans kk)
          clear k2302 st2313
          have eq2332 : (own_nv (FP.dsub mt (FP.dmul (FP.i2d (0 : Int32)) sp)) mt sp (0 : Int32)) = (FP.dsub mt (FP.dmul (FP.i2d (0 : Int32)) sp)) := by rw [own_nv, if_neg (by decide)]
          have F2333 : fd3 Z T2303.heap a1539 (.double (FP.dsub mt (FP.dmul (FP.i2d (0 : Int32)) sp))) := by rw [← eq2332]; exact g2324
          have eq2334 : (own_nr (0 : Int32)) = (0 : Int32) := by decide
          have F2335 : fd6 Z T2303.heap a1539 (.int (0 : Int32)) := by rw [← eq2334]; exact g2327
          have eq2336 : (own_nv (FP.dsub mt (FP.dmul (FP.i2d (0 : Int32)) sp)) mt sp (0 : Int32)) = (FP.dsub mt (FP.dmul (FP.i2d (0 : Int32)) sp)) := by rw [own_nv, if_neg (by decide)]
          rw [eq2336] at k2331
          have k2337 : own_G p e below E0 T2303 (mkF m 406 #[vi p0, vi p1, vi p2, vi p3, vi (2 : Int32), vi (100 : Int32), vi pre, vi adv, vi ((XT.ushr p3 (3 : Int32)) &&& (3 : Int32)), vi (1 : Int32), vd (FP.i2d p0), ss, vr a1539, vd mv, ss, vd mt, ss, vi (1 : Int32), vi tI, vi nI, vd (FP.i2d nI), ss, vd mv, ss, vd mt, ss, vd mt, ss, vi (1 : Int32), vi (0 : Int32), vd vl, ss, vi (1 : Int32), vd (FP.dsub mt (FP.dmul (FP.i2d (0 : Int32)) sp)), ss, vi (0 : Int32), vd (FP.dsub mt (FP.dmul (FP.i2d (0 : Int32)) sp)), ss, uu] [(.ref a1539)]) := by
            intro tQ kk
            refine k2331 tQ ?_
            refine XS.dstore X2307.here hx rfl (hb hby at_402) rfl (l' := #[vi p0, vi p1, vi p2, vi p3, vi (2 : Int32), vi (100 : Int32), vi pre, vi adv, vi ((XT.ushr p3 (3 : Int32)) &&& (3 : Int32)), vi (1 : Int32), vd (FP.i2d p0), ss, vr a1539, vd mv, ss, vd mt, ss, vi (1 : Int32), vi tI, vi nI, vd (FP.i2d nI), ss, vd mv, ss, vd mt, ss, vd mt, ss, vi (1 : Int32), vi (0 : Int32), vd vl, ss, vi (1 : Int32), vd (FP.dsub mt (FP.dmul (FP.i2d (0 : Int32)) sp)), ss, vi (0 : Int32), vd (FP.dsub mt (FP.dmul (FP.i2d (0 : Int32)) sp)), ss, uu]) rfl ?_
            refine XS.aload X2307.here hx rfl (hb hby at_404) rfl rfl ?_
            exact kk
          clear k2331
          obtain ⟨cq2349, kq2350, qa2351, qb2352, qc2353⟩ := isOf hZ rfl F2330
          obtain ⟨_, _, ⟨T2338, L2339, kc2340, nc2341⟩, -, X2342, ⟨Lc2343, hQ2344, l2345, y2346, z2347⟩, st2348⟩ := X2307.virtualBack hx (y := mn13) (z := mn13) hown (mvT hZ (tw44 hw)) (mvT hZ (tw45 hw)) (notFace_of_selects (args := #[]) (mvT hZ (tw47 hw))) (mvT hZ (tw47 hw)) (mvT hZ (tw46 hw)) (by decide) (backOf (W := 0) (rmMv l Z a0 hw [] a1539 (0 : Int32) T2303.heap n0 Z2329 F2335) hZ (tw48 hw) (tw2 hw) (by decide) (by decide)) qa2351 qc2353 (g := (mkF m 406 #[vi p0, vi p1, vi p2, vi p3, vi (2 : Int32), vi (100 : Int32), vi pre, vi adv, vi ((XT.ushr p3 (3 : Int32)) &&& (3 : Int32)), vi (1 : Int32), vd (FP.i2d p0), ss, vr a1539, vd mv, ss, vd mt, ss, vi (1 : Int32), vi tI, vi nI, vd (FP.i2d nI), ss, vd mv, ss, vd mt, ss, vd mt, ss, vi (1 : Int32), vi (0 : Int32), vd vl, ss, vi (1 : Int32), vd (FP.dsub mt (FP.dmul (FP.i2d (0 : Int32)) sp)), ss, vi (0 : Int32), vd (FP.dsub mt (FP.dmul (FP.i2d (0 : Int32)) sp)), ss, uu] [(.ref a1539)])) rfl (by rw [hml]; rfl) (Steps.refl _) (argsL := []) (rest := []) (lenOf pd_18 rfl) rfl (by show 2 * 0 + _ ≤ _; exact Nat.le_of_eq rfl) (hb hby at_406) (fun _ _ => ⟨rfl, rfl, (by decide : 1 + 0 ≤ _), (by decide : 5 + 0 ≤ _)⟩)
          dsimp only [Pt.U, Pt.locs, Pt.cells, Pt.slots] at X2342 l2345 y2346 z2347 st2348 hQ2344
          subst y2346 z2347
          obtain ⟨rfl, N2354, e2355⟩ := hQ2344
          have N2357 : Fr n0 L2339 := by rw [l2345]; exact Fr.app N2328 N2354
          clear l2345 N2354
          have k2358 : own_G p e below E0 T2338 (mkF m 409 #[vi p0, vi p1, vi p2, vi p3, vi (2 : Int32), vi (100 : Int32), vi pre, vi adv, vi ((XT.ushr p3 (3 : Int32)) &&& (3 : Int32)), vi (1 : Int32), vd (FP.i2d p0), ss, vr a1539, vd mv, ss, vd mt, ss, vi (1 : Int32), vi tI, vi nI, vd (FP.i2d nI), ss, vd mv, ss, vd mt, ss, vd mt, ss, vi (1 : Int32), vi (0 : Int32), vd vl, ss, vi (1 : Int32), vd (FP.dsub mt (FP.dmul (FP.i2d (0 : Int32)) sp)), ss, vi (0 : Int32), vd (FP.dsub mt (FP.dmul (FP.i2d (0 : Int32)) sp)), ss, uu] [(.int (own_mv (0 : Int32)))]) := fun tQ kk => k2337 tQ (st2348.trans kk)
          clear k2337 st2348
          have eq2359 : (own_mv (0 : Int32)) = (0 : Int32) := by decide
          rw [eq2359] at k2358
          have k2360 : own_G p e below E0 T2338 (mkF m 459 #[vi p0, vi p1, vi p2, vi p3, vi (2 : Int32), vi (100 : Int32), vi pre, vi adv, vi ((XT.ushr p3 (3 : Int32)) &&& (3 : Int32)), vi (1 : Int32), vd (FP.i2d p0), ss, vr a1539, vd mv, ss, vd mt, ss, vi (1 : Int32), vi tI, vi nI, vd (FP.i2d nI), ss, vd mv, ss, vd mt, ss, vd mt, ss, vi (1 : Int32), vi (0 : Int32), vd vl, ss, vi (1 : Int32), vd (FP.dsub mt (FP.dmul (FP.i2d (0 : Int32)) sp)), ss, vi (0 : Int32), vd (FP.dsub mt (FP.dmul (FP.i2d (0 : Int32)) sp)), ss, vi (0 : Int32)] [(.int (1 : Int32))]) := by
            intro tQ kk
            refine k2358 tQ ?_
            refine XS.istore X2342.here hx rfl (hb hby at_409) rfl (l' := #[vi p0, vi p1, vi p2, vi p3, vi (2 : Int32), vi (100 : Int32), vi pre, vi adv, vi ((XT.ushr p3 (3 : Int32)) &&& (3 : Int32)), vi (1 : Int32), vd (FP.i2d p0), ss, vr a1539, vd mv, ss, vd mt, ss, vi (1 : Int32), vi tI, vi nI, vd (FP.i2d nI), ss, vd mv, ss, vd mt, ss, vd mt, ss, vi (1 : Int32), vi (0 : Int32), vd vl, ss, vi (1 : Int32), vd (FP.dsub mt (FP.dmul (FP.i2d (0 : Int32)) sp)), ss, vi (0 : Int32), vd (FP.dsub mt (FP.dmul (FP.i2d (0 : Int32)) sp)), ss, vi (0 : Int32)]) rfl ?_
            refine XS.dload X2342.here hx rfl (hb hby at_411) rfl ?_
            refine XS.dload X2342.here hx rfl (hb hby at_413) rfl ?_
            refine XS.dcmpS (v := (0 : Int32)) X2342.here hx rfl (hb hby at_415) rfl (own_eqz .l hvl.1.noNaN hmv.1.noNaN (hvl.2.trans hmv.2.symm)) ?_
            show Steps p.tables e below (T2338.setTop (mkF m 416 #[vi p0, vi p1, vi p2, vi p3, vi (2 : Int32), vi (100 : Int32), vi pre, vi adv, vi ((XT.ushr p3 (3 : Int32)) &&& (3 : Int32)), vi (1 : Int32), vd (FP.i2d p0), ss, vr a1539, vd mv, ss, vd mt, ss, vi (1 : Int32), vi tI, vi nI, vd (FP.i2d nI), ss, vd mv, ss, vd mt, ss, vd mt, ss, vi (1 : Int32), vi (0 : Int32), vd vl, ss, vi (1 : Int32), vd (FP.dsub mt (FP.dmul (FP.i2d (0 : Int32)) sp)), ss, vi (0 : Int32), vd (FP.dsub mt (FP.dmul (FP.i2d (0 : Int32)) sp)), ss, vi (0 : Int32)] [(.int (0 : Int32))])) tQ
            refine XS.ifNo X2342.here hx rfl (hb hby at_416) rfl (own_if_neN (by decide)) ?_
            refine XS.iload X2342.here hx rfl (hb hby at_419) rfl ?_
            refine XS.iload X2342.here hx rfl (hb hby at_421) rfl ?_
            refine XS.icmpNo X2342.here hx rfl (hb hby at_423) rfl (own_ic_neN (by decide)) ?_
            show Steps p.tables e below (T2338.setTop (mkF m 426 #[vi p0, vi p1, vi p2, vi p3, vi (2 : Int32), vi (100 : Int32), vi pre, vi adv, vi ((XT.ushr p3 (3 : Int32)) &&& (3 : Int32)), vi (1 : Int32), vd (FP.i2d p0), ss, vr a1539, vd mv, ss, vd mt, ss, vi (1 : Int32), vi tI, vi nI, vd (FP.i2d nI), ss, vd mv, ss, vd mt, ss, vd mt, ss, vi (1 : Int32), vi (0 : Int32), vd vl, ss, vi (1 : Int32), vd (FP.dsub mt (FP.dmul (FP.i2d (0 : Int32)) sp)), ss, vi (0 : Int32), vd (FP.dsub mt (FP.dmul (FP.i2d (0 : Int32)) sp)), ss, vi (0 : Int32)] [])) tQ
            refine XS.dload X2342.here hx rfl (hb hby at_426) rfl ?_
            refine XS.dload X2342.here hx rfl (hb hby at_428) rfl ?_
            refine XS.dcmpS (v := (0 : Int32)) X2342.here hx rfl (hb hby at_430) rfl (own_cz hsp fmt) ?_
            refine XS.ifNo X2342.here hx rfl (hb hby at_431) rfl (own_if_neN (by decide)) ?_
            show Steps p.tables e below (T2338.setTop (mkF m 434 #[vi p0, vi p1, vi p2, vi p3, vi (2 : Int32), vi (100 : Int32), vi pre, vi adv, vi ((XT.ushr p3 (3 : Int32)) &&& (3 : Int32)), vi (1 : Int32), vd (FP.i2d p0), ss, vr a1539, vd mv, ss, vd mt, ss, vi (1 : Int32), vi tI, vi nI, vd (FP.i2d nI), ss, vd mv, ss, vd mt, ss, vd mt, ss, vi (1 : Int32), vi (0 : Int32), vd vl, ss, vi (1 : Int32), vd (FP.dsub mt (FP.dmul (FP.i2d (0 : Int32)) sp)), ss, vi (0 : Int32), vd (FP.dsub mt (FP.dmul (FP.i2d (0 : Int32)) sp)), ss, vi (0 : Int32)] [])) tQ
            refine XS.iload X2342.here hx rfl (hb hby at_434) rfl ?_
            refine XS.iload X2342.here hx rfl (hb hby at_436) rfl ?_
            refine XS.icmpNo X2342.here hx rfl (hb hby at_438) rfl (own_ic_neN (by decide)) ?_
            refine XS.dload X2342.here hx rfl (hb hby at_441) rfl ?_
            show Steps p.tables e below (T2338.setTop (mkF m 443 #[vi p0, vi p1, vi p2, vi p3, vi (2 : Int32), vi (100 : Int32), vi pre, vi adv, vi ((XT.ushr p3 (3 : Int32)) &&& (3 : Int32)), vi (1 : Int32), vd (FP.i2d p0), ss, vr a1539, vd mv, ss, vd mt, ss, vi (1 : Int32), vi tI, vi nI, vd (FP.i2d nI), ss, vd mv, ss, vd mt, ss, vd mt, ss, vi (1 : Int32), vi (0 : Int32), vd vl, ss, vi (1 : Int32), vd (FP.dsub mt (FP.dmul (FP.i2d (0 : Int32)) sp)), ss, vi (0 : Int32), vd (FP.dsub mt (FP.dmul (FP.i2d (0 : Int32)) sp)), ss, vi (0 : Int32)] [(.double (FP.dsub mt (FP.dmul (FP.i2d (0 : Int32)) sp)))])) tQ
            refine XS.dload X2342.here hx rfl (hb hby at_443) rfl ?_
            refine XS.dcmpS (v := (0 : Int32)) X2342.here hx rfl (hb hby at_445) rfl (own_cz hsp fmt) ?_
            refine XS.ifNo X2342.here hx rfl (hb hby at_446) rfl (own_if_neN (by decide)) ?_
            refine XS.iload X2342.here hx rfl (hb hby at_449) rfl ?_
            show Steps p.tables e below (T2338.setTop (mkF m 451 #[vi p0, vi p1, vi p2, vi p3, vi (2 : Int32), vi (100 : Int32), vi pre, vi adv, vi ((XT.ushr p3 (3 : Int32)) &&& (3 : Int32)), vi (1 : Int32), vd (FP.i2d p0), ss, vr a1539, vd mv, ss, vd mt, ss, vi (1 : Int32), vi tI, vi nI, vd (FP.i2d nI), ss, vd mv, ss, vd mt, ss, vd mt, ss, vi (1 : Int32), vi (0 : Int32), vd vl, ss, vi (1 : Int32), vd (FP.dsub mt (FP.dmul (FP.i2d (0 : Int32)) sp)), ss, vi (0 : Int32), vd (FP.dsub mt (FP.dmul (FP.i2d (0 : Int32)) sp)), ss, vi (0 : Int32)] [(.int (0 : Int32))])) tQ
            refine XS.ifNo X2342.here hx rfl (hb hby at_451) rfl (own_if_neN (by decide)) ?_
            refine XS.iconst X2342.here hx rfl (hb hby at_454) ?_
            refine XS.goto X2342.here hx rfl (pc0 := 455) (pc' := 459) rfl (hb hby at_455) (by decide) (by decide) ?_
            exact kk
          clear k2358
          obtain ⟨fs, hr, hrun, hended, hW, hsame⟩ := X2342.leave (v := some (.int (1 : Int32))) (fun h => by rw [Bd.returns] at h; cases h)
          have hrun0 := k2360 _ (retOut X2342 hx Bd.returns (t := .boolean) rfl (Or.inl ⟨rfl, Or.inr (Or.inl rfl), _, rfl⟩) (hb hby at_459) hr)
          subst hE0
          refine ⟨_, _, hrun0, hrun, hended, _, _, rfl, ?_, ⟨_, rfl⟩, hW, hsame.mono (by decide) (by decide)⟩
          show Qrm0 Z p0 p1 p2 p3 h0 n0 _ T2338.heap _
          rw [e2355]
          exact ⟨rfl, N2357⟩
        · skip
          have k2361 : own_G p e below E0 T1743 (mkF m 311 #[vi p0, vi p1, vi p2, vi p3, vi (2 : Int32), vi (100 : Int32), vi pre, vi adv, vi ((XT.ushr p3 (3 : Int32)) &&& (3 : Int32)), vi (1 : Int32), vd (FP.i2d p0), ss, vr a1539, vd mv, ss, vd mt, ss, vi (2 : Int32), vi tI, vi nI, vd (FP.i2d nI), ss, vd mv, ss, uu, uu, uu, uu, vi (1 : Int32), uu, uu, uu, uu, uu, uu, uu, uu, uu, uu] [(.double (FP.dadd mt mv))]) := by
            intro tQ kk
            refine k1964 tQ ?_
            refine XS.dload X1744.here hx rfl (hb hby at_284) rfl ?_
            refine XS.dstore X1744.here hx rfl (hb hby at_286) rfl (l' := #[vi p0, vi p1, vi p2, vi p3, vi (2 : Int32), vi (100 : Int32), vi pre, vi adv, vi ((XT.ushr p3 (3 : Int32)) &&& (3 : Int32)), vi (1 : Int32), vd (FP.i2d p0), ss, vr a1539, vd mv, ss, vd mt, ss, vi (2 : Int32), vi tI, vi nI, vd (FP.i2d nI), ss, vd mv, ss, uu, uu, uu, uu, uu, uu, uu, uu, uu, uu, uu, uu, uu, uu, uu]) rfl ?_
            refine XS.iload X1744.here hx rfl (hb hby at_288) rfl ?_
            refine XS.ifNo X1744.here hx rfl (hb hby at_290) rfl (own_if_leN (by decide)) ?_
            show Steps p.tables e below (T1743.setTop (mkF m 293 #[vi p0, vi p1, vi p2, vi p3, vi (2 : Int32), vi (100 : Int32), vi pre, vi adv, vi ((XT.ushr p3 (3 : Int32)) &&& (3 : Int32)), vi (1 : Int32), vd (FP.i2d p0), ss, vr a1539, vd mv, ss, vd mt, ss, vi (2 : Int32), vi tI, vi nI, vd (FP.i2d nI), ss, vd mv, ss, uu, uu, uu, uu, uu, uu, uu, uu, uu, uu, uu, uu, uu, uu, uu] [])) tQ
            refine XS.iconst X1744.here hx rfl (hb hby at_293) ?_
            refine XS.goto X1744.here hx rfl (pc0 := 294) (pc' := 298) rfl (hb hby at_294) (by decide) (by decide) ?_
            refine XS.istore X1744.here hx rfl (hb hby at_298) rfl (l' := #[vi p0, vi p1, vi p2, vi p3, vi (2 : Int32), vi (100 : Int32), vi pre, vi adv, vi ((XT.ushr p3 (3 : Int32)) &&& (3 : Int32)), vi (1 : Int32), vd (FP.i2d p0), ss, vr a1539, vd mv, ss, vd mt, ss, vi (2 : Int32), vi tI, vi nI, vd (FP.i2d nI), ss, vd mv, ss, uu, uu, uu, uu, vi (1 : Int32), uu, uu, uu, uu, uu, uu, uu, uu, uu, uu]) rfl ?_
            refine XS.iload X1744.here hx rfl (hb hby at_300) rfl ?_
            show Steps p.tables e below (T1743.setTop (mkF m 302 #[vi p0, vi p1, vi p2, vi p3, vi (2 : Int32), vi (100 : Int32), vi pre, vi adv, vi ((XT.ushr p3 (3 : Int32)) &&& (3 : Int32)), vi (1 : Int32), vd (FP.i2d p0), ss, vr a1539, vd mv, ss, vd mt, ss, vi (2 : Int32), vi tI, vi nI, vd (FP.i2d nI), ss, vd mv, ss, uu, uu, uu, uu, vi (1 : Int32), uu, uu, uu, uu, uu, uu, uu, uu, uu, uu] [(.int (2 : Int32))])) tQ
            refine XS.iconst X1744.here hx rfl (hb hby at_302) ?_
            refine XS.icmpNo X1744.here hx rfl (hb hby at_303) rfl (own_ic_neN (by decide)) ?_
            refine XS.dload X1744.here hx rfl (hb hby at_306) rfl ?_
            refine XS.dload X1744.here hx rfl (hb hby at_308) rfl ?_
            show Steps p.tables e below (T1743.setTop (mkF m 310 #[vi p0, vi p1, vi p2, vi p3, vi (2 : Int32), vi (100 : Int32), vi pre, vi adv, vi ((XT.ushr p3 (3 : Int32)) &&& (3 : Int32)), vi (1 : Int32), vd (FP.i2d p0), ss, vr a1539, vd mv, ss, vd mt, ss, vi (2 : Int32), vi tI, vi nI, vd (FP.i2d nI), ss, vd mv, ss, uu, uu, uu, uu, vi (1 : Int32), uu, uu, uu, uu, uu, uu, uu, uu, uu, uu] [(.double mv), (.double mt)])) tQ
            refine XS.daddS X1744.here hx rfl (hb hby at_310) rfl (Fl.dadd_out nmt hmv.1) rfl ?_
            exact kk
          clear k1964
          have st2362 := X1744.ldc2DoubleC hx hown (mvT hZ (tw56 hw)) (g := (mkF m 311 #[vi p0, vi p1, vi p2, vi p3, vi (2 : Int32), vi (100 : Int32), vi pre, vi adv, vi ((XT.ushr p3 (3 : Int32)) &&& (3 : Int32)), vi (1 : Int32), vd (FP.i2d p0), ss, vr a1539, vd mv, ss, vd mt, ss, vi (2 : Int32), vi tI, vi nI, vd (FP.i2d nI), ss, vd mv, ss, uu, uu, uu, uu, vi (1 : Int32), uu, uu, uu, uu, uu, uu, uu, uu, uu, uu] [(.double (FP.dadd mt mv))])) rfl (hb hby at_311)
          have k2363 : own_G p e below E0 T1743 (mkF m 314 #[vi p0, vi p1, vi p2, vi p3, vi (2 : Int32), vi (100 : Int32), vi pre, vi adv, vi ((XT.ushr p3 (3 : Int32)) &&& (3 : Int32)), vi (1 : Int32), vd (FP.i2d p0), ss, vr a1539, vd mv, ss, vd mt, ss, vi (2 : Int32), vi tI, vi nI, vd (FP.i2d nI), ss, vd mv, ss, uu, uu, uu, uu, vi (1 : Int32), uu, uu, uu, uu, uu, uu, uu, uu, uu, uu] [(.double (4611686018427387904 : UInt64)), (.double (FP.dadd mt mv))]) := fun tQ kk => k2361 tQ (st2362 _ kk)
          clear k2361 st2362
          have k2364 : own_G p e below E0 T1743 (mkF m 366 #[vi p0, vi p1, vi p2, vi p3, vi (2 : Int32), vi (100 : Int32), vi pre, vi adv, vi ((XT.ushr p3 (3 : Int32)) &&& (3 : Int32)), vi (1 : Int32), vd (FP.i2d p0), ss, vr a1539, vd mv, ss, vd mt, ss, vi (2 : Int32), vi tI, vi nI, vd (FP.i2d nI), ss, vd mv, ss, vd (FP.ddiv (FP.dadd mt mv) (4611686018427387904 : UInt64)), ss, vd mt, ss, vi (1 : Int32), vi (1 : Int32), uu, uu, uu, uu, uu, uu, uu, uu, uu] [(.int (1 : Int32)), (.double (FP.i2d nI)), (.ref a1539)]) := by
            intro tQ kk
            refine k2363 tQ ?_
            refine XS.ddivS X1744.here hx rfl (hb hby at_314) rfl (Fl.ddiv_out (Fl.dadd_out nmt hmv.1) own_f2 own_nz2) rfl ?_
            refine XS.dstore X1744.here hx rfl (hb hby at_315) rfl (l' := #[vi p0, vi p1, vi p2, vi p3, vi (2 : Int32), vi (100 : Int32), vi pre, vi adv, vi ((XT.ushr p3 (3 : Int32)) &&& (3 : Int32)), vi (1 : Int32), vd (FP.i2d p0), ss, vr a1539, vd mv, ss, vd mt, ss, vi (2 : Int32), vi tI, vi nI, vd (FP.i2d nI), ss, vd mv, ss, vd (FP.ddiv (FP.dadd mt mv) (4611686018427387904 : UInt64)), ss, uu, uu, vi (1 : Int32), uu, uu, uu, uu, uu, uu, uu, uu, uu, uu]) rfl ?_
            refine XS.iconst X1744.here hx rfl (hb hby at_317) ?_
            refine XS.istore X1744.here hx rfl (hb hby at_318) rfl (l' := #[vi p0, vi p1, vi p2, vi p3, vi (2 : Int32), vi (100 : Int32), vi pre, vi adv, vi ((XT.ushr p3 (3 : Int32)) &&& (3 : Int32)), vi (1 : Int32), vd (FP.i2d p0), ss, vr a1539, vd mv, ss, vd mt, ss, vi (2 : Int32), vi tI, vi nI, vd (FP.i2d nI), ss, vd mv, ss, vd (FP.ddiv (FP.dadd mt mv) (4611686018427387904 : UInt64)), ss, uu, uu, vi (1 : Int32), vi (1 : Int32), uu, uu, uu, uu, uu, uu, uu, uu, uu]) rfl ?_
            show Steps p.tables e below (T1743.setTop (mkF m 320 #[vi p0, vi p1, vi p2, vi p3, vi (2 : Int32), vi (100 : Int32), vi pre, vi adv, vi ((XT.ushr p3 (3 : Int32)) &&& (3 : Int32)), vi (1 : Int32), vd (FP.i2d p0), ss, vr a1539, vd mv, ss, vd mt, ss, vi (2 : Int32), vi tI, vi nI, vd (FP.i2d nI), ss, vd mv, ss, vd (FP.ddiv (FP.dadd mt mv) (4611686018427387904 : UInt64)), ss, uu, uu, vi (1 : Int32), vi (1 : Int32), uu, uu, uu, uu, uu, uu, uu, uu, uu] [])) tQ
            refine XS.goto X1744.here hx rfl (pc0 := 320) (pc' := 346) rfl (hb hby at_320) (by decide) (by decide) ?_
            refine XS.iload X1744.here hx rfl (hb hby at_346) rfl ?_
            refine XS.ifNo X1744.here hx rfl (hb hby at_348) rfl (own_if_leN (by decide)) ?_
            refine XS.dload X1744.here hx rfl (hb hby at_351) rfl ?_
            show Steps p.tables e below (T1743.setTop (mkF m 353 #[vi p0, vi p1, vi p2, vi p3, vi (2 : Int32), vi (100 : Int32), vi pre, vi adv, vi ((XT.ushr p3 (3 : Int32)) &&& (3 : Int32)), vi (1 : Int32), vd (FP.i2d p0), ss, vr a1539, vd mv, ss, vd mt, ss, vi (2 : Int32), vi tI, vi nI, vd (FP.i2d nI), ss, vd mv, ss, vd (FP.ddiv (FP.dadd mt mv) (4611686018427387904 : UInt64)), ss, uu, uu, vi (1 : Int32), vi (1 : Int32), uu, uu, uu, uu, uu, uu, uu, uu, uu] [(.double mt)])) tQ
            refine XS.goto X1744.here hx rfl (pc0 := 353) (pc' := 358) rfl (hb hby at_353) (by decide) (by decide) ?_
            refine XS.dstore X1744.here hx rfl (hb hby at_358) rfl (l' := #[vi p0, vi p1, vi p2, vi p3, vi (2 : Int32), vi (100 : Int32), vi pre, vi adv, vi ((XT.ushr p3 (3 : Int32)) &&& (3 : Int32)), vi (1 : Int32), vd (FP.i2d p0), ss, vr a1539, vd mv, ss, vd mt, ss, vi (2 : Int32), vi tI, vi nI, vd (FP.i2d nI), ss, vd mv, ss, vd (FP.ddiv (FP.dadd mt mv) (4611686018427387904 : UInt64)), ss, vd mt, ss, vi (1 : Int32), vi (1 : Int32), uu, uu, uu, uu, uu, uu, uu, uu, uu]) rfl ?_
            refine XS.aload X1744.here hx rfl (hb hby at_360) rfl rfl ?_
            refine XS.dload X1744.here hx rfl (hb hby at_362) rfl ?_
            show Steps p.tables e below (T1743.setTop (mkF m 364 #[vi p0, vi p1, vi p2, vi p3, vi (2 : Int32), vi (100 : Int32), vi pre, vi adv, vi ((XT.ushr p3 (3 : Int32)) &&& (3 : Int32)), vi (1 : Int32), vd (FP.i2d p0), ss, vr a1539, vd mv, ss, vd mt, ss, vi (2 : Int32), vi tI, vi nI, vd (FP.i2d nI), ss, vd mv, ss, vd (FP.ddiv (FP.dadd mt mv) (4611686018427387904 : UInt64)), ss, vd mt, ss, vi (1 : Int32), vi (1 : Int32), uu, uu, uu, uu, uu, uu, uu, uu, uu] [(.double (FP.i2d nI)), (.ref a1539)])) tQ
            refine XS.iload X1744.here hx rfl (hb hby at_364) rfl ?_
            exact kk
          clear k2363
          obtain ⟨cq2376, kq2377, qa2378, qb2379, qc2380⟩ := isOf hZ e1745 F1750
          obtain ⟨_, _, ⟨T2365, L2366, kc2367, nc2368⟩, -, X2369, ⟨Lc2370, hQ2371, l2372, y2373, z2374⟩, st2375⟩ := X1744.virtualBack hx (y := mn11) (z := mn11) hown (mvT hZ (tw32 hw)) (mvT hZ (tw33 hw)) (notFace_of_selects (args := #[]) (mvT hZ (tw35 hw))) (mvT hZ (tw35 hw)) (mvT hZ (tw34 hw)) (by decide) (backOf (W := 0) (rmS1 l Z a0 hw [] a1539 (FP.i2d nI) (2 : Int32) vl mt sp (2 : Int32) h1746 n0 Z1748 F1750 F1751 F1752 F1753 F1754 F1755 ge1541 (Fl.i2d_fin nI).noNaN nmt (fun _ => ⟨Fl.dsub_out (Fl.i2d_fin nI).noNaN hvl.1, (own_fspN nI (F := (2 : Int32)) bW hvl (by decide)).noNaN⟩)) hZ (tw36 hw) (tw2 hw) (by decide) (by decide)) qa2378 qc2380 (g := (mkF m 366 #[vi p0, vi p1, vi p2, vi p3, vi (2 : Int32), vi (100 : Int32), vi pre, vi adv, vi ((XT.ushr p3 (3 : Int32)) &&& (3 : Int32)), vi (1 : Int32), vd (FP.i2d p0), ss, vr a1539, vd mv, ss, vd mt, ss, vi (2 : Int32), vi tI, vi nI, vd (FP.i2d nI), ss, vd mv, ss, vd (FP.ddiv (FP.dadd mt mv) (4611686018427387904 : UInt64)), ss, vd mt, ss, vi (1 : Int32), vi (1 : Int32), uu, uu, uu, uu, uu, uu, uu, uu, uu] [(.int (1 : Int32)), (.double (FP.i2d nI)), (.ref a1539)])) rfl (by rw [hml]; rfl) (Steps.refl _) (argsL := [(.double (FP.i2d nI)), (.int (1 : Int32))]) (rest := []) (lenOf pd_17 rfl) rfl (by show 2 * 0 + _ ≤ _; exact Nat.le_of_eq rfl) (hb hby at_366) (fun _ _ => ⟨rfl, e1745, (by decide : 1 + 0 ≤ _), (by decide : 5 + 0 ≤ _)⟩)
          dsimp only [Pt.U, Pt.locs, Pt.cells, Pt.slots] at X2369 l2372 y2373 z2374 st2375 hQ2371
          subst y2373 z2374
          obtain ⟨rfl, N2381, K2384, g2385, g2386, g2387, g2388, g2389⟩ := hQ2371
          have N2390 : Fr n0 L2366 := by rw [l2372]; exact Fr.app N1747 N2381
          clear l2372 N2381
          have Z2391 : n0 ≤ T2365.heap.size := Nat.le_trans Z1748 K2384.1
          clear Z1748
          have F2392 : xa7 Z T2365.heap a1539 := F1750.keep K2384
          clear F1750
          clear F1751
          clear F1752
          clear F1753
          clear F1754
          clear F1755
          have k2393 : own_G p e below E0 T2365 (mkF m 369 #[vi p0, vi p1, vi p2, vi p3, vi (2 : Int32), vi (100 : Int32), vi pre, vi adv, vi ((XT.ushr p3 (3 : Int32)) &&& (3 : Int32)), vi (1 : Int32), vd (FP.i2d p0), ss, vr a1539, vd mv, ss, vd mt, ss, vi (2 : Int32), vi tI, vi nI, vd (FP.i2d nI), ss, vd mv, ss, vd (FP.ddiv (FP.dadd mt mv) (4611686018427387904 : UInt64)), ss, vd mt, ss, vi (1 : Int32), vi (1 : Int32), uu, uu, uu, uu, uu, uu, uu, uu, uu] []) := fun tQ kk => k2364 tQ (st2375.trans kk)
          clear k2364 st2375
          have eq2394 : (own_tg (FP.i2d nI) mt) = mt := by rw [own_tg, if_pos cE]
          have F2395 : fd4 Z T2365.heap a1539 (.double mt) := by rw [← eq2394]; exact g2387
          have eq2396 : (own_sp (FP.i2d nI) vl mt sp (2 : Int32)) = sp := by rw [own_sp, if_pos cE]
          have F2397 : fd5 Z T2365.heap a1539 (.double sp) := by rw [← eq2396]; exact g2388
          have eq2398 : (own_rm (FP.i2d nI) mt (2 : Int32) (2 : Int32)) = (2 : Int32) := by rw [own_rm, if_pos cE]
          have F2399 : fd6 Z T2365.heap a1539 (.int (2 : Int32)) := by rw [← eq2398]; exact g2389
          have k2400 : own_G p e below E0 T2365 (mkF m 371 #[vi p0, vi p1, vi p2, vi p3, vi (2 : Int32), vi (100 : Int32), vi pre, vi adv, vi ((XT.ushr p3 (3 : Int32)) &&& (3 : Int32)), vi (1 : Int32), vd (FP.i2d p0), ss, vr a1539, vd mv, ss, vd mt, ss, vi (2 : Int32), vi tI, vi nI, vd (FP.i2d nI), ss, vd mv, ss, vd (FP.ddiv (FP.dadd mt mv) (4611686018427387904 : UInt64)), ss, vd mt, ss, vi (1 : Int32), vi (1 : Int32), uu, uu, uu, uu, uu, uu, uu, uu, uu] [(.ref a1539)]) := by
            intro tQ kk
            refine k2393 tQ ?_
            refine XS.aload X2369.here hx rfl (hb hby at_369) rfl rfl ?_
            exact kk
          clear k2393
          obtain ⟨cq2412, kq2413, qa2414, qb2415, qc2416⟩ := isOf hZ rfl F2392
          obtain ⟨_, _, ⟨T2401, L2402, kc2403, nc2404⟩, -, X2405, ⟨Lc2406, hQ2407, l2408, y2409, z2410⟩, st2411⟩ := X2369.virtualBack hx (y := mn14) (z := mn14) hown (mvT hZ (tw39 hw)) (mvT hZ (tw40 hw)) (notFace_of_selects (args := #[]) (mvT hZ (tw42 hw))) (mvT hZ (tw42 hw)) (mvT hZ (tw41 hw)) (by decide) (backOf (W := 0) (rmVl l Z a0 hw [] a1539 vl T2365.heap n0 Z2391 g2386) hZ (tw43 hw) (tw2 hw) (by decide) (by decide)) qa2414 qc2416 (g := (mkF m 371 #[vi p0, vi p1, vi p2, vi p3, vi (2 : Int32), vi (100 : Int32), vi pre, vi adv, vi ((XT.ushr p3 (3 : Int32)) &&& (3 : Int32)), vi (1 : Int32), vd (FP.i2d p0), ss, vr a1539, vd mv, ss, vd mt, ss, vi (2 : Int32), vi tI, vi nI, vd (FP.i2d nI), ss, vd mv, ss, vd (FP.ddiv (FP.dadd mt mv) (4611686018427387904 : UInt64)), ss, vd mt, ss, vi (1 : Int32), vi (1 : Int32), uu, uu, uu, uu, uu, uu, uu, uu, uu] [(.ref a1539)])) rfl (by rw [hml]; rfl) (Steps.refl _) (argsL := []) (rest := []) (lenOf pd_16 rfl) rfl (by show 2 * 0 + _ ≤ _; exact Nat.le_of_eq rfl) (hb hby at_371) (fun _ _ => ⟨rfl, rfl, (by decide : 1 + 0 ≤ _), (by decide : 5 + 0 ≤ _)⟩)
          dsimp only [Pt.U, Pt.locs, Pt.cells, Pt.slots] at X2405 l2408 y2409 z2410 st2411 hQ2407
          subst y2409 z2410
          obtain ⟨rfl, N2417, e2418⟩ := hQ2407
          have N2420 : Fr n0 L2402 := by rw [l2408]; exact Fr.app N2390 N2417
          clear l2408 N2417
          have k2421 : own_G p e below E0 T2401 (mkF m 374 #[vi p0, vi p1, vi p2, vi p3, vi (2 : Int32), vi (100 : Int32), vi pre, vi adv, vi ((XT.ushr p3 (3 : Int32)) &&& (3 : Int32)), vi (1 : Int32), vd (FP.i2d p0), ss, vr a1539, vd mv, ss, vd mt, ss, vi (2 : Int32), vi tI, vi nI, vd (FP.i2d nI), ss, vd mv, ss, vd (FP.ddiv (FP.dadd mt mv) (4611686018427387904 : UInt64)), ss, vd mt, ss, vi (1 : Int32), vi (1 : Int32), uu, uu, uu, uu, uu, uu, uu, uu, uu] [(.double vl)]) := fun tQ kk => k2400 tQ (st2411.trans kk)
          clear k2400 st2411
          have k2422 : own_G p e below E0 T2401 (mkF m 378 #[vi p0, vi p1, vi p2, vi p3, vi (2 : Int32), vi (100 : Int32), vi pre, vi adv, vi ((XT.ushr p3 (3 : Int32)) &&& (3 : Int32)), vi (1 : Int32), vd (FP.i2d p0), ss, vr a1539, vd mv, ss, vd mt, ss, vi (2 : Int32), vi tI, vi nI, vd (FP.i2d nI), ss, vd mv, ss, vd (FP.ddiv (FP.dadd mt mv) (4611686018427387904 : UInt64)), ss, vd mt, ss, vi (1 : Int32), vi (1 : Int32), vd vl, ss, uu, uu, uu, uu, uu, uu, uu] [(.ref a1539)]) := by
            intro tQ kk
            refine k2421 tQ ?_
            refine XS.dstore X2405.here hx rfl (hb hby at_374) rfl (l' := #[vi p0, vi p1, vi p2, vi p3, vi (2 : Int32), vi (100 : Int32), vi pre, vi adv, vi ((XT.ushr p3 (3 : Int32)) &&& (3 : Int32)), vi (1 : Int32), vd (FP.i2d p0), ss, vr a1539, vd mv, ss, vd mt, ss, vi (2 : Int32), vi tI, vi nI, vd (FP.i2d nI), ss, vd mv, ss, vd (FP.ddiv (FP.dadd mt mv) (4611686018427387904 : UInt64)), ss, vd mt, ss, vi (1 : Int32), vi (1 : Int32), vd vl, ss, uu, uu, uu, uu, uu, uu, uu]) rfl ?_
            refine XS.aload X2405.here hx rfl (hb hby at_376) rfl rfl ?_
            exact kk
          clear k2421
          obtain ⟨cq2434, kq2435, qa2436, qb2437, qc2438⟩ := isOf hZ e2418 F2392
          obtain ⟨_, _, ⟨T2423, L2424, kc2425, nc2426⟩, -, X2427, ⟨Lc2428, hQ2429, l2430, y2431, z2432⟩, st2433⟩ := X2405.virtualBack hx (y := mn13) (z := mn13) hown (mvT hZ (tw44 hw)) (mvT hZ (tw45 hw)) (notFace_of_selects (args := #[]) (mvT hZ (tw47 hw))) (mvT hZ (tw47 hw)) (mvT hZ (tw46 hw)) (by decide) (backOf (W := 0) (rmMv l Z a0 hw [] a1539 (2 : Int32) T2365.heap n0 Z2391 F2399) hZ (tw48 hw) (tw2 hw) (by decide) (by decide)) qa2436 qc2438 (g := (mkF m 378 #[vi p0, vi p1, vi p2, vi p3, vi (2 : Int32), vi (100 : Int32), vi pre, vi adv, vi ((XT.ushr p3 (3 : Int32)) &&& (3 : Int32)), vi (1 : Int32), vd (FP.i2d p0), ss, vr a1539, vd mv, ss, vd mt, ss, vi (2 : Int32), vi tI, vi nI, vd (FP.i2d nI), ss, vd mv, ss, vd (FP.ddiv (FP.dadd mt mv) (4611686018427387904 : UInt64)), ss, vd mt, ss, vi (1 : Int32), vi (1 : Int32), vd vl, ss, uu, uu, uu, uu, uu, uu, uu] [(.ref a1539)])) rfl (by rw [hml]; rfl) (Steps.refl _) (argsL := []) (rest := []) (lenOf pd_18 rfl) rfl (by show 2 * 0 + _ ≤ _; exact Nat.le_of_eq rfl) (hb hby at_378) (fun _ _ => ⟨rfl, e2418, (by decide : 1 + 0 ≤ _), (by decide : 5 + 0 ≤ _)⟩)
          dsimp only [Pt.U, Pt.locs, Pt.cells, Pt.slots] at X2427 l2430 y2431 z2432 st2433 hQ2429
          subst y2431 z2432
          obtain ⟨rfl, N2439, e2440⟩ := hQ2429
          have N2442 : Fr n0 L2424 := by rw [l2430]; exact Fr.app N2420 N2439
          clear l2430 N2439
          have k2443 : own_G p e below E0 T2423 (mkF m 381 #[vi p0, vi p1, vi p2, vi p3, vi (2 : Int32), vi (100 : Int32), vi pre, vi adv, vi ((XT.ushr p3 (3 : Int32)) &&& (3 : Int32)), vi (1 : Int32), vd (FP.i2d p0), ss, vr a1539, vd mv, ss, vd mt, ss, vi (2 : Int32), vi tI, vi nI, vd (FP.i2d nI), ss, vd mv, ss, vd (FP.ddiv (FP.dadd mt mv) (4611686018427387904 : UInt64)), ss, vd mt, ss, vi (1 : Int32), vi (1 : Int32), vd vl, ss, uu, uu, uu, uu, uu, uu, uu] [(.int (own_mv (2 : Int32)))]) := fun tQ kk => k2422 tQ (st2433.trans kk)
          clear k2422 st2433
          have eq2444 : (own_mv (2 : Int32)) = (1 : Int32) := by decide
          rw [eq2444] at k2443
          have k2445 : own_G p e below E0 T2423 (mkF m 385 #[vi p0, vi p1, vi p2, vi p3, vi (2 : Int32), vi (100 : Int32), vi pre, vi adv, vi ((XT.ushr p3 (3 : Int32)) &&& (3 : Int32)), vi (1 : Int32), vd (FP.i2d p0), ss, vr a1539, vd mv, ss, vd mt, ss, vi (2 : Int32), vi tI, vi nI, vd (FP.i2d nI), ss, vd mv, ss, vd (FP.ddiv (FP.dadd mt mv) (4611686018427387904 : UInt64)), ss, vd mt, ss, vi (1 : Int32), vi (1 : Int32), vd vl, ss, vi (1 : Int32), uu, uu, uu, uu, uu, uu] [(.ref a1539)]) := by
            intro tQ kk
            refine k2443 tQ ?_
            refine XS.istore X2427.here hx rfl (hb hby at_381) rfl (l' := #[vi p0, vi p1, vi p2, vi p3, vi (2 : Int32), vi (100 : Int32), vi pre, vi adv, vi ((XT.ushr p3 (3 : Int32)) &&& (3 : Int32)), vi (1 : Int32), vd (FP.i2d p0), ss, vr a1539, vd mv, ss, vd mt, ss, vi (2 : Int32), vi tI, vi nI, vd (FP.i2d nI), ss, vd mv, ss, vd (FP.ddiv (FP.dadd mt mv) (4611686018427387904 : UInt64)), ss, vd mt, ss, vi (1 : Int32), vi (1 : Int32), vd vl, ss, vi (1 : Int32), uu, uu, uu, uu, uu, uu]) rfl ?_
            refine XS.aload X2427.here hx rfl (hb hby at_383) rfl rfl ?_
            exact kk
          clear k2443
          obtain ⟨cq2457, kq2458, qa2459, qb2460, qc2461⟩ := isOf hZ e2440 F2392
          obtain ⟨_, _, ⟨T2446, L2447, kc2448, nc2449⟩, -, X2450, ⟨Lc2451, hQ2452, l2453, y2454, z2455⟩, st2456⟩ := X2427.virtualBack hx (y := mn12) (z := mn12) hown (mvT hZ (tw49 hw)) (mvT hZ (tw50 hw)) (notFace_of_selects (args := #[]) (mvT hZ (tw52 hw))) (mvT hZ (tw52 hw)) (mvT hZ (tw51 hw)) (by decide) (backOf (W := 0) (rmN l Z a0 hw [] a1539 (2 : Int32) vl mt sp (2 : Int32) T2365.heap n0 Z2391 F2392 g2385 g2386 F2395 F2397 F2399 ge1541 (fun _ => own_nn2 (own_fsp2 hmt bW hvl hsp) fmt)) hZ (tw53 hw) (tw2 hw) (by decide) (by decide)) qa2459 qc2461 (g := (mkF m 385 #[vi p0, vi p1, vi p2, vi p3, vi (2 : Int32), vi (100 : Int32), vi pre, vi adv, vi ((XT.ushr p3 (3 : Int32)) &&& (3 : Int32)), vi (1 : Int32), vd (FP.i2d p0), ss, vr a1539, vd mv, ss, vd mt, ss, vi (2 : Int32), vi tI, vi nI, vd (FP.i2d nI), ss, vd mv, ss, vd (FP.ddiv (FP.dadd mt mv) (4611686018427387904 : UInt64)), ss, vd mt, ss, vi (1 : Int32), vi (1 : Int32), vd vl, ss, vi (1 : Int32), uu, uu, uu, uu, uu, uu] [(.ref a1539)])) rfl (by rw [hml]; rfl) (Steps.refl _) (argsL := []) (rest := []) (lenOf pd_16 rfl) rfl (by show 2 * 0 + _ ≤ _; exact Nat.le_of_eq rfl) (hb hby at_385) (fun _ _ => ⟨rfl, e2440, (by decide : 1 + 0 ≤ _), (by decide : 5 + 0 ≤ _)⟩)
          dsimp only [Pt.U, Pt.locs, Pt.cells, Pt.slots] at X2450 l2453 y2454 z2455 st2456 hQ2452
          subst y2454 z2455
          obtain ⟨rfl, N2462, K2465, g2466, g2467, g2468, g2469, g2470⟩ := hQ2452
          have N2471 : Fr n0 L2447 := by rw [l2453]; exact Fr.app N2442 N2462
          clear l2453 N2462
          have Z2472 : n0 ≤ T2446.heap.size := Nat.le_trans Z2391 K2465.1
          clear Z2391
          have F2473 : xa7 Z T2446.heap a1539 := F2392.keep K2465
          clear F2392
          clear g2385
          clear g2386
          clear F2395
          clear F2397
          clear F2399
          have k2474 : own_G p e below E0 T2446 (mkF m 388 #[vi p0, vi p1, vi p2, vi p3, vi (2 : Int32), vi (100 : Int32), vi pre, vi adv, vi ((XT.ushr p3 (3 : Int32)) &&& (3 : Int32)), vi (1 : Int32), vd (FP.i2d p0), ss, vr a1539, vd mv, ss, vd mt, ss, vi (2 : Int32), vi tI, vi nI, vd (FP.i2d nI), ss, vd mv, ss, vd (FP.ddiv (FP.dadd mt mv) (4611686018427387904 : UInt64)), ss, vd mt, ss, vi (1 : Int32), vi (1 : Int32), vd vl, ss, vi (1 : Int32), uu, uu, uu, uu, uu, uu] [(.double (own_nv vl mt sp (2 : Int32)))]) := fun tQ kk => k2445 tQ (st2456.trans kk)
          clear k2445 st2456
          have eq2475 : (own_nv vl mt sp (2 : Int32)) = (FP.dsub mt (FP.dmul (FP.i2d (1 : Int32)) sp)) := by rw [own_nv, if_pos (by decide), show (2 : Int32) - 1 = (1 : Int32) by decide]
          have F2476 : fd3 Z T2446.heap a1539 (.double (FP.dsub mt (FP.dmul (FP.i2d (1 : Int32)) sp))) := by rw [← eq2475]; exact g2467
          have eq2477 : (own_nr (2 : Int32)) = (1 : Int32) := by decide
          have F2478 : fd6 Z T2446.heap a1539 (.int (1 : Int32)) := by rw [← eq2477]; exact g2470
          have eq2479 : (own_nv vl mt sp (2 : Int32)) = (FP.dsub mt (FP.dmul (FP.i2d (1 : Int32)) sp)) := by rw [own_nv, if_pos (by decide), show (2 : Int32) - 1 = (1 : Int32) by decide]
          rw [eq2479] at k2474
          have k2480 : own_G p e below E0 T2446 (mkF m 392 #[vi p0, vi p1, vi p2, vi p3, vi (2 : Int32), vi (100 : Int32), vi pre, vi adv, vi ((XT.ushr p3 (3 : Int32)) &&& (3 : Int32)), vi (1 : Int32), vd (FP.i2d p0), ss, vr a1539, vd mv, ss, vd mt, ss, vi (2 : Int32), vi tI, vi nI, vd (FP.i2d nI), ss, vd mv, ss, vd (FP.ddiv (FP.dadd mt mv) (4611686018427387904 : UInt64)), ss, vd mt, ss, vi (1 : Int32), vi (1 : Int32), vd vl, ss, vi (1 : Int32), vd (FP.dsub mt (FP.dmul (FP.i2d (1 : Int32)) sp)), ss, uu, uu, uu, uu] [(.ref a1539)]) := by
            intro tQ kk
            refine k2474 tQ ?_
            refine XS.dstore X2450.here hx rfl (hb hby at_388) rfl (l' := #[vi p0, vi p1, vi p2, vi p3, vi (2 : Int32), vi (100 : Int32), vi pre, vi adv, vi ((XT.ushr p3 (3 : Int32)) &&& (3 : Int32)), vi (1 : Int32), vd (FP.i2d p0), ss, vr a1539, vd mv, ss, vd mt, ss, vi (2 : Int32), vi tI, vi nI, vd (FP.i2d nI), ss, vd mv, ss, vd (FP.ddiv (FP.dadd mt mv) (4611686018427387904 : UInt64)), ss, vd mt, ss, vi (1 : Int32), vi (1 : Int32), vd vl, ss, vi (1 : Int32), vd (FP.dsub mt (FP.dmul (FP.i2d (1 : Int32)) sp)), ss, uu, uu, uu, uu]) rfl ?_
            refine XS.aload X2450.here hx rfl (hb hby at_390) rfl rfl ?_
            exact kk
          clear k2474
          obtain ⟨cq2492, kq2493, qa2494, qb2495, qc2496⟩ := isOf hZ rfl F2473
          obtain ⟨_, _, ⟨T2481, L2482, kc2483, nc2484⟩, -, X2485, ⟨Lc2486, hQ2487, l2488, y2489, z2490⟩, st2491⟩ := X2450.virtualBack hx (y := mn13) (z := mn13) hown (mvT hZ (tw44 hw)) (mvT hZ (tw45 hw)) (notFace_of_selects (args := #[]) (mvT hZ (tw47 hw))) (mvT hZ (tw47 hw)) (mvT hZ (tw46 hw)) (by decide) (backOf (W := 0) (rmMv l Z a0 hw [] a1539 (1 : Int32) T2446.heap n0 Z2472 F2478) hZ (tw48 hw) (tw2 hw) (by decide) (by decide)) qa2494 qc2496 (g := (mkF m 392 #[vi p0, vi p1, vi p2, vi p3, vi (2 : Int32), vi (100 : Int32), vi pre, vi adv, vi ((XT.ushr p3 (3 : Int32)) &&& (3 : Int32)), vi (1 : Int32), vd (FP.i2d p0), ss, vr a1539, vd mv, ss, vd mt, ss, vi (2 : Int32), vi tI, vi nI, vd (FP.i2d nI), ss, vd mv, ss, vd (FP.ddiv (FP.dadd mt mv) (4611686018427387904 : UInt64)), ss, vd mt, ss, vi (1 : Int32), vi (1 : Int32), vd vl, ss, vi (1 : Int32), vd (FP.dsub mt (FP.dmul (FP.i2d (1 : Int32)) sp)), ss, uu, uu, uu, uu] [(.ref a1539)])) rfl (by rw [hml]; rfl) (Steps.refl _) (argsL := []) (rest := []) (lenOf pd_18 rfl) rfl (by show 2 * 0 + _ ≤ _; exact Nat.le_of_eq rfl) (hb hby at_392) (fun _ _ => ⟨rfl, rfl, (by decide : 1 + 0 ≤ _), (by decide : 5 + 0 ≤ _)⟩)
          dsimp only [Pt.U, Pt.locs, Pt.cells, Pt.slots] at X2485 l2488 y2489 z2490 st2491 hQ2487
          subst y2489 z2490
          obtain ⟨rfl, N2497, e2498⟩ := hQ2487
          have N2500 : Fr n0 L2482 := by rw [l2488]; exact Fr.app N2471 N2497
          clear l2488 N2497
          have k2501 : own_G p e below E0 T2481 (mkF m 395 #[vi p0, vi p1, vi p2, vi p3, vi (2 : Int32), vi (100 : Int32), vi pre, vi adv, vi ((XT.ushr p3 (3 : Int32)) &&& (3 : Int32)), vi (1 : Int32), vd (FP.i2d p0), ss, vr a1539, vd mv, ss, vd mt, ss, vi (2 : Int32), vi tI, vi nI, vd (FP.i2d nI), ss, vd mv, ss, vd (FP.ddiv (FP.dadd mt mv) (4611686018427387904 : UInt64)), ss, vd mt, ss, vi (1 : Int32), vi (1 : Int32), vd vl, ss, vi (1 : Int32), vd (FP.dsub mt (FP.dmul (FP.i2d (1 : Int32)) sp)), ss, uu, uu, uu, uu] [(.int (own_mv (1 : Int32)))]) := fun tQ kk => k2480 tQ (st2491.trans kk)
          clear k2480 st2491
          have eq2502 : (own_mv (1 : Int32)) = (1 : Int32) := by decide
          rw [eq2502] at k2501
          have k2503 : own_G p e below E0 T2481 (mkF m 399 #[vi p0, vi p1, vi p2, vi p3, vi (2 : Int32), vi (100 : Int32), vi pre, vi adv, vi ((XT.ushr p3 (3 : Int32)) &&& (3 : Int32)), vi (1 : Int32), vd (FP.i2d p0), ss, vr a1539, vd mv, ss, vd mt, ss, vi (2 : Int32), vi tI, vi nI, vd (FP.i2d nI), ss, vd mv, ss, vd (FP.ddiv (FP.dadd mt mv) (4611686018427387904 : UInt64)), ss, vd mt, ss, vi (1 : Int32), vi (1 : Int32), vd vl, ss, vi (1 : Int32), vd (FP.dsub mt (FP.dmul (FP.i2d (1 : Int32)) sp)), ss, vi (1 : Int32), uu, uu, uu] [(.ref a1539)]) := by
            intro tQ kk
            refine k2501 tQ ?_
            refine XS.istore X2485.here hx rfl (hb hby at_395) rfl (l' := #[vi p0, vi p1, vi p2, vi p3, vi (2 : Int32), vi (100 : Int32), vi pre, vi adv, vi ((XT.ushr p3 (3 : Int32)) &&& (3 : Int32)), vi (1 : Int32), vd (FP.i2d p0), ss, vr a1539, vd mv, ss, vd mt, ss, vi (2 : Int32), vi tI, vi nI, vd (FP.i2d nI), ss, vd mv, ss, vd (FP.ddiv (FP.dadd mt mv) (4611686018427387904 : UInt64)), ss, vd mt, ss, vi (1 : Int32), vi (1 : Int32), vd vl, ss, vi (1 : Int32), vd (FP.dsub mt (FP.dmul (FP.i2d (1 : Int32)) sp)), ss, vi (1 : Int32), uu, uu, uu]) rfl ?_
            refine XS.aload X2485.here hx rfl (hb hby at_397) rfl rfl ?_
            exact kk
          clear k2501
          obtain ⟨cq2515, kq2516, qa2517, qb2518, qc2519⟩ := isOf hZ e2498 F2473
          obtain ⟨_, _, ⟨T2504, L2505, kc2506, nc2507⟩, -, X2508, ⟨Lc2509, hQ2510, l2511, y2512, z2513⟩, st2514⟩ := X2485.virtualBack hx (y := mn12) (z := mn12) hown (mvT hZ (tw49 hw)) (mvT hZ (tw50 hw)) (notFace_of_selects (args := #[]) (mvT hZ (tw52 hw))) (mvT hZ (tw52 hw)) (mvT hZ (tw51 hw)) (by decide) (backOf (W := 0) (rmN l Z a0 hw [] a1539 (2 : Int32) (FP.dsub mt (FP.dmul (FP.i2d (1 : Int32)) sp)) mt sp (1 : Int32) T2446.heap n0 Z2472 F2473 g2466 F2476 g2468 g2469 F2478 ge1541 (fun _ => own_nn1 (own_fsp2 hmt bW hvl hsp) fmt)) hZ (tw53 hw) (tw2 hw) (by decide) (by decide)) qa2517 qc2519 (g := (mkF m 399 #[vi p0, vi p1, vi p2, vi p3, vi (2 : Int32), vi (100 : Int32), vi pre, vi adv, vi ((XT.ushr p3 (3 : Int32)) &&& (3 : Int32)), vi (1 : Int32), vd (FP.i2d p0), ss, vr a1539, vd mv, ss, vd mt, ss, vi (2 : Int32), vi tI, vi nI, vd (FP.i2d nI), ss, vd mv, ss, vd (FP.ddiv (FP.dadd mt mv) (4611686018427387904 : UInt64)), ss, vd mt, ss, vi (1 : Int32), vi (1 : Int32), vd vl, ss, vi (1 : Int32), vd (FP.dsub mt (FP.dmul (FP.i2d (1 : Int32)) sp)), ss, vi (1 : Int32), uu, uu, uu] [(.ref a1539)])) rfl (by rw [hml]; rfl) (Steps.refl _) (argsL := []) (rest := []) (lenOf pd_16 rfl) rfl (by show 2 * 0 + _ ≤ _; exact Nat.le_of_eq rfl) (hb hby at_399) (fun _ _ => ⟨rfl, e2498, (by decide : 1 + 0 ≤ _), (by decide : 5 + 0 ≤ _)⟩)
          dsimp only [Pt.U, Pt.locs, Pt.cells, Pt.slots] at X2508 l2511 y2512 z2513 st2514 hQ2510
          subst y2512 z2513
          obtain ⟨rfl, N2520, K2523, g2524, g2525, g2526, g2527, g2528⟩ := hQ2510
          have N2529 : Fr n0 L2505 := by rw [l2511]; exact Fr.app N2500 N2520
          clear l2511 N2520
          have Z2530 : n0 ≤ T2504.heap.size := Nat.le_trans Z2472 K2523.1
          clear Z2472
          have F2531 : xa7 Z T2504.heap a1539 := F2473.keep K2523
          clear F2473
          clear g2466
          clear F2476
          clear g2468
          clear g2469
          clear F2478
          have k2532 : own_G p e below E0 T2504 (mkF m 402 #[vi p0, vi p1, vi p2, vi p3, vi (2 : Int32), vi (100 : Int32), vi pre, vi adv, vi ((XT.ushr p3 (3 : Int32)) &&& (3 : Int32)), vi (1 : Int32), vd (FP.i2d p0), ss, vr a1539, vd mv, ss, vd mt, ss, vi (2 : Int32), vi tI, vi nI, vd (FP.i2d nI), ss, vd mv, ss, vd (FP.ddiv (FP.dadd mt mv) (4611686018427387904 : UInt64)), ss, vd mt, ss, vi (1 : Int32), vi (1 : Int32), vd vl, ss, vi (1 : Int32), vd (FP.dsub mt (FP.dmul (FP.i2d (1 : Int32)) sp)), ss, vi (1 : Int32), uu, uu, uu] [(.double (own_nv (FP.dsub mt (FP.dmul (FP.i2d (1 : Int32)) sp)) mt sp (1 : Int32)))]) := fun tQ kk => k2503 tQ (st2514.trans kk)
          clear k2503 st2514
          have eq2533 : (own_nv (FP.dsub mt (FP.dmul (FP.i2d (1 : Int32)) sp)) mt sp (1 : Int32)) = (FP.dsub mt (FP.dmul (FP.i2d (0 : Int32)) sp)) := by rw [own_nv, if_pos (by decide), show (1 : Int32) - 1 = (0 : Int32) by decide]
          have F2534 : fd3 Z T2504.heap a1539 (.double (FP.dsub mt (FP.dmul (FP.i2d (0 : Int32)) sp))) := by rw [← eq2533]; exact g2525
          have eq2535 : (own_nr (1 : Int32)) = (0 : Int32) := by decide
          have F2536 : fd6 Z T2504.heap a1539 (.int (0 : Int32)) := by rw [← eq2535]; exact g2528
          have eq2537 : (own_nv (FP.dsub mt (FP.dmul (FP.i2d (1 : Int32)) sp)) mt sp (1 : Int32)) = (FP.dsub mt (FP.dmul (FP.i2d (0 : Int32)) sp)) := by rw [own_nv, if_pos (by decide), show (1 : Int32) - 1 = (0 : Int32) by decide]
          rw [eq2537] at k2532
          have k2538 : own_G p e below E0 T2504 (mkF m 406 #[vi p0, vi p1, vi p2, vi p3, vi (2 : Int32), vi (100 : Int32), vi pre, vi adv, vi ((XT.ushr p3 (3 : Int32)) &&& (3 : Int32)), vi (1 : Int32), vd (FP.i2d p0), ss, vr a1539, vd mv, ss, vd mt, ss, vi (2 : Int32), vi tI, vi nI, vd (FP.i2d nI), ss, vd mv, ss, vd (FP.ddiv (FP.dadd mt mv) (4611686018427387904 : UInt64)), ss, vd mt, ss, vi (1 : Int32), vi (1 : Int32), vd vl, ss, vi (1 : Int32), vd (FP.dsub mt (FP.dmul (FP.i2d (1 : Int32)) sp)), ss, vi (1 : Int32), vd (FP.dsub mt (FP.dmul (FP.i2d (0 : Int32)) sp)), ss, uu] [(.ref a1539)]) := by
            intro tQ kk
            refine k2532 tQ ?_
            refine XS.dstore X2508.here hx rfl (hb hby at_402) rfl (l' := #[vi p0, vi p1, vi p2, vi p3, vi (2 : Int32), vi (100 : Int32), vi pre, vi adv, vi ((XT.ushr p3 (3 : Int32)) &&& (3 : Int32)), vi (1 : Int32), vd (FP.i2d p0), ss, vr a1539, vd mv, ss, vd mt, ss, vi (2 : Int32), vi tI, vi nI, vd (FP.i2d nI), ss, vd mv, ss, vd (FP.ddiv (FP.dadd mt mv) (4611686018427387904 : UInt64)), ss, vd mt, ss, vi (1 : Int32), vi (1 : Int32), vd vl, ss, vi (1 : Int32), vd (FP.dsub mt (FP.dmul (FP.i2d (1 : Int32)) sp)), ss, vi (1 : Int32), vd (FP.dsub mt (FP.dmul (FP.i2d (0 : Int32)) sp)), ss, uu]) rfl ?_
            refine XS.aload X2508.here hx rfl (hb hby at_404) rfl rfl ?_
            exact kk
          clear k2532
          obtain ⟨cq2550, kq2551, qa2552, qb2553, qc2554⟩ := isOf hZ rfl F2531
          obtain ⟨_, _, ⟨T2539, L2540, kc2541, nc2542⟩, -, X2543, ⟨Lc2544, hQ2545, l2546, y2547, z2548⟩, st2549⟩ := X2508.virtualBack hx (y := mn13) (z := mn13) hown (mvT hZ (tw44 hw)) (mvT hZ (tw45 hw)) (notFace_of_selects (args := #[]) (mvT hZ (tw47 hw))) (mvT hZ (tw47 hw)) (mvT hZ (tw46 hw)) (by decide) (backOf (W := 0) (rmMv l Z a0 hw [] a1539 (0 : Int32) T2504.heap n0 Z2530 F2536) hZ (tw48 hw) (tw2 hw) (by decide) (by decide)) qa2552 qc2554 (g := (mkF m 406 #[vi p0, vi p1, vi p2, vi p3, vi (2 : Int32), vi (100 : Int32), vi pre, vi adv, vi ((XT.ushr p3 (3 : Int32)) &&& (3 : Int32)), vi (1 : Int32), vd (FP.i2d p0), ss, vr a1539, vd mv, ss, vd mt, ss, vi (2 : Int32), vi tI, vi nI, vd (FP.i2d nI), ss, vd mv, ss, vd (FP.ddiv (FP.dadd mt mv) (4611686018427387904 : UInt64)), ss, vd mt, ss, vi (1 : Int32), vi (1 : Int32), vd vl, ss, vi (1 : Int32), vd (FP.dsub mt (FP.dmul (FP.i2d (1 : Int32)) sp)), ss, vi (1 : Int32), vd (FP.dsub mt (FP.dmul (FP.i2d (0 : Int32)) sp)), ss, uu] [(.ref a1539)])) rfl (by rw [hml]; rfl) (Steps.refl _) (argsL := []) (rest := []) (lenOf pd_18 rfl) rfl (by show 2 * 0 + _ ≤ _; exact Nat.le_of_eq rfl) (hb hby at_406) (fun _ _ => ⟨rfl, rfl, (by decide : 1 + 0 ≤ _), (by decide : 5 + 0 ≤ _)⟩)
          dsimp only [Pt.U, Pt.locs, Pt.cells, Pt.slots] at X2543 l2546 y2547 z2548 st2549 hQ2545
          subst y2547 z2548
          obtain ⟨rfl, N2555, e2556⟩ := hQ2545
          have N2558 : Fr n0 L2540 := by rw [l2546]; exact Fr.app N2529 N2555
          clear l2546 N2555
          have k2559 : own_G p e below E0 T2539 (mkF m 409 #[vi p0, vi p1, vi p2, vi p3, vi (2 : Int32), vi (100 : Int32), vi pre, vi adv, vi ((XT.ushr p3 (3 : Int32)) &&& (3 : Int32)), vi (1 : Int32), vd (FP.i2d p0), ss, vr a1539, vd mv, ss, vd mt, ss, vi (2 : Int32), vi tI, vi nI, vd (FP.i2d nI), ss, vd mv, ss, vd (FP.ddiv (FP.dadd mt mv) (4611686018427387904 : UInt64)), ss, vd mt, ss, vi (1 : Int32), vi (1 : Int32), vd vl, ss, vi (1 : Int32), vd (FP.dsub mt (FP.dmul (FP.i2d (1 : Int32)) sp)), ss, vi (1 : Int32), vd (FP.dsub mt (FP.dmul (FP.i2d (0 : Int32)) sp)), ss, uu] [(.int (own_mv (0 : Int32)))]) := fun tQ kk => k2538 tQ (st2549.trans kk)
          clear k2538 st2549
          have eq2560 : (own_mv (0 : Int32)) = (0 : Int32) := by decide
          rw [eq2560] at k2559
          have k2561 : own_G p e below E0 T2539 (mkF m 459 #[vi p0, vi p1, vi p2, vi p3, vi (2 : Int32), vi (100 : Int32), vi pre, vi adv, vi ((XT.ushr p3 (3 : Int32)) &&& (3 : Int32)), vi (1 : Int32), vd (FP.i2d p0), ss, vr a1539, vd mv, ss, vd mt, ss, vi (2 : Int32), vi tI, vi nI, vd (FP.i2d nI), ss, vd mv, ss, vd (FP.ddiv (FP.dadd mt mv) (4611686018427387904 : UInt64)), ss, vd mt, ss, vi (1 : Int32), vi (1 : Int32), vd vl, ss, vi (1 : Int32), vd (FP.dsub mt (FP.dmul (FP.i2d (1 : Int32)) sp)), ss, vi (1 : Int32), vd (FP.dsub mt (FP.dmul (FP.i2d (0 : Int32)) sp)), ss, vi (0 : Int32)] [(.int (1 : Int32))]) := by
            intro tQ kk
            refine k2559 tQ ?_
            refine XS.istore X2543.here hx rfl (hb hby at_409) rfl (l' := #[vi p0, vi p1, vi p2, vi p3, vi (2 : Int32), vi (100 : Int32), vi pre, vi adv, vi ((XT.ushr p3 (3 : Int32)) &&& (3 : Int32)), vi (1 : Int32), vd (FP.i2d p0), ss, vr a1539, vd mv, ss, vd mt, ss, vi (2 : Int32), vi tI, vi nI, vd (FP.i2d nI), ss, vd mv, ss, vd (FP.ddiv (FP.dadd mt mv) (4611686018427387904 : UInt64)), ss, vd mt, ss, vi (1 : Int32), vi (1 : Int32), vd vl, ss, vi (1 : Int32), vd (FP.dsub mt (FP.dmul (FP.i2d (1 : Int32)) sp)), ss, vi (1 : Int32), vd (FP.dsub mt (FP.dmul (FP.i2d (0 : Int32)) sp)), ss, vi (0 : Int32)]) rfl ?_
            refine XS.dload X2543.here hx rfl (hb hby at_411) rfl ?_
            refine XS.dload X2543.here hx rfl (hb hby at_413) rfl ?_
            refine XS.dcmpS (v := (0 : Int32)) X2543.here hx rfl (hb hby at_415) rfl (own_eqz .l hvl.1.noNaN hmv.1.noNaN (hvl.2.trans hmv.2.symm)) ?_
            show Steps p.tables e below (T2539.setTop (mkF m 416 #[vi p0, vi p1, vi p2, vi p3, vi (2 : Int32), vi (100 : Int32), vi pre, vi adv, vi ((XT.ushr p3 (3 : Int32)) &&& (3 : Int32)), vi (1 : Int32), vd (FP.i2d p0), ss, vr a1539, vd mv, ss, vd mt, ss, vi (2 : Int32), vi tI, vi nI, vd (FP.i2d nI), ss, vd mv, ss, vd (FP.ddiv (FP.dadd mt mv) (4611686018427387904 : UInt64)), ss, vd mt, ss, vi (1 : Int32), vi (1 : Int32), vd vl, ss, vi (1 : Int32), vd (FP.dsub mt (FP.dmul (FP.i2d (1 : Int32)) sp)), ss, vi (1 : Int32), vd (FP.dsub mt (FP.dmul (FP.i2d (0 : Int32)) sp)), ss, vi (0 : Int32)] [(.int (0 : Int32))])) tQ
            refine XS.ifNo X2543.here hx rfl (hb hby at_416) rfl (own_if_neN (by decide)) ?_
            refine XS.iload X2543.here hx rfl (hb hby at_419) rfl ?_
            refine XS.iload X2543.here hx rfl (hb hby at_421) rfl ?_
            refine XS.icmpNo X2543.here hx rfl (hb hby at_423) rfl (own_ic_neN (by decide)) ?_
            show Steps p.tables e below (T2539.setTop (mkF m 426 #[vi p0, vi p1, vi p2, vi p3, vi (2 : Int32), vi (100 : Int32), vi pre, vi adv, vi ((XT.ushr p3 (3 : Int32)) &&& (3 : Int32)), vi (1 : Int32), vd (FP.i2d p0), ss, vr a1539, vd mv, ss, vd mt, ss, vi (2 : Int32), vi tI, vi nI, vd (FP.i2d nI), ss, vd mv, ss, vd (FP.ddiv (FP.dadd mt mv) (4611686018427387904 : UInt64)), ss, vd mt, ss, vi (1 : Int32), vi (1 : Int32), vd vl, ss, vi (1 : Int32), vd (FP.dsub mt (FP.dmul (FP.i2d (1 : Int32)) sp)), ss, vi (1 : Int32), vd (FP.dsub mt (FP.dmul (FP.i2d (0 : Int32)) sp)), ss, vi (0 : Int32)] [])) tQ
            refine XS.dload X2543.here hx rfl (hb hby at_426) rfl ?_
            refine XS.dload X2543.here hx rfl (hb hby at_428) rfl ?_
            refine XS.dcmpS (v := (0 : Int32)) X2543.here hx rfl (hb hby at_430) rfl (own_cE2 hmt bW hvl hmv hsp) ?_
            refine XS.ifNo X2543.here hx rfl (hb hby at_431) rfl (own_if_neN (by decide)) ?_
            show Steps p.tables e below (T2539.setTop (mkF m 434 #[vi p0, vi p1, vi p2, vi p3, vi (2 : Int32), vi (100 : Int32), vi pre, vi adv, vi ((XT.ushr p3 (3 : Int32)) &&& (3 : Int32)), vi (1 : Int32), vd (FP.i2d p0), ss, vr a1539, vd mv, ss, vd mt, ss, vi (2 : Int32), vi tI, vi nI, vd (FP.i2d nI), ss, vd mv, ss, vd (FP.ddiv (FP.dadd mt mv) (4611686018427387904 : UInt64)), ss, vd mt, ss, vi (1 : Int32), vi (1 : Int32), vd vl, ss, vi (1 : Int32), vd (FP.dsub mt (FP.dmul (FP.i2d (1 : Int32)) sp)), ss, vi (1 : Int32), vd (FP.dsub mt (FP.dmul (FP.i2d (0 : Int32)) sp)), ss, vi (0 : Int32)] [])) tQ
            refine XS.iload X2543.here hx rfl (hb hby at_434) rfl ?_
            refine XS.iload X2543.here hx rfl (hb hby at_436) rfl ?_
            refine XS.icmpNo X2543.here hx rfl (hb hby at_438) rfl (own_ic_neN (by decide)) ?_
            refine XS.dload X2543.here hx rfl (hb hby at_441) rfl ?_
            show Steps p.tables e below (T2539.setTop (mkF m 443 #[vi p0, vi p1, vi p2, vi p3, vi (2 : Int32), vi (100 : Int32), vi pre, vi adv, vi ((XT.ushr p3 (3 : Int32)) &&& (3 : Int32)), vi (1 : Int32), vd (FP.i2d p0), ss, vr a1539, vd mv, ss, vd mt, ss, vi (2 : Int32), vi tI, vi nI, vd (FP.i2d nI), ss, vd mv, ss, vd (FP.ddiv (FP.dadd mt mv) (4611686018427387904 : UInt64)), ss, vd mt, ss, vi (1 : Int32), vi (1 : Int32), vd vl, ss, vi (1 : Int32), vd (FP.dsub mt (FP.dmul (FP.i2d (1 : Int32)) sp)), ss, vi (1 : Int32), vd (FP.dsub mt (FP.dmul (FP.i2d (0 : Int32)) sp)), ss, vi (0 : Int32)] [(.double (FP.dsub mt (FP.dmul (FP.i2d (0 : Int32)) sp)))])) tQ
            refine XS.dload X2543.here hx rfl (hb hby at_443) rfl ?_
            refine XS.dcmpS (v := (0 : Int32)) X2543.here hx rfl (hb hby at_445) rfl (own_cz (own_fsp2 hmt bW hvl hsp) fmt) ?_
            refine XS.ifNo X2543.here hx rfl (hb hby at_446) rfl (own_if_neN (by decide)) ?_
            refine XS.iload X2543.here hx rfl (hb hby at_449) rfl ?_
            show Steps p.tables e below (T2539.setTop (mkF m 451 #[vi p0, vi p1, vi p2, vi p3, vi (2 : Int32), vi (100 : Int32), vi pre, vi adv, vi ((XT.ushr p3 (3 : Int32)) &&& (3 : Int32)), vi (1 : Int32), vd (FP.i2d p0), ss, vr a1539, vd mv, ss, vd mt, ss, vi (2 : Int32), vi tI, vi nI, vd (FP.i2d nI), ss, vd mv, ss, vd (FP.ddiv (FP.dadd mt mv) (4611686018427387904 : UInt64)), ss, vd mt, ss, vi (1 : Int32), vi (1 : Int32), vd vl, ss, vi (1 : Int32), vd (FP.dsub mt (FP.dmul (FP.i2d (1 : Int32)) sp)), ss, vi (1 : Int32), vd (FP.dsub mt (FP.dmul (FP.i2d (0 : Int32)) sp)), ss, vi (0 : Int32)] [(.int (0 : Int32))])) tQ
            refine XS.ifNo X2543.here hx rfl (hb hby at_451) rfl (own_if_neN (by decide)) ?_
            refine XS.iconst X2543.here hx rfl (hb hby at_454) ?_
            refine XS.goto X2543.here hx rfl (pc0 := 455) (pc' := 459) rfl (hb hby at_455) (by decide) (by decide) ?_
            exact kk
          clear k2559
          obtain ⟨fs, hr, hrun, hended, hW, hsame⟩ := X2543.leave (v := some (.int (1 : Int32))) (fun h => by rw [Bd.returns] at h; cases h)
          have hrun0 := k2561 _ (retOut X2543 hx Bd.returns (t := .boolean) rfl (Or.inl ⟨rfl, Or.inr (Or.inl rfl), _, rfl⟩) (hb hby at_459) hr)
          subst hE0
          refine ⟨_, _, hrun0, hrun, hended, _, _, rfl, ?_, ⟨_, rfl⟩, hW, hsame.mono (by decide) (by decide)⟩
          show Qrm0 Z p0 p1 p2 p3 h0 n0 _ T2539.heap _
          rw [e2556]
          exact ⟨rfl, N2558⟩
      · skip
        have k2562 : own_G p e below E0 T1743 (mkF m 258 #[vi p0, vi p1, vi p2, vi p3, vi (2 : Int32), vi (100 : Int32), vi pre, vi adv, vi ((XT.ushr p3 (3 : Int32)) &&& (3 : Int32)), vi (1 : Int32), vd (FP.i2d p0), ss, vr a1539, vd mv, ss, vd mt, ss, vi mr, vi tI, vi nI, vd (FP.i2d nI), ss, vd mv, ss, uu, uu, uu, uu, vi (1 : Int32), uu, uu, uu, uu, uu, uu, uu, uu, uu, uu] [(.double (FP.dadd (FP.i2d nI) mv))]) := by
          intro tQ kk
          refine k1962 tQ ?_
          refine XS.ifNo X1744.here hx rfl (hb hby at_237) rfl (own_c_eqN cE) ?_
          refine XS.dload X1744.here hx rfl (hb hby at_240) rfl ?_
          refine XS.dstore X1744.here hx rfl (hb hby at_242) rfl (l' := #[vi p0, vi p1, vi p2, vi p3, vi (2 : Int32), vi (100 : Int32), vi pre, vi adv, vi ((XT.ushr p3 (3 : Int32)) &&& (3 : Int32)), vi (1 : Int32), vd (FP.i2d p0), ss, vr a1539, vd mv, ss, vd mt, ss, vi mr, vi tI, vi nI, vd (FP.i2d nI), ss, vd mv, ss, uu, uu, uu, uu, uu, uu, uu, uu, uu, uu, uu, uu, uu, uu, uu]) rfl ?_
          refine XS.iconst X1744.here hx rfl (hb hby at_244) ?_
          show Steps p.tables e below (T1743.setTop (mkF m 245 #[vi p0, vi p1, vi p2, vi p3, vi (2 : Int32), vi (100 : Int32), vi pre, vi adv, vi ((XT.ushr p3 (3 : Int32)) &&& (3 : Int32)), vi (1 : Int32), vd (FP.i2d p0), ss, vr a1539, vd mv, ss, vd mt, ss, vi mr, vi tI, vi nI, vd (FP.i2d nI), ss, vd mv, ss, uu, uu, uu, uu, uu, uu, uu, uu, uu, uu, uu, uu, uu, uu, uu] [(.int (1 : Int32))])) tQ
          refine XS.istore X1744.here hx rfl (hb hby at_245) rfl (l' := #[vi p0, vi p1, vi p2, vi p3, vi (2 : Int32), vi (100 : Int32), vi pre, vi adv, vi ((XT.ushr p3 (3 : Int32)) &&& (3 : Int32)), vi (1 : Int32), vd (FP.i2d p0), ss, vr a1539, vd mv, ss, vd mt, ss, vi mr, vi tI, vi nI, vd (FP.i2d nI), ss, vd mv, ss, uu, uu, uu, uu, vi (1 : Int32), uu, uu, uu, uu, uu, uu, uu, uu, uu, uu]) rfl ?_
          refine XS.iload X1744.here hx rfl (hb hby at_247) rfl ?_
          refine XS.iconst X1744.here hx rfl (hb hby at_249) ?_
          refine XS.icmpNo X1744.here hx rfl (hb hby at_250) rfl (own_ic_neN (by decide)) ?_
          show Steps p.tables e below (T1743.setTop (mkF m 253 #[vi p0, vi p1, vi p2, vi p3, vi (2 : Int32), vi (100 : Int32), vi pre, vi adv, vi ((XT.ushr p3 (3 : Int32)) &&& (3 : Int32)), vi (1 : Int32), vd (FP.i2d p0), ss, vr a1539, vd mv, ss, vd mt, ss, vi mr, vi tI, vi nI, vd (FP.i2d nI), ss, vd mv, ss, uu, uu, uu, uu, vi (1 : Int32), uu, uu, uu, uu, uu, uu, uu, uu, uu, uu] [])) tQ
          refine XS.dload X1744.here hx rfl (hb hby at_253) rfl ?_
          refine XS.dload X1744.here hx rfl (hb hby at_255) rfl ?_
          refine XS.daddS X1744.here hx rfl (hb hby at_257) rfl (Fl.dadd_out (Fl.i2d_fin nI).noNaN hmv.1) rfl ?_
          exact kk
        clear k1962
        have st2563 := X1744.ldc2DoubleC hx hown (mvT hZ (tw56 hw)) (g := (mkF m 258 #[vi p0, vi p1, vi p2, vi p3, vi (2 : Int32), vi (100 : Int32), vi pre, vi adv, vi ((XT.ushr p3 (3 : Int32)) &&& (3 : Int32)), vi (1 : Int32), vd (FP.i2d p0), ss, vr a1539, vd mv, ss, vd mt, ss, vi mr, vi tI, vi nI, vd (FP.i2d nI), ss, vd mv, ss, uu, uu, uu, uu, vi (1 : Int32), uu, uu, uu, uu, uu, uu, uu, uu, uu, uu] [(.double (FP.dadd (FP.i2d nI) mv))])) rfl (hb hby at_258)
        have k2564 : own_G p e below E0 T1743 (mkF m 261 #[vi p0, vi p1, vi p2, vi p3, vi (2 : Int32), vi (100 : Int32), vi pre, vi adv, vi ((XT.ushr p3 (3 : Int32)) &&& (3 : Int32)), vi (1 : Int32), vd (FP.i2d p0), ss, vr a1539, vd mv, ss, vd mt, ss, vi mr, vi tI, vi nI, vd (FP.i2d nI), ss, vd mv, ss, uu, uu, uu, uu, vi (1 : Int32), uu, uu, uu, uu, uu, uu, uu, uu, uu, uu] [(.double (4611686018427387904 : UInt64)), (.double (FP.dadd (FP.i2d nI) mv))]) := fun tQ kk => k2562 tQ (st2563 _ kk)
        clear k2562 st2563
        have k2565 : own_G p e below E0 T1743 (mkF m 366 #[vi p0, vi p1, vi p2, vi p3, vi (2 : Int32), vi (100 : Int32), vi pre, vi adv, vi ((XT.ushr p3 (3 : Int32)) &&& (3 : Int32)), vi (1 : Int32), vd (FP.i2d p0), ss, vr a1539, vd mv, ss, vd mt, ss, vi mr, vi tI, vi nI, vd (FP.i2d nI), ss, vd mv, ss, vd (FP.ddiv (FP.dadd (FP.i2d nI) mv) (4611686018427387904 : UInt64)), ss, vd (FP.i2d nI), ss, vi (1 : Int32), vi (1 : Int32), uu, uu, uu, uu, uu, uu, uu, uu, uu] [(.int (1 : Int32)), (.double (FP.i2d nI)), (.ref a1539)]) := by
          intro tQ kk
          refine k2564 tQ ?_
          refine XS.ddivS X1744.here hx rfl (hb hby at_261) rfl (Fl.ddiv_out (Fl.dadd_out (Fl.i2d_fin nI).noNaN hmv.1) own_f2 own_nz2) rfl ?_
          refine XS.dstore X1744.here hx rfl (hb hby at_262) rfl (l' := #[vi p0, vi p1, vi p2, vi p3, vi (2 : Int32), vi (100 : Int32), vi pre, vi adv, vi ((XT.ushr p3 (3 : Int32)) &&& (3 : Int32)), vi (1 : Int32), vd (FP.i2d p0), ss, vr a1539, vd mv, ss, vd mt, ss, vi mr, vi tI, vi nI, vd (FP.i2d nI), ss, vd mv, ss, vd (FP.ddiv (FP.dadd (FP.i2d nI) mv) (4611686018427387904 : UInt64)), ss, uu, uu, vi (1 : Int32), uu, uu, uu, uu, uu, uu, uu, uu, uu, uu]) rfl ?_
          refine XS.iconst X1744.here hx rfl (hb hby at_264) ?_
          refine XS.istore X1744.here hx rfl (hb hby at_265) rfl (l' := #[vi p0, vi p1, vi p2, vi p3, vi (2 : Int32), vi (100 : Int32), vi pre, vi adv, vi ((XT.ushr p3 (3 : Int32)) &&& (3 : Int32)), vi (1 : Int32), vd (FP.i2d p0), ss, vr a1539, vd mv, ss, vd mt, ss, vi mr, vi tI, vi nI, vd (FP.i2d nI), ss, vd mv, ss, vd (FP.ddiv (FP.dadd (FP.i2d nI) mv) (4611686018427387904 : UInt64)), ss, uu, uu, vi (1 : Int32), vi (1 : Int32), uu, uu, uu, uu, uu, uu, uu, uu, uu]) rfl ?_
          show Steps p.tables e below (T1743.setTop (mkF m 267 #[vi p0, vi p1, vi p2, vi p3, vi (2 : Int32), vi (100 : Int32), vi pre, vi adv, vi ((XT.ushr p3 (3 : Int32)) &&& (3 : Int32)), vi (1 : Int32), vd (FP.i2d p0), ss, vr a1539, vd mv, ss, vd mt, ss, vi mr, vi tI, vi nI, vd (FP.i2d nI), ss, vd mv, ss, vd (FP.ddiv (FP.dadd (FP.i2d nI) mv) (4611686018427387904 : UInt64)), ss, uu, uu, vi (1 : Int32), vi (1 : Int32), uu, uu, uu, uu, uu, uu, uu, uu, uu] [])) tQ
          refine XS.goto X1744.here hx rfl (pc0 := 267) (pc' := 277) rfl (hb hby at_267) (by decide) (by decide) ?_
          refine XS.dload X1744.here hx rfl (hb hby at_277) rfl ?_
          refine XS.dstore X1744.here hx rfl (hb hby at_279) rfl (l' := #[vi p0, vi p1, vi p2, vi p3, vi (2 : Int32), vi (100 : Int32), vi pre, vi adv, vi ((XT.ushr p3 (3 : Int32)) &&& (3 : Int32)), vi (1 : Int32), vd (FP.i2d p0), ss, vr a1539, vd mv, ss, vd mt, ss, vi mr, vi tI, vi nI, vd (FP.i2d nI), ss, vd mv, ss, vd (FP.ddiv (FP.dadd (FP.i2d nI) mv) (4611686018427387904 : UInt64)), ss, vd (FP.i2d nI), ss, vi (1 : Int32), vi (1 : Int32), uu, uu, uu, uu, uu, uu, uu, uu, uu]) rfl ?_
          refine XS.goto X1744.here hx rfl (pc0 := 281) (pc' := 360) rfl (hb hby at_281) (by decide) (by decide) ?_
          show Steps p.tables e below (T1743.setTop (mkF m 360 #[vi p0, vi p1, vi p2, vi p3, vi (2 : Int32), vi (100 : Int32), vi pre, vi adv, vi ((XT.ushr p3 (3 : Int32)) &&& (3 : Int32)), vi (1 : Int32), vd (FP.i2d p0), ss, vr a1539, vd mv, ss, vd mt, ss, vi mr, vi tI, vi nI, vd (FP.i2d nI), ss, vd mv, ss, vd (FP.ddiv (FP.dadd (FP.i2d nI) mv) (4611686018427387904 : UInt64)), ss, vd (FP.i2d nI), ss, vi (1 : Int32), vi (1 : Int32), uu, uu, uu, uu, uu, uu, uu, uu, uu] [])) tQ
          refine XS.aload X1744.here hx rfl (hb hby at_360) rfl rfl ?_
          refine XS.dload X1744.here hx rfl (hb hby at_362) rfl ?_
          refine XS.iload X1744.here hx rfl (hb hby at_364) rfl ?_
          exact kk
        clear k2564
        obtain ⟨cq2577, kq2578, qa2579, qb2580, qc2581⟩ := isOf hZ e1745 F1750
        obtain ⟨_, _, ⟨T2566, L2567, kc2568, nc2569⟩, -, X2570, ⟨Lc2571, hQ2572, l2573, y2574, z2575⟩, st2576⟩ := X1744.virtualBack hx (y := mn11) (z := mn11) hown (mvT hZ (tw32 hw)) (mvT hZ (tw33 hw)) (notFace_of_selects (args := #[]) (mvT hZ (tw35 hw))) (mvT hZ (tw35 hw)) (mvT hZ (tw34 hw)) (by decide) (backOf (W := 0) (rmS1 l Z a0 hw [] a1539 (FP.i2d nI) (2 : Int32) vl mt sp mr h1746 n0 Z1748 F1750 F1751 F1752 F1753 F1754 F1755 ge1541 (Fl.i2d_fin nI).noNaN nmt (fun _ => ⟨Fl.dsub_out (Fl.i2d_fin nI).noNaN hvl.1, (own_fspN nI (F := (2 : Int32)) bW hvl (by decide)).noNaN⟩)) hZ (tw36 hw) (tw2 hw) (by decide) (by decide)) qa2579 qc2581 (g := (mkF m 366 #[vi p0, vi p1, vi p2, vi p3, vi (2 : Int32), vi (100 : Int32), vi pre, vi adv, vi ((XT.ushr p3 (3 : Int32)) &&& (3 : Int32)), vi (1 : Int32), vd (FP.i2d p0), ss, vr a1539, vd mv, ss, vd mt, ss, vi mr, vi tI, vi nI, vd (FP.i2d nI), ss, vd mv, ss, vd (FP.ddiv (FP.dadd (FP.i2d nI) mv) (4611686018427387904 : UInt64)), ss, vd (FP.i2d nI), ss, vi (1 : Int32), vi (1 : Int32), uu, uu, uu, uu, uu, uu, uu, uu, uu] [(.int (1 : Int32)), (.double (FP.i2d nI)), (.ref a1539)])) rfl (by rw [hml]; rfl) (Steps.refl _) (argsL := [(.double (FP.i2d nI)), (.int (1 : Int32))]) (rest := []) (lenOf pd_17 rfl) rfl (by show 2 * 0 + _ ≤ _; exact Nat.le_of_eq rfl) (hb hby at_366) (fun _ _ => ⟨rfl, e1745, (by decide : 1 + 0 ≤ _), (by decide : 5 + 0 ≤ _)⟩)
        dsimp only [Pt.U, Pt.locs, Pt.cells, Pt.slots] at X2570 l2573 y2574 z2575 st2576 hQ2572
        subst y2574 z2575
        obtain ⟨rfl, N2582, K2585, g2586, g2587, g2588, g2589, g2590⟩ := hQ2572
        have N2591 : Fr n0 L2567 := by rw [l2573]; exact Fr.app N1747 N2582
        clear l2573 N2582
        have Z2592 : n0 ≤ T2566.heap.size := Nat.le_trans Z1748 K2585.1
        clear Z1748
        have F2593 : xa7 Z T2566.heap a1539 := F1750.keep K2585
        clear F1750
        clear F1751
        clear F1752
        clear F1753
        clear F1754
        clear F1755
        have k2594 : own_G p e below E0 T2566 (mkF m 369 #[vi p0, vi p1, vi p2, vi p3, vi (2 : Int32), vi (100 : Int32), vi pre, vi adv, vi ((XT.ushr p3 (3 : Int32)) &&& (3 : Int32)), vi (1 : Int32), vd (FP.i2d p0), ss, vr a1539, vd mv, ss, vd mt, ss, vi mr, vi tI, vi nI, vd (FP.i2d nI), ss, vd mv, ss, vd (FP.ddiv (FP.dadd (FP.i2d nI) mv) (4611686018427387904 : UInt64)), ss, vd (FP.i2d nI), ss, vi (1 : Int32), vi (1 : Int32), uu, uu, uu, uu, uu, uu, uu, uu, uu] []) := fun tQ kk => k2565 tQ (st2576.trans kk)
        clear k2565 st2576
        have eq2595 : (own_tg (FP.i2d nI) mt) = (FP.i2d nI) := by rw [own_tg, if_neg cE]
        have F2596 : fd4 Z T2566.heap a1539 (.double (FP.i2d nI)) := by rw [← eq2595]; exact g2588
        have eq2597 : (own_sp (FP.i2d nI) vl mt sp (2 : Int32)) = (FP.ddiv (FP.dsub (FP.i2d nI) vl) (FP.i2d (2 : Int32))) := by rw [own_sp, if_neg cE]
        have F2598 : fd5 Z T2566.heap a1539 (.double (FP.ddiv (FP.dsub (FP.i2d nI) vl) (FP.i2d (2 : Int32)))) := by rw [← eq2597]; exact g2589
        have eq2599 : (own_rm (FP.i2d nI) mt mr (2 : Int32)) = (2 : Int32) := by rw [own_rm, if_neg cE]
        have F2600 : fd6 Z T2566.heap a1539 (.int (2 : Int32)) := by rw [← eq2599]; exact g2590
        have k2601 : own_G p e below E0 T2566 (mkF m 371 #[vi p0, vi p1, vi p2, vi p3, vi (2 : Int32), vi (100 : Int32), vi pre, vi adv, vi ((XT.ushr p3 (3 : Int32)) &&& (3 : Int32)), vi (1 : Int32), vd (FP.i2d p0), ss, vr a1539, vd mv, ss, vd mt, ss, vi mr, vi tI, vi nI, vd (FP.i2d nI), ss, vd mv, ss, vd (FP.ddiv (FP.dadd (FP.i2d nI) mv) (4611686018427387904 : UInt64)), ss, vd (FP.i2d nI), ss, vi (1 : Int32), vi (1 : Int32), uu, uu, uu, uu, uu, uu, uu, uu, uu] [(.ref a1539)]) := by
          intro tQ kk
          refine k2594 tQ ?_
          refine XS.aload X2570.here hx rfl (hb hby at_369) rfl rfl ?_
          exact kk
        clear k2594
        obtain ⟨cq2613, kq2614, qa2615, qb2616, qc2617⟩ := isOf hZ rfl F2593
        obtain ⟨_, _, ⟨T2602, L2603, kc2604, nc2605⟩, -, X2606, ⟨Lc2607, hQ2608, l2609, y2610, z2611⟩, st2612⟩ := X2570.virtualBack hx (y := mn14) (z := mn14) hown (mvT hZ (tw39 hw)) (mvT hZ (tw40 hw)) (notFace_of_selects (args := #[]) (mvT hZ (tw42 hw))) (mvT hZ (tw42 hw)) (mvT hZ (tw41 hw)) (by decide) (backOf (W := 0) (rmVl l Z a0 hw [] a1539 vl T2566.heap n0 Z2592 g2587) hZ (tw43 hw) (tw2 hw) (by decide) (by decide)) qa2615 qc2617 (g := (mkF m 371 #[vi p0, vi p1, vi p2, vi p3, vi (2 : Int32), vi (100 : Int32), vi pre, vi adv, vi ((XT.ushr p3 (3 : Int32)) &&& (3 : Int32)), vi (1 : Int32), vd (FP.i2d p0), ss, vr a1539, vd mv, ss, vd mt, ss, vi mr, vi tI, vi nI, vd (FP.i2d nI), ss, vd mv, ss, vd (FP.ddiv (FP.dadd (FP.i2d nI) mv) (4611686018427387904 : UInt64)), ss, vd (FP.i2d nI), ss, vi (1 : Int32), vi (1 : Int32), uu, uu, uu, uu, uu, uu, uu, uu, uu] [(.ref a1539)])) rfl (by rw [hml]; rfl) (Steps.refl _) (argsL := []) (rest := []) (lenOf pd_16 rfl) rfl (by show 2 * 0 + _ ≤ _; exact Nat.le_of_eq rfl) (hb hby at_371) (fun _ _ => ⟨rfl, rfl, (by decide : 1 + 0 ≤ _), (by decide : 5 + 0 ≤ _)⟩)
        dsimp only [Pt.U, Pt.locs, Pt.cells, Pt.slots] at X2606 l2609 y2610 z2611 st2612 hQ2608
        subst y2610 z2611
        obtain ⟨rfl, N2618, e2619⟩ := hQ2608
        have N2621 : Fr n0 L2603 := by rw [l2609]; exact Fr.app N2591 N2618
        clear l2609 N2618
        have k2622 : own_G p e below E0 T2602 (mkF m 374 #[vi p0, vi p1, vi p2, vi p3, vi (2 : Int32), vi (100 : Int32), vi pre, vi adv, vi ((XT.ushr p3 (3 : Int32)) &&& (3 : Int32)), vi (1 : Int32), vd (FP.i2d p0), ss, vr a1539, vd mv, ss, vd mt, ss, vi mr, vi tI, vi nI, vd (FP.i2d nI), ss, vd mv, ss, vd (FP.ddiv (FP.dadd (FP.i2d nI) mv) (4611686018427387904 : UInt64)), ss, vd (FP.i2d nI), ss, vi (1 : Int32), vi (1 : Int32), uu, uu, uu, uu, uu, uu, uu, uu, uu] [(.double vl)]) := fun tQ kk => k2601 tQ (st2612.trans kk)
        clear k2601 st2612
        have k2623 : own_G p e below E0 T2602 (mkF m 378 #[vi p0, vi p1, vi p2, vi p3, vi (2 : Int32), vi (100 : Int32), vi pre, vi adv, vi ((XT.ushr p3 (3 : Int32)) &&& (3 : Int32)), vi (1 : Int32), vd (FP.i2d p0), ss, vr a1539, vd mv, ss, vd mt, ss, vi mr, vi tI, vi nI, vd (FP.i2d nI), ss, vd mv, ss, vd (FP.ddiv (FP.dadd (FP.i2d nI) mv) (4611686018427387904 : UInt64)), ss, vd (FP.i2d nI), ss, vi (1 : Int32), vi (1 : Int32), vd vl, ss, uu, uu, uu, uu, uu, uu, uu] [(.ref a1539)]) := by
          intro tQ kk
          refine k2622 tQ ?_
          refine XS.dstore X2606.here hx rfl (hb hby at_374) rfl (l' := #[vi p0, vi p1, vi p2, vi p3, vi (2 : Int32), vi (100 : Int32), vi pre, vi adv, vi ((XT.ushr p3 (3 : Int32)) &&& (3 : Int32)), vi (1 : Int32), vd (FP.i2d p0), ss, vr a1539, vd mv, ss, vd mt, ss, vi mr, vi tI, vi nI, vd (FP.i2d nI), ss, vd mv, ss, vd (FP.ddiv (FP.dadd (FP.i2d nI) mv) (4611686018427387904 : UInt64)), ss, vd (FP.i2d nI), ss, vi (1 : Int32), vi (1 : Int32), vd vl, ss, uu, uu, uu, uu, uu, uu, uu]) rfl ?_
          refine XS.aload X2606.here hx rfl (hb hby at_376) rfl rfl ?_
          exact kk
        clear k2622
        obtain ⟨cq2635, kq2636, qa2637, qb2638, qc2639⟩ := isOf hZ e2619 F2593
        obtain ⟨_, _, ⟨T2624, L2625, kc2626, nc2627⟩, -, X2628, ⟨Lc2629, hQ2630, l2631, y2632, z2633⟩, st2634⟩ := X2606.virtualBack hx (y := mn13) (z := mn13) hown (mvT hZ (tw44 hw)) (mvT hZ (tw45 hw)) (notFace_of_selects (args := #[]) (mvT hZ (tw47 hw))) (mvT hZ (tw47 hw)) (mvT hZ (tw46 hw)) (by decide) (backOf (W := 0) (rmMv l Z a0 hw [] a1539 (2 : Int32) T2566.heap n0 Z2592 F2600) hZ (tw48 hw) (tw2 hw) (by decide) (by decide)) qa2637 qc2639 (g := (mkF m 378 #[vi p0, vi p1, vi p2, vi p3, vi (2 : Int32), vi (100 : Int32), vi pre, vi adv, vi ((XT.ushr p3 (3 : Int32)) &&& (3 : Int32)), vi (1 : Int32), vd (FP.i2d p0), ss, vr a1539, vd mv, ss, vd mt, ss, vi mr, vi tI, vi nI, vd (FP.i2d nI), ss, vd mv, ss, vd (FP.ddiv (FP.dadd (FP.i2d nI) mv) (4611686018427387904 : UInt64)), ss, vd (FP.i2d nI), ss, vi (1 : Int32), vi (1 : Int32), vd vl, ss, uu, uu, uu, uu, uu, uu, uu] [(.ref a1539)])) rfl (by rw [hml]; rfl) (Steps.refl _) (argsL := []) (rest := []) (lenOf pd_18 rfl) rfl (by show 2 * 0 + _ ≤ _; exact Nat.le_of_eq rfl) (hb hby at_378) (fun _ _ => ⟨rfl, e2619, (by decide : 1 + 0 ≤ _), (by decide : 5 + 0 ≤ _)⟩)
        dsimp only [Pt.U, Pt.locs, Pt.cells, Pt.slots] at X2628 l2631 y2632 z2633 st2634 hQ2630
        subst y2632 z2633
        obtain ⟨rfl, N2640, e2641⟩ := hQ2630
        have N2643 : Fr n0 L2625 := by rw [l2631]; exact Fr.app N2621 N2640
        clear l2631 N2640
        have k2644 : own_G p e below E0 T2624 (mkF m 381 #[vi p0, vi p1, vi p2, vi p3, vi (2 : Int32), vi (100 : Int32), vi pre, vi adv, vi ((XT.ushr p3 (3 : Int32)) &&& (3 : Int32)), vi (1 : Int32), vd (FP.i2d p0), ss, vr a1539, vd mv, ss, vd mt, ss, vi mr, vi tI, vi nI, vd (FP.i2d nI), ss, vd mv, ss, vd (FP.ddiv (FP.dadd (FP.i2d nI) mv) (4611686018427387904 : UInt64)), ss, vd (FP.i2d nI), ss, vi (1 : Int32), vi (1 : Int32), vd vl, ss, uu, uu, uu, uu, uu, uu, uu] [(.int (own_mv (2 : Int32)))]) := fun tQ kk => k2623 tQ (st2634.trans kk)
        clear k2623 st2634
        have eq2645 : (own_mv (2 : Int32)) = (1 : Int32) := by decide
        rw [eq2645] at k2644
        have k2646 : own_G p e below E0 T2624 (mkF m 385 #[vi p0, vi p1, vi p2, vi p3, vi (2 : Int32), vi (100 : Int32), vi pre, vi adv, vi ((XT.ushr p3 (3 : Int32)) &&& (3 : Int32)), vi (1 : Int32), vd (FP.i2d p0), ss, vr a1539, vd mv, ss, vd mt, ss, vi mr, vi tI, vi nI, vd (FP.i2d nI), ss, vd mv, ss, vd (FP.ddiv (FP.dadd (FP.i2d nI) mv) (4611686018427387904 : UInt64)), ss, vd (FP.i2d nI), ss, vi (1 : Int32), vi (1 : Int32), vd vl, ss, vi (1 : Int32), uu, uu, uu, uu, uu, uu] [(.ref a1539)]) := by
          intro tQ kk
          refine k2644 tQ ?_
          refine XS.istore X2628.here hx rfl (hb hby at_381) rfl (l' := #[vi p0, vi p1, vi p2, vi p3, vi (2 : Int32), vi (100 : Int32), vi pre, vi adv, vi ((XT.ushr p3 (3 : Int32)) &&& (3 : Int32)), vi (1 : Int32), vd (FP.i2d p0), ss, vr a1539, vd mv, ss, vd mt, ss, vi mr, vi tI, vi nI, vd (FP.i2d nI), ss, vd mv, ss, vd (FP.ddiv (FP.dadd (FP.i2d nI) mv) (4611686018427387904 : UInt64)), ss, vd (FP.i2d nI), ss, vi (1 : Int32), vi (1 : Int32), vd vl, ss, vi (1 : Int32), uu, uu, uu, uu, uu, uu]) rfl ?_
          refine XS.aload X2628.here hx rfl (hb hby at_383) rfl rfl ?_
          exact kk
        clear k2644
        obtain ⟨cq2658, kq2659, qa2660, qb2661, qc2662⟩ := isOf hZ e2641 F2593
        obtain ⟨_, _, ⟨T2647, L2648, kc2649, nc2650⟩, -, X2651, ⟨Lc2652, hQ2653, l2654, y2655, z2656⟩, st2657⟩ := X2628.virtualBack hx (y := mn12) (z := mn12) hown (mvT hZ (tw49 hw)) (mvT hZ (tw50 hw)) (notFace_of_selects (args := #[]) (mvT hZ (tw52 hw))) (mvT hZ (tw52 hw)) (mvT hZ (tw51 hw)) (by decide) (backOf (W := 0) (rmN l Z a0 hw [] a1539 (2 : Int32) vl (FP.i2d nI) (FP.ddiv (FP.dsub (FP.i2d nI) vl) (FP.i2d (2 : Int32))) (2 : Int32) T2566.heap n0 Z2592 F2593 g2586 g2587 F2596 F2598 F2600 ge1541 (fun _ => own_nn2 (own_fspN nI (F := (2 : Int32)) bW hvl (by decide)) (Fl.i2d_fin nI))) hZ (tw53 hw) (tw2 hw) (by decide) (by decide)) qa2660 qc2662 (g := (mkF m 385 #[vi p0, vi p1, vi p2, vi p3, vi (2 : Int32), vi (100 : Int32), vi pre, vi adv, vi ((XT.ushr p3 (3 : Int32)) &&& (3 : Int32)), vi (1 : Int32), vd (FP.i2d p0), ss, vr a1539, vd mv, ss, vd mt, ss, vi mr, vi tI, vi nI, vd (FP.i2d nI), ss, vd mv, ss, vd (FP.ddiv (FP.dadd (FP.i2d nI) mv) (4611686018427387904 : UInt64)), ss, vd (FP.i2d nI), ss, vi (1 : Int32), vi (1 : Int32), vd vl, ss, vi (1 : Int32), uu, uu, uu, uu, uu, uu] [(.ref a1539)])) rfl (by rw [hml]; rfl) (Steps.refl _) (argsL := []) (rest := []) (lenOf pd_16 rfl) rfl (by show 2 * 0 + _ ≤ _; exact Nat.le_of_eq rfl) (hb hby at_385) (fun _ _ => ⟨rfl, e2641, (by decide : 1 + 0 ≤ _), (by decide : 5 + 0 ≤ _)⟩)
        dsimp only [Pt.U, Pt.locs, Pt.cells, Pt.slots] at X2651 l2654 y2655 z2656 st2657 hQ2653
        subst y2655 z2656
        obtain ⟨rfl, N2663, K2666, g2667, g2668, g2669, g2670, g2671⟩ := hQ2653
        have N2672 : Fr n0 L2648 := by rw [l2654]; exact Fr.app N2643 N2663
        clear l2654 N2663
        have Z2673 : n0 ≤ T2647.heap.size := Nat.le_trans Z2592 K2666.1
        clear Z2592
        have F2674 : xa7 Z T2647.heap a1539 := F2593.keep K2666
        clear F2593
        clear g2586
        clear g2587
        clear F2596
        clear F2598
        clear F2600
        have k2675 : own_G p e below E0 T2647 (mkF m 388 #[vi p0, vi p1, vi p2, vi p3, vi (2 : Int32), vi (100 : Int32), vi pre, vi adv, vi ((XT.ushr p3 (3 : Int32)) &&& (3 : Int32)), vi (1 : Int32), vd (FP.i2d p0), ss, vr a1539, vd mv, ss, vd mt, ss, vi mr, vi tI, vi nI, vd (FP.i2d nI), ss, vd mv, ss, vd (FP.ddiv (FP.dadd (FP.i2d nI) mv) (4611686018427387904 : UInt64)), ss, vd (FP.i2d nI), ss, vi (1 : Int32), vi (1 : Int32), vd vl, ss, vi (1 : Int32), uu, uu, uu, uu, uu, uu] [(.double (own_nv vl (FP.i2d nI) (FP.ddiv (FP.dsub (FP.i2d nI) vl) (FP.i2d (2 : Int32))) (2 : Int32)))]) := fun tQ kk => k2646 tQ (st2657.trans kk)
        clear k2646 st2657
        have eq2676 : (own_nv vl (FP.i2d nI) (FP.ddiv (FP.dsub (FP.i2d nI) vl) (FP.i2d (2 : Int32))) (2 : Int32)) = (FP.dsub (FP.i2d nI) (FP.dmul (FP.i2d (1 : Int32)) (FP.ddiv (FP.dsub (FP.i2d nI) vl) (FP.i2d (2 : Int32))))) := by rw [own_nv, if_pos (by decide), show (2 : Int32) - 1 = (1 : Int32) by decide]
        have F2677 : fd3 Z T2647.heap a1539 (.double (FP.dsub (FP.i2d nI) (FP.dmul (FP.i2d (1 : Int32)) (FP.ddiv (FP.dsub (FP.i2d nI) vl) (FP.i2d (2 : Int32)))))) := by rw [← eq2676]; exact g2668
        have eq2678 : (own_nr (2 : Int32)) = (1 : Int32) := by decide
        have F2679 : fd6 Z T2647.heap a1539 (.int (1 : Int32)) := by rw [← eq2678]; exact g2671
        have eq2680 : (own_nv vl (FP.i2d nI) (FP.ddiv (FP.dsub (FP.i2d nI) vl) (FP.i2d (2 : Int32))) (2 : Int32)) = (FP.dsub (FP.i2d nI) (FP.dmul (FP.i2d (1 : Int32)) (FP.ddiv (FP.dsub (FP.i2d nI) vl) (FP.i2d (2 : Int32))))) := by rw [own_nv, if_pos (by decide), show (2 : Int32) - 1 = (1 : Int32) by decide]
        rw [eq2680] at k2675
        have k2681 : own_G p e below E0 T2647 (mkF m 392 #[vi p0, vi p1, vi p2, vi p3, vi (2 : Int32), vi (100 : Int32), vi pre, vi adv, vi ((XT.ushr p3 (3 : Int32)) &&& (3 : Int32)), vi (1 : Int32), vd (FP.i2d p0), ss, vr a1539, vd mv, ss, vd mt, ss, vi mr, vi tI, vi nI, vd (FP.i2d nI), ss, vd mv, ss, vd (FP.ddiv (FP.dadd (FP.i2d nI) mv) (4611686018427387904 : UInt64)), ss, vd (FP.i2d nI), ss, vi (1 : Int32), vi (1 : Int32), vd vl, ss, vi (1 : Int32), vd (FP.dsub (FP.i2d nI) (FP.dmul (FP.i2d (1 : Int32)) (FP.ddiv (FP.dsub (FP.i2d nI) vl) (FP.i2d (2 : Int32))))), ss, uu, uu, uu, uu] [(.ref a1539)]) := by
          intro tQ kk
          refine k2675 tQ ?_
          refine XS.dstore X2651.here hx rfl (hb hby at_388) rfl (l' := #[vi p0, vi p1, vi p2, vi p3, vi (2 : Int32), vi (100 : Int32), vi pre, vi adv, vi ((XT.ushr p3 (3 : Int32)) &&& (3 : Int32)), vi (1 : Int32), vd (FP.i2d p0), ss, vr a1539, vd mv, ss, vd mt, ss, vi mr, vi tI, vi nI, vd (FP.i2d nI), ss, vd mv, ss, vd (FP.ddiv (FP.dadd (FP.i2d nI) mv) (4611686018427387904 : UInt64)), ss, vd (FP.i2d nI), ss, vi (1 : Int32), vi (1 : Int32), vd vl, ss, vi (1 : Int32), vd (FP.dsub (FP.i2d nI) (FP.dmul (FP.i2d (1 : Int32)) (FP.ddiv (FP.dsub (FP.i2d nI) vl) (FP.i2d (2 : Int32))))), ss, uu, uu, uu, uu]) rfl ?_
          refine XS.aload X2651.here hx rfl (hb hby at_390) rfl rfl ?_
          exact kk
        clear k2675
        obtain ⟨cq2693, kq2694, qa2695, qb2696, qc2697⟩ := isOf hZ rfl F2674
        obtain ⟨_, _, ⟨T2682, L2683, kc2684, nc2685⟩, -, X2686, ⟨Lc2687, hQ2688, l2689, y2690, z2691⟩, st2692⟩ := X2651.virtualBack hx (y := mn13) (z := mn13) hown (mvT hZ (tw44 hw)) (mvT hZ (tw45 hw)) (notFace_of_selects (args := #[]) (mvT hZ (tw47 hw))) (mvT hZ (tw47 hw)) (mvT hZ (tw46 hw)) (by decide) (backOf (W := 0) (rmMv l Z a0 hw [] a1539 (1 : Int32) T2647.heap n0 Z2673 F2679) hZ (tw48 hw) (tw2 hw) (by decide) (by decide)) qa2695 qc2697 (g := (mkF m 392 #[vi p0, vi p1, vi p2, vi p3, vi (2 : Int32), vi (100 : Int32), vi pre, vi adv, vi ((XT.ushr p3 (3 : Int32)) &&& (3 : Int32)), vi (1 : Int32), vd (FP.i2d p0), ss, vr a1539, vd mv, ss, vd mt, ss, vi mr, vi tI, vi nI, vd (FP.i2d nI), ss, vd mv, ss, vd (FP.ddiv (FP.dadd (FP.i2d nI) mv) (4611686018427387904 : UInt64)), ss, vd (FP.i2d nI), ss, vi (1 : Int32), vi (1 : Int32), vd vl, ss, vi (1 : Int32), vd (FP.dsub (FP.i2d nI) (FP.dmul (FP.i2d (1 : Int32)) (FP.ddiv (FP.dsub (FP.i2d nI) vl) (FP.i2d (2 : Int32))))), ss, uu, uu, uu, uu] [(.ref a1539)])) rfl (by rw [hml]; rfl) (Steps.refl _) (argsL := []) (rest := []) (lenOf pd_18 rfl) rfl (by show 2 * 0 + _ ≤ _; exact Nat.le_of_eq rfl) (hb hby at_392) (fun _ _ => ⟨rfl, rfl, (by decide : 1 + 0 ≤ _), (by decide : 5 + 0 ≤ _)⟩)
        dsimp only [Pt.U, Pt.locs, Pt.cells, Pt.slots] at X2686 l2689 y2690 z2691 st2692 hQ2688
        subst y2690 z2691
        obtain ⟨rfl, N2698, e2699⟩ := hQ2688
        have N2701 : Fr n0 L2683 := by rw [l2689]; exact Fr.app N2672 N2698
        clear l2689 N2698
        have k2702 : own_G p e below E0 T2682 (mkF m 395 #[vi p0, vi p1, vi p2, vi p3, vi (2 : Int32), vi (100 : Int32), vi pre, vi adv, vi ((XT.ushr p3 (3 : Int32)) &&& (3 : Int32)), vi (1 : Int32), vd (FP.i2d p0), ss, vr a1539, vd mv, ss, vd mt, ss, vi mr, vi tI, vi nI, vd (FP.i2d nI), ss, vd mv, ss, vd (FP.ddiv (FP.dadd (FP.i2d nI) mv) (4611686018427387904 : UInt64)), ss, vd (FP.i2d nI), ss, vi (1 : Int32), vi (1 : Int32), vd vl, ss, vi (1 : Int32), vd (FP.dsub (FP.i2d nI) (FP.dmul (FP.i2d (1 : Int32)) (FP.ddiv (FP.dsub (FP.i2d nI) vl) (FP.i2d (2 : Int32))))), ss, uu, uu, uu, uu] [(.int (own_mv (1 : Int32)))]) := fun tQ kk => k2681 tQ (st2692.trans kk)
        clear k2681 st2692
        have eq2703 : (own_mv (1 : Int32)) = (1 : Int32) := by decide
        rw [eq2703] at k2702
        have k2704 : own_G p e below E0 T2682 (mkF m 399 #[vi p0, vi p1, vi p2, vi p3, vi (2 : Int32), vi (100 : Int32), vi pre, vi adv, vi ((XT.ushr p3 (3 : Int32)) &&& (3 : Int32)), vi (1 : Int32), vd (FP.i2d p0), ss, vr a1539, vd mv, ss, vd mt, ss, vi mr, vi tI, vi nI, vd (FP.i2d nI), ss, vd mv, ss, vd (FP.ddiv (FP.dadd (FP.i2d nI) mv) (4611686018427387904 : UInt64)), ss, vd (FP.i2d nI), ss, vi (1 : Int32), vi (1 : Int32), vd vl, ss, vi (1 : Int32), vd (FP.dsub (FP.i2d nI) (FP.dmul (FP.i2d (1 : Int32)) (FP.ddiv (FP.dsub (FP.i2d nI) vl) (FP.i2d (2 : Int32))))), ss, vi (1 : Int32), uu, uu, uu] [(.ref a1539)]) := by
          intro tQ kk
          refine k2702 tQ ?_
          refine XS.istore X2686.here hx rfl (hb hby at_395) rfl (l' := #[vi p0, vi p1, vi p2, vi p3, vi (2 : Int32), vi (100 : Int32), vi pre, vi adv, vi ((XT.ushr p3 (3 : Int32)) &&& (3 : Int32)), vi (1 : Int32), vd (FP.i2d p0), ss, vr a1539, vd mv, ss, vd mt, ss, vi mr, vi tI, vi nI, vd (FP.i2d nI), ss, vd mv, ss, vd (FP.ddiv (FP.dadd (FP.i2d nI) mv) (4611686018427387904 : UInt64)), ss, vd (FP.i2d nI), ss, vi (1 : Int32), vi (1 : Int32), vd vl, ss, vi (1 : Int32), vd (FP.dsub (FP.i2d nI) (FP.dmul (FP.i2d (1 : Int32)) (FP.ddiv (FP.dsub (FP.i2d nI) vl) (FP.i2d (2 : Int32))))), ss, vi (1 : Int32), uu, uu, uu]) rfl ?_
          refine XS.aload X2686.here hx rfl (hb hby at_397) rfl rfl ?_
          exact kk
        clear k2702
        obtain ⟨cq2716, kq2717, qa2718, qb2719, qc2720⟩ := isOf hZ e2699 F2674
        obtain ⟨_, _, ⟨T2705, L2706, kc2707, nc2708⟩, -, X2709, ⟨Lc2710, hQ2711, l2712, y2713, z2714⟩, st2715⟩ := X2686.virtualBack hx (y := mn12) (z := mn12) hown (mvT hZ (tw49 hw)) (mvT hZ (tw50 hw)) (notFace_of_selects (args := #[]) (mvT hZ (tw52 hw))) (mvT hZ (tw52 hw)) (mvT hZ (tw51 hw)) (by decide) (backOf (W := 0) (rmN l Z a0 hw [] a1539 (2 : Int32) (FP.dsub (FP.i2d nI) (FP.dmul (FP.i2d (1 : Int32)) (FP.ddiv (FP.dsub (FP.i2d nI) vl) (FP.i2d (2 : Int32))))) (FP.i2d nI) (FP.ddiv (FP.dsub (FP.i2d nI) vl) (FP.i2d (2 : Int32))) (1 : Int32) T2647.heap n0 Z2673 F2674 g2667 F2677 g2669 g2670 F2679 ge1541 (fun _ => own_nn1 (own_fspN nI (F := (2 : Int32)) bW hvl (by decide)) (Fl.i2d_fin nI))) hZ (tw53 hw) (tw2 hw) (by decide) (by decide)) qa2718 qc2720 (g := (mkF m 399 #[vi p0, vi p1, vi p2, vi p3, vi (2 : Int32), vi (100 : Int32), vi pre, vi adv, vi ((XT.ushr p3 (3 : Int32)) &&& (3 : Int32)), vi (1 : Int32), vd (FP.i2d p0), ss, vr a1539, vd mv, ss, vd mt, ss, vi mr, vi tI, vi nI, vd (FP.i2d nI), ss, vd mv, ss, vd (FP.ddiv (FP.dadd (FP.i2d nI) mv) (4611686018427387904 : UInt64)), ss, vd (FP.i2d nI), ss, vi (1 : Int32), vi (1 : Int32), vd vl, ss, vi (1 : Int32), vd (FP.dsub (FP.i2d nI) (FP.dmul (FP.i2d (1 : Int32)) (FP.ddiv (FP.dsub (FP.i2d nI) vl) (FP.i2d (2 : Int32))))), ss, vi (1 : Int32), uu, uu, uu] [(.ref a1539)])) rfl (by rw [hml]; rfl) (Steps.refl _) (argsL := []) (rest := []) (lenOf pd_16 rfl) rfl (by show 2 * 0 + _ ≤ _; exact Nat.le_of_eq rfl) (hb hby at_399) (fun _ _ => ⟨rfl, e2699, (by decide : 1 + 0 ≤ _), (by decide : 5 + 0 ≤ _)⟩)
        dsimp only [Pt.U, Pt.locs, Pt.cells, Pt.slots] at X2709 l2712 y2713 z2714 st2715 hQ2711
        subst y2713 z2714
        obtain ⟨rfl, N2721, K2724, g2725, g2726, g2727, g2728, g2729⟩ := hQ2711
        have N2730 : Fr n0 L2706 := by rw [l2712]; exact Fr.app N2701 N2721
        clear l2712 N2721
        have Z2731 : n0 ≤ T2705.heap.size := Nat.le_trans Z2673 K2724.1
        clear Z2673
        have F2732 : xa7 Z T2705.heap a1539 := F2674.keep K2724
        clear F2674
        clear g2667
        clear F2677
        clear g2669
        clear g2670
        clear F2679
        have k2733 : own_G p e below E0 T2705 (mkF m 402 #[vi p0, vi p1, vi p2, vi p3, vi (2 : Int32), vi (100 : Int32), vi pre, vi adv, vi ((XT.ushr p3 (3 : Int32)) &&& (3 : Int32)), vi (1 : Int32), vd (FP.i2d p0), ss, vr a1539, vd mv, ss, vd mt, ss, vi mr, vi tI, vi nI, vd (FP.i2d nI), ss, vd mv, ss, vd (FP.ddiv (FP.dadd (FP.i2d nI) mv) (4611686018427387904 : UInt64)), ss, vd (FP.i2d nI), ss, vi (1 : Int32), vi (1 : Int32), vd vl, ss, vi (1 : Int32), vd (FP.dsub (FP.i2d nI) (FP.dmul (FP.i2d (1 : Int32)) (FP.ddiv (FP.dsub (FP.i2d nI) vl) (FP.i2d (2 : Int32))))), ss, vi (1 : Int32), uu, uu, uu] [(.double (own_nv (FP.dsub (FP.i2d nI) (FP.dmul (FP.i2d (1 : Int32)) (FP.ddiv (FP.dsub (FP.i2d nI) vl) (FP.i2d (2 : Int32))))) (FP.i2d nI) (FP.ddiv (FP.dsub (FP.i2d nI) vl) (FP.i2d (2 : Int32))) (1 : Int32)))]) := fun tQ kk => k2704 tQ (st2715.trans kk)
        clear k2704 st2715
        have eq2734 : (own_nv (FP.dsub (FP.i2d nI) (FP.dmul (FP.i2d (1 : Int32)) (FP.ddiv (FP.dsub (FP.i2d nI) vl) (FP.i2d (2 : Int32))))) (FP.i2d nI) (FP.ddiv (FP.dsub (FP.i2d nI) vl) (FP.i2d (2 : Int32))) (1 : Int32)) = (FP.dsub (FP.i2d nI) (FP.dmul (FP.i2d (0 : Int32)) (FP.ddiv (FP.dsub (FP.i2d nI) vl) (FP.i2d (2 : Int32))))) := by rw [own_nv, if_pos (by decide), show (1 : Int32) - 1 = (0 : Int32) by decide]
        have F2735 : fd3 Z T2705.heap a1539 (.double (FP.dsub (FP.i2d nI) (FP.dmul (FP.i2d (0 : Int32)) (FP.ddiv (FP.dsub (FP.i2d nI) vl) (FP.i2d (2 : Int32)))))) := by rw [← eq2734]; exact g2726
        have eq2736 : (own_nr (1 : Int32)) = (0 : Int32) := by decide
        have F2737 : fd6 Z T2705.heap a1539 (.int (0 : Int32)) := by rw [← eq2736]; exact g2729
        have eq2738 : (own_nv (FP.dsub (FP.i2d nI) (FP.dmul (FP.i2d (1 : Int32)) (FP.ddiv (FP.dsub (FP.i2d nI) vl) (FP.i2d (2 : Int32))))) (FP.i2d nI) (FP.ddiv (FP.dsub (FP.i2d nI) vl) (FP.i2d (2 : Int32))) (1 : Int32)) = (FP.dsub (FP.i2d nI) (FP.dmul (FP.i2d (0 : Int32)) (FP.ddiv (FP.dsub (FP.i2d nI) vl) (FP.i2d (2 : Int32))))) := by rw [own_nv, if_pos (by decide), show (1 : Int32) - 1 = (0 : Int32) by decide]
        rw [eq2738] at k2733
        have k2739 : own_G p e below E0 T2705 (mkF m 406 #[vi p0, vi p1, vi p2, vi p3, vi (2 : Int32), vi (100 : Int32), vi pre, vi adv, vi ((XT.ushr p3 (3 : Int32)) &&& (3 : Int32)), vi (1 : Int32), vd (FP.i2d p0), ss, vr a1539, vd mv, ss, vd mt, ss, vi mr, vi tI, vi nI, vd (FP.i2d nI), ss, vd mv, ss, vd (FP.ddiv (FP.dadd (FP.i2d nI) mv) (4611686018427387904 : UInt64)), ss, vd (FP.i2d nI), ss, vi (1 : Int32), vi (1 : Int32), vd vl, ss, vi (1 : Int32), vd (FP.dsub (FP.i2d nI) (FP.dmul (FP.i2d (1 : Int32)) (FP.ddiv (FP.dsub (FP.i2d nI) vl) (FP.i2d (2 : Int32))))), ss, vi (1 : Int32), vd (FP.dsub (FP.i2d nI) (FP.dmul (FP.i2d (0 : Int32)) (FP.ddiv (FP.dsub (FP.i2d nI) vl) (FP.i2d (2 : Int32))))), ss, uu] [(.ref a1539)]) := by
          intro tQ kk
          refine k2733 tQ ?_
          refine XS.dstore X2709.here hx rfl (hb hby at_402) rfl (l' := #[vi p0, vi p1, vi p2, vi p3, vi (2 : Int32), vi (100 : Int32), vi pre, vi adv, vi ((XT.ushr p3 (3 : Int32)) &&& (3 : Int32)), vi (1 : Int32), vd (FP.i2d p0), ss, vr a1539, vd mv, ss, vd mt, ss, vi mr, vi tI, vi nI, vd (FP.i2d nI), ss, vd mv, ss, vd (FP.ddiv (FP.dadd (FP.i2d nI) mv) (4611686018427387904 : UInt64)), ss, vd (FP.i2d nI), ss, vi (1 : Int32), vi (1 : Int32), vd vl, ss, vi (1 : Int32), vd (FP.dsub (FP.i2d nI) (FP.dmul (FP.i2d (1 : Int32)) (FP.ddiv (FP.dsub (FP.i2d nI) vl) (FP.i2d (2 : Int32))))), ss, vi (1 : Int32), vd (FP.dsub (FP.i2d nI) (FP.dmul (FP.i2d (0 : Int32)) (FP.ddiv (FP.dsub (FP.i2d nI) vl) (FP.i2d (2 : Int32))))), ss, uu]) rfl ?_
          refine XS.aload X2709.here hx rfl (hb hby at_404) rfl rfl ?_
          exact kk
        clear k2733
        obtain ⟨cq2751, kq2752, qa2753, qb2754, qc2755⟩ := isOf hZ rfl F2732
        obtain ⟨_, _, ⟨T2740, L2741, kc2742, nc2743⟩, -, X2744, ⟨Lc2745, hQ2746, l2747, y2748, z2749⟩, st2750⟩ := X2709.virtualBack hx (y := mn13) (z := mn13) hown (mvT hZ (tw44 hw)) (mvT hZ (tw45 hw)) (notFace_of_selects (args := #[]) (mvT hZ (tw47 hw))) (mvT hZ (tw47 hw)) (mvT hZ (tw46 hw)) (by decide) (backOf (W := 0) (rmMv l Z a0 hw [] a1539 (0 : Int32) T2705.heap n0 Z2731 F2737) hZ (tw48 hw) (tw2 hw) (by decide) (by decide)) qa2753 qc2755 (g := (mkF m 406 #[vi p0, vi p1, vi p2, vi p3, vi (2 : Int32), vi (100 : Int32), vi pre, vi adv, vi ((XT.ushr p3 (3 : Int32)) &&& (3 : Int32)), vi (1 : Int32), vd (FP.i2d p0), ss, vr a1539, vd mv, ss, vd mt, ss, vi mr, vi tI, vi nI, vd (FP.i2d nI), ss, vd mv, ss, vd (FP.ddiv (FP.dadd (FP.i2d nI) mv) (4611686018427387904 : UInt64)), ss, vd (FP.i2d nI), ss, vi (1 : Int32), vi (1 : Int32), vd vl, ss, vi (1 : Int32), vd (FP.dsub (FP.i2d nI) (FP.dmul (FP.i2d (1 : Int32)) (FP.ddiv (FP.dsub (FP.i2d nI) vl) (FP.i2d (2 : Int32))))), ss, vi (1 : Int32), vd (FP.dsub (FP.i2d nI) (FP.dmul (FP.i2d (0 : Int32)) (FP.ddiv (FP.dsub (FP.i2d nI) vl) (FP.i2d (2 : Int32))))), ss, uu] [(.ref a1539)])) rfl (by rw [hml]; rfl) (Steps.refl _) (argsL := []) (rest := []) (lenOf pd_18 rfl) rfl (by show 2 * 0 + _ ≤ _; exact Nat.le_of_eq rfl) (hb hby at_406) (fun _ _ => ⟨rfl, rfl, (by decide : 1 + 0 ≤ _), (by decide : 5 + 0 ≤ _)⟩)
        dsimp only [Pt.U, Pt.locs, Pt.cells, Pt.slots] at X2744 l2747 y2748 z2749 st2750 hQ2746
        subst y2748 z2749
        obtain ⟨rfl, N2756, e2757⟩ := hQ2746
        have N2759 : Fr n0 L2741 := by rw [l2747]; exact Fr.app N2730 N2756
        clear l2747 N2756
        have k2760 : own_G p e below E0 T2740 (mkF m 409 #[vi p0, vi p1, vi p2, vi p3, vi (2 : Int32), vi (100 : Int32), vi pre, vi adv, vi ((XT.ushr p3 (3 : Int32)) &&& (3 : Int32)), vi (1 : Int32), vd (FP.i2d p0), ss, vr a1539, vd mv, ss, vd mt, ss, vi mr, vi tI, vi nI, vd (FP.i2d nI), ss, vd mv, ss, vd (FP.ddiv (FP.dadd (FP.i2d nI) mv) (4611686018427387904 : UInt64)), ss, vd (FP.i2d nI), ss, vi (1 : Int32), vi (1 : Int32), vd vl, ss, vi (1 : Int32), vd (FP.dsub (FP.i2d nI) (FP.dmul (FP.i2d (1 : Int32)) (FP.ddiv (FP.dsub (FP.i2d nI) vl) (FP.i2d (2 : Int32))))), ss, vi (1 : Int32), vd (FP.dsub (FP.i2d nI) (FP.dmul (FP.i2d (0 : Int32)) (FP.ddiv (FP.dsub (FP.i2d nI) vl) (FP.i2d (2 : Int32))))), ss, uu] [(.int (own_mv (0 : Int32)))]) := fun tQ kk => k2739 tQ (st2750.trans kk)
        clear k2739 st2750
        have eq2761 : (own_mv (0 : Int32)) = (0 : Int32) := by decide
        rw [eq2761] at k2760
        have k2762 : own_G p e below E0 T2740 (mkF m 459 #[vi p0, vi p1, vi p2, vi p3, vi (2 : Int32), vi (100 : Int32), vi pre, vi adv, vi ((XT.ushr p3 (3 : Int32)) &&& (3 : Int32)), vi (1 : Int32), vd (FP.i2d p0), ss, vr a1539, vd mv, ss, vd mt, ss, vi mr, vi tI, vi nI, vd (FP.i2d nI), ss, vd mv, ss, vd (FP.ddiv (FP.dadd (FP.i2d nI) mv) (4611686018427387904 : UInt64)), ss, vd (FP.i2d nI), ss, vi (1 : Int32), vi (1 : Int32), vd vl, ss, vi (1 : Int32), vd (FP.dsub (FP.i2d nI) (FP.dmul (FP.i2d (1 : Int32)) (FP.ddiv (FP.dsub (FP.i2d nI) vl) (FP.i2d (2 : Int32))))), ss, vi (1 : Int32), vd (FP.dsub (FP.i2d nI) (FP.dmul (FP.i2d (0 : Int32)) (FP.ddiv (FP.dsub (FP.i2d nI) vl) (FP.i2d (2 : Int32))))), ss, vi (0 : Int32)] [(.int (1 : Int32))]) := by
          intro tQ kk
          refine k2760 tQ ?_
          refine XS.istore X2744.here hx rfl (hb hby at_409) rfl (l' := #[vi p0, vi p1, vi p2, vi p3, vi (2 : Int32), vi (100 : Int32), vi pre, vi adv, vi ((XT.ushr p3 (3 : Int32)) &&& (3 : Int32)), vi (1 : Int32), vd (FP.i2d p0), ss, vr a1539, vd mv, ss, vd mt, ss, vi mr, vi tI, vi nI, vd (FP.i2d nI), ss, vd mv, ss, vd (FP.ddiv (FP.dadd (FP.i2d nI) mv) (4611686018427387904 : UInt64)), ss, vd (FP.i2d nI), ss, vi (1 : Int32), vi (1 : Int32), vd vl, ss, vi (1 : Int32), vd (FP.dsub (FP.i2d nI) (FP.dmul (FP.i2d (1 : Int32)) (FP.ddiv (FP.dsub (FP.i2d nI) vl) (FP.i2d (2 : Int32))))), ss, vi (1 : Int32), vd (FP.dsub (FP.i2d nI) (FP.dmul (FP.i2d (0 : Int32)) (FP.ddiv (FP.dsub (FP.i2d nI) vl) (FP.i2d (2 : Int32))))), ss, vi (0 : Int32)]) rfl ?_
          refine XS.dload X2744.here hx rfl (hb hby at_411) rfl ?_
          refine XS.dload X2744.here hx rfl (hb hby at_413) rfl ?_
          refine XS.dcmpS (v := (0 : Int32)) X2744.here hx rfl (hb hby at_415) rfl (own_eqz .l hvl.1.noNaN hmv.1.noNaN (hvl.2.trans hmv.2.symm)) ?_
          show Steps p.tables e below (T2740.setTop (mkF m 416 #[vi p0, vi p1, vi p2, vi p3, vi (2 : Int32), vi (100 : Int32), vi pre, vi adv, vi ((XT.ushr p3 (3 : Int32)) &&& (3 : Int32)), vi (1 : Int32), vd (FP.i2d p0), ss, vr a1539, vd mv, ss, vd mt, ss, vi mr, vi tI, vi nI, vd (FP.i2d nI), ss, vd mv, ss, vd (FP.ddiv (FP.dadd (FP.i2d nI) mv) (4611686018427387904 : UInt64)), ss, vd (FP.i2d nI), ss, vi (1 : Int32), vi (1 : Int32), vd vl, ss, vi (1 : Int32), vd (FP.dsub (FP.i2d nI) (FP.dmul (FP.i2d (1 : Int32)) (FP.ddiv (FP.dsub (FP.i2d nI) vl) (FP.i2d (2 : Int32))))), ss, vi (1 : Int32), vd (FP.dsub (FP.i2d nI) (FP.dmul (FP.i2d (0 : Int32)) (FP.ddiv (FP.dsub (FP.i2d nI) vl) (FP.i2d (2 : Int32))))), ss, vi (0 : Int32)] [(.int (0 : Int32))])) tQ
          refine XS.ifNo X2744.here hx rfl (hb hby at_416) rfl (own_if_neN (by decide)) ?_
          refine XS.iload X2744.here hx rfl (hb hby at_419) rfl ?_
          refine XS.iload X2744.here hx rfl (hb hby at_421) rfl ?_
          refine XS.icmpNo X2744.here hx rfl (hb hby at_423) rfl (own_ic_neN (by decide)) ?_
          show Steps p.tables e below (T2740.setTop (mkF m 426 #[vi p0, vi p1, vi p2, vi p3, vi (2 : Int32), vi (100 : Int32), vi pre, vi adv, vi ((XT.ushr p3 (3 : Int32)) &&& (3 : Int32)), vi (1 : Int32), vd (FP.i2d p0), ss, vr a1539, vd mv, ss, vd mt, ss, vi mr, vi tI, vi nI, vd (FP.i2d nI), ss, vd mv, ss, vd (FP.ddiv (FP.dadd (FP.i2d nI) mv) (4611686018427387904 : UInt64)), ss, vd (FP.i2d nI), ss, vi (1 : Int32), vi (1 : Int32), vd vl, ss, vi (1 : Int32), vd (FP.dsub (FP.i2d nI) (FP.dmul (FP.i2d (1 : Int32)) (FP.ddiv (FP.dsub (FP.i2d nI) vl) (FP.i2d (2 : Int32))))), ss, vi (1 : Int32), vd (FP.dsub (FP.i2d nI) (FP.dmul (FP.i2d (0 : Int32)) (FP.ddiv (FP.dsub (FP.i2d nI) vl) (FP.i2d (2 : Int32))))), ss, vi (0 : Int32)] [])) tQ
          refine XS.dload X2744.here hx rfl (hb hby at_426) rfl ?_
          refine XS.dload X2744.here hx rfl (hb hby at_428) rfl ?_
          refine XS.dcmpS (v := (0 : Int32)) X2744.here hx rfl (hb hby at_430) rfl (own_cN2 nI bW hvl hmv) ?_
          refine XS.ifNo X2744.here hx rfl (hb hby at_431) rfl (own_if_neN (by decide)) ?_
          show Steps p.tables e below (T2740.setTop (mkF m 434 #[vi p0, vi p1, vi p2, vi p3, vi (2 : Int32), vi (100 : Int32), vi pre, vi adv, vi ((XT.ushr p3 (3 : Int32)) &&& (3 : Int32)), vi (1 : Int32), vd (FP.i2d p0), ss, vr a1539, vd mv, ss, vd mt, ss, vi mr, vi tI, vi nI, vd (FP.i2d nI), ss, vd mv, ss, vd (FP.ddiv (FP.dadd (FP.i2d nI) mv) (4611686018427387904 : UInt64)), ss, vd (FP.i2d nI), ss, vi (1 : Int32), vi (1 : Int32), vd vl, ss, vi (1 : Int32), vd (FP.dsub (FP.i2d nI) (FP.dmul (FP.i2d (1 : Int32)) (FP.ddiv (FP.dsub (FP.i2d nI) vl) (FP.i2d (2 : Int32))))), ss, vi (1 : Int32), vd (FP.dsub (FP.i2d nI) (FP.dmul (FP.i2d (0 : Int32)) (FP.ddiv (FP.dsub (FP.i2d nI) vl) (FP.i2d (2 : Int32))))), ss, vi (0 : Int32)] [])) tQ
          refine XS.iload X2744.here hx rfl (hb hby at_434) rfl ?_
          refine XS.iload X2744.here hx rfl (hb hby at_436) rfl ?_
          refine XS.icmpNo X2744.here hx rfl (hb hby at_438) rfl (own_ic_neN (by decide)) ?_
          refine XS.dload X2744.here hx rfl (hb hby at_441) rfl ?_
          show Steps p.tables e below (T2740.setTop (mkF m 443 #[vi p0, vi p1, vi p2, vi p3, vi (2 : Int32), vi (100 : Int32), vi pre, vi adv, vi ((XT.ushr p3 (3 : Int32)) &&& (3 : Int32)), vi (1 : Int32), vd (FP.i2d p0), ss, vr a1539, vd mv, ss, vd mt, ss, vi mr, vi tI, vi nI, vd (FP.i2d nI), ss, vd mv, ss, vd (FP.ddiv (FP.dadd (FP.i2d nI) mv) (4611686018427387904 : UInt64)), ss, vd (FP.i2d nI), ss, vi (1 : Int32), vi (1 : Int32), vd vl, ss, vi (1 : Int32), vd (FP.dsub (FP.i2d nI) (FP.dmul (FP.i2d (1 : Int32)) (FP.ddiv (FP.dsub (FP.i2d nI) vl) (FP.i2d (2 : Int32))))), ss, vi (1 : Int32), vd (FP.dsub (FP.i2d nI) (FP.dmul (FP.i2d (0 : Int32)) (FP.ddiv (FP.dsub (FP.i2d nI) vl) (FP.i2d (2 : Int32))))), ss, vi (0 : Int32)] [(.double (FP.dsub (FP.i2d nI) (FP.dmul (FP.i2d (0 : Int32)) (FP.ddiv (FP.dsub (FP.i2d nI) vl) (FP.i2d (2 : Int32))))))])) tQ
          refine XS.dload X2744.here hx rfl (hb hby at_443) rfl ?_
          refine XS.dcmpS (v := (0 : Int32)) X2744.here hx rfl (hb hby at_445) rfl (own_cz (own_fspN nI (F := 2) bW hvl (by decide)) (Fl.i2d_fin nI)) ?_
          refine XS.ifNo X2744.here hx rfl (hb hby at_446) rfl (own_if_neN (by decide)) ?_
          refine XS.iload X2744.here hx rfl (hb hby at_449) rfl ?_
          show Steps p.tables e below (T2740.setTop (mkF m 451 #[vi p0, vi p1, vi p2, vi p3, vi (2 : Int32), vi (100 : Int32), vi pre, vi adv, vi ((XT.ushr p3 (3 : Int32)) &&& (3 : Int32)), vi (1 : Int32), vd (FP.i2d p0), ss, vr a1539, vd mv, ss, vd mt, ss, vi mr, vi tI, vi nI, vd (FP.i2d nI), ss, vd mv, ss, vd (FP.ddiv (FP.dadd (FP.i2d nI) mv) (4611686018427387904 : UInt64)), ss, vd (FP.i2d nI), ss, vi (1 : Int32), vi (1 : Int32), vd vl, ss, vi (1 : Int32), vd (FP.dsub (FP.i2d nI) (FP.dmul (FP.i2d (1 : Int32)) (FP.ddiv (FP.dsub (FP.i2d nI) vl) (FP.i2d (2 : Int32))))), ss, vi (1 : Int32), vd (FP.dsub (FP.i2d nI) (FP.dmul (FP.i2d (0 : Int32)) (FP.ddiv (FP.dsub (FP.i2d nI) vl) (FP.i2d (2 : Int32))))), ss, vi (0 : Int32)] [(.int (0 : Int32))])) tQ
          refine XS.ifNo X2744.here hx rfl (hb hby at_451) rfl (own_if_neN (by decide)) ?_
          refine XS.iconst X2744.here hx rfl (hb hby at_454) ?_
          refine XS.goto X2744.here hx rfl (pc0 := 455) (pc' := 459) rfl (hb hby at_455) (by decide) (by decide) ?_
          exact kk
        clear k2760
        obtain ⟨fs, hr, hrun, hended, hW, hsame⟩ := X2744.leave (v := some (.int (1 : Int32))) (fun h => by rw [Bd.returns] at h; cases h)
        have hrun0 := k2762 _ (retOut X2744 hx Bd.returns (t := .boolean) rfl (Or.inl ⟨rfl, Or.inr (Or.inl rfl), _, rfl⟩) (hb hby at_459) hr)
        subst hE0
        refine ⟨_, _, hrun0, hrun, hended, _, _, rfl, ?_, ⟨_, rfl⟩, hW, hsame.mono (by decide) (by decide)⟩
        show Qrm0 Z p0 p1 p2 p3 h0 n0 _ T2740.heap _
        rw [e2757]
        exact ⟨rfl, N2759⟩
set_option maxRecDepth 65536 in
set_option maxHeartbeats 40000000 in
theorem comes_1 {Post : Tables → Env → Array Value → State → Outcome → State → Prop} (hpost : ∀ tb e args s v u, (limb_1_1.after args s (.returned v) u = true ∧ limb_1_2.after args s (.returned v) u = true ∧ True) → FrameEnd s (.returned v) u (Jvm.fieldLocs frame_1_writes args s ++ Jvm.arrayLocs frame_1_arrays args s ++ Jvm.staticLocs frame_1_statics s) 16 128 → Post tb e args s (.returned v) u) :
    ArmFor flags0 classFile x code maxLocals ret World_1 tables_1 room_1 Calls_1 rest_1 Pre_1 Post := by
  intro l hfl _ _ p e ha hc hk s m args below hf hA hF happ hP
  obtain ⟨hcalls, hrest, hpre⟩ := hP
  obtain ⟨-, -, -, hnamed, -, -, -, hat⟩ := (Spec.applies_iff hf).mp happ
  obtain ⟨hg, hn⟩ := and_e (Cond.before_iff.mp (show (Jvm.Cond.and given_1 narrow_1).before args s = true from hpre))
  obtain ⟨hct, hr0⟩ := and_e hg
  obtain ⟨ha0, hr1⟩ := and_e hr0
  obtain ⟨ha1, hr2⟩ := and_e hr1
  obtain ⟨ha2, hr3⟩ := and_e hr2
  obtain ⟨w0, w1, w2, w3, rfl⟩ : ∃ w0 w1 w2 w3 : Value, args = #[w0, w1, w2, w3] := by
    have hs : args.size = 4 := by simpa [Cond.value, given_1] using hct
    obtain ⟨L⟩ := args
    match L, hs with
    | [w0, w1, w2, w3], _ => exact ⟨w0, w1, w2, w3, rfl⟩
  have hw := fun d (hd : d ∈ tables_1) => atoms_spec (ws := Jvm.Cond.code x code maxLocals ret :: tables_1) hat d (List.mem_cons_of_mem _ hd)
  have hfit : Fit s := fun {y c} hc i hi => by
    obtain ⟨ha, rfl⟩ := Array.getElem?_eq_some_iff.mp hc
    have q := List.all_eq_true.mp ((Array.all_eq_true_iff_forall_mem.mp hF) _ (Array.getElem_mem ha)) i (List.mem_range.mpr hi)
    simpa [Array.getElem?_eq_getElem hi] using q
  obtain ⟨i0, ev0⟩ := is_v ha0
  obtain rfl : w0 = (.int i0) := Option.some.inj ev0
  obtain ⟨i1, ev1⟩ := is_v ha1
  obtain rfl : w1 = (.int i1) := Option.some.inj ev1
  obtain ⟨i2, ev2⟩ := is_v ha2
  obtain rfl : w2 = (.int i2) := Option.some.inj ev2
  obtain ⟨i3, ev3⟩ := is_v hr3
  obtain rfl : w3 = (.int i3) := Option.some.inj ev3
  obtain ⟨n, o, h1, h2, h3, _, L, rfl, ⟨rfl, N⟩, hq⟩ := rm0 l s _ hw tables_1 i0 i1 i2 i3 s.heap s.heap.size (Nat.le_refl _) p e ha hc hk s m _ below hf ((Spec.applies_iff_loose hf).mp happ).1 ⟨rfl, State.Warmed39.refl s, rfl⟩ trivial
  refine ⟨n, _, h1, h2, h3, hpost _ _ _ _ _ _ ⟨Cond.after_iff.mpr rfl, Cond.after_iff.mpr (eq_i res_at (Term.int_eval (1)) rfl), trivial⟩ ⟨hq.1, hq.2.1, (hq.2.2.sift fun y hy => Or.inr (N y hy)).mono (by decide) (by decide)⟩⟩
theorem main_1_1 : Claimed_1_1 := comes_1 fun _ _ _ _ _ _ h hF => ⟨h.1, hF⟩
theorem main_1_2 : Claimed_1_2 := comes_1 fun _ _ _ _ _ _ h hF => ⟨h.2.1, hF⟩
end Jvm.Pilot.@@N@@
namespace Jvm.Pilot.@@N@@
open Jvm Jvm.ClassFile Sem Op Lib Jvm.Free Jvm.Stand Jvm.Pilot.@@N@@.Jvm.D
/-! MADE BY PROGRAM (witnessworld.py) out of the Statement's table words and the real class files: 15 classes; the members and pool entries that the words name. The judged class is class 1, her method 1. -/
namespace start1
open Jvm.ClassFile
def u (s : String) : CpInfo := .utf8 (stringToUtf16 s)
/-- a pool by its gaps: so many unusable entries, then the entry; so many at the end -/
def gap : Nat → List CpInfo → List CpInfo
  | 0, r => r
  | n + 1, r => .unusable :: gap n r
def poolList (es : List (Nat × CpInfo)) (last : Nat) : List CpInfo := es.foldr (fun e r => gap e.1 (e.2 :: r)) (gap last [])
def pool (es : List (Nat × CpInfo)) (last : Nat) : Array CpInfo := ⟨poolList es last⟩
def fileOf (pool : Array CpInfo) (this : Nat) (attrs : Array Attribute := #[]) (ms : Array MethodInfo := #[]) (fl : Nat := 33) (sup : Nat := 0) (ifs : Array Nat := #[]) (fds : Array FieldInfo := #[]) : ClassFile where
  minorVersion := 0
  majorVersion := 65
  constantPool := pool
  accessFlags := fl
  thisClass := this
  superClass := sup
  interfaces := ifs
  fields := fds
  methods := ms
  attributes := attrs
def plain (name : String) (sup : Option ClassId) : Class where
  name := name
  kind := .ordinary
  loader := none
  accessFlags := 33
  super := sup
  interfaces := #[]
  cf := none
  fields := #[]
  methods := #[]
  instanceTypes := #[]
  staticTypes := #[]
  resolved := #[]
  callSites := []
  init := .initialized
  statics := none
  mirror := none

def pool0 : Array CpInfo := pool [(5, u "<init>"), (0, u "()V"), (1, .class_ 10), (1, u "java/lang/Object")] 113

def k0c0 : Code := { maxStack := 0, maxLocals := 1, code := object_method_1_code, exceptionTable := #[], attributes := #[] }
def k0m0 : Method := { name := "<init>", desc := "()V", sig := { parameters := [], returnType := none }, accessFlags := 1, code := some k0c0 }
/-- java/lang/Object -/
def k0 : Class := { plain "java/lang/Object" none with
  accessFlags := 33
  interfaces := #[]
  cf := some (fileOf pool0 8 #[] #[{ accessFlags := 1, nameIndex := 5, descriptorIndex := 6, attributes := #[] }] 33 0 #[] #[])
  fields := #[]
  methods := #[k0m0]
  instanceTypes := #[]
  staticTypes := #[]
  resolved := Array.replicate 124 none
  statics := none }

def pool1 : Array CpInfo := pool [(2, .class_ 4), (1, u "java/lang/Object"), (0, u "<init>"), (0, u "()V"), (0, .class_ 8), (0, u "com/example/lampwork/lampwork/Glide"), (0, .methodref 7 10), (0, .nameAndType 5 11), (0, u "(DI)V"), (0, .methodref 7 13), (0, .nameAndType 14 15), (0, u "set"), (0, u "(DZ)V"), (0, .methodref 7 17), (0, .nameAndType 18 19), (0, u "next"), (0, u "()D"), (0, .double 4611686018427387904), (1, .methodref 7 23), (0, .nameAndType 24 19), (0, u "value"), (0, .methodref 7 26), (0, .nameAndType 27 28), (0, u "moving"), (0, u "()Z"), (0, .class_ 30), (0, u "com/example/lampwork/lampwork/GlideSetPinLaw"), (2, u "law"), (0, u "(IIII)Z")] 3

def k1m0 : Method := { name := "<init>", desc := "()V", sig := { parameters := [], returnType := none }, accessFlags := 1, code := none }
def k1c1 : Code := { maxStack := 5, maxLocals := 39, code := code, exceptionTable := #[], attributes := #[] }
def k1m1 : Method := { name := "law", desc := "(IIII)Z", sig := { parameters := [.int, .int, .int, .int], returnType := some .boolean }, accessFlags := 9, code := some k1c1 }
/-- com/example/lampwork/lampwork/GlideSetPinLaw -/
def k1 : Class := { plain "com/example/lampwork/lampwork/GlideSetPinLaw" (some 0) with
  accessFlags := 49
  interfaces := #[]
  cf := some (fileOf pool1 29 #[] #[{ accessFlags := 1, nameIndex := 5, descriptorIndex := 6, attributes := #[] }, { accessFlags := 9, nameIndex := 33, descriptorIndex := 34, attributes := #[] }] 49 2 #[] #[])
  fields := #[]
  methods := #[k1m0, k1m1]
  instanceTypes := #[]
  staticTypes := #[]
  resolved := Array.replicate 38 none
  statics := none }

def pool2 : Array CpInfo := pool [(1, .methodref 2 3), (0, .class_ 4), (0, .nameAndType 5 6), (0, u "java/lang/Object"), (0, u "<init>"), (0, u "()V"), (0, .class_ 8), (0, u "com/example/lampwork/lampwork/Glide"), (0, .double 4581421828931458171), (1, .methodref 12 13), (0, .class_ 14), (0, .nameAndType 15 16), (0, u "java/lang/Math"), (0, u "round"), (0, u "(D)J"), (0, .methodref 12 18), (0, .nameAndType 19 20), (0, u "max"), (0, u "(JJ)J"), (0, .fieldref 7 22), (0, .nameAndType 23 24), (0, u "frames"), (0, u "I"), (0, .fieldref 7 26), (0, .nameAndType 27 28), (0, u "value"), (0, u "D"), (0, .fieldref 7 30), (0, .nameAndType 31 28), (0, u "target"), (0, .fieldref 7 33), (0, .nameAndType 34 24), (0, u "remaining"), (0, .fieldref 7 36), (0, .nameAndType 37 28), (0, u "step"), (0, u "SECONDS"), (1, u "(DI)V"), (2, u "set"), (0, u "(DZ)V"), (1, u "moving"), (0, u "()Z"), (0, u "()D"), (0, u "next")] 2

def k2c0 : Code := { maxStack := 7, maxLocals := 4, code := prog_12_method_1_code, exceptionTable := #[], attributes := #[] }
def k2m0 : Method := { name := "<init>", desc := "(DI)V", sig := { parameters := [.double, .int], returnType := none }, accessFlags := 0, code := some k2c0 }
def k2c1 : Code := { maxStack := 5, maxLocals := 4, code := prog_12_method_2_code, exceptionTable := #[], attributes := #[] }
def k2m1 : Method := { name := "set", desc := "(DZ)V", sig := { parameters := [.double, .boolean], returnType := none }, accessFlags := 0, code := some k2c1 }
def k2c2 : Code := { maxStack := 1, maxLocals := 1, code := prog_12_method_3_code, exceptionTable := #[], attributes := #[] }
def k2m2 : Method := { name := "moving", desc := "()Z", sig := { parameters := [], returnType := some .boolean }, accessFlags := 0, code := some k2c2 }
def k2c3 : Code := { maxStack := 2, maxLocals := 1, code := prog_12_method_4_code, exceptionTable := #[], attributes := #[] }
def k2m3 : Method := { name := "value", desc := "()D", sig := { parameters := [], returnType := some .double }, accessFlags := 0, code := some k2c3 }
def k2c4 : Code := { maxStack := 7, maxLocals := 1, code := prog_12_method_5_code, exceptionTable := #[], attributes := #[] }
def k2m4 : Method := { name := "next", desc := "()D", sig := { parameters := [], returnType := some .double }, accessFlags := 0, code := some k2c4 }
/-- com/example/lampwork/lampwork/Glide -/
def k2 : Class := { plain "com/example/lampwork/lampwork/Glide" (some 0) with
  accessFlags := 48
  interfaces := #[]
  cf := some (fileOf pool2 7 #[] #[{ accessFlags := 0, nameIndex := 5, descriptorIndex := 40, attributes := #[] }, { accessFlags := 0, nameIndex := 43, descriptorIndex := 44, attributes := #[] }, { accessFlags := 0, nameIndex := 46, descriptorIndex := 47, attributes := #[] }, { accessFlags := 0, nameIndex := 27, descriptorIndex := 48, attributes := #[] }, { accessFlags := 0, nameIndex := 49, descriptorIndex := 48, attributes := #[] }] 48 2 #[] #[{ accessFlags := 24, nameIndex := 38, descriptorIndex := 28, attributes := #[] }, { accessFlags := 18, nameIndex := 23, descriptorIndex := 24, attributes := #[] }, { accessFlags := 2, nameIndex := 27, descriptorIndex := 28, attributes := #[] }, { accessFlags := 2, nameIndex := 31, descriptorIndex := 28, attributes := #[] }, { accessFlags := 2, nameIndex := 37, descriptorIndex := 28, attributes := #[] }, { accessFlags := 2, nameIndex := 34, descriptorIndex := 24, attributes := #[] }])
  fields := #[{ name := "SECONDS", type := .double, accessFlags := 24, slot := 0, constantValue := 0 }, { name := "frames", type := .int, accessFlags := 18, slot := 0, constantValue := 0 }, { name := "value", type := .double, accessFlags := 2, slot := 1, constantValue := 0 }, { name := "target", type := .double, accessFlags := 2, slot := 2, constantValue := 0 }, { name := "step", type := .double, accessFlags := 2, slot := 3, constantValue := 0 }, { name := "remaining", type := .int, accessFlags := 2, slot := 4, constantValue := 0 }]
  methods := #[k2m0, k2m1, k2m2, k2m3, k2m4]
  instanceTypes := #[.int, .double, .double, .double, .int]
  staticTypes := #[.double]
  resolved := Array.replicate 52 none
  statics := none }

def pool3 : Array CpInfo := pool [(1, .class_ 2), (0, u "java/lang/Math"), (1, .class_ 6), (1, u "java/lang/Object"), (0, u "<init>"), (0, u "()V"), (70, .methodref 80 81), (0, .class_ 82), (0, .nameAndType 83 84), (0, u "java/lang/Double"), (0, u "doubleToRawLongBits"), (0, u "(D)J"), (2, .long 9218868437227405312), (1, .long 1074), (1, .long 18446744073709551552), (1, .long 4503599627370495), (1, .long 4503599627370496), (2, .class_ 100), (1, u "java/lang/Math$RandomNumberGeneratorHolder"), (20, u "(JJ)J"), (50, u "negativeZeroFloatBits"), (0, u "J"), (2, u "negativeZeroDoubleBits"), (21, u "max"), (46, u "$assertionsDisabled"), (0, u "Z"), (91, u "twoToTheDoubleScaleDown"), (0, u "D"), (4, u "twoToTheDoubleScaleUp"), (9, u "E"), (3, u "PI"), (2, u "TAU"), (2, u "DEGREES_TO_RADIANS"), (0, u "RADIANS_TO_DEGREES"), (17, u "round")] 76

def k3m0 : Method := { name := "<init>", desc := "()V", sig := { parameters := [], returnType := none }, accessFlags := 2, code := none }
def k3c1 : Code := { maxStack := 4, maxLocals := 10, code := jdk_29_method_22_code, exceptionTable := #[], attributes := #[] }
def k3m1 : Method := { name := "round", desc := "(D)J", sig := { parameters := [.double], returnType := some .long }, accessFlags := 9, code := some k3c1 }
def k3c2 : Code := { maxStack := 4, maxLocals := 4, code := jdk_29_method_66_code, exceptionTable := #[], attributes := #[] }
def k3m2 : Method := { name := "max", desc := "(JJ)J", sig := { parameters := [.long, .long], returnType := some .long }, accessFlags := 9, code := some k3c2 }
/-- java/lang/Math -/
def k3 : Class := { plain "java/lang/Math" (some 0) with
  accessFlags := 49
  interfaces := #[]
  cf := some (fileOf pool3 1 #[.nestMembers #[98]] #[{ accessFlags := 2, nameIndex := 7, descriptorIndex := 8, attributes := #[] }, { accessFlags := 9, nameIndex := 383, descriptorIndex := 84, attributes := #[] }, { accessFlags := 9, nameIndex := 198, descriptorIndex := 121, attributes := #[] }] 49 4 #[] #[{ accessFlags := 25, nameIndex := 354, descriptorIndex := 339, attributes := #[] }, { accessFlags := 25, nameIndex := 358, descriptorIndex := 339, attributes := #[] }, { accessFlags := 25, nameIndex := 361, descriptorIndex := 339, attributes := #[] }, { accessFlags := 26, nameIndex := 364, descriptorIndex := 339, attributes := #[] }, { accessFlags := 26, nameIndex := 365, descriptorIndex := 339, attributes := #[] }, { accessFlags := 26, nameIndex := 172, descriptorIndex := 173, attributes := #[] }, { accessFlags := 26, nameIndex := 176, descriptorIndex := 173, attributes := #[] }, { accessFlags := 8, nameIndex := 344, descriptorIndex := 339, attributes := #[] }, { accessFlags := 8, nameIndex := 338, descriptorIndex := 339, attributes := #[] }, { accessFlags := 4120, nameIndex := 245, descriptorIndex := 246, attributes := #[] }])
  fields := #[{ name := "E", type := .double, accessFlags := 25, slot := 0, constantValue := 0 }, { name := "PI", type := .double, accessFlags := 25, slot := 1, constantValue := 0 }, { name := "TAU", type := .double, accessFlags := 25, slot := 2, constantValue := 0 }, { name := "DEGREES_TO_RADIANS", type := .double, accessFlags := 26, slot := 3, constantValue := 0 }, { name := "RADIANS_TO_DEGREES", type := .double, accessFlags := 26, slot := 4, constantValue := 0 }, { name := "negativeZeroFloatBits", type := .long, accessFlags := 26, slot := 5, constantValue := 0 }, { name := "negativeZeroDoubleBits", type := .long, accessFlags := 26, slot := 6, constantValue := 0 }, { name := "twoToTheDoubleScaleUp", type := .double, accessFlags := 8, slot := 7, constantValue := 0 }, { name := "twoToTheDoubleScaleDown", type := .double, accessFlags := 8, slot := 8, constantValue := 0 }, { name := "$assertionsDisabled", type := .boolean, accessFlags := 4120, slot := 9, constantValue := 0 }]
  methods := #[k3m0, k3m1, k3m2]
  instanceTypes := #[]
  staticTypes := #[.double, .double, .double, .double, .double, .long, .long, .double, .double, .boolean]
  resolved := Array.replicate 460 none
  statics := none }

def pool4 : Array CpInfo := pool [(1, .class_ 2), (0, u "java/io/Serializable"), (0, .class_ 4), (0, u "java/lang/Object")] 2

/-- java/io/Serializable -/
def k4 : Class := { plain "java/io/Serializable" (some 0) with
  accessFlags := 1537
  interfaces := #[]
  cf := some (fileOf pool4 1 #[] #[] 1537 3 #[] #[])
  fields := #[]
  methods := #[]
  instanceTypes := #[]
  staticTypes := #[]
  resolved := Array.replicate 7 none
  statics := none }

def pool5 : Array CpInfo := pool [(2, .class_ 4), (1, u "java/lang/Object"), (0, u "<init>"), (0, u "()V"), (1, .class_ 10), (1, u "java/lang/Number"), (2, .class_ 14), (0, u "java/io/Serializable"), (0, u "serialVersionUID"), (0, u "J")] 20

def k5m0 : Method := { name := "<init>", desc := "()V", sig := { parameters := [], returnType := none }, accessFlags := 1, code := none }
/-- java/lang/Number -/
def k5 : Class := { plain "java/lang/Number" (some 0) with
  accessFlags := 1057
  interfaces := #[4]
  cf := some (fileOf pool5 8 #[] #[{ accessFlags := 1, nameIndex := 5, descriptorIndex := 6, attributes := #[] }] 1057 2 #[13] #[{ accessFlags := 26, nameIndex := 15, descriptorIndex := 16, attributes := #[] }])
  fields := #[{ name := "serialVersionUID", type := .long, accessFlags := 26, slot := 0, constantValue := 0 }]
  methods := #[k5m0]
  instanceTypes := #[]
  staticTypes := #[.long]
  resolved := Array.replicate 37 none
  statics := none }

def pool6 : Array CpInfo := pool [(1, .class_ 2), (0, u "java/lang/Comparable"), (0, .class_ 4), (0, u "java/lang/Object")] 7

/-- java/lang/Comparable -/
def k6 : Class := { plain "java/lang/Comparable" (some 0) with
  accessFlags := 1537
  interfaces := #[]
  cf := some (fileOf pool6 1 #[] #[] 1537 3 #[] #[])
  fields := #[]
  methods := #[]
  instanceTypes := #[]
  staticTypes := #[]
  resolved := Array.replicate 12 none
  statics := none }

def pool7 : Array CpInfo := pool [(1, .class_ 2), (0, u "java/lang/constant/Constable"), (0, .class_ 4), (0, u "java/lang/Object")] 6

/-- java/lang/constant/Constable -/
def k7 : Class := { plain "java/lang/constant/Constable" (some 0) with
  accessFlags := 1537
  interfaces := #[]
  cf := some (fileOf pool7 1 #[] #[] 1537 3 #[] #[])
  fields := #[]
  methods := #[]
  instanceTypes := #[]
  staticTypes := #[]
  resolved := Array.replicate 11 none
  statics := none }

def pool8 : Array CpInfo := pool [(1, .class_ 2), (0, u "java/lang/constant/ConstantDesc"), (0, .class_ 4), (0, u "java/lang/Object")] 32

/-- java/lang/constant/ConstantDesc -/
def k8 : Class := { plain "java/lang/constant/ConstantDesc" (some 0) with
  accessFlags := 1537
  interfaces := #[]
  cf := some (fileOf pool8 1 #[] #[] 1537 3 #[] #[])
  fields := #[]
  methods := #[]
  instanceTypes := #[]
  staticTypes := #[]
  resolved := Array.replicate 37 none
  statics := none }

def pool9 : Array CpInfo := pool [(1, .class_ 2), (0, u "java/lang/Double"), (46, u "(D)J"), (64, .class_ 116), (1, u "java/lang/Number"), (3, u "value"), (0, u "D"), (14, u "doubleToRawLongBits"), (36, u "TYPE"), (0, u "Ljava/lang/Class;"), (0, .class_ 176), (0, u "java/lang/Comparable"), (0, .class_ 178), (0, u "java/lang/constant/Constable"), (0, .class_ 180), (0, u "java/lang/constant/ConstantDesc"), (0, u "POSITIVE_INFINITY"), (3, u "NEGATIVE_INFINITY"), (2, u "NaN"), (2, u "MAX_VALUE"), (0, u "MIN_NORMAL"), (0, u "MIN_VALUE"), (2, u "SIZE"), (0, u "I"), (1, u "PRECISION"), (1, u "MAX_EXPONENT"), (1, u "MIN_EXPONENT"), (1, u "BYTES"), (3, u "serialVersionUID"), (0, u "J")] 79

def k9m0 : Method := { name := "doubleToRawLongBits", desc := "(D)J", sig := { parameters := [.double], returnType := some .long }, accessFlags := 265, code := none }
/-- java/lang/Double -/
def k9 : Class := { plain "java/lang/Double" (some 5) with
  accessFlags := 49
  interfaces := #[6, 7, 8]
  cf := some (fileOf pool9 1 #[] #[{ accessFlags := 265, nameIndex := 136, descriptorIndex := 49, attributes := #[] }] 49 114 #[175, 177, 179] #[{ accessFlags := 25, nameIndex := 181, descriptorIndex := 121, attributes := #[] }, { accessFlags := 25, nameIndex := 185, descriptorIndex := 121, attributes := #[] }, { accessFlags := 25, nameIndex := 188, descriptorIndex := 121, attributes := #[] }, { accessFlags := 25, nameIndex := 191, descriptorIndex := 121, attributes := #[] }, { accessFlags := 25, nameIndex := 192, descriptorIndex := 121, attributes := #[] }, { accessFlags := 25, nameIndex := 193, descriptorIndex := 121, attributes := #[] }, { accessFlags := 25, nameIndex := 196, descriptorIndex := 197, attributes := #[] }, { accessFlags := 25, nameIndex := 199, descriptorIndex := 197, attributes := #[] }, { accessFlags := 25, nameIndex := 201, descriptorIndex := 197, attributes := #[] }, { accessFlags := 25, nameIndex := 203, descriptorIndex := 197, attributes := #[] }, { accessFlags := 25, nameIndex := 205, descriptorIndex := 197, attributes := #[] }, { accessFlags := 25, nameIndex := 173, descriptorIndex := 174, attributes := #[] }, { accessFlags := 18, nameIndex := 120, descriptorIndex := 121, attributes := #[] }, { accessFlags := 26, nameIndex := 209, descriptorIndex := 210, attributes := #[] }])
  fields := #[{ name := "POSITIVE_INFINITY", type := .double, accessFlags := 25, slot := 0, constantValue := 0 }, { name := "NEGATIVE_INFINITY", type := .double, accessFlags := 25, slot := 1, constantValue := 0 }, { name := "NaN", type := .double, accessFlags := 25, slot := 2, constantValue := 0 }, { name := "MAX_VALUE", type := .double, accessFlags := 25, slot := 3, constantValue := 0 }, { name := "MIN_NORMAL", type := .double, accessFlags := 25, slot := 4, constantValue := 0 }, { name := "MIN_VALUE", type := .double, accessFlags := 25, slot := 5, constantValue := 0 }, { name := "SIZE", type := .int, accessFlags := 25, slot := 6, constantValue := 0 }, { name := "PRECISION", type := .int, accessFlags := 25, slot := 7, constantValue := 0 }, { name := "MAX_EXPONENT", type := .int, accessFlags := 25, slot := 8, constantValue := 0 }, { name := "MIN_EXPONENT", type := .int, accessFlags := 25, slot := 9, constantValue := 0 }, { name := "BYTES", type := .int, accessFlags := 25, slot := 10, constantValue := 0 }, { name := "TYPE", type := (.object "java/lang/Class"), accessFlags := 25, slot := 11, constantValue := 0 }, { name := "value", type := .double, accessFlags := 18, slot := 0, constantValue := 0 }, { name := "serialVersionUID", type := .long, accessFlags := 26, slot := 12, constantValue := 0 }]
  methods := #[k9m0]
  instanceTypes := #[.double]
  staticTypes := #[.double, .double, .double, .double, .double, .double, .int, .int, .int, .int, .int, (.object "java/lang/Class"), .long]
  resolved := Array.replicate 290 none
  statics := none }

def pool10 : Array CpInfo := pool [(1, u "java/lang/Cloneable"), (0, .class_ 1), (0, u "java/lang/Object"), (0, .class_ 3)] 3

/-- java/lang/Cloneable -/
def k10 : Class := { plain "java/lang/Cloneable" (some 0) with
  accessFlags := 1537
  interfaces := #[]
  cf := some (fileOf pool10 2 #[] #[] 1537 4 #[] #[])
  fields := #[]
  methods := #[]
  instanceTypes := #[]
  staticTypes := #[]
  resolved := Array.replicate 8 none
  statics := none }

/-- the primitive byte -/
def k11 : Class := { plain "byte" none with kind := .primitive 'B', accessFlags := 0x411 }
/-- [B -/
def k12 : Class := { plain "[B" (some 0) with kind := .array 11 .byte, interfaces := #[10, 4], accessFlags := 1041 }

/-- the primitive int -/
def k13 : Class := { plain "int" none with kind := .primitive 'I', accessFlags := 0x411 }
/-- [I -/
def k14 : Class := { plain "[I" (some 0) with kind := .array 13 .int, interfaces := #[10, 4], accessFlags := 1041 }

def heap : Heap := #[]
def classes : Array Class := #[k0, k1, k2, k3, k4, k5, k6, k7, k8, k9, k10, k11, k12, k13, k14]
def interned : List (Array UInt16 × Addr) := []
def slotsUsed : Nat := 0
def theMethod : MethodId := ⟨1, 1⟩
def args0 : Array Value := #[.int 3, .int 4, .int 5, .int 6]
def aboutOver (below : List Frame) : State where
  vm := { classes := classes, interned := interned.toArray }
  heap := heap
  slotsUsed := slotsUsed
  threads := #[{ frames := .invoking theMethod args0 :: below }]
def below0 : List Frame := [.native { method := ⟨0, 0⟩, args := #[] }]
def about1 : State := aboutOver below0
def p0 : Program := .bare "" "" ""
def e0 : Env := launch0.env 0 0 0
theorem w_frames : about1.frames = Frame.invoking theMethod args0 :: below0 := rfl
set_option maxRecDepth 65536 in
theorem w_args : argsFit about1.vm theMethod args0 = true := by decide +kernel
set_option maxRecDepth 65536 in
theorem w_heap : heapFits about1 = true := by decide +kernel
set_option maxRecDepth 65536 in
theorem w_runnable : about1.curStatus? = some .runnable := by decide +kernel
set_option maxRecDepth 65536 in
theorem w_alone : about1.alone = true := by decide +kernel
set_option maxRecDepth 65536 in
theorem w_named : about1.methodNamed? x = some theMethod := by decide +kernel
set_option maxRecDepth 65536 in
theorem w_hears : about1.hears theMethod below0 = true := by decide +kernel
set_option maxRecDepth 65536 in
theorem w_ripe : about1.ripe theMethod args0 below0 = true := by decide +kernel
theorem w_running : about1.status = .running := rfl
set_option maxRecDepth 65536 in
theorem w_room : about1.hasRoom e0.platform room_1 = true :=
  launch0.hasRoom_least _ room_1 (by decide +kernel) (by decide +kernel) (by decide +kernel) (by decide +kernel) (by decide +kernel) (by decide +kernel)
theorem allAtoms_all (ts : List Jvm.Cond) (a : Array Jvm.Value) (st : Jvm.State) : (allAtoms ts).before a st = ts.all (fun c => c.before a st) := by
  induction ts with
  | nil => rfl
  | cons c t ih =>
    show (Jvm.Cond.and c (allAtoms t)).before a st = _
    rw [Jvm.Cond.before_and, ih, List.all_cons]
def words1 : List Jvm.Cond := Jvm.Cond.code x code maxLocals ret :: tables_1
/-- a 'code' word, met by the world's own term for the bytes: nothing is compared byte by byte -/
theorem code_word {y : MethodName} {bytes : ByteArray} {mx : Nat} {rt : Option FieldType} {a : Array Value} {s : State} {m : MethodId} {meth : Method} {c : Code} (h1 : s.methodNamed? y = some m) (h2 : s.vm.method? m = some meth) (h3 : meth.code = some c) (h4 : c.code = bytes)
    (h5 : (c.maxLocals == mx && c.exceptionTable.isEmpty && decide (c.maxStack ≤ mostOperands) && decide (meth.sig.returnType = rt) && !meth.locks && decide (parseMethodDescriptor y.desc = some meth.sig)) = true) : (Jvm.Cond.code y bytes mx rt).before a s = true := by
  simp only [Bool.and_eq_true, beq_iff_eq, Bool.not_eq_true', decide_eq_true_eq] at h5
  obtain ⟨⟨⟨⟨⟨g1, g2⟩, g3⟩, g4⟩, g5⟩, g6⟩ := h5
  simp [Cond.before, Cond.holds, Cond.value, h1, h2, h3, h4, g1, g2, g3, g4, g5, g6]
def isCode : Jvm.Cond → Bool
  | .code _ _ _ _ => true
  | _ => false
theorem all_split {L : List Jvm.Cond} {P : Jvm.Cond → Bool} (h1 : L.all (fun c => isCode c || P c) = true) (h2 : ∀ c ∈ L.filter isCode, P c = true) : L.all P = true := by
  refine List.all_eq_true.mpr fun c hc => ?_
  have h := List.all_eq_true.mp h1 c hc
  rcases Bool.eq_false_or_eq_true (isCode c) with hi | hi
  · exact h2 c (List.mem_filter.mpr ⟨hc, hi⟩)
  · simpa [hi] using h
set_option maxRecDepth 65536 in
theorem w_c0 : (Jvm.Cond.code x code maxLocals ret).before args0 about1 = true := code_word (m := ⟨1, 1⟩) (meth := k1m1) (c := k1c1) (by decide +kernel) rfl rfl rfl (by decide +kernel)
set_option maxRecDepth 65536 in
theorem w_c1 : (Jvm.Cond.code ({ cls := "com/example/lampwork/lampwork/Glide", name := "<init>", desc := "(DI)V" } : Jvm.MethodName) prog_12_method_1_code (4 : Nat) (Option.none : Option Jvm.ClassFile.FieldType)).before args0 about1 = true := code_word (m := ⟨2, 0⟩) (meth := k2m0) (c := k2c0) (by decide +kernel) rfl rfl rfl (by decide +kernel)
set_option maxRecDepth 65536 in
theorem w_c2 : (Jvm.Cond.code ({ cls := "java/lang/Object", name := "<init>", desc := "()V" } : Jvm.MethodName) object_method_1_code (1 : Nat) (Option.none : Option Jvm.ClassFile.FieldType)).before args0 about1 = true := code_word (m := ⟨0, 0⟩) (meth := k0m0) (c := k0c0) (by decide +kernel) rfl rfl rfl (by decide +kernel)
set_option maxRecDepth 65536 in
theorem w_c3 : (Jvm.Cond.code ({ cls := "java/lang/Math", name := "round", desc := "(D)J" } : Jvm.MethodName) jdk_29_method_22_code (10 : Nat) (Option.some Jvm.ClassFile.FieldType.long)).before args0 about1 = true := code_word (m := ⟨3, 1⟩) (meth := k3m1) (c := k3c1) (by decide +kernel) rfl rfl rfl (by decide +kernel)
set_option maxRecDepth 65536 in
theorem w_c4 : (Jvm.Cond.code ({ cls := "java/lang/Math", name := "max", desc := "(JJ)J" } : Jvm.MethodName) jdk_29_method_66_code (4 : Nat) (Option.some Jvm.ClassFile.FieldType.long)).before args0 about1 = true := code_word (m := ⟨3, 2⟩) (meth := k3m2) (c := k3c2) (by decide +kernel) rfl rfl rfl (by decide +kernel)
set_option maxRecDepth 65536 in
theorem w_c5 : (Jvm.Cond.code ({ cls := "com/example/lampwork/lampwork/Glide", name := "set", desc := "(DZ)V" } : Jvm.MethodName) prog_12_method_2_code (4 : Nat) (Option.none : Option Jvm.ClassFile.FieldType)).before args0 about1 = true := code_word (m := ⟨2, 1⟩) (meth := k2m1) (c := k2c1) (by decide +kernel) rfl rfl rfl (by decide +kernel)
set_option maxRecDepth 65536 in
theorem w_c6 : (Jvm.Cond.code ({ cls := "com/example/lampwork/lampwork/Glide", name := "value", desc := "()D" } : Jvm.MethodName) prog_12_method_4_code (1 : Nat) (Option.some Jvm.ClassFile.FieldType.double)).before args0 about1 = true := code_word (m := ⟨2, 3⟩) (meth := k2m3) (c := k2c3) (by decide +kernel) rfl rfl rfl (by decide +kernel)
set_option maxRecDepth 65536 in
theorem w_c7 : (Jvm.Cond.code ({ cls := "com/example/lampwork/lampwork/Glide", name := "moving", desc := "()Z" } : Jvm.MethodName) prog_12_method_3_code (1 : Nat) (Option.some Jvm.ClassFile.FieldType.boolean)).before args0 about1 = true := code_word (m := ⟨2, 2⟩) (meth := k2m2) (c := k2c2) (by decide +kernel) rfl rfl rfl (by decide +kernel)
set_option maxRecDepth 65536 in
theorem w_c8 : (Jvm.Cond.code ({ cls := "com/example/lampwork/lampwork/Glide", name := "next", desc := "()D" } : Jvm.MethodName) prog_12_method_5_code (1 : Nat) (Option.some Jvm.ClassFile.FieldType.double)).before args0 about1 = true := code_word (m := ⟨2, 4⟩) (meth := k2m4) (c := k2c4) (by decide +kernel) rfl rfl rfl (by decide +kernel)
def codes1 : List Jvm.Cond := [Jvm.Cond.code x code maxLocals ret, Jvm.Cond.code ({ cls := "com/example/lampwork/lampwork/Glide", name := "<init>", desc := "(DI)V" } : Jvm.MethodName) prog_12_method_1_code (4 : Nat) (Option.none : Option Jvm.ClassFile.FieldType), Jvm.Cond.code ({ cls := "java/lang/Object", name := "<init>", desc := "()V" } : Jvm.MethodName) object_method_1_code (1 : Nat) (Option.none : Option Jvm.ClassFile.FieldType), Jvm.Cond.code ({ cls := "java/lang/Math", name := "round", desc := "(D)J" } : Jvm.MethodName) jdk_29_method_22_code (10 : Nat) (Option.some Jvm.ClassFile.FieldType.long), Jvm.Cond.code ({ cls := "java/lang/Math", name := "max", desc := "(JJ)J" } : Jvm.MethodName) jdk_29_method_66_code (4 : Nat) (Option.some Jvm.ClassFile.FieldType.long), Jvm.Cond.code ({ cls := "com/example/lampwork/lampwork/Glide", name := "set", desc := "(DZ)V" } : Jvm.MethodName) prog_12_method_2_code (4 : Nat) (Option.none : Option Jvm.ClassFile.FieldType), Jvm.Cond.code ({ cls := "com/example/lampwork/lampwork/Glide", name := "value", desc := "()D" } : Jvm.MethodName) prog_12_method_4_code (1 : Nat) (Option.some Jvm.ClassFile.FieldType.double), Jvm.Cond.code ({ cls := "com/example/lampwork/lampwork/Glide", name := "moving", desc := "()Z" } : Jvm.MethodName) prog_12_method_3_code (1 : Nat) (Option.some Jvm.ClassFile.FieldType.boolean), Jvm.Cond.code ({ cls := "com/example/lampwork/lampwork/Glide", name := "next", desc := "()D" } : Jvm.MethodName) prog_12_method_5_code (1 : Nat) (Option.some Jvm.ClassFile.FieldType.double)]
set_option maxRecDepth 65536 in
theorem codes_eq : words1.filter isCode = codes1 := rfl
theorem w_codes : ∀ c ∈ words1.filter isCode, c.before args0 about1 = true := by
  rw [codes_eq]
  intro c hc
  simp only [codes1, List.mem_cons, List.not_mem_nil, or_false] at hc
  rcases hc with rfl | rfl | rfl | rfl | rfl | rfl | rfl | rfl | rfl
  · exact w_c0
  · exact w_c1
  · exact w_c2
  · exact w_c3
  · exact w_c4
  · exact w_c5
  · exact w_c6
  · exact w_c7
  · exact w_c8
set_option maxRecDepth 65536 in
theorem w_t1 : (words1.take 24).all (fun c => isCode c || c.before args0 about1) = true := by decide +kernel
set_option maxRecDepth 65536 in
theorem w_t2 : ((words1.drop 24).take 24).all (fun c => isCode c || c.before args0 about1) = true := by decide +kernel
set_option maxRecDepth 65536 in
theorem w_t3 : ((words1.drop 24).drop 24).all (fun c => isCode c || c.before args0 about1) = true := by decide +kernel
theorem w_tables : (allAtoms (Jvm.Cond.code x code maxLocals ret :: tables_1)).before args0 about1 = true := by
  rw [allAtoms_all]
  show words1.all (fun c => c.before args0 about1) = true
  refine all_split ?_ w_codes
  rw [← List.take_append_drop 24 words1, List.all_append, w_t1, ← List.take_append_drop 24 (words1.drop 24), List.all_append, w_t2, w_t3]
  rfl
set_option maxRecDepth 65536 in
theorem w_case : (Jvm.Cond.and given_1 narrow_1).before args0 about1 = true := by decide +kernel
theorem w_applies : (headSpec (Jvm.Cond.code x code maxLocals ret :: tables_1) room_1).applies x e0.platform about1 = true :=
  (Spec.applies_iff w_frames).mpr ⟨w_running, w_runnable, w_alone, w_named, w_hears, w_ripe, w_room, w_tables⟩
theorem atStart : AtStart classFile x code maxLocals ret World_1 tables_1 room_1 Calls_1 rest_1 Pre_1 launch0 p0 e0 about1 theMethod args0 below0 :=
  ⟨lists_1, trivial, launch0.admits_env _ _ _, launch0.least_env, fairChoices_fair.cas, fairChoices_fair.clock, w_frames, w_args, w_heap, w_applies, trivial, trivial, w_case⟩
end start1
theorem witness_1 : WitnessClaimed_1 := ⟨start1.p0, start1.e0, start1.about1, start1.theMethod, start1.args0, start1.below0, start1.atStart⟩
end Jvm.Pilot.@@N@@
