import JvmDerived
import JvmDerived.Pilot.@@N@@Statement
import JvmDerived.Pilot.@@N@@Code
set_option linter.unusedVariables false
set_option linter.unusedSimpArgs false
@@BLOCK:NumsL.lean.txt@@
namespace Jvm.Pilot.@@N@@
open Jvm Jvm.ClassFile Sem Op Lib Jvm.Free Jvm.Stand Jvm.LawKit Jvm.RoadKit Bundle Jvm.Pilot.@@N@@.Jvm.D
open Jvm.Free.Fl (NoNaN64 Fin64 Nz64)
theorem own_lt_ne {a b n : Nat} (h : a < n) (g : b = n) : a ≠ b := by omega
theorem own_lt_ne2 {a b n : Nat} (h : a < n) (g : n ≤ b) : a ≠ b := by omega
theorem own_ge_of {k b n : Nat} (h : k ≤ n) (g : b = n) : k ≤ b := by omega
abbrev uu : Slot := .unset
abbrev ss : Slot := .second
abbrev vi (x : Int32) : Slot := .val (.int x)
abbrev vj (x : Int64) : Slot := .val (.long x)
abbrev vd (x : UInt64) : Slot := .val (.double x)
abbrev vr (x : Addr) : Slot := .val (.ref x)
/-- whatever is reached from here is reached from E -/
abbrev own_G (p : Program) (e : Env) (below : List Frame) (E T : State) (g : JFrame) : Prop := ∀ t, Steps p.tables e below (T.setTop g) t → Steps p.tables e below E t
theorem own_if_eqY {x : Int32} (h : x = 0) : ifCond.holds .eq x = true := by subst h; rfl
theorem own_if_eqN {x : Int32} (h : ¬ x = 0) : ifCond.holds .eq x = false := beq_false_of_ne h
theorem own_if_neY {x : Int32} (h : ¬ x = 0) : ifCond.holds .ne x = true := bne_iff_ne.mpr h
theorem own_if_neN {x : Int32} (h : x = 0) : ifCond.holds .ne x = false := by subst h; rfl
theorem own_if_ltY {x : Int32} (h : x < 0) : ifCond.holds .lt x = true := decide_eq_true h
theorem own_if_ltN {x : Int32} (h : ¬ x < 0) : ifCond.holds .lt x = false := decide_eq_false h
theorem own_if_geY {x : Int32} (h : ¬ x < 0) : ifCond.holds .ge x = true := decide_eq_true (Int32.not_lt.mp h)
theorem own_if_geN {x : Int32} (h : x < 0) : ifCond.holds .ge x = false := decide_eq_false (fun q => Int32.not_le.mpr h q)
theorem own_if_gtY {x : Int32} (h : 0 < x) : ifCond.holds .gt x = true := decide_eq_true h
theorem own_if_gtN {x : Int32} (h : ¬ 0 < x) : ifCond.holds .gt x = false := decide_eq_false h
theorem own_if_leY {x : Int32} (h : ¬ 0 < x) : ifCond.holds .le x = true := decide_eq_true (Int32.not_lt.mp h)
theorem own_if_leN {x : Int32} (h : 0 < x) : ifCond.holds .le x = false := decide_eq_false (fun q => Int32.not_le.mpr h q)
theorem own_ic_eqY {x y : Int32} (h : x = y) : if_icmp.holds .eq x y = true := beq_iff_eq.mpr h
theorem own_ic_eqN {x y : Int32} (h : ¬ x = y) : if_icmp.holds .eq x y = false := beq_false_of_ne h
theorem own_ic_neY {x y : Int32} (h : ¬ x = y) : if_icmp.holds .ne x y = true := bne_iff_ne.mpr h
theorem own_ic_neN {x y : Int32} (h : x = y) : if_icmp.holds .ne x y = false := by subst h; exact bne_self_eq_false x
theorem own_ic_ltY {x y : Int32} (h : x < y) : if_icmp.holds .lt x y = true := decide_eq_true h
theorem own_ic_ltN {x y : Int32} (h : ¬ x < y) : if_icmp.holds .lt x y = false := decide_eq_false h
theorem own_ic_geY {x y : Int32} (h : ¬ x < y) : if_icmp.holds .ge x y = true := decide_eq_true (Int32.not_lt.mp h)
theorem own_ic_geN {x y : Int32} (h : x < y) : if_icmp.holds .ge x y = false := decide_eq_false (fun q => Int32.not_le.mpr h q)
theorem own_ic_gtY {x y : Int32} (h : y < x) : if_icmp.holds .gt x y = true := decide_eq_true h
theorem own_ic_gtN {x y : Int32} (h : ¬ y < x) : if_icmp.holds .gt x y = false := decide_eq_false h
theorem own_ic_leY {x y : Int32} (h : ¬ y < x) : if_icmp.holds .le x y = true := decide_eq_true (Int32.not_lt.mp h)
theorem own_ic_leN {x y : Int32} (h : y < x) : if_icmp.holds .le x y = false := decide_eq_false (fun q => Int32.not_le.mpr h q)
/-- what a comparison of two whole or scaled values pushes -/
def own_c (i j : Int) : Int32 := if i < j then -1 else if i = j then 0 else 1
theorem own_cE (o : CmpOp) {x y : UInt64} {i j : Int} (h : FP.dcmp x y = some (compare i j)) : cmpValue (FP.dcmp x y) o = own_c i j := by
  rw [h, FP.Core.compare_ite, own_c]
  by_cases h1 : i < j
  · rw [if_pos h1, if_pos h1]; cases o <;> rfl
  · rw [if_neg h1, if_neg h1]
    by_cases h2 : i = j
    · rw [if_pos h2, if_pos h2]; cases o <;> rfl
    · rw [if_neg h2, if_neg h2]; cases o <;> rfl
theorem own_c_lt {i j : Int} (h : i < j) : own_c i j = -1 := by rw [own_c, if_pos h]
theorem own_c_eq {i j : Int} (h : i = j) : own_c i j = 0 := by rw [own_c, if_neg (by omega), if_pos h]
theorem own_c_gt {i j : Int} (h : j < i) : own_c i j = 1 := by rw [own_c, if_neg (by omega), if_neg (by omega)]
theorem own_c_cases (i j : Int) : (i < j ∧ own_c i j = -1) ∨ (i = j ∧ own_c i j = 0) ∨ (j < i ∧ own_c i j = 1) := by
  rcases Int.lt_trichotomy i j with h | h | h
  · exact Or.inl ⟨h, own_c_lt h⟩
  · exact Or.inr (Or.inl ⟨h, own_c_eq h⟩)
  · exact Or.inr (Or.inr ⟨h, own_c_gt h⟩)
theorem own_c_ltY {i j : Int} (h : i < j) : ifCond.holds .lt (own_c i j) = true := by rw [own_c_lt h]; rfl
theorem own_c_ltN {i j : Int} (h : ¬ i < j) : ifCond.holds .lt (own_c i j) = false := by rcases own_c_cases i j with q | q | q <;> first | exact absurd q.1 h | (rw [q.2]; rfl)
theorem own_c_geY {i j : Int} (h : ¬ i < j) : ifCond.holds .ge (own_c i j) = true := by rcases own_c_cases i j with q | q | q <;> first | exact absurd q.1 h | (rw [q.2]; rfl)
theorem own_c_geN {i j : Int} (h : i < j) : ifCond.holds .ge (own_c i j) = false := by rw [own_c_lt h]; rfl
theorem own_c_gtY {i j : Int} (h : j < i) : ifCond.holds .gt (own_c i j) = true := by rw [own_c_gt h]; rfl
theorem own_c_gtN {i j : Int} (h : ¬ j < i) : ifCond.holds .gt (own_c i j) = false := by rcases own_c_cases i j with q | q | q <;> first | exact absurd q.1 h | (rw [q.2]; rfl)
theorem own_c_leY {i j : Int} (h : ¬ j < i) : ifCond.holds .le (own_c i j) = true := by rcases own_c_cases i j with q | q | q <;> first | exact absurd q.1 h | (rw [q.2]; rfl)
theorem own_c_leN {i j : Int} (h : j < i) : ifCond.holds .le (own_c i j) = false := by rw [own_c_gt h]; rfl
theorem own_c_eqY {i j : Int} (h : i = j) : ifCond.holds .eq (own_c i j) = true := by rw [own_c_eq h]; rfl
theorem own_c_eqN {i j : Int} (h : ¬ i = j) : ifCond.holds .eq (own_c i j) = false := by rcases own_c_cases i j with q | q | q <;> first | exact absurd q.1 h | (rw [q.2]; rfl)
theorem own_c_neY {i j : Int} (h : ¬ i = j) : ifCond.holds .ne (own_c i j) = true := by rcases own_c_cases i j with q | q | q <;> first | exact absurd q.1 h | (rw [q.2]; rfl)
theorem own_c_neN {i j : Int} (h : i = j) : ifCond.holds .ne (own_c i j) = false := by rw [own_c_eq h]; rfl
theorem own_l_lt {i j : Int64} (h : i < j) : XT.cmpL i j = -1 := by
  rw [XT.cmpL, if_neg (fun q => Int64.lt_irrefl (Int64.lt_trans h q)), if_neg (fun q => Int64.lt_irrefl (q ▸ h))]
theorem own_l_eq {i j : Int64} (h : i = j) : XT.cmpL i j = 0 := by subst h; rw [XT.cmpL, if_neg Int64.lt_irrefl, if_pos rfl]
theorem own_l_gt {i j : Int64} (h : j < i) : XT.cmpL i j = 1 := by rw [XT.cmpL, if_pos h]
theorem own_l_cases (i j : Int64) : (i < j ∧ XT.cmpL i j = -1) ∨ (i = j ∧ XT.cmpL i j = 0) ∨ (j < i ∧ XT.cmpL i j = 1) := by
  by_cases h : i < j
  · exact Or.inl ⟨h, own_l_lt h⟩
  · by_cases h2 : i = j
    · exact Or.inr (Or.inl ⟨h2, own_l_eq h2⟩)
    · have h3 : j < i := by
        rw [Int64.lt_iff_toInt_lt] at h ⊢
        have h4 : i.toInt ≠ j.toInt := fun q => h2 (Int64.toInt_inj.mp q)
        omega
      exact Or.inr (Or.inr ⟨h3, own_l_gt h3⟩)
theorem own_l_ltY {i j : Int64} (h : i < j) : ifCond.holds .lt (XT.cmpL i j) = true := by rw [own_l_lt h]; rfl
theorem own_l_ltN {i j : Int64} (h : ¬ i < j) : ifCond.holds .lt (XT.cmpL i j) = false := by rcases own_l_cases i j with q | q | q <;> first | exact absurd q.1 h | (rw [q.2]; rfl)
theorem own_l_geY {i j : Int64} (h : ¬ i < j) : ifCond.holds .ge (XT.cmpL i j) = true := by rcases own_l_cases i j with q | q | q <;> first | exact absurd q.1 h | (rw [q.2]; rfl)
theorem own_l_geN {i j : Int64} (h : i < j) : ifCond.holds .ge (XT.cmpL i j) = false := by rw [own_l_lt h]; rfl
theorem own_l_gtY {i j : Int64} (h : j < i) : ifCond.holds .gt (XT.cmpL i j) = true := by rw [own_l_gt h]; rfl
theorem own_l_gtN {i j : Int64} (h : ¬ j < i) : ifCond.holds .gt (XT.cmpL i j) = false := by rcases own_l_cases i j with q | q | q <;> first | exact absurd q.1 h | (rw [q.2]; rfl)
theorem own_l_leY {i j : Int64} (h : ¬ j < i) : ifCond.holds .le (XT.cmpL i j) = true := by rcases own_l_cases i j with q | q | q <;> first | exact absurd q.1 h | (rw [q.2]; rfl)
theorem own_l_leN {i j : Int64} (h : j < i) : ifCond.holds .le (XT.cmpL i j) = false := by rw [own_l_gt h]; rfl
theorem own_l_eqY {i j : Int64} (h : i = j) : ifCond.holds .eq (XT.cmpL i j) = true := by rw [own_l_eq h]; rfl
theorem own_l_eqN {i j : Int64} (h : ¬ i = j) : ifCond.holds .eq (XT.cmpL i j) = false := by rcases own_l_cases i j with q | q | q <;> first | exact absurd q.1 h | (rw [q.2]; rfl)
theorem own_l_neY {i j : Int64} (h : ¬ i = j) : ifCond.holds .ne (XT.cmpL i j) = true := by rcases own_l_cases i j with q | q | q <;> first | exact absurd q.1 h | (rw [q.2]; rfl)
theorem own_l_neN {i j : Int64} (h : i = j) : ifCond.holds .ne (XT.cmpL i j) = false := by rw [own_l_eq h]; rfl
theorem own_ac_eq_Y {x y : Value} (h : x = y) : XT.acmp .eq x y = true := decide_eq_true h
theorem own_ac_eq_N {x y : Value} (h : ¬ x = y) : XT.acmp .eq x y = false := decide_eq_false h
theorem own_ac_ne_Y {x y : Value} (h : ¬ x = y) : XT.acmp .ne x y = true := decide_eq_true h
theorem own_ac_ne_N {x y : Value} (h : x = y) : XT.acmp .ne x y = false := decide_eq_false (fun q => q h)
theorem own_ar_eq_Y {x y : Addr} (h : x = y) : XT.acmp .eq (.ref x) (.ref y) = true := own_ac_eq_Y (congrArg Value.ref h)
theorem own_ar_eq_N {x y : Addr} (h : ¬ x = y) : XT.acmp .eq (.ref x) (.ref y) = false := own_ac_eq_N (fun q => h (Value.ref.inj q))
theorem own_ar_ne_Y {x y : Addr} (h : ¬ x = y) : XT.acmp .ne (.ref x) (.ref y) = true := own_ac_ne_Y (fun q => h (Value.ref.inj q))
theorem own_ar_ne_N {x y : Addr} (h : x = y) : XT.acmp .ne (.ref x) (.ref y) = false := own_ac_ne_N (congrArg Value.ref h)
/-- a static's object's field that the case names by a number -/
theorem own_ord {args : Array Value} {s : State} {t : Term} {C n d : String} {k : Int32} {x : Addr} (ev : t.eval args s none [] s = some (.ref x))
    (h : (Jvm.Cond.eq (Term.field t C n d) (Term.int k)).value args s none s [] = some true) : s.fieldOf? x C n d = some (.int k) := by
  obtain ⟨v, u, e1, e2, k1, k2⟩ := cmp_v (Or.inl h)
  have e3 : u = .int k := by have := (Term.int_eval (args := args) (first := s) (o := none) (idx := []) (s := s) k).symm.trans e2; exact (Option.some.inj this).symm
  subst e3
  obtain ⟨z, rfl⟩ := k2
  have q := gotT (Cond.eq_ints e1 e2) h
  rw [← fld_at ev, e1, q]
/-! doubles: exact values in units of the least double -/
def own_z (x : UInt64) : Int := FP.Core.zval FP.Core.b64 (FP.Core.val64 x)
theorem own_nn {i : Int} {x : UInt64} (h : FP.Core.DInt i x) : NoNaN64 x := Fl.val64_no.mpr (FP.Core.DInt_ne_nan h)
theorem own_cmpz {x y : UInt64} (hx : NoNaN64 x) (hy : NoNaN64 y) : FP.dcmp x y = some (compare (own_z x) (own_z y)) := FP.Core.dcmp_zval (Fl.val64_no.mp hx) (Fl.val64_no.mp hy)
theorem own_d0 : FP.Core.DInt 0 FP.dconst0 := by
  have h := FP.Core.l2d_int (a := 0) (by decide)
  rw [FP.Core.l2d_zero] at h; exact h
theorem own_d1 : FP.Core.DInt 1 FP.dconst1 := FP.Core.dint_one
theorem own_zi {i : Int} {x : UInt64} (h : FP.Core.DInt i x) : own_z x = i * (FP.Core.one64 : Int) := FP.Core.DInt_zval h
theorem own_fini {i : Int} {x : UInt64} (h : FP.Core.DInt i x) : Fin64 x := by
  have h' : FP.Core.Whole i (FP.Core.val64 x) := h
  cases hv : FP.Core.val64 x with
  | nan => rw [hv] at h'; exact h'.elim
  | inf s => rw [hv] at h'; exact h'.elim
  | fin s c q => exact Fl.fin64_core.mpr ⟨s, c, q, hv⟩
theorem own_one : (0 : Int) < (FP.Core.one64 : Int) := by have := FP.Core.one64_pos; omega
theorem own_nz {x : UInt64} (h : own_z x ≠ 0) : Nz64 x := Fl.nz64_core.mpr fun ⟨s, q, e⟩ => h (by
  show FP.Core.zval FP.Core.b64 (FP.Core.val64 x) = 0
  rw [e]; show FP.Core.signed s (0 * _) = 0; rw [Nat.zero_mul]; cases s <;> rfl)
theorem own_nzi {i : Int} {x : UInt64} (h : FP.Core.DInt i x) (hi : i ≠ 0) : Nz64 x := own_nz (by
  rw [own_zi h]; intro q; rcases Int.mul_eq_zero.mp q with r | r
  · exact hi r
  · have := own_one; omega)
theorem own_zn (x : UInt64) : (own_z x).natAbs = FP.Core.zmag FP.Core.b64 (FP.Core.val64 x) := FP.Core.natAbs_signed _ _
/-- the quotient, by the two values alone -/
theorem own_quot {x y : UInt64} (hx : Fin64 x) (hy : Fin64 y) (hz : own_z y ≠ 0) :
    FP.Core.val64 (FP.ddiv x y) = FP.Core.roundRatio FP.Core.b64 (FP.Core.sgn (FP.Core.val64 x) != FP.Core.sgn (FP.Core.val64 y)) (own_z x).natAbs (own_z y).natAbs 0 := by
  obtain ⟨s, c, q, ex⟩ := Fl.fin64_core.mp hx
  obtain ⟨t, d, r, ey⟩ := Fl.fin64_core.mp hy
  have fx : FP.Core.fits FP.Core.b64 (.fin s c q) := ex ▸ FP.Core.val64_fits x
  have fy : FP.Core.fits FP.Core.b64 (.fin t d r) := ey ▸ FP.Core.val64_fits y
  have hd : d ≠ 0 := fun h => hz (by
    show FP.Core.zval FP.Core.b64 (FP.Core.val64 y) = 0
    rw [ey, h]; show FP.Core.signed t (0 * _) = 0; rw [Nat.zero_mul]; cases t <;> rfl)
  rw [own_zn, own_zn, show FP.ddiv x y = FP.Core.ddiv x y from rfl, FP.Core.val64_ddiv, ex, ey]
  show (if d = 0 then _ else FP.Core.roundRatio FP.Core.b64 (s != t) c d (q - r)) = FP.Core.roundRatio FP.Core.b64 (s != t) (c * 2 ^ (q - FP.Core.b64.qmin).toNat) (d * 2 ^ (r - FP.Core.b64.qmin).toNat) 0
  rw [if_neg hd]
  refine FP.Core.roundRatio_congr (Nat.pos_of_ne_zero hd) (Nat.mul_pos (Nat.pos_of_ne_zero hd) (Nat.two_pow_pos _)) ?_
  have h1 := fx.2.1
  have h2 := fy.2.1
  have e1 : (r - FP.Core.b64.qmin).toNat + (q - r - 0).toNat = (q - FP.Core.b64.qmin).toNat + (0 - (q - r)).toNat := by omega
  calc c * (d * 2 ^ (r - FP.Core.b64.qmin).toNat) * 2 ^ (q - r - 0).toNat = c * d * (2 ^ (r - FP.Core.b64.qmin).toNat * 2 ^ (q - r - 0).toNat) := by
        rw [Nat.mul_assoc, Nat.mul_assoc, Nat.mul_assoc]
    _ = c * d * (2 ^ (q - FP.Core.b64.qmin).toNat * 2 ^ (0 - (q - r)).toNat) := by rw [← Nat.pow_add, ← Nat.pow_add, e1]
    _ = c * 2 ^ (q - FP.Core.b64.qmin).toNat * d * 2 ^ (0 - (q - r)).toNat := by
        rw [Nat.mul_right_comm c _ d, Nat.mul_assoc (c * d)]
theorem own_noNaN_of {x : UInt64} {s : Bool} {A B : Nat} {e : Int} (h : FP.Core.val64 x = FP.Core.roundRatio FP.Core.b64 s A B e) : NoNaN64 x :=
  Fl.val64_no.mpr (h ▸ FP.Core.roundRatio_ne_nan _ _ _ _ _)
theorem own_div_nn {x y : UInt64} (hx : Fin64 x) (hy : Fin64 y) (hz : own_z y ≠ 0) : NoNaN64 (FP.ddiv x y) := Fl.ddiv_out hx.noNaN hy (own_nz hz)
/-- what is rounded below (above) a double stays there -/
theorem own_rr_le {s : Bool} {A B : Nat} {V : UInt64} (hB : 0 < B) (hV : NoNaN64 V) (h : A * FP.Core.one64 ≤ (own_z V).natAbs * B) :
    FP.Core.zmag FP.Core.b64 (FP.Core.roundRatio FP.Core.b64 s A B 0) ≤ (own_z V).natAbs := by
  rw [own_zn] at h ⊢
  refine FP.Core.zmag_roundRatio_le FP.Core.good_b64 hB (FP.Core.val64_fits V) (Fl.val64_no.mp hV) (e0 := FP.Core.b64.qmin) (Int.le_refl _) (by decide +kernel) ?_
  rw [Int.sub_self]
  show A * 2 ^ (0 - FP.Core.b64.qmin).toNat ≤ _ * 1 * B
  rw [Nat.mul_one, Int.zero_sub, FP.Core.pow_qmin64]; exact h
theorem own_rr_ge {s : Bool} {A B : Nat} {V : UInt64} (hB : 0 < B) (h : (own_z V).natAbs * B ≤ A * FP.Core.one64) :
    (own_z V).natAbs ≤ FP.Core.zmag FP.Core.b64 (FP.Core.roundRatio FP.Core.b64 s A B 0) := by
  rw [own_zn] at h ⊢
  refine FP.Core.zmag_roundRatio_ge FP.Core.good_b64 hB (FP.Core.val64_fits V) (e0 := FP.Core.b64.qmin) (Int.le_refl _) (by decide +kernel) ?_
  rw [Int.sub_self]
  show _ * 1 * B ≤ A * 2 ^ (0 - FP.Core.b64.qmin).toNat
  rw [Nat.mul_one, Int.zero_sub, FP.Core.pow_qmin64]; exact h
theorem own_z_signed {x : UInt64} {s : Bool} {A B : Nat} (h : FP.Core.val64 x = FP.Core.roundRatio FP.Core.b64 s A B 0) :
    own_z x = FP.Core.signed s (FP.Core.zmag FP.Core.b64 (FP.Core.roundRatio FP.Core.b64 s A B 0)) := by
  show FP.Core.signed _ _ = _
  rw [h, FP.Core.sgn_roundRatio]
/-- a quotient of two that are not below nought -/
theorem own_div_ge0 {x y : UInt64} (hx : Fin64 x) (hy : Fin64 y) (hz : own_z y ≠ 0) (h0 : 0 ≤ own_z x) (h1 : 0 ≤ own_z y) : 0 ≤ own_z (FP.ddiv x y) := by
  have hq := own_quot hx hy hz
  rw [own_z_signed hq]
  cases hs : (FP.Core.sgn (FP.Core.val64 x) != FP.Core.sgn (FP.Core.val64 y)) with
  | false => exact Int.natCast_nonneg _
  | true =>
    have hy2 : FP.Core.sgn (FP.Core.val64 y) = false := by
      cases hs2 : FP.Core.sgn (FP.Core.val64 y) with
      | false => rfl
      | true =>
        exfalso; have : own_z y = -(FP.Core.zmag FP.Core.b64 (FP.Core.val64 y) : Int) := by show FP.Core.signed _ _ = _; rw [hs2]; rfl
        omega
    have hx2 : FP.Core.sgn (FP.Core.val64 x) = true := by rw [hy2] at hs; simpa using hs
    have hx3 : own_z x = -(FP.Core.zmag FP.Core.b64 (FP.Core.val64 x) : Int) := by show FP.Core.signed _ _ = _; rw [hx2]; rfl
    have hx4 : (own_z x).natAbs = 0 := by omega
    rw [hx4, FP.Core.roundRatio, if_pos rfl]
    show 0 ≤ FP.Core.signed true (0 * _); rw [Nat.zero_mul]; decide
theorem own_div_le {x y V : UInt64} (hx : Fin64 x) (hy : Fin64 y) (hz : own_z y ≠ 0) (hV : NoNaN64 V) (h0 : 0 ≤ own_z x) (h1 : 0 ≤ own_z y) (h2 : 0 ≤ own_z V)
    (h : own_z x * (FP.Core.one64 : Int) ≤ own_z V * own_z y) : own_z (FP.ddiv x y) ≤ own_z V := by
  have hq := own_quot hx hy hz
  have hge := own_div_ge0 hx hy hz h0 h1
  have hB : 0 < (own_z y).natAbs := by omega
  have h3 : (own_z x).natAbs * FP.Core.one64 ≤ (own_z V).natAbs * (own_z y).natAbs := by
    have e1 : ((own_z x).natAbs : Int) = own_z x := by omega
    have e2 : ((own_z y).natAbs : Int) = own_z y := by omega
    have e3 : ((own_z V).natAbs : Int) = own_z V := by omega
    have : (((own_z x).natAbs * FP.Core.one64 : Nat) : Int) ≤ (((own_z V).natAbs * (own_z y).natAbs : Nat) : Int) := by
      rw [Int.natCast_mul, Int.natCast_mul, e1, e2, e3]; exact h
    exact Int.ofNat_le.mp this
  have := own_rr_le (s := FP.Core.sgn (FP.Core.val64 x) != FP.Core.sgn (FP.Core.val64 y)) hB hV h3
  have h4 : (own_z (FP.ddiv x y)).natAbs ≤ (own_z V).natAbs := by rw [own_zn, hq]; exact this
  omega
/-- two doubles of the same whole value compare as equal -/
theorem own_eq0 {x y : UInt64} {i : Int} (o : CmpOp) (hx : FP.Core.DInt i x) (hy : FP.Core.DInt i y) : cmpValue (FP.dcmp x y) o = 0 := by
  rw [own_cE o (FP.Core.dcmp_int hx hy), own_c_eq rfl]
theorem own_mb {a b A B : Int} (h1 : -A ≤ a) (h2 : a ≤ A) (h3 : -B ≤ b) (h4 : b ≤ B) (h : A * B ≤ 9007199254740992) : (a * b).natAbs ≤ 2 ^ 53 := by
  rw [Int.natAbs_mul]
  have e1 : a.natAbs ≤ A.toNat := by omega
  have e2 : b.natAbs ≤ B.toNat := by omega
  have e3 : a.natAbs * b.natAbs ≤ A.toNat * B.toNat := Nat.mul_le_mul e1 e2
  have e4 : ((A.toNat * B.toNat : Nat) : Int) = A * B := by rw [Int.natCast_mul, Int.toNat_of_nonneg (by omega), Int.toNat_of_nonneg (by omega)]
  have e5 : (2 : Nat) ^ 53 = 9007199254740992 := by decide
  omega
theorem own_dl (a : Int64) {i : Int} (h : a.toInt = i) (hb : i.natAbs ≤ 2 ^ 53) : FP.Core.DInt i (FP.l2d a) := by subst h; exact FP.Core.l2d_int hb
theorem own_lm {a b : Int64} (h : (a.toInt * b.toInt).natAbs ≤ 2 ^ 53) : (a * b).toInt = a.toInt * b.toInt := by
  have e5 : (2 : Nat) ^ 53 = 9007199254740992 := by decide
  exact Jvm.Kit.i64_mul (by omega) (by omega)
theorem own_sgn_mul {s t : Bool} {b : Nat} {k : Int} (hb : 0 < b) (h : FP.Core.signed s (k.natAbs * b) = k * FP.Core.signed t b) : FP.Core.signed (s != t) k.natAbs = k := by
  have hb' : (0 : Int) < (b : Int) := by omega
  have e : ((k.natAbs * b : Nat) : Int) = (k.natAbs : Int) * (b : Int) := Int.natCast_mul _ _
  have key : ∀ z : Int, (k.natAbs : Int) * (b : Int) = z * (b : Int) → (k.natAbs : Int) = z := fun z q => Int.eq_of_mul_eq_mul_right (by omega) q
  cases s <;> cases t
  · show (k.natAbs : Int) = k
    apply key; rw [← e]; exact h
  · show -(k.natAbs : Int) = k
    have h' : ((k.natAbs * b : Nat) : Int) = k * -(b : Int) := h
    have := key (-k) (by rw [← e, h', Int.mul_neg, Int.neg_mul]); omega
  · show -(k.natAbs : Int) = k
    have h' : -((k.natAbs * b : Nat) : Int) = k * (b : Int) := h
    have := key (-k) (by rw [← e, Int.neg_mul, ← h', Int.neg_neg]); omega
  · show (k.natAbs : Int) = k
    have h' : -((k.natAbs * b : Nat) : Int) = k * -(b : Int) := h
    apply key; rw [← e]
    have : -((k.natAbs * b : Nat) : Int) = -(k * (b : Int)) := by rw [h', Int.mul_neg]
    omega
/-- a quotient of whole values that comes out even -/
theorem own_ddiv_int {k j : Int} {x y : UInt64} (hx : FP.Core.DInt (k * j) x) (hy : FP.Core.DInt j y) (hj : j ≠ 0) (hk : k.natAbs ≤ 2 ^ 53) : FP.Core.DInt k (FP.ddiv x y) := by
  have zx := own_zi hx
  have zy := own_zi hy
  have hz : own_z y ≠ 0 := by rw [zy]; exact Int.mul_ne_zero hj (by have := own_one; omega)
  have hq := own_quot (own_fini hx) (own_fini hy) hz
  have ha : (own_z x).natAbs = k.natAbs * (own_z y).natAbs := by rw [zx, zy, Int.mul_assoc, Int.natAbs_mul]
  have hb : 0 < (own_z y).natAbs := by omega
  show FP.Core.Whole k (FP.Core.val64 (FP.ddiv x y))
  rw [hq, ha, FP.Core.roundRatio_congr (A' := k.natAbs) (B' := 1) (e' := 0) hb (by decide) (by rw [Nat.mul_one])]
  refine FP.Core.whole_round FP.Core.good_b64 FP.Core.wide_b64 hk (d := .fin (FP.Core.sgn (FP.Core.val64 x) != FP.Core.sgn (FP.Core.val64 y)) k.natAbs 0) ?_
  show FP.Core.signed _ (k.natAbs * 1) = k * ((1 : Nat) : Int)
  rw [Nat.mul_one, show ((1 : Nat) : Int) = 1 from rfl, Int.mul_one]
  refine own_sgn_mul hb ?_
  have e1 : FP.Core.signed (FP.Core.sgn (FP.Core.val64 x)) (own_z x).natAbs = own_z x := by rw [own_zn]; rfl
  have e2 : FP.Core.signed (FP.Core.sgn (FP.Core.val64 y)) (own_z y).natAbs = own_z y := by rw [own_zn]; rfl
  rw [← ha, e1, e2, zx, zy, Int.mul_assoc]
theorem own_zmag_s (s : Bool) (A B : Nat) (e : Int) : FP.Core.zmag FP.Core.b64 (FP.Core.roundRatio FP.Core.b64 s A B e) = FP.Core.zmag FP.Core.b64 (FP.Core.roundRatio FP.Core.b64 false A B e) := by
  cases s with
  | false => rfl
  | true =>
    rw [show FP.Core.roundRatio FP.Core.b64 true A B e = FP.Core.negate (FP.Core.roundRatio FP.Core.b64 false A B e) from (FP.Core.negate_roundRatio FP.Core.b64 false A B e).symm]
    cases FP.Core.roundRatio FP.Core.b64 false A B e <;> rfl
theorem own_div_n {x y : UInt64} (hx : Fin64 x) (hy : Fin64 y) (hz : own_z y ≠ 0) : (own_z (FP.ddiv x y)).natAbs = FP.Core.zmag FP.Core.b64 (FP.Core.roundRatio FP.Core.b64 false (own_z x).natAbs (own_z y).natAbs 0) := by
  rw [own_zn, own_quot hx hy hz, own_zmag_s]
/-- two quotients of the same ratio, none below nought -/
theorem own_div_congr {x y x' y' : UInt64} (hx : Fin64 x) (hy : Fin64 y) (hz : own_z y ≠ 0) (hx' : Fin64 x') (hy' : Fin64 y') (hz' : own_z y' ≠ 0)
    (g1 : 0 ≤ own_z x) (g2 : 0 ≤ own_z y) (g3 : 0 ≤ own_z x') (g4 : 0 ≤ own_z y') (h : own_z x * own_z y' = own_z x' * own_z y) : own_z (FP.ddiv x y) = own_z (FP.ddiv x' y') := by
  have e1 := own_div_n hx hy hz
  have e2 := own_div_n hx' hy' hz'
  have k1 := own_div_ge0 hx hy hz g1 g2
  have k2 := own_div_ge0 hx' hy' hz' g3 g4
  have h' : (own_z x).natAbs * (own_z y').natAbs = (own_z x').natAbs * (own_z y).natAbs := by rw [← Int.natAbs_mul, ← Int.natAbs_mul, h]
  rw [FP.Core.roundRatio_congr (A' := (own_z x').natAbs) (B' := (own_z y').natAbs) (e' := 0) (by omega) (by omega) (by rw [h'])] at e1
  omega
/-- m * 2^k units is a double -/
theorem own_rep (m k : Nat) (hm : m < 2 ^ 53) (hk : k ≤ 2045) : ∃ V : UInt64, Fin64 V ∧ own_z V = ((m * 2 ^ k : Nat) : Int) := by
  have hq : FP.Core.b64.qmin = -1074 := FP.Core.qmin_b64
  have hq2 : FP.Core.b64.qmax = 971 := by decide
  obtain ⟨c, q, e1, e2⟩ := FP.Core.round_exact FP.Core.good_b64 false (c := m) (q := (k : Int) - 1074) hm (by rw [hq]; omega) (by rw [hq2]; omega)
  have hv : FP.Core.val64 (FP.Core.of64 (FP.Core.round FP.Core.b64 (.fin false m ((k : Int) - 1074)))) = .fin false c q := by
    rw [FP.Core.val64_of64 (FP.Core.round_fits FP.Core.good_b64 _), e1]
  refine ⟨_, Fl.fin64_core.mpr ⟨_, _, _, hv⟩, ?_⟩
  show FP.Core.zval FP.Core.b64 _ = _
  rw [hv]
  show ((FP.Core.inUnits c q FP.Core.b64.qmin : Nat) : Int) = _
  rw [e2, FP.Core.inUnits, hq, show ((k : Int) - 1074 - -1074).toNat = k by omega]
/-- a quotient that comes out even in some binary place -/
theorem own_div_exact {x y : UInt64} (hx : Fin64 x) (hy : Fin64 y) (hz : own_z y ≠ 0) (g1 : 0 ≤ own_z x) (g2 : 0 ≤ own_z y) (m k : Nat) (hm : m < 2 ^ 53) (hk : k ≤ 2045)
    (h : own_z x * (FP.Core.one64 : Int) = ((m * 2 ^ k : Nat) : Int) * own_z y) : own_z (FP.ddiv x y) = ((m * 2 ^ k : Nat) : Int) := by
  obtain ⟨V, fV, zV⟩ := own_rep m k hm hk
  have k1 := own_div_ge0 hx hy hz g1 g2
  have e1 := own_div_n hx hy hz
  have h3 : (own_z x).natAbs * FP.Core.one64 = (own_z V).natAbs * (own_z y).natAbs := by
    have := congrArg Int.natAbs h
    rw [Int.natAbs_mul, Int.natAbs_mul, ← zV] at this
    exact this
  have l1 := own_rr_le (s := false) (A := (own_z x).natAbs) (B := (own_z y).natAbs) (V := V) (by omega) fV.noNaN (Nat.le_of_eq h3)
  have l2 := own_rr_ge (s := false) (A := (own_z x).natAbs) (B := (own_z y).natAbs) (V := V) (by omega) (Nat.le_of_eq h3.symm)
  omega
theorem own_eqz {x y : UInt64} (o : CmpOp) (hx : NoNaN64 x) (hy : NoNaN64 y) (h : own_z x = own_z y) : cmpValue (FP.dcmp x y) o = 0 := by
  rw [own_cE o (own_cmpz hx hy), own_c_eq h]
theorem own_ge0 {x : UInt64} (h : 0 ≤ own_z x) : ¬ own_z x < own_z FP.dconst0 := by rw [own_zi own_d0, Int.zero_mul]; exact Int.not_lt.mpr h
theorem own_le1 {x : UInt64} (h : own_z x ≤ own_z FP.dconst1) : ¬ own_z FP.dconst1 < own_z x := Int.not_lt.mpr h
section OwnNat
variable {p : Program} {l : Launch} {e : Env} {R : Room} {s : State} {m : MethodId} {args : Array Value} {below : List Frame} {meth : Method} {c : Code} {T : State} {locs : List Loc} {cells slots : Nat} {Z : State} {h : Heap}
theorem own_rawBits (X : Stand p l e R s m args below meth c T locs cells slots) (hx : p.tables.exec = Jvm.exec) (hZ : Z.Warmed39 s.vm) {a0 : Array Value} {own : String} {index : Nat} (hown : s.vm.findClass own = some m.cls)
    (w1 : (Jvm.Cond.methodLink own index (⟨"java/lang/Double", "doubleToRawLongBits", "(D)J"⟩ : MethodName)).before a0 Z = true) (w2 : (Jvm.Cond.static (⟨"java/lang/Double", "doubleToRawLongBits", "(D)J"⟩ : MethodName)).before a0 Z = true) (w3 : (Jvm.Cond.initialized "java/lang/Double").before a0 Z = true) (w4 : (Jvm.Cond.native (⟨"java/lang/Double", "doubleToRawLongBits", "(D)J"⟩ : MethodName)).before a0 Z = true)
    (eT : T.heap = h) {x : UInt64} {W : Nat} {g : JFrame} (hg : g.method = m) (hsize : g.locals.size = c.maxLocals) {rest : List Value} (hst : g.stack = .double x :: rest) (hW : 2 * g.monitorRoom + (rest.map fun v => v.category).sum ≤ W)
    (hd : decode c.code g.pc = .ok (.invokestatic index, 3)) (hf : 1 ≤ R.frames) (hl : W + 15 ≤ R.locals) :
    ∃ T', Stand p l e R s m args below meth c T' locs cells slots ∧ T'.heap = h ∧ ∀ target, Steps p.tables e below (T'.setTop { g with pc := g.pc + 3, stack := .long x.toInt64 :: rest }) target → Steps p.tables e below (T.setTop g) target := by
  have c4 : (Jvm.Cond.native (⟨"java/lang/Double", "doubleToRawLongBits", "(D)J"⟩ : MethodName)).before args s = true := mvT hZ w4
  obtain ⟨mk, methM, hnamed, hmethM, -, -, -, hsig⟩ := Cond.native_spec (args := args) (first := s) (o := none) (idx := []) c4
  obtain ⟨v, vm1, B, hW1, X', ⟨hB, hv⟩, st⟩ := Stand.staticBack (args := args) X hx hown (mvT hZ w1) (mvT hZ w2) (mvT hZ w3) hnamed hmethM hsig (by decide) (Jvm.Free.NT.DoubleBits.pays c4 (mvT hZ w2) hf hl) hg hsize (Steps.refl _) (argsL := [.double x]) (rest := rest) (fun sig hs => by
    have e1 : parseMethodDescriptor "(D)J" = some ⟨[.double], some .long⟩ := by decide +kernel
    have e2 : parseMethodDescriptor "(D)J" = some sig := hs
    rw [e1] at e2; cases e2; rfl) hst hW hd (fun vm1 _ => ⟨x, rfl⟩)
  have hv' := hv x rfl
  subst hv' hB
  exact ⟨_, X', eT, fun target k => st.trans k⟩
end OwnNat
def own_mx (a b : Int32) : Int32 := if a < b then b else a

def own_tg (x tg : UInt64) : UInt64 := if own_z x = own_z tg then tg else x
def own_sp (x vl tg sp : UInt64) (F : Int32) : UInt64 := if own_z x = own_z tg then sp else FP.ddiv (FP.dsub x vl) (FP.i2d F)
def own_rm (x tg : UInt64) (rm F : Int32) : Int32 := if own_z x = own_z tg then rm else F
def own_nv (vl tg sp : UInt64) (rm : Int32) : UInt64 := if 0 < rm then FP.dsub tg (FP.dmul (FP.i2d (rm - 1)) sp) else vl
def own_nr (rm : Int32) : Int32 := if 0 < rm then rm - 1 else rm
def own_mv (rm : Int32) : Int32 := if 0 < rm then 1 else 0

def own_F (K : Int32) : Int32 := own_mx 1 K
def own_exp (v t : UInt64) (F md i : Int32) : UInt64 := if md = 0 then v else if md = 1 then t else if own_z t = own_z v then v else if own_mx 0 (F - i) = 0 then t else FP.dsub t (FP.dmul (FP.i2d (own_mx 0 (F - i))) (FP.ddiv (FP.dsub t v) (FP.i2d F)))
theorem own_len5 (p : Int32) {N : Int32} (h : N = (p &&& (2147483647 : Int32)) % (5 : Int32)) : N = 0 ∨ N = 1 ∨ N = 2 ∨ N = 3 ∨ N = 4 := by
  have h1 := Jvm.Kit.i32_mask p 2147483647 (k := 31) (by decide) (by decide)
  have h3 : N.toInt = (p &&& (2147483647 : Int32)).toInt % 5 := by rw [h, Jvm.Kit.i32_rem_nonneg (by omega)]; rfl
  have h2 : N.toInt = 0 ∨ N.toInt = 1 ∨ N.toInt = 2 ∨ N.toInt = 3 ∨ N.toInt = 4 := by omega
  rcases h2 with q | q | q | q | q
  · exact Or.inl (Int32.toInt_inj.mp q)
  · exact Or.inr (Or.inl (Int32.toInt_inj.mp q))
  · exact Or.inr (Or.inr (Or.inl (Int32.toInt_inj.mp q)))
  · exact Or.inr (Or.inr (Or.inr (Or.inl (Int32.toInt_inj.mp q))))
  · exact Or.inr (Or.inr (Or.inr (Or.inr (Int32.toInt_inj.mp q))))
theorem own_Fb {K : Int32} (h : K = 0 ∨ K = 1 ∨ K = 2 ∨ K = 3 ∨ K = 4) : 1 ≤ (own_F K).toInt ∧ (own_F K).toInt ≤ 4 := by
  rcases h with rfl | rfl | rfl | rfl | rfl <;> decide
theorem own_md0 {md p : Int32} (h : md = p &&& (3 : Int32)) (h1 : ¬ md = 1) (h2 : md < 2) : md = 0 := by
  have h3 := Jvm.Kit.i32_mask p 3 (k := 2) (by decide) (by decide)
  rw [← h] at h3
  rw [Int32.lt_iff_toInt_lt] at h2
  have e : (2 : Int32).toInt = 2 := rfl
  have h4 : md.toInt ≠ 1 := fun q => h1 (Int32.toInt_inj.mp q)
  exact Int32.toInt_inj.mp (show md.toInt = 0 by omega)
theorem own_lt2 {md : Int32} (h : md = 1) : md < 2 := by subst h; decide
theorem own_ne0 {md : Int32} (h : ¬ md < 2) : ¬ md = 0 := fun q => by subst q; exact h (by decide)
theorem own_h1 (p0 p1 : Int32) : NoNaN64 (FP.dsub (FP.i2d p1) (FP.i2d p0)) := Fl.dsub_out (Fl.i2d_fin p1).noNaN (Fl.i2d_fin p0)
theorem own_nzF {F : Int32} (h : 1 ≤ F.toInt ∧ F.toInt ≤ 4) : FP.Core.DInt F.toInt (FP.i2d F) ∧ F.toInt ≠ 0 := ⟨FP.Core.i2d_int F, by omega⟩
theorem own_big {F : Int32} (h : 1 ≤ F.toInt ∧ F.toInt ≤ 4) : Big64 1023 (FP.i2d F) := FP.Core.i2d_big (by omega)
theorem own_qm (p0 p1 : Int32) {F : Int32} (h : 1 ≤ F.toInt ∧ F.toInt ≤ 4) : Fl.Mag64 (1058 + 1021 - 1023 + 3) (FP.ddiv (FP.dsub (FP.i2d p1) (FP.i2d p0)) (FP.i2d F)) :=
  Jvm.RoadKit.ddiv_mag (K := 1058) (L := 1023) (Fl.dsub_mag (Fl.i2d_mag p1) (Fl.i2d_mag p0) (by decide)) (own_big h) (by decide) (by decide)
theorem own_h2 (p0 p1 : Int32) {F : Int32} (h : 1 ≤ F.toInt ∧ F.toInt ≤ 4) : NoNaN64 (FP.ddiv (FP.dsub (FP.i2d p1) (FP.i2d p0)) (FP.i2d F)) := ((own_qm p0 p1 h).fin (by decide)).noNaN
theorem own_q3 (p0 p1 : Int32) {F r : Int32} (h : 1 ≤ F.toInt ∧ F.toInt ≤ 4) (hr : 0 ≤ r.toInt ∧ r.toInt ≤ 4) : NoNaN64 (FP.dmul (FP.i2d r) (FP.ddiv (FP.dsub (FP.i2d p1) (FP.i2d p0)) (FP.i2d F))) ∧ NoNaN64 (FP.dsub (FP.i2d p1) (FP.dmul (FP.i2d r) (FP.ddiv (FP.dsub (FP.i2d p1) (FP.i2d p0)) (FP.i2d F)))) := by
  have m := Fl.dmul_mag (Fl.i2d_mag r) (own_qm p0 p1 h) (by decide) (by decide)
  have f := m.fin (by decide)
  exact ⟨f.noNaN, Fl.dsub_out (Fl.i2d_fin p1).noNaN f⟩
theorem own_mxb {F i : Int32} (h : 1 ≤ F.toInt ∧ F.toInt ≤ 4) (hi : 1 ≤ i.toInt ∧ i.toInt ≤ 5) : 0 ≤ (own_mx 0 (F - i)).toInt ∧ (own_mx 0 (F - i)).toInt ≤ 4 := by
  have e : (F - i).toInt = F.toInt - i.toInt := Jvm.Kit.i32_sub (by omega) (by omega)
  rw [own_mx]
  by_cases q : (0 : Int32) < F - i
  · rw [if_pos q]; rw [Int32.lt_iff_toInt_lt, e] at q; rw [e]; have e0 : (0 : Int32).toInt = 0 := rfl
    omega
  · rw [if_neg q]; decide
theorem own_e1 {v t : UInt64} {F md i : Int32} (h : md = 1) (n : NoNaN64 t) : cmpValue (FP.dcmp t (own_exp v t F md i)) .l = 0 := by
  subst h; rw [own_exp, if_neg (by decide), if_pos rfl]; exact dcmpV_self n .l
theorem own_e0 {v t : UInt64} {F md i : Int32} (h : md = 0) (n : NoNaN64 v) : cmpValue (FP.dcmp v (own_exp v t F md i)) .l = 0 := by
  subst h; rw [own_exp, if_pos rfl]; exact dcmpV_self n .l
theorem own_eE {v t : UInt64} {F md i : Int32} (h1 : ¬ md = 1) (h2 : ¬ md < 2) (hE : own_z t = own_z v) (n : NoNaN64 v) : cmpValue (FP.dcmp v (own_exp v t F md i)) .l = 0 := by
  rw [own_exp, if_neg (own_ne0 h2), if_neg h1, if_pos hE]; exact dcmpV_self n .l
theorem own_eN {v t : UInt64} {F md i r : Int32} (h1 : ¬ md = 1) (h2 : ¬ md < 2) (hE : ¬ own_z t = own_z v) (hr : own_mx 0 (F - i) = r) (h0 : ¬ r = 0) (n : NoNaN64 (FP.dsub t (FP.dmul (FP.i2d r) (FP.ddiv (FP.dsub t v) (FP.i2d F))))) :
    cmpValue (FP.dcmp (FP.dsub t (FP.dmul (FP.i2d r) (FP.ddiv (FP.dsub t v) (FP.i2d F)))) (own_exp v t F md i)) .l = 0 := by
  rw [own_exp, if_neg (own_ne0 h2), if_neg h1, if_neg hE, hr, if_neg h0]; exact dcmpV_self n .l
theorem own_i0 : FP.Core.DInt 0 (FP.i2d 0) := FP.Core.i2d_int 0
theorem own_i00 : FP.Core.dcmp (FP.i2d 0) 0 = some Ordering.eq := (show FP.Core.dcmp (FP.i2d 0) 0 = some (compare (0 : Int) 0) from FP.Core.dcmp_int own_i0 own_d0).trans (by decide)
theorem own_mz {q : UInt64} (h : Fin64 q) : own_z (FP.dmul (FP.i2d 0) q) = 0 := by
  have hz : FP.Core.DZero (FP.i2d 0) := FP.Core.zero_iff.mp own_i00
  exact (FP.Core.dzero_mul (Fl.fin64_core.mp h) hz).zval
theorem own_tz (p0 p1 : Int32) {F : Int32} (h : 1 ≤ F.toInt ∧ F.toInt ≤ 4) : cmpValue (FP.dcmp (FP.dsub (FP.i2d p1) (FP.dmul (FP.i2d 0) (FP.ddiv (FP.dsub (FP.i2d p1) (FP.i2d p0)) (FP.i2d F)))) (FP.i2d p1)) .l = 0 := by
  have fq := (own_qm p0 p1 h).fin (by decide)
  have hz : FP.Core.DZero (FP.i2d 0) := FP.Core.zero_iff.mp own_i00
  have hz2 : FP.Core.DZero (FP.dmul (FP.i2d 0) (FP.ddiv (FP.dsub (FP.i2d p1) (FP.i2d p0)) (FP.i2d F))) := FP.Core.dzero_mul (Fl.fin64_core.mp fq) hz
  have d0 : FP.Core.DInt 0 (FP.dmul (FP.i2d 0) (FP.ddiv (FP.dsub (FP.i2d p1) (FP.i2d p0)) (FP.i2d F))) := by
    obtain ⟨s, q, e⟩ := hz2
    show FP.Core.Whole 0 (FP.Core.val64 _)
    rw [e]; show FP.Core.signed s (0 * _) = 0 * _; rw [Nat.zero_mul, Int.zero_mul]; cases s <;> rfl
  have := FP.Core.dsub_int (FP.Core.i2d_int p1) d0 (by
    have h1 := Int32.le_toInt p1; have h2 := Int32.toInt_lt p1
    have e5 : (2 : Nat) ^ 53 = 9007199254740992 := by decide
    omega)
  rw [Int.sub_zero] at this
  exact own_eq0 .l this (FP.Core.i2d_int p1)
theorem own_eZ (p0 p1 : Int32) {F md i : Int32} (h1 : ¬ md = 1) (h2 : ¬ md < 2) (hE : ¬ own_z (FP.i2d p1) = own_z (FP.i2d p0)) (hr : own_mx 0 (F - i) = 0) (h : 1 ≤ F.toInt ∧ F.toInt ≤ 4) :
    cmpValue (FP.dcmp (FP.dsub (FP.i2d p1) (FP.dmul (FP.i2d 0) (FP.ddiv (FP.dsub (FP.i2d p1) (FP.i2d p0)) (FP.i2d F)))) (own_exp (FP.i2d p0) (FP.i2d p1) F md i)) .l = 0 := by
  rw [own_exp, if_neg (own_ne0 h2), if_neg h1, if_neg hE, hr, if_pos rfl]; exact own_tz p0 p1 h

def QrmX (Z : State) (a : Int32) (b : Int32) (h0 : Heap) (n0 : Nat) (vQ : Option Value) (hQ : Heap) (LQ : List Loc) : Prop := vQ = some (.int (own_mx a b)) ∧ Fr n0 LQ ∧ hQ = h0
theorem ef_rmX (m : MethodId) (a : Int32) (b : Int32) : entryFrame m #[(.int a), (.int b)] 2 = mkF m 0 #[vi a, vi b] [] := by first | (simp [entryFrame, mkF, argsToLocals, Value.category]; done) | rfl
abbrev mn0 : MethodName := ⟨"java/lang/Math", "max", "(II)I"⟩
theorem d_jdk_29_method_65_code_0 : decode jdk_29_method_65_code 0 = .ok (.iload_n 0, 1) := by decide +kernel
theorem d_jdk_29_method_65_code_1 : decode jdk_29_method_65_code 1 = .ok (.iload_n 1, 1) := by decide +kernel
theorem d_jdk_29_method_65_code_2 : decode jdk_29_method_65_code 2 = .ok (.if_icmp .lt 7, 3) := by decide +kernel
theorem d_jdk_29_method_65_code_9 : decode jdk_29_method_65_code 9 = .ok (.iload_n 1, 1) := by decide +kernel
theorem d_jdk_29_method_65_code_10 : decode jdk_29_method_65_code 10 = .ok (.ireturn, 1) := by decide +kernel
theorem d_jdk_29_method_65_code_5 : decode jdk_29_method_65_code 5 = .ok (.iload_n 0, 1) := by decide +kernel
theorem d_jdk_29_method_65_code_6 : decode jdk_29_method_65_code 6 = .ok (.goto 4, 3) := by decide +kernel
set_option maxRecDepth 65536 in
set_option maxHeartbeats 40000000 in
theorem rmX (l : Launch) (Z : State) (a0 : Array Value) (hw : ∀ d ∈ tables_1, d.before a0 Z = true) (ws : List Jvm.Cond) (a : Int32) (b : Int32) (h0 : Heap) (n0 : Nat) (Z0 : n0 ≤ h0.size)  :
    MetFree l mn0 (head1 (Jvm.Cond.code mn0 jdk_29_method_65_code 2 (some .int) :: ws) ({ frames := 0, cells := 0, slots := 0, locals := 0 } : Room)) (fun aA U => aA = #[(.int a), (.int b)] ∧ Z.Warmed39 U.vm ∧ U.heap = h0) (fun _ _ _ _ _ => True) (fun _ U o U' => ∃ vR LR, o = .returned vR ∧ QrmX Z a b h0 n0 vR U'.heap LR ∧ FrameEnd U o U' LR ({ frames := 0, cells := 0, slots := 0, locals := 0 } : Room).cells ({ frames := 0, cells := 0, slots := 0, locals := 0 } : Room).slots) := by
  refine MetFree.of_bodySF (Jvm.Free.JP.mathPlain rfl (by decide +kernel)) hisR ?_
  intro p e s m args below meth c s₁ Bd hml0 hPre hKk
  obtain ⟨rfl, hZ, hh⟩ := hPre
  have hx := Bd.exec
  have hby := Bd.bytes
  have hml : c.maxLocals = 2 := hml0
  have hown : s.vm.findClass "java/lang/Math" = some m.cls := findClass_of_methodNamed Bd.named
  have hnm := (name_of_methodNamed Bd.named Bd.method).1
  have X0 : Stand p l e ({ frames := 0, cells := 0, slots := 0, locals := 0 } : Room) s m #[(.int a), (.int b)] below meth c s₁ [] 0 0 := Stand.of_body Bd
  have e0 : s₁.heap = h0 := by rw [← hh, Bd.state]; rfl
  have N0 := Fr.nil n0
  obtain ⟨E0, hE0⟩ : ∃ zE : State, zE = s₁.setTop (entryFrame m #[(.int a), (.int b)] 2) := ⟨_, rfl⟩
  have k0 : own_G p e below E0 s₁ (mkF m 0 #[vi a, vi b] []) := fun tz kz => hE0 ▸ castTop (ef_rmX m a b) kz
  have k1 : own_G p e below E0 s₁ (mkF m 2 #[vi a, vi b] [(.int b), (.int a)]) := by
    intro tQ kk
    refine k0 tQ ?_
    refine XS.iloadN X0.here hx rfl (hb hby d_jdk_29_method_65_code_0) rfl ?_
    refine XS.iloadN X0.here hx rfl (hb hby d_jdk_29_method_65_code_1) rfl ?_
    exact kk
  clear k0
  by_cases c2 : a < b
  · skip
    have k3 : own_G p e below E0 s₁ (mkF m 10 #[vi a, vi b] [(.int b)]) := by
      intro tQ kk
      refine k1 tQ ?_
      refine XS.icmpYes X0.here hx rfl (pc0 := 2) (pc' := 9) rfl (hb hby d_jdk_29_method_65_code_2) rfl (own_ic_ltY c2) (by decide) (by decide) ?_
      refine XS.iloadN X0.here hx rfl (hb hby d_jdk_29_method_65_code_9) rfl ?_
      exact kk
    clear k1
    obtain ⟨fs, hr, hrun, hended, hW, hsame⟩ := X0.leave (v := some (.int b)) (fun h => by rw [Bd.returns] at h; cases h)
    have hrun0 := k3 _ (retOut X0 hx Bd.returns (t := .int) rfl (Or.inl ⟨rfl, Or.inl rfl, _, rfl⟩) (hb hby d_jdk_29_method_65_code_10) hr)
    subst hE0
    refine ⟨_, _, hrun0, hrun, hended, _, _, rfl, ?_, ⟨_, rfl⟩, hW, hsame.mono (by decide) (by decide)⟩
    show QrmX Z a b h0 n0 _ s₁.heap _
    rw [e0]
    exact ⟨by rw [own_mx, if_pos c2], N0, rfl⟩
  · skip
    have k4 : own_G p e below E0 s₁ (mkF m 10 #[vi a, vi b] [(.int a)]) := by
      intro tQ kk
      refine k1 tQ ?_
      refine XS.icmpNo X0.here hx rfl (hb hby d_jdk_29_method_65_code_2) rfl (own_ic_ltN c2) ?_
      refine XS.iloadN X0.here hx rfl (hb hby d_jdk_29_method_65_code_5) rfl ?_
      refine XS.goto X0.here hx rfl (pc0 := 6) (pc' := 10) rfl (hb hby d_jdk_29_method_65_code_6) (by decide) (by decide) ?_
      exact kk
    clear k1
    obtain ⟨fs, hr, hrun, hended, hW, hsame⟩ := X0.leave (v := some (.int a)) (fun h => by rw [Bd.returns] at h; cases h)
    have hrun0 := k4 _ (retOut X0 hx Bd.returns (t := .int) rfl (Or.inl ⟨rfl, Or.inl rfl, _, rfl⟩) (hb hby d_jdk_29_method_65_code_10) hr)
    subst hE0
    refine ⟨_, _, hrun0, hrun, hended, _, _, rfl, ?_, ⟨_, rfl⟩, hW, hsame.mono (by decide) (by decide)⟩
    show QrmX Z a b h0 n0 _ s₁.heap _
    rw [e0]
    exact ⟨by rw [own_mx, if_neg c2], N0, rfl⟩
def QrmMJ (Z : State) (a : Int64) (b : Int64) (h0 : Heap) (n0 : Nat) (vQ : Option Value) (hQ : Heap) (LQ : List Loc) : Prop := vQ = some (.long (if a < b then b else a)) ∧ Fr n0 LQ ∧ hQ = h0
theorem ef_rmMJ (m : MethodId) (a : Int64) (b : Int64) : entryFrame m #[(.long a), (.long b)] 4 = mkF m 0 #[vj a, ss, vj b, ss] [] := by first | (simp [entryFrame, mkF, argsToLocals, Value.category]; done) | rfl
abbrev mn1 : MethodName := ⟨"java/lang/Math", "max", "(JJ)J"⟩
theorem d_jdk_29_method_66_code_0 : decode jdk_29_method_66_code 0 = .ok (.lload_n 0, 1) := by decide +kernel
theorem d_jdk_29_method_66_code_1 : decode jdk_29_method_66_code 1 = .ok (.lload_n 2, 1) := by decide +kernel
theorem d_jdk_29_method_66_code_2 : decode jdk_29_method_66_code 2 = .ok (.lcmp, 1) := by decide +kernel
theorem d_jdk_29_method_66_code_3 : decode jdk_29_method_66_code 3 = .ok (.ifCond .lt 7, 3) := by decide +kernel
theorem d_jdk_29_method_66_code_10 : decode jdk_29_method_66_code 10 = .ok (.lload_n 2, 1) := by decide +kernel
theorem d_jdk_29_method_66_code_11 : decode jdk_29_method_66_code 11 = .ok (.lreturn, 1) := by decide +kernel
theorem d_jdk_29_method_66_code_6 : decode jdk_29_method_66_code 6 = .ok (.lload_n 0, 1) := by decide +kernel
theorem d_jdk_29_method_66_code_7 : decode jdk_29_method_66_code 7 = .ok (.goto 4, 3) := by decide +kernel
set_option maxRecDepth 65536 in
set_option maxHeartbeats 40000000 in
theorem rmMJ (l : Launch) (Z : State) (a0 : Array Value) (hw : ∀ d ∈ tables_1, d.before a0 Z = true) (ws : List Jvm.Cond) (a : Int64) (b : Int64) (h0 : Heap) (n0 : Nat) (Z0 : n0 ≤ h0.size)  :
    MetFree l mn1 (head1 (Jvm.Cond.code mn1 jdk_29_method_66_code 4 (some .long) :: ws) ({ frames := 0, cells := 0, slots := 0, locals := 0 } : Room)) (fun aA U => aA = #[(.long a), (.long b)] ∧ Z.Warmed39 U.vm ∧ U.heap = h0) (fun _ _ _ _ _ => True) (fun _ U o U' => ∃ vR LR, o = .returned vR ∧ QrmMJ Z a b h0 n0 vR U'.heap LR ∧ FrameEnd U o U' LR ({ frames := 0, cells := 0, slots := 0, locals := 0 } : Room).cells ({ frames := 0, cells := 0, slots := 0, locals := 0 } : Room).slots) := by
  refine MetFree.of_bodySF (Jvm.Free.JP.mathPlain rfl (by decide +kernel)) hisR ?_
  intro p e s m args below meth c s₁ Bd hml0 hPre hKk
  obtain ⟨rfl, hZ, hh⟩ := hPre
  have hx := Bd.exec
  have hby := Bd.bytes
  have hml : c.maxLocals = 4 := hml0
  have hown : s.vm.findClass "java/lang/Math" = some m.cls := findClass_of_methodNamed Bd.named
  have hnm := (name_of_methodNamed Bd.named Bd.method).1
  have X0 : Stand p l e ({ frames := 0, cells := 0, slots := 0, locals := 0 } : Room) s m #[(.long a), (.long b)] below meth c s₁ [] 0 0 := Stand.of_body Bd
  have e0 : s₁.heap = h0 := by rw [← hh, Bd.state]; rfl
  have N0 := Fr.nil n0
  obtain ⟨E0, hE0⟩ : ∃ zE : State, zE = s₁.setTop (entryFrame m #[(.long a), (.long b)] 4) := ⟨_, rfl⟩
  have k0 : own_G p e below E0 s₁ (mkF m 0 #[vj a, ss, vj b, ss] []) := fun tz kz => hE0 ▸ castTop (ef_rmMJ m a b) kz
  have k5 : own_G p e below E0 s₁ (mkF m 3 #[vj a, ss, vj b, ss] [(.int (XT.cmpL a b))]) := by
    intro tQ kk
    refine k0 tQ ?_
    refine XT.lloadN X0.here hx rfl (hb hby d_jdk_29_method_66_code_0) rfl ?_
    refine XT.lloadN X0.here hx rfl (hb hby d_jdk_29_method_66_code_1) rfl ?_
    refine XT.lcmp X0.here hx rfl (hb hby d_jdk_29_method_66_code_2) rfl ?_
    exact kk
  clear k0
  by_cases c6 : a < b
  · skip
    have k7 : own_G p e below E0 s₁ (mkF m 11 #[vj a, ss, vj b, ss] [(.long b)]) := by
      intro tQ kk
      refine k5 tQ ?_
      refine XS.ifYes X0.here hx rfl (pc0 := 3) (pc' := 10) rfl (hb hby d_jdk_29_method_66_code_3) rfl (own_l_ltY c6) (by decide) (by decide) ?_
      refine XT.lloadN X0.here hx rfl (hb hby d_jdk_29_method_66_code_10) rfl ?_
      exact kk
    clear k5
    obtain ⟨fs, hr, hrun, hended, hW, hsame⟩ := X0.leave (v := some (.long b)) (fun h => by rw [Bd.returns] at h; cases h)
    have hrun0 := k7 _ (retOut X0 hx Bd.returns (t := .long) rfl (Or.inr (Or.inl ⟨rfl, rfl, _, rfl⟩)) (hb hby d_jdk_29_method_66_code_11) hr)
    subst hE0
    refine ⟨_, _, hrun0, hrun, hended, _, _, rfl, ?_, ⟨_, rfl⟩, hW, hsame.mono (by decide) (by decide)⟩
    show QrmMJ Z a b h0 n0 _ s₁.heap _
    rw [e0]
    exact ⟨by rw [if_pos c6], N0, rfl⟩
  · skip
    have k8 : own_G p e below E0 s₁ (mkF m 11 #[vj a, ss, vj b, ss] [(.long a)]) := by
      intro tQ kk
      refine k5 tQ ?_
      refine XS.ifNo X0.here hx rfl (hb hby d_jdk_29_method_66_code_3) rfl (own_l_ltN c6) ?_
      refine XT.lloadN X0.here hx rfl (hb hby d_jdk_29_method_66_code_6) rfl ?_
      refine XS.goto X0.here hx rfl (pc0 := 7) (pc' := 11) rfl (hb hby d_jdk_29_method_66_code_7) (by decide) (by decide) ?_
      exact kk
    clear k5
    obtain ⟨fs, hr, hrun, hended, hW, hsame⟩ := X0.leave (v := some (.long a)) (fun h => by rw [Bd.returns] at h; cases h)
    have hrun0 := k8 _ (retOut X0 hx Bd.returns (t := .long) rfl (Or.inr (Or.inl ⟨rfl, rfl, _, rfl⟩)) (hb hby d_jdk_29_method_66_code_11) hr)
    subst hE0
    refine ⟨_, _, hrun0, hrun, hended, _, _, rfl, ?_, ⟨_, rfl⟩, hW, hsame.mono (by decide) (by decide)⟩
    show QrmMJ Z a b h0 n0 _ s₁.heap _
    rw [e0]
    exact ⟨by rw [if_neg c6], N0, rfl⟩
def QrmRD0 (Z : State)  (h0 : Heap) (n0 : Nat) (vQ : Option Value) (hQ : Heap) (LQ : List Loc) : Prop := vQ = some (.long (0 : Int64)) ∧ Fr n0 LQ ∧ hQ = h0
theorem ef_rmRD0 (m : MethodId)  : entryFrame m #[(.double (0 : UInt64))] 10 = mkF m 0 #[vd (0 : UInt64), ss, uu, uu, uu, uu, uu, uu, uu, uu] [] := by first | (simp [entryFrame, mkF, argsToLocals, Value.category]; done) | rfl
abbrev mn2 : MethodName := ⟨"java/lang/Math", "round", "(D)J"⟩
theorem d_jdk_29_method_22_code_0 : decode jdk_29_method_22_code 0 = .ok (.dload_n 0, 1) := by decide +kernel
theorem d_jdk_29_method_22_code_1 : decode jdk_29_method_22_code 1 = .ok (.invokestatic 79, 3) := by decide +kernel
def tw18 {Z : State} {a0 : Array Value} (hw : ∀ d ∈ tables_1, d.before a0 Z = true) := hw _ (List.mem_of_getElem? (i := 18) rfl)
def tw19 {Z : State} {a0 : Array Value} (hw : ∀ d ∈ tables_1, d.before a0 Z = true) := hw _ (List.mem_of_getElem? (i := 19) rfl)
def tw20 {Z : State} {a0 : Array Value} (hw : ∀ d ∈ tables_1, d.before a0 Z = true) := hw _ (List.mem_of_getElem? (i := 20) rfl)
def tw21 {Z : State} {a0 : Array Value} (hw : ∀ d ∈ tables_1, d.before a0 Z = true) := hw _ (List.mem_of_getElem? (i := 21) rfl)
theorem d_jdk_29_method_22_code_4 : decode jdk_29_method_22_code 4 = .ok (.lstore_n 2, 1) := by decide +kernel
theorem d_jdk_29_method_22_code_5 : decode jdk_29_method_22_code 5 = .ok (.lload_n 2, 1) := by decide +kernel
theorem d_jdk_29_method_22_code_6 : decode jdk_29_method_22_code 6 = .ok (.ldc2_w 87, 3) := by decide +kernel
def tw22 {Z : State} {a0 : Array Value} (hw : ∀ d ∈ tables_1, d.before a0 Z = true) := hw _ (List.mem_of_getElem? (i := 22) rfl)
theorem d_jdk_29_method_22_code_9 : decode jdk_29_method_22_code 9 = .ok (.land, 1) := by decide +kernel
theorem d_jdk_29_method_22_code_10 : decode jdk_29_method_22_code 10 = .ok (.bipush 52, 2) := by decide +kernel
theorem d_jdk_29_method_22_code_12 : decode jdk_29_method_22_code 12 = .ok (.lshr, 1) := by decide +kernel
theorem d_jdk_29_method_22_code_13 : decode jdk_29_method_22_code 13 = .ok (.lstore 4, 2) := by decide +kernel
theorem d_jdk_29_method_22_code_15 : decode jdk_29_method_22_code 15 = .ok (.ldc2_w 89, 3) := by decide +kernel
def tw23 {Z : State} {a0 : Array Value} (hw : ∀ d ∈ tables_1, d.before a0 Z = true) := hw _ (List.mem_of_getElem? (i := 23) rfl)
theorem d_jdk_29_method_22_code_18 : decode jdk_29_method_22_code 18 = .ok (.lload 4, 2) := by decide +kernel
theorem d_jdk_29_method_22_code_20 : decode jdk_29_method_22_code 20 = .ok (.lsub, 1) := by decide +kernel
theorem d_jdk_29_method_22_code_21 : decode jdk_29_method_22_code 21 = .ok (.lstore 6, 2) := by decide +kernel
theorem d_jdk_29_method_22_code_23 : decode jdk_29_method_22_code 23 = .ok (.lload 6, 2) := by decide +kernel
theorem d_jdk_29_method_22_code_25 : decode jdk_29_method_22_code 25 = .ok (.ldc2_w 91, 3) := by decide +kernel
def tw24 {Z : State} {a0 : Array Value} (hw : ∀ d ∈ tables_1, d.before a0 Z = true) := hw _ (List.mem_of_getElem? (i := 24) rfl)
theorem d_jdk_29_method_22_code_28 : decode jdk_29_method_22_code 28 = .ok (.land, 1) := by decide +kernel
theorem d_jdk_29_method_22_code_29 : decode jdk_29_method_22_code 29 = .ok (.lconst 0, 1) := by decide +kernel
theorem d_jdk_29_method_22_code_30 : decode jdk_29_method_22_code 30 = .ok (.lcmp, 1) := by decide +kernel
theorem d_jdk_29_method_22_code_31 : decode jdk_29_method_22_code 31 = .ok (.ifCond .ne 36, 3) := by decide +kernel
theorem d_jdk_29_method_22_code_67 : decode jdk_29_method_22_code 67 = .ok (.dload_n 0, 1) := by decide +kernel
theorem d_jdk_29_method_22_code_68 : decode jdk_29_method_22_code 68 = .ok (.d2l, 1) := by decide +kernel
theorem d_jdk_29_method_22_code_69 : decode jdk_29_method_22_code 69 = .ok (.lreturn, 1) := by decide +kernel
set_option maxRecDepth 65536 in
set_option maxHeartbeats 40000000 in
theorem rmRD0 (l : Launch) (Z : State) (a0 : Array Value) (hw : ∀ d ∈ tables_1, d.before a0 Z = true) (ws : List Jvm.Cond)  (h0 : Heap) (n0 : Nat) (Z0 : n0 ≤ h0.size)  :
    MetFree l mn2 (head1 (Jvm.Cond.code mn2 jdk_29_method_22_code 10 (some .long) :: ws) ({ frames := 1, cells := 0, slots := 0, locals := 15 } : Room)) (fun aA U => aA = #[(.double (0 : UInt64))] ∧ Z.Warmed39 U.vm ∧ U.heap = h0) (fun _ _ _ _ _ => True) (fun _ U o U' => ∃ vR LR, o = .returned vR ∧ QrmRD0 Z  h0 n0 vR U'.heap LR ∧ FrameEnd U o U' LR ({ frames := 1, cells := 0, slots := 0, locals := 15 } : Room).cells ({ frames := 1, cells := 0, slots := 0, locals := 15 } : Room).slots) := by
  refine MetFree.of_bodySF (Jvm.Free.JP.mathPlain rfl (by decide +kernel)) hisR ?_
  intro p e s m args below meth c s₁ Bd hml0 hPre hKk
  obtain ⟨rfl, hZ, hh⟩ := hPre
  have hx := Bd.exec
  have hby := Bd.bytes
  have hml : c.maxLocals = 10 := hml0
  have hown : s.vm.findClass "java/lang/Math" = some m.cls := findClass_of_methodNamed Bd.named
  have hnm := (name_of_methodNamed Bd.named Bd.method).1
  have X0 : Stand p l e ({ frames := 1, cells := 0, slots := 0, locals := 15 } : Room) s m #[(.double (0 : UInt64))] below meth c s₁ [] 0 0 := Stand.of_body Bd
  have e0 : s₁.heap = h0 := by rw [← hh, Bd.state]; rfl
  have N0 := Fr.nil n0
  obtain ⟨E0, hE0⟩ : ∃ zE : State, zE = s₁.setTop (entryFrame m #[(.double (0 : UInt64))] 10) := ⟨_, rfl⟩
  have k0 : own_G p e below E0 s₁ (mkF m 0 #[vd (0 : UInt64), ss, uu, uu, uu, uu, uu, uu, uu, uu] []) := fun tz kz => hE0 ▸ castTop (ef_rmRD0 m ) kz
  have k9 : own_G p e below E0 s₁ (mkF m 1 #[vd (0 : UInt64), ss, uu, uu, uu, uu, uu, uu, uu, uu] [(.double (0 : UInt64))]) := by
    intro tQ kk
    refine k0 tQ ?_
    refine XS.dloadN X0.here hx rfl (hb hby d_jdk_29_method_22_code_0) rfl ?_
    exact kk
  clear k0
  obtain ⟨T10, X11, e12, st13⟩ := own_rawBits X0 hx hZ hown (tw18 hw) (tw19 hw) (tw20 hw) (tw21 hw) e0 (x := (0 : UInt64)) (W := 0) (g := (mkF m 1 #[vd (0 : UInt64), ss, uu, uu, uu, uu, uu, uu, uu, uu] [(.double (0 : UInt64))])) rfl (by rw [hml]; rfl) (rest := []) rfl (by show 2 * 0 + _ ≤ _; exact Nat.le_of_eq rfl) (hb hby d_jdk_29_method_22_code_1) (by decide) (by decide)
  have k14 : own_G p e below E0 T10 (mkF m 4 #[vd (0 : UInt64), ss, uu, uu, uu, uu, uu, uu, uu, uu] [(.long ((0 : UInt64)).toInt64)]) := fun tQ kk => k9 tQ (st13 _ kk)
  clear k9 st13
  have k15 : own_G p e below E0 T10 (mkF m 6 #[vd (0 : UInt64), ss, vj ((0 : UInt64)).toInt64, ss, uu, uu, uu, uu, uu, uu] [(.long ((0 : UInt64)).toInt64)]) := by
    intro tQ kk
    refine k14 tQ ?_
    refine XT.lstoreN X11.here hx rfl (hb hby d_jdk_29_method_22_code_4) rfl (l' := #[vd (0 : UInt64), ss, vj ((0 : UInt64)).toInt64, ss, uu, uu, uu, uu, uu, uu]) rfl ?_
    refine XT.lloadN X11.here hx rfl (hb hby d_jdk_29_method_22_code_5) rfl ?_
    exact kk
  clear k14
  have st16 := X11.ldc2Long hx hown (mvT hZ (tw22 hw)) (g := (mkF m 6 #[vd (0 : UInt64), ss, vj ((0 : UInt64)).toInt64, ss, uu, uu, uu, uu, uu, uu] [(.long ((0 : UInt64)).toInt64)])) rfl (hb hby d_jdk_29_method_22_code_6)
  have k17 : own_G p e below E0 T10 (mkF m 9 #[vd (0 : UInt64), ss, vj ((0 : UInt64)).toInt64, ss, uu, uu, uu, uu, uu, uu] [(.long (9218868437227405312 : Int64)), (.long ((0 : UInt64)).toInt64)]) := fun tQ kk => k15 tQ (st16 _ kk)
  clear k15 st16
  have k18 : own_G p e below E0 T10 (mkF m 15 #[vd (0 : UInt64), ss, vj ((0 : UInt64)).toInt64, ss, vj ((((0 : UInt64)).toInt64 &&& (9218868437227405312 : Int64)) >>> ((52 : Int32).toInt64 &&& 63)), ss, uu, uu, uu, uu] []) := by
    intro tQ kk
    refine k17 tQ ?_
    refine XT.land X11.here hx rfl (hb hby d_jdk_29_method_22_code_9) rfl ?_
    refine XS.bipush X11.here hx rfl (hb hby d_jdk_29_method_22_code_10) ?_
    refine XT.lshr X11.here hx rfl (hb hby d_jdk_29_method_22_code_12) rfl ?_
    refine XT.lstore X11.here hx rfl (hb hby d_jdk_29_method_22_code_13) rfl (l' := #[vd (0 : UInt64), ss, vj ((0 : UInt64)).toInt64, ss, vj ((((0 : UInt64)).toInt64 &&& (9218868437227405312 : Int64)) >>> ((52 : Int32).toInt64 &&& 63)), ss, uu, uu, uu, uu]) rfl ?_
    exact kk
  clear k17
  have st19 := X11.ldc2Long hx hown (mvT hZ (tw23 hw)) (g := (mkF m 15 #[vd (0 : UInt64), ss, vj ((0 : UInt64)).toInt64, ss, vj ((((0 : UInt64)).toInt64 &&& (9218868437227405312 : Int64)) >>> ((52 : Int32).toInt64 &&& 63)), ss, uu, uu, uu, uu] [])) rfl (hb hby d_jdk_29_method_22_code_15)
  have k20 : own_G p e below E0 T10 (mkF m 18 #[vd (0 : UInt64), ss, vj ((0 : UInt64)).toInt64, ss, vj ((((0 : UInt64)).toInt64 &&& (9218868437227405312 : Int64)) >>> ((52 : Int32).toInt64 &&& 63)), ss, uu, uu, uu, uu] [(.long (1074 : Int64))]) := fun tQ kk => k18 tQ (st19 _ kk)
  clear k18 st19
  have k21 : own_G p e below E0 T10 (mkF m 25 #[vd (0 : UInt64), ss, vj ((0 : UInt64)).toInt64, ss, vj ((((0 : UInt64)).toInt64 &&& (9218868437227405312 : Int64)) >>> ((52 : Int32).toInt64 &&& 63)), ss, vj ((1074 : Int64) - ((((0 : UInt64)).toInt64 &&& (9218868437227405312 : Int64)) >>> ((52 : Int32).toInt64 &&& 63))), ss, uu, uu] [(.long ((1074 : Int64) - ((((0 : UInt64)).toInt64 &&& (9218868437227405312 : Int64)) >>> ((52 : Int32).toInt64 &&& 63))))]) := by
    intro tQ kk
    refine k20 tQ ?_
    refine XT.lload X11.here hx rfl (hb hby d_jdk_29_method_22_code_18) rfl ?_
    refine XT.lsub X11.here hx rfl (hb hby d_jdk_29_method_22_code_20) rfl ?_
    refine XT.lstore X11.here hx rfl (hb hby d_jdk_29_method_22_code_21) rfl (l' := #[vd (0 : UInt64), ss, vj ((0 : UInt64)).toInt64, ss, vj ((((0 : UInt64)).toInt64 &&& (9218868437227405312 : Int64)) >>> ((52 : Int32).toInt64 &&& 63)), ss, vj ((1074 : Int64) - ((((0 : UInt64)).toInt64 &&& (9218868437227405312 : Int64)) >>> ((52 : Int32).toInt64 &&& 63))), ss, uu, uu]) rfl ?_
    refine XT.lload X11.here hx rfl (hb hby d_jdk_29_method_22_code_23) rfl ?_
    exact kk
  clear k20
  have st22 := X11.ldc2Long hx hown (mvT hZ (tw24 hw)) (g := (mkF m 25 #[vd (0 : UInt64), ss, vj ((0 : UInt64)).toInt64, ss, vj ((((0 : UInt64)).toInt64 &&& (9218868437227405312 : Int64)) >>> ((52 : Int32).toInt64 &&& 63)), ss, vj ((1074 : Int64) - ((((0 : UInt64)).toInt64 &&& (9218868437227405312 : Int64)) >>> ((52 : Int32).toInt64 &&& 63))), ss, uu, uu] [(.long ((1074 : Int64) - ((((0 : UInt64)).toInt64 &&& (9218868437227405312 : Int64)) >>> ((52 : Int32).toInt64 &&& 63))))])) rfl (hb hby d_jdk_29_method_22_code_25)
  have k23 : own_G p e below E0 T10 (mkF m 28 #[vd (0 : UInt64), ss, vj ((0 : UInt64)).toInt64, ss, vj ((((0 : UInt64)).toInt64 &&& (9218868437227405312 : Int64)) >>> ((52 : Int32).toInt64 &&& 63)), ss, vj ((1074 : Int64) - ((((0 : UInt64)).toInt64 &&& (9218868437227405312 : Int64)) >>> ((52 : Int32).toInt64 &&& 63))), ss, uu, uu] [(.long (-64 : Int64)), (.long ((1074 : Int64) - ((((0 : UInt64)).toInt64 &&& (9218868437227405312 : Int64)) >>> ((52 : Int32).toInt64 &&& 63))))]) := fun tQ kk => k21 tQ (st22 _ kk)
  clear k21 st22
  have k24 : own_G p e below E0 T10 (mkF m 69 #[vd (0 : UInt64), ss, vj ((0 : UInt64)).toInt64, ss, vj ((((0 : UInt64)).toInt64 &&& (9218868437227405312 : Int64)) >>> ((52 : Int32).toInt64 &&& 63)), ss, vj ((1074 : Int64) - ((((0 : UInt64)).toInt64 &&& (9218868437227405312 : Int64)) >>> ((52 : Int32).toInt64 &&& 63))), ss, uu, uu] [(.long (FP.d2l (0 : UInt64)))]) := by
    intro tQ kk
    refine k23 tQ ?_
    refine XT.land X11.here hx rfl (hb hby d_jdk_29_method_22_code_28) rfl ?_
    refine XT.lconst X11.here hx rfl (hb hby d_jdk_29_method_22_code_29) ?_
    refine XT.lcmp X11.here hx rfl (hb hby d_jdk_29_method_22_code_30) rfl ?_
    refine XS.ifYes X11.here hx rfl (pc0 := 31) (pc' := 67) rfl (hb hby d_jdk_29_method_22_code_31) rfl (own_l_neY (by decide)) (by decide) (by decide) ?_
    show Steps p.tables e below (T10.setTop (mkF m 67 #[vd (0 : UInt64), ss, vj ((0 : UInt64)).toInt64, ss, vj ((((0 : UInt64)).toInt64 &&& (9218868437227405312 : Int64)) >>> ((52 : Int32).toInt64 &&& 63)), ss, vj ((1074 : Int64) - ((((0 : UInt64)).toInt64 &&& (9218868437227405312 : Int64)) >>> ((52 : Int32).toInt64 &&& 63))), ss, uu, uu] [])) tQ
    refine XS.dloadN X11.here hx rfl (hb hby d_jdk_29_method_22_code_67) rfl ?_
    refine XS.d2lS X11.here hx rfl (hb hby d_jdk_29_method_22_code_68) rfl rfl ?_
    exact kk
  clear k23
  obtain ⟨fs, hr, hrun, hended, hW, hsame⟩ := X11.leave (v := some (.long (FP.d2l (0 : UInt64)))) (fun h => by rw [Bd.returns] at h; cases h)
  have hrun0 := k24 _ (retOut X11 hx Bd.returns (t := .long) rfl (Or.inr (Or.inl ⟨rfl, rfl, _, rfl⟩)) (hb hby d_jdk_29_method_22_code_69) hr)
  subst hE0
  refine ⟨_, _, hrun0, hrun, hended, _, _, rfl, ?_, ⟨_, rfl⟩, hW, hsame.mono (by decide) (by decide)⟩
  show QrmRD0 Z  h0 n0 _ T10.heap _
  rw [e12]
  exact ⟨congrArg (fun z => some (Value.long z)) (by decide +kernel), N0, rfl⟩
def QrmRD50 (Z : State)  (h0 : Heap) (n0 : Nat) (vQ : Option Value) (hQ : Heap) (LQ : List Loc) : Prop := vQ = some (.long (1 : Int64)) ∧ Fr n0 LQ ∧ hQ = h0
theorem ef_rmRD50 (m : MethodId)  : entryFrame m #[(.double (4607182418800017408 : UInt64))] 10 = mkF m 0 #[vd (4607182418800017408 : UInt64), ss, uu, uu, uu, uu, uu, uu, uu, uu] [] := by first | (simp [entryFrame, mkF, argsToLocals, Value.category]; done) | rfl
theorem d_jdk_29_method_22_code_34 : decode jdk_29_method_22_code 34 = .ok (.lload_n 2, 1) := by decide +kernel
theorem d_jdk_29_method_22_code_35 : decode jdk_29_method_22_code 35 = .ok (.ldc2_w 93, 3) := by decide +kernel
def tw25 {Z : State} {a0 : Array Value} (hw : ∀ d ∈ tables_1, d.before a0 Z = true) := hw _ (List.mem_of_getElem? (i := 25) rfl)
theorem d_jdk_29_method_22_code_38 : decode jdk_29_method_22_code 38 = .ok (.land, 1) := by decide +kernel
theorem d_jdk_29_method_22_code_39 : decode jdk_29_method_22_code 39 = .ok (.ldc2_w 95, 3) := by decide +kernel
def tw26 {Z : State} {a0 : Array Value} (hw : ∀ d ∈ tables_1, d.before a0 Z = true) := hw _ (List.mem_of_getElem? (i := 26) rfl)
theorem d_jdk_29_method_22_code_42 : decode jdk_29_method_22_code 42 = .ok (.lor, 1) := by decide +kernel
theorem d_jdk_29_method_22_code_43 : decode jdk_29_method_22_code 43 = .ok (.lstore 8, 2) := by decide +kernel
theorem d_jdk_29_method_22_code_45 : decode jdk_29_method_22_code 45 = .ok (.lload_n 2, 1) := by decide +kernel
theorem d_jdk_29_method_22_code_46 : decode jdk_29_method_22_code 46 = .ok (.lconst 0, 1) := by decide +kernel
theorem d_jdk_29_method_22_code_47 : decode jdk_29_method_22_code 47 = .ok (.lcmp, 1) := by decide +kernel
theorem d_jdk_29_method_22_code_48 : decode jdk_29_method_22_code 48 = .ok (.ifCond .ge 8, 3) := by decide +kernel
theorem d_jdk_29_method_22_code_56 : decode jdk_29_method_22_code 56 = .ok (.lload 8, 2) := by decide +kernel
theorem d_jdk_29_method_22_code_58 : decode jdk_29_method_22_code 58 = .ok (.lload 6, 2) := by decide +kernel
theorem d_jdk_29_method_22_code_60 : decode jdk_29_method_22_code 60 = .ok (.l2i, 1) := by decide +kernel
theorem d_jdk_29_method_22_code_61 : decode jdk_29_method_22_code 61 = .ok (.lshr, 1) := by decide +kernel
theorem d_jdk_29_method_22_code_62 : decode jdk_29_method_22_code 62 = .ok (.lconst 1, 1) := by decide +kernel
theorem d_jdk_29_method_22_code_63 : decode jdk_29_method_22_code 63 = .ok (.ladd, 1) := by decide +kernel
theorem d_jdk_29_method_22_code_64 : decode jdk_29_method_22_code 64 = .ok (.iconst 1, 1) := by decide +kernel
theorem d_jdk_29_method_22_code_65 : decode jdk_29_method_22_code 65 = .ok (.lshr, 1) := by decide +kernel
theorem d_jdk_29_method_22_code_66 : decode jdk_29_method_22_code 66 = .ok (.lreturn, 1) := by decide +kernel
set_option maxRecDepth 65536 in
set_option maxHeartbeats 40000000 in
theorem rmRD50 (l : Launch) (Z : State) (a0 : Array Value) (hw : ∀ d ∈ tables_1, d.before a0 Z = true) (ws : List Jvm.Cond)  (h0 : Heap) (n0 : Nat) (Z0 : n0 ≤ h0.size)  :
    MetFree l mn2 (head1 (Jvm.Cond.code mn2 jdk_29_method_22_code 10 (some .long) :: ws) ({ frames := 1, cells := 0, slots := 0, locals := 15 } : Room)) (fun aA U => aA = #[(.double (4607182418800017408 : UInt64))] ∧ Z.Warmed39 U.vm ∧ U.heap = h0) (fun _ _ _ _ _ => True) (fun _ U o U' => ∃ vR LR, o = .returned vR ∧ QrmRD50 Z  h0 n0 vR U'.heap LR ∧ FrameEnd U o U' LR ({ frames := 1, cells := 0, slots := 0, locals := 15 } : Room).cells ({ frames := 1, cells := 0, slots := 0, locals := 15 } : Room).slots) := by
  refine MetFree.of_bodySF (Jvm.Free.JP.mathPlain rfl (by decide +kernel)) hisR ?_
  intro p e s m args below meth c s₁ Bd hml0 hPre hKk
  obtain ⟨rfl, hZ, hh⟩ := hPre
  have hx := Bd.exec
  have hby := Bd.bytes
  have hml : c.maxLocals = 10 := hml0
  have hown : s.vm.findClass "java/lang/Math" = some m.cls := findClass_of_methodNamed Bd.named
  have hnm := (name_of_methodNamed Bd.named Bd.method).1
  have X0 : Stand p l e ({ frames := 1, cells := 0, slots := 0, locals := 15 } : Room) s m #[(.double (4607182418800017408 : UInt64))] below meth c s₁ [] 0 0 := Stand.of_body Bd
  have e0 : s₁.heap = h0 := by rw [← hh, Bd.state]; rfl
  have N0 := Fr.nil n0
  obtain ⟨E0, hE0⟩ : ∃ zE : State, zE = s₁.setTop (entryFrame m #[(.double (4607182418800017408 : UInt64))] 10) := ⟨_, rfl⟩
  have k0 : own_G p e below E0 s₁ (mkF m 0 #[vd (4607182418800017408 : UInt64), ss, uu, uu, uu, uu, uu, uu, uu, uu] []) := fun tz kz => hE0 ▸ castTop (ef_rmRD50 m ) kz
  have k25 : own_G p e below E0 s₁ (mkF m 1 #[vd (4607182418800017408 : UInt64), ss, uu, uu, uu, uu, uu, uu, uu, uu] [(.double (4607182418800017408 : UInt64))]) := by
    intro tQ kk
    refine k0 tQ ?_
    refine XS.dloadN X0.here hx rfl (hb hby d_jdk_29_method_22_code_0) rfl ?_
    exact kk
  clear k0
  obtain ⟨T26, X27, e28, st29⟩ := own_rawBits X0 hx hZ hown (tw18 hw) (tw19 hw) (tw20 hw) (tw21 hw) e0 (x := (4607182418800017408 : UInt64)) (W := 0) (g := (mkF m 1 #[vd (4607182418800017408 : UInt64), ss, uu, uu, uu, uu, uu, uu, uu, uu] [(.double (4607182418800017408 : UInt64))])) rfl (by rw [hml]; rfl) (rest := []) rfl (by show 2 * 0 + _ ≤ _; exact Nat.le_of_eq rfl) (hb hby d_jdk_29_method_22_code_1) (by decide) (by decide)
  have k30 : own_G p e below E0 T26 (mkF m 4 #[vd (4607182418800017408 : UInt64), ss, uu, uu, uu, uu, uu, uu, uu, uu] [(.long ((4607182418800017408 : UInt64)).toInt64)]) := fun tQ kk => k25 tQ (st29 _ kk)
  clear k25 st29
  have k31 : own_G p e below E0 T26 (mkF m 6 #[vd (4607182418800017408 : UInt64), ss, vj ((4607182418800017408 : UInt64)).toInt64, ss, uu, uu, uu, uu, uu, uu] [(.long ((4607182418800017408 : UInt64)).toInt64)]) := by
    intro tQ kk
    refine k30 tQ ?_
    refine XT.lstoreN X27.here hx rfl (hb hby d_jdk_29_method_22_code_4) rfl (l' := #[vd (4607182418800017408 : UInt64), ss, vj ((4607182418800017408 : UInt64)).toInt64, ss, uu, uu, uu, uu, uu, uu]) rfl ?_
    refine XT.lloadN X27.here hx rfl (hb hby d_jdk_29_method_22_code_5) rfl ?_
    exact kk
  clear k30
  have st32 := X27.ldc2Long hx hown (mvT hZ (tw22 hw)) (g := (mkF m 6 #[vd (4607182418800017408 : UInt64), ss, vj ((4607182418800017408 : UInt64)).toInt64, ss, uu, uu, uu, uu, uu, uu] [(.long ((4607182418800017408 : UInt64)).toInt64)])) rfl (hb hby d_jdk_29_method_22_code_6)
  have k33 : own_G p e below E0 T26 (mkF m 9 #[vd (4607182418800017408 : UInt64), ss, vj ((4607182418800017408 : UInt64)).toInt64, ss, uu, uu, uu, uu, uu, uu] [(.long (9218868437227405312 : Int64)), (.long ((4607182418800017408 : UInt64)).toInt64)]) := fun tQ kk => k31 tQ (st32 _ kk)
  clear k31 st32
  have k34 : own_G p e below E0 T26 (mkF m 15 #[vd (4607182418800017408 : UInt64), ss, vj ((4607182418800017408 : UInt64)).toInt64, ss, vj ((((4607182418800017408 : UInt64)).toInt64 &&& (9218868437227405312 : Int64)) >>> ((52 : Int32).toInt64 &&& 63)), ss, uu, uu, uu, uu] []) := by
    intro tQ kk
    refine k33 tQ ?_
    refine XT.land X27.here hx rfl (hb hby d_jdk_29_method_22_code_9) rfl ?_
    refine XS.bipush X27.here hx rfl (hb hby d_jdk_29_method_22_code_10) ?_
    refine XT.lshr X27.here hx rfl (hb hby d_jdk_29_method_22_code_12) rfl ?_
    refine XT.lstore X27.here hx rfl (hb hby d_jdk_29_method_22_code_13) rfl (l' := #[vd (4607182418800017408 : UInt64), ss, vj ((4607182418800017408 : UInt64)).toInt64, ss, vj ((((4607182418800017408 : UInt64)).toInt64 &&& (9218868437227405312 : Int64)) >>> ((52 : Int32).toInt64 &&& 63)), ss, uu, uu, uu, uu]) rfl ?_
    exact kk
  clear k33
  have st35 := X27.ldc2Long hx hown (mvT hZ (tw23 hw)) (g := (mkF m 15 #[vd (4607182418800017408 : UInt64), ss, vj ((4607182418800017408 : UInt64)).toInt64, ss, vj ((((4607182418800017408 : UInt64)).toInt64 &&& (9218868437227405312 : Int64)) >>> ((52 : Int32).toInt64 &&& 63)), ss, uu, uu, uu, uu] [])) rfl (hb hby d_jdk_29_method_22_code_15)
  have k36 : own_G p e below E0 T26 (mkF m 18 #[vd (4607182418800017408 : UInt64), ss, vj ((4607182418800017408 : UInt64)).toInt64, ss, vj ((((4607182418800017408 : UInt64)).toInt64 &&& (9218868437227405312 : Int64)) >>> ((52 : Int32).toInt64 &&& 63)), ss, uu, uu, uu, uu] [(.long (1074 : Int64))]) := fun tQ kk => k34 tQ (st35 _ kk)
  clear k34 st35
  have k37 : own_G p e below E0 T26 (mkF m 25 #[vd (4607182418800017408 : UInt64), ss, vj ((4607182418800017408 : UInt64)).toInt64, ss, vj ((((4607182418800017408 : UInt64)).toInt64 &&& (9218868437227405312 : Int64)) >>> ((52 : Int32).toInt64 &&& 63)), ss, vj ((1074 : Int64) - ((((4607182418800017408 : UInt64)).toInt64 &&& (9218868437227405312 : Int64)) >>> ((52 : Int32).toInt64 &&& 63))), ss, uu, uu] [(.long ((1074 : Int64) - ((((4607182418800017408 : UInt64)).toInt64 &&& (9218868437227405312 : Int64)) >>> ((52 : Int32).toInt64 &&& 63))))]) := by
    intro tQ kk
    refine k36 tQ ?_
    refine XT.lload X27.here hx rfl (hb hby d_jdk_29_method_22_code_18) rfl ?_
    refine XT.lsub X27.here hx rfl (hb hby d_jdk_29_method_22_code_20) rfl ?_
    refine XT.lstore X27.here hx rfl (hb hby d_jdk_29_method_22_code_21) rfl (l' := #[vd (4607182418800017408 : UInt64), ss, vj ((4607182418800017408 : UInt64)).toInt64, ss, vj ((((4607182418800017408 : UInt64)).toInt64 &&& (9218868437227405312 : Int64)) >>> ((52 : Int32).toInt64 &&& 63)), ss, vj ((1074 : Int64) - ((((4607182418800017408 : UInt64)).toInt64 &&& (9218868437227405312 : Int64)) >>> ((52 : Int32).toInt64 &&& 63))), ss, uu, uu]) rfl ?_
    refine XT.lload X27.here hx rfl (hb hby d_jdk_29_method_22_code_23) rfl ?_
    exact kk
  clear k36
  have st38 := X27.ldc2Long hx hown (mvT hZ (tw24 hw)) (g := (mkF m 25 #[vd (4607182418800017408 : UInt64), ss, vj ((4607182418800017408 : UInt64)).toInt64, ss, vj ((((4607182418800017408 : UInt64)).toInt64 &&& (9218868437227405312 : Int64)) >>> ((52 : Int32).toInt64 &&& 63)), ss, vj ((1074 : Int64) - ((((4607182418800017408 : UInt64)).toInt64 &&& (9218868437227405312 : Int64)) >>> ((52 : Int32).toInt64 &&& 63))), ss, uu, uu] [(.long ((1074 : Int64) - ((((4607182418800017408 : UInt64)).toInt64 &&& (9218868437227405312 : Int64)) >>> ((52 : Int32).toInt64 &&& 63))))])) rfl (hb hby d_jdk_29_method_22_code_25)
  have k39 : own_G p e below E0 T26 (mkF m 28 #[vd (4607182418800017408 : UInt64), ss, vj ((4607182418800017408 : UInt64)).toInt64, ss, vj ((((4607182418800017408 : UInt64)).toInt64 &&& (9218868437227405312 : Int64)) >>> ((52 : Int32).toInt64 &&& 63)), ss, vj ((1074 : Int64) - ((((4607182418800017408 : UInt64)).toInt64 &&& (9218868437227405312 : Int64)) >>> ((52 : Int32).toInt64 &&& 63))), ss, uu, uu] [(.long (-64 : Int64)), (.long ((1074 : Int64) - ((((4607182418800017408 : UInt64)).toInt64 &&& (9218868437227405312 : Int64)) >>> ((52 : Int32).toInt64 &&& 63))))]) := fun tQ kk => k37 tQ (st38 _ kk)
  clear k37 st38
  have k40 : own_G p e below E0 T26 (mkF m 35 #[vd (4607182418800017408 : UInt64), ss, vj ((4607182418800017408 : UInt64)).toInt64, ss, vj ((((4607182418800017408 : UInt64)).toInt64 &&& (9218868437227405312 : Int64)) >>> ((52 : Int32).toInt64 &&& 63)), ss, vj ((1074 : Int64) - ((((4607182418800017408 : UInt64)).toInt64 &&& (9218868437227405312 : Int64)) >>> ((52 : Int32).toInt64 &&& 63))), ss, uu, uu] [(.long ((4607182418800017408 : UInt64)).toInt64)]) := by
    intro tQ kk
    refine k39 tQ ?_
    refine XT.land X27.here hx rfl (hb hby d_jdk_29_method_22_code_28) rfl ?_
    refine XT.lconst X27.here hx rfl (hb hby d_jdk_29_method_22_code_29) ?_
    refine XT.lcmp X27.here hx rfl (hb hby d_jdk_29_method_22_code_30) rfl ?_
    refine XS.ifNo X27.here hx rfl (hb hby d_jdk_29_method_22_code_31) rfl (own_l_neN (by decide)) ?_
    show Steps p.tables e below (T26.setTop (mkF m 34 #[vd (4607182418800017408 : UInt64), ss, vj ((4607182418800017408 : UInt64)).toInt64, ss, vj ((((4607182418800017408 : UInt64)).toInt64 &&& (9218868437227405312 : Int64)) >>> ((52 : Int32).toInt64 &&& 63)), ss, vj ((1074 : Int64) - ((((4607182418800017408 : UInt64)).toInt64 &&& (9218868437227405312 : Int64)) >>> ((52 : Int32).toInt64 &&& 63))), ss, uu, uu] [])) tQ
    refine XT.lloadN X27.here hx rfl (hb hby d_jdk_29_method_22_code_34) rfl ?_
    exact kk
  clear k39
  have st41 := X27.ldc2Long hx hown (mvT hZ (tw25 hw)) (g := (mkF m 35 #[vd (4607182418800017408 : UInt64), ss, vj ((4607182418800017408 : UInt64)).toInt64, ss, vj ((((4607182418800017408 : UInt64)).toInt64 &&& (9218868437227405312 : Int64)) >>> ((52 : Int32).toInt64 &&& 63)), ss, vj ((1074 : Int64) - ((((4607182418800017408 : UInt64)).toInt64 &&& (9218868437227405312 : Int64)) >>> ((52 : Int32).toInt64 &&& 63))), ss, uu, uu] [(.long ((4607182418800017408 : UInt64)).toInt64)])) rfl (hb hby d_jdk_29_method_22_code_35)
  have k42 : own_G p e below E0 T26 (mkF m 38 #[vd (4607182418800017408 : UInt64), ss, vj ((4607182418800017408 : UInt64)).toInt64, ss, vj ((((4607182418800017408 : UInt64)).toInt64 &&& (9218868437227405312 : Int64)) >>> ((52 : Int32).toInt64 &&& 63)), ss, vj ((1074 : Int64) - ((((4607182418800017408 : UInt64)).toInt64 &&& (9218868437227405312 : Int64)) >>> ((52 : Int32).toInt64 &&& 63))), ss, uu, uu] [(.long (4503599627370495 : Int64)), (.long ((4607182418800017408 : UInt64)).toInt64)]) := fun tQ kk => k40 tQ (st41 _ kk)
  clear k40 st41
  have k43 : own_G p e below E0 T26 (mkF m 39 #[vd (4607182418800017408 : UInt64), ss, vj ((4607182418800017408 : UInt64)).toInt64, ss, vj ((((4607182418800017408 : UInt64)).toInt64 &&& (9218868437227405312 : Int64)) >>> ((52 : Int32).toInt64 &&& 63)), ss, vj ((1074 : Int64) - ((((4607182418800017408 : UInt64)).toInt64 &&& (9218868437227405312 : Int64)) >>> ((52 : Int32).toInt64 &&& 63))), ss, uu, uu] [(.long (((4607182418800017408 : UInt64)).toInt64 &&& (4503599627370495 : Int64)))]) := by
    intro tQ kk
    refine k42 tQ ?_
    refine XT.land X27.here hx rfl (hb hby d_jdk_29_method_22_code_38) rfl ?_
    exact kk
  clear k42
  have st44 := X27.ldc2Long hx hown (mvT hZ (tw26 hw)) (g := (mkF m 39 #[vd (4607182418800017408 : UInt64), ss, vj ((4607182418800017408 : UInt64)).toInt64, ss, vj ((((4607182418800017408 : UInt64)).toInt64 &&& (9218868437227405312 : Int64)) >>> ((52 : Int32).toInt64 &&& 63)), ss, vj ((1074 : Int64) - ((((4607182418800017408 : UInt64)).toInt64 &&& (9218868437227405312 : Int64)) >>> ((52 : Int32).toInt64 &&& 63))), ss, uu, uu] [(.long (((4607182418800017408 : UInt64)).toInt64 &&& (4503599627370495 : Int64)))])) rfl (hb hby d_jdk_29_method_22_code_39)
  have k45 : own_G p e below E0 T26 (mkF m 42 #[vd (4607182418800017408 : UInt64), ss, vj ((4607182418800017408 : UInt64)).toInt64, ss, vj ((((4607182418800017408 : UInt64)).toInt64 &&& (9218868437227405312 : Int64)) >>> ((52 : Int32).toInt64 &&& 63)), ss, vj ((1074 : Int64) - ((((4607182418800017408 : UInt64)).toInt64 &&& (9218868437227405312 : Int64)) >>> ((52 : Int32).toInt64 &&& 63))), ss, uu, uu] [(.long (4503599627370496 : Int64)), (.long (((4607182418800017408 : UInt64)).toInt64 &&& (4503599627370495 : Int64)))]) := fun tQ kk => k43 tQ (st44 _ kk)
  clear k43 st44
  have k46 : own_G p e below E0 T26 (mkF m 66 #[vd (4607182418800017408 : UInt64), ss, vj ((4607182418800017408 : UInt64)).toInt64, ss, vj ((((4607182418800017408 : UInt64)).toInt64 &&& (9218868437227405312 : Int64)) >>> ((52 : Int32).toInt64 &&& 63)), ss, vj ((1074 : Int64) - ((((4607182418800017408 : UInt64)).toInt64 &&& (9218868437227405312 : Int64)) >>> ((52 : Int32).toInt64 &&& 63))), ss, vj ((((4607182418800017408 : UInt64)).toInt64 &&& (4503599627370495 : Int64)) ||| (4503599627370496 : Int64)), ss] [(.long (((((((4607182418800017408 : UInt64)).toInt64 &&& (4503599627370495 : Int64)) ||| (4503599627370496 : Int64)) >>> ((((1074 : Int64) - ((((4607182418800017408 : UInt64)).toInt64 &&& (9218868437227405312 : Int64)) >>> ((52 : Int32).toInt64 &&& 63))).toInt32).toInt64 &&& 63)) + (1 : Int64)) >>> ((1 : Int32).toInt64 &&& 63)))]) := by
    intro tQ kk
    refine k45 tQ ?_
    refine XT.lor X27.here hx rfl (hb hby d_jdk_29_method_22_code_42) rfl ?_
    refine XT.lstore X27.here hx rfl (hb hby d_jdk_29_method_22_code_43) rfl (l' := #[vd (4607182418800017408 : UInt64), ss, vj ((4607182418800017408 : UInt64)).toInt64, ss, vj ((((4607182418800017408 : UInt64)).toInt64 &&& (9218868437227405312 : Int64)) >>> ((52 : Int32).toInt64 &&& 63)), ss, vj ((1074 : Int64) - ((((4607182418800017408 : UInt64)).toInt64 &&& (9218868437227405312 : Int64)) >>> ((52 : Int32).toInt64 &&& 63))), ss, vj ((((4607182418800017408 : UInt64)).toInt64 &&& (4503599627370495 : Int64)) ||| (4503599627370496 : Int64)), ss]) rfl ?_
    refine XT.lloadN X27.here hx rfl (hb hby d_jdk_29_method_22_code_45) rfl ?_
    refine XT.lconst X27.here hx rfl (hb hby d_jdk_29_method_22_code_46) ?_
    show Steps p.tables e below (T26.setTop (mkF m 47 #[vd (4607182418800017408 : UInt64), ss, vj ((4607182418800017408 : UInt64)).toInt64, ss, vj ((((4607182418800017408 : UInt64)).toInt64 &&& (9218868437227405312 : Int64)) >>> ((52 : Int32).toInt64 &&& 63)), ss, vj ((1074 : Int64) - ((((4607182418800017408 : UInt64)).toInt64 &&& (9218868437227405312 : Int64)) >>> ((52 : Int32).toInt64 &&& 63))), ss, vj ((((4607182418800017408 : UInt64)).toInt64 &&& (4503599627370495 : Int64)) ||| (4503599627370496 : Int64)), ss] [(.long (0 : Int64)), (.long ((4607182418800017408 : UInt64)).toInt64)])) tQ
    refine XT.lcmp X27.here hx rfl (hb hby d_jdk_29_method_22_code_47) rfl ?_
    refine XS.ifYes X27.here hx rfl (pc0 := 48) (pc' := 56) rfl (hb hby d_jdk_29_method_22_code_48) rfl (own_l_geY (by decide)) (by decide) (by decide) ?_
    refine XT.lload X27.here hx rfl (hb hby d_jdk_29_method_22_code_56) rfl ?_
    refine XT.lload X27.here hx rfl (hb hby d_jdk_29_method_22_code_58) rfl ?_
    show Steps p.tables e below (T26.setTop (mkF m 60 #[vd (4607182418800017408 : UInt64), ss, vj ((4607182418800017408 : UInt64)).toInt64, ss, vj ((((4607182418800017408 : UInt64)).toInt64 &&& (9218868437227405312 : Int64)) >>> ((52 : Int32).toInt64 &&& 63)), ss, vj ((1074 : Int64) - ((((4607182418800017408 : UInt64)).toInt64 &&& (9218868437227405312 : Int64)) >>> ((52 : Int32).toInt64 &&& 63))), ss, vj ((((4607182418800017408 : UInt64)).toInt64 &&& (4503599627370495 : Int64)) ||| (4503599627370496 : Int64)), ss] [(.long ((1074 : Int64) - ((((4607182418800017408 : UInt64)).toInt64 &&& (9218868437227405312 : Int64)) >>> ((52 : Int32).toInt64 &&& 63)))), (.long ((((4607182418800017408 : UInt64)).toInt64 &&& (4503599627370495 : Int64)) ||| (4503599627370496 : Int64)))])) tQ
    refine XT.l2i X27.here hx rfl (hb hby d_jdk_29_method_22_code_60) rfl ?_
    refine XT.lshr X27.here hx rfl (hb hby d_jdk_29_method_22_code_61) rfl ?_
    refine XT.lconst X27.here hx rfl (hb hby d_jdk_29_method_22_code_62) ?_
    refine XT.ladd X27.here hx rfl (hb hby d_jdk_29_method_22_code_63) rfl ?_
    show Steps p.tables e below (T26.setTop (mkF m 64 #[vd (4607182418800017408 : UInt64), ss, vj ((4607182418800017408 : UInt64)).toInt64, ss, vj ((((4607182418800017408 : UInt64)).toInt64 &&& (9218868437227405312 : Int64)) >>> ((52 : Int32).toInt64 &&& 63)), ss, vj ((1074 : Int64) - ((((4607182418800017408 : UInt64)).toInt64 &&& (9218868437227405312 : Int64)) >>> ((52 : Int32).toInt64 &&& 63))), ss, vj ((((4607182418800017408 : UInt64)).toInt64 &&& (4503599627370495 : Int64)) ||| (4503599627370496 : Int64)), ss] [(.long ((((((4607182418800017408 : UInt64)).toInt64 &&& (4503599627370495 : Int64)) ||| (4503599627370496 : Int64)) >>> ((((1074 : Int64) - ((((4607182418800017408 : UInt64)).toInt64 &&& (9218868437227405312 : Int64)) >>> ((52 : Int32).toInt64 &&& 63))).toInt32).toInt64 &&& 63)) + (1 : Int64)))])) tQ
    refine XS.iconst X27.here hx rfl (hb hby d_jdk_29_method_22_code_64) ?_
    refine XT.lshr X27.here hx rfl (hb hby d_jdk_29_method_22_code_65) rfl ?_
    exact kk
  clear k45
  obtain ⟨fs, hr, hrun, hended, hW, hsame⟩ := X27.leave (v := some (.long (((((((4607182418800017408 : UInt64)).toInt64 &&& (4503599627370495 : Int64)) ||| (4503599627370496 : Int64)) >>> ((((1074 : Int64) - ((((4607182418800017408 : UInt64)).toInt64 &&& (9218868437227405312 : Int64)) >>> ((52 : Int32).toInt64 &&& 63))).toInt32).toInt64 &&& 63)) + (1 : Int64)) >>> ((1 : Int32).toInt64 &&& 63)))) (fun h => by rw [Bd.returns] at h; cases h)
  have hrun0 := k46 _ (retOut X27 hx Bd.returns (t := .long) rfl (Or.inr (Or.inl ⟨rfl, rfl, _, rfl⟩)) (hb hby d_jdk_29_method_22_code_66) hr)
  subst hE0
  refine ⟨_, _, hrun0, hrun, hended, _, _, rfl, ?_, ⟨_, rfl⟩, hW, hsame.mono (by decide) (by decide)⟩
  show QrmRD50 Z  h0 n0 _ T26.heap _
  rw [e28]
  exact ⟨congrArg (fun z => some (Value.long z)) (by decide), N0, rfl⟩
def QrmRD100 (Z : State)  (h0 : Heap) (n0 : Nat) (vQ : Option Value) (hQ : Heap) (LQ : List Loc) : Prop := vQ = some (.long (2 : Int64)) ∧ Fr n0 LQ ∧ hQ = h0
theorem ef_rmRD100 (m : MethodId)  : entryFrame m #[(.double (4611686018427387904 : UInt64))] 10 = mkF m 0 #[vd (4611686018427387904 : UInt64), ss, uu, uu, uu, uu, uu, uu, uu, uu] [] := by first | (simp [entryFrame, mkF, argsToLocals, Value.category]; done) | rfl
set_option maxRecDepth 65536 in
set_option maxHeartbeats 40000000 in
theorem rmRD100 (l : Launch) (Z : State) (a0 : Array Value) (hw : ∀ d ∈ tables_1, d.before a0 Z = true) (ws : List Jvm.Cond)  (h0 : Heap) (n0 : Nat) (Z0 : n0 ≤ h0.size)  :
    MetFree l mn2 (head1 (Jvm.Cond.code mn2 jdk_29_method_22_code 10 (some .long) :: ws) ({ frames := 1, cells := 0, slots := 0, locals := 15 } : Room)) (fun aA U => aA = #[(.double (4611686018427387904 : UInt64))] ∧ Z.Warmed39 U.vm ∧ U.heap = h0) (fun _ _ _ _ _ => True) (fun _ U o U' => ∃ vR LR, o = .returned vR ∧ QrmRD100 Z  h0 n0 vR U'.heap LR ∧ FrameEnd U o U' LR ({ frames := 1, cells := 0, slots := 0, locals := 15 } : Room).cells ({ frames := 1, cells := 0, slots := 0, locals := 15 } : Room).slots) := by
  refine MetFree.of_bodySF (Jvm.Free.JP.mathPlain rfl (by decide +kernel)) hisR ?_
  intro p e s m args below meth c s₁ Bd hml0 hPre hKk
  obtain ⟨rfl, hZ, hh⟩ := hPre
  have hx := Bd.exec
  have hby := Bd.bytes
  have hml : c.maxLocals = 10 := hml0
  have hown : s.vm.findClass "java/lang/Math" = some m.cls := findClass_of_methodNamed Bd.named
  have hnm := (name_of_methodNamed Bd.named Bd.method).1
  have X0 : Stand p l e ({ frames := 1, cells := 0, slots := 0, locals := 15 } : Room) s m #[(.double (4611686018427387904 : UInt64))] below meth c s₁ [] 0 0 := Stand.of_body Bd
  have e0 : s₁.heap = h0 := by rw [← hh, Bd.state]; rfl
  have N0 := Fr.nil n0
  obtain ⟨E0, hE0⟩ : ∃ zE : State, zE = s₁.setTop (entryFrame m #[(.double (4611686018427387904 : UInt64))] 10) := ⟨_, rfl⟩
  have k0 : own_G p e below E0 s₁ (mkF m 0 #[vd (4611686018427387904 : UInt64), ss, uu, uu, uu, uu, uu, uu, uu, uu] []) := fun tz kz => hE0 ▸ castTop (ef_rmRD100 m ) kz
  have k47 : own_G p e below E0 s₁ (mkF m 1 #[vd (4611686018427387904 : UInt64), ss, uu, uu, uu, uu, uu, uu, uu, uu] [(.double (4611686018427387904 : UInt64))]) := by
    intro tQ kk
    refine k0 tQ ?_
    refine XS.dloadN X0.here hx rfl (hb hby d_jdk_29_method_22_code_0) rfl ?_
    exact kk
  clear k0
  obtain ⟨T48, X49, e50, st51⟩ := own_rawBits X0 hx hZ hown (tw18 hw) (tw19 hw) (tw20 hw) (tw21 hw) e0 (x := (4611686018427387904 : UInt64)) (W := 0) (g := (mkF m 1 #[vd (4611686018427387904 : UInt64), ss, uu, uu, uu, uu, uu, uu, uu, uu] [(.double (4611686018427387904 : UInt64))])) rfl (by rw [hml]; rfl) (rest := []) rfl (by show 2 * 0 + _ ≤ _; exact Nat.le_of_eq rfl) (hb hby d_jdk_29_method_22_code_1) (by decide) (by decide)
  have k52 : own_G p e below E0 T48 (mkF m 4 #[vd (4611686018427387904 : UInt64), ss, uu, uu, uu, uu, uu, uu, uu, uu] [(.long ((4611686018427387904 : UInt64)).toInt64)]) := fun tQ kk => k47 tQ (st51 _ kk)
  clear k47 st51
  have k53 : own_G p e below E0 T48 (mkF m 6 #[vd (4611686018427387904 : UInt64), ss, vj ((4611686018427387904 : UInt64)).toInt64, ss, uu, uu, uu, uu, uu, uu] [(.long ((4611686018427387904 : UInt64)).toInt64)]) := by
    intro tQ kk
    refine k52 tQ ?_
    refine XT.lstoreN X49.here hx rfl (hb hby d_jdk_29_method_22_code_4) rfl (l' := #[vd (4611686018427387904 : UInt64), ss, vj ((4611686018427387904 : UInt64)).toInt64, ss, uu, uu, uu, uu, uu, uu]) rfl ?_
    refine XT.lloadN X49.here hx rfl (hb hby d_jdk_29_method_22_code_5) rfl ?_
    exact kk
  clear k52
  have st54 := X49.ldc2Long hx hown (mvT hZ (tw22 hw)) (g := (mkF m 6 #[vd (4611686018427387904 : UInt64), ss, vj ((4611686018427387904 : UInt64)).toInt64, ss, uu, uu, uu, uu, uu, uu] [(.long ((4611686018427387904 : UInt64)).toInt64)])) rfl (hb hby d_jdk_29_method_22_code_6)
  have k55 : own_G p e below E0 T48 (mkF m 9 #[vd (4611686018427387904 : UInt64), ss, vj ((4611686018427387904 : UInt64)).toInt64, ss, uu, uu, uu, uu, uu, uu] [(.long (9218868437227405312 : Int64)), (.long ((4611686018427387904 : UInt64)).toInt64)]) := fun tQ kk => k53 tQ (st54 _ kk)
  clear k53 st54
  have k56 : own_G p e below E0 T48 (mkF m 15 #[vd (4611686018427387904 : UInt64), ss, vj ((4611686018427387904 : UInt64)).toInt64, ss, vj ((((4611686018427387904 : UInt64)).toInt64 &&& (9218868437227405312 : Int64)) >>> ((52 : Int32).toInt64 &&& 63)), ss, uu, uu, uu, uu] []) := by
    intro tQ kk
    refine k55 tQ ?_
    refine XT.land X49.here hx rfl (hb hby d_jdk_29_method_22_code_9) rfl ?_
    refine XS.bipush X49.here hx rfl (hb hby d_jdk_29_method_22_code_10) ?_
    refine XT.lshr X49.here hx rfl (hb hby d_jdk_29_method_22_code_12) rfl ?_
    refine XT.lstore X49.here hx rfl (hb hby d_jdk_29_method_22_code_13) rfl (l' := #[vd (4611686018427387904 : UInt64), ss, vj ((4611686018427387904 : UInt64)).toInt64, ss, vj ((((4611686018427387904 : UInt64)).toInt64 &&& (9218868437227405312 : Int64)) >>> ((52 : Int32).toInt64 &&& 63)), ss, uu, uu, uu, uu]) rfl ?_
    exact kk
  clear k55
  have st57 := X49.ldc2Long hx hown (mvT hZ (tw23 hw)) (g := (mkF m 15 #[vd (4611686018427387904 : UInt64), ss, vj ((4611686018427387904 : UInt64)).toInt64, ss, vj ((((4611686018427387904 : UInt64)).toInt64 &&& (9218868437227405312 : Int64)) >>> ((52 : Int32).toInt64 &&& 63)), ss, uu, uu, uu, uu] [])) rfl (hb hby d_jdk_29_method_22_code_15)
  have k58 : own_G p e below E0 T48 (mkF m 18 #[vd (4611686018427387904 : UInt64), ss, vj ((4611686018427387904 : UInt64)).toInt64, ss, vj ((((4611686018427387904 : UInt64)).toInt64 &&& (9218868437227405312 : Int64)) >>> ((52 : Int32).toInt64 &&& 63)), ss, uu, uu, uu, uu] [(.long (1074 : Int64))]) := fun tQ kk => k56 tQ (st57 _ kk)
  clear k56 st57
  have k59 : own_G p e below E0 T48 (mkF m 25 #[vd (4611686018427387904 : UInt64), ss, vj ((4611686018427387904 : UInt64)).toInt64, ss, vj ((((4611686018427387904 : UInt64)).toInt64 &&& (9218868437227405312 : Int64)) >>> ((52 : Int32).toInt64 &&& 63)), ss, vj ((1074 : Int64) - ((((4611686018427387904 : UInt64)).toInt64 &&& (9218868437227405312 : Int64)) >>> ((52 : Int32).toInt64 &&& 63))), ss, uu, uu] [(.long ((1074 : Int64) - ((((4611686018427387904 : UInt64)).toInt64 &&& (9218868437227405312 : Int64)) >>> ((52 : Int32).toInt64 &&& 63))))]) := by
    intro tQ kk
    refine k58 tQ ?_
    refine XT.lload X49.here hx rfl (hb hby d_jdk_29_method_22_code_18) rfl ?_
    refine XT.lsub X49.here hx rfl (hb hby d_jdk_29_method_22_code_20) rfl ?_
    refine XT.lstore X49.here hx rfl (hb hby d_jdk_29_method_22_code_21) rfl (l' := #[vd (4611686018427387904 : UInt64), ss, vj ((4611686018427387904 : UInt64)).toInt64, ss, vj ((((4611686018427387904 : UInt64)).toInt64 &&& (9218868437227405312 : Int64)) >>> ((52 : Int32).toInt64 &&& 63)), ss, vj ((1074 : Int64) - ((((4611686018427387904 : UInt64)).toInt64 &&& (9218868437227405312 : Int64)) >>> ((52 : Int32).toInt64 &&& 63))), ss, uu, uu]) rfl ?_
    refine XT.lload X49.here hx rfl (hb hby d_jdk_29_method_22_code_23) rfl ?_
    exact kk
  clear k58
  have st60 := X49.ldc2Long hx hown (mvT hZ (tw24 hw)) (g := (mkF m 25 #[vd (4611686018427387904 : UInt64), ss, vj ((4611686018427387904 : UInt64)).toInt64, ss, vj ((((4611686018427387904 : UInt64)).toInt64 &&& (9218868437227405312 : Int64)) >>> ((52 : Int32).toInt64 &&& 63)), ss, vj ((1074 : Int64) - ((((4611686018427387904 : UInt64)).toInt64 &&& (9218868437227405312 : Int64)) >>> ((52 : Int32).toInt64 &&& 63))), ss, uu, uu] [(.long ((1074 : Int64) - ((((4611686018427387904 : UInt64)).toInt64 &&& (9218868437227405312 : Int64)) >>> ((52 : Int32).toInt64 &&& 63))))])) rfl (hb hby d_jdk_29_method_22_code_25)
  have k61 : own_G p e below E0 T48 (mkF m 28 #[vd (4611686018427387904 : UInt64), ss, vj ((4611686018427387904 : UInt64)).toInt64, ss, vj ((((4611686018427387904 : UInt64)).toInt64 &&& (9218868437227405312 : Int64)) >>> ((52 : Int32).toInt64 &&& 63)), ss, vj ((1074 : Int64) - ((((4611686018427387904 : UInt64)).toInt64 &&& (9218868437227405312 : Int64)) >>> ((52 : Int32).toInt64 &&& 63))), ss, uu, uu] [(.long (-64 : Int64)), (.long ((1074 : Int64) - ((((4611686018427387904 : UInt64)).toInt64 &&& (9218868437227405312 : Int64)) >>> ((52 : Int32).toInt64 &&& 63))))]) := fun tQ kk => k59 tQ (st60 _ kk)
  clear k59 st60
  have k62 : own_G p e below E0 T48 (mkF m 35 #[vd (4611686018427387904 : UInt64), ss, vj ((4611686018427387904 : UInt64)).toInt64, ss, vj ((((4611686018427387904 : UInt64)).toInt64 &&& (9218868437227405312 : Int64)) >>> ((52 : Int32).toInt64 &&& 63)), ss, vj ((1074 : Int64) - ((((4611686018427387904 : UInt64)).toInt64 &&& (9218868437227405312 : Int64)) >>> ((52 : Int32).toInt64 &&& 63))), ss, uu, uu] [(.long ((4611686018427387904 : UInt64)).toInt64)]) := by
    intro tQ kk
    refine k61 tQ ?_
    refine XT.land X49.here hx rfl (hb hby d_jdk_29_method_22_code_28) rfl ?_
    refine XT.lconst X49.here hx rfl (hb hby d_jdk_29_method_22_code_29) ?_
    refine XT.lcmp X49.here hx rfl (hb hby d_jdk_29_method_22_code_30) rfl ?_
    refine XS.ifNo X49.here hx rfl (hb hby d_jdk_29_method_22_code_31) rfl (own_l_neN (by decide)) ?_
    show Steps p.tables e below (T48.setTop (mkF m 34 #[vd (4611686018427387904 : UInt64), ss, vj ((4611686018427387904 : UInt64)).toInt64, ss, vj ((((4611686018427387904 : UInt64)).toInt64 &&& (9218868437227405312 : Int64)) >>> ((52 : Int32).toInt64 &&& 63)), ss, vj ((1074 : Int64) - ((((4611686018427387904 : UInt64)).toInt64 &&& (9218868437227405312 : Int64)) >>> ((52 : Int32).toInt64 &&& 63))), ss, uu, uu] [])) tQ
    refine XT.lloadN X49.here hx rfl (hb hby d_jdk_29_method_22_code_34) rfl ?_
    exact kk
  clear k61
  have st63 := X49.ldc2Long hx hown (mvT hZ (tw25 hw)) (g := (mkF m 35 #[vd (4611686018427387904 : UInt64), ss, vj ((4611686018427387904 : UInt64)).toInt64, ss, vj ((((4611686018427387904 : UInt64)).toInt64 &&& (9218868437227405312 : Int64)) >>> ((52 : Int32).toInt64 &&& 63)), ss, vj ((1074 : Int64) - ((((4611686018427387904 : UInt64)).toInt64 &&& (9218868437227405312 : Int64)) >>> ((52 : Int32).toInt64 &&& 63))), ss, uu, uu] [(.long ((4611686018427387904 : UInt64)).toInt64)])) rfl (hb hby d_jdk_29_method_22_code_35)
  have k64 : own_G p e below E0 T48 (mkF m 38 #[vd (4611686018427387904 : UInt64), ss, vj ((4611686018427387904 : UInt64)).toInt64, ss, vj ((((4611686018427387904 : UInt64)).toInt64 &&& (9218868437227405312 : Int64)) >>> ((52 : Int32).toInt64 &&& 63)), ss, vj ((1074 : Int64) - ((((4611686018427387904 : UInt64)).toInt64 &&& (9218868437227405312 : Int64)) >>> ((52 : Int32).toInt64 &&& 63))), ss, uu, uu] [(.long (4503599627370495 : Int64)), (.long ((4611686018427387904 : UInt64)).toInt64)]) := fun tQ kk => k62 tQ (st63 _ kk)
  clear k62 st63
  have k65 : own_G p e below E0 T48 (mkF m 39 #[vd (4611686018427387904 : UInt64), ss, vj ((4611686018427387904 : UInt64)).toInt64, ss, vj ((((4611686018427387904 : UInt64)).toInt64 &&& (9218868437227405312 : Int64)) >>> ((52 : Int32).toInt64 &&& 63)), ss, vj ((1074 : Int64) - ((((4611686018427387904 : UInt64)).toInt64 &&& (9218868437227405312 : Int64)) >>> ((52 : Int32).toInt64 &&& 63))), ss, uu, uu] [(.long (((4611686018427387904 : UInt64)).toInt64 &&& (4503599627370495 : Int64)))]) := by
    intro tQ kk
    refine k64 tQ ?_
    refine XT.land X49.here hx rfl (hb hby d_jdk_29_method_22_code_38) rfl ?_
    exact kk
  clear k64
  have st66 := X49.ldc2Long hx hown (mvT hZ (tw26 hw)) (g := (mkF m 39 #[vd (4611686018427387904 : UInt64), ss, vj ((4611686018427387904 : UInt64)).toInt64, ss, vj ((((4611686018427387904 : UInt64)).toInt64 &&& (9218868437227405312 : Int64)) >>> ((52 : Int32).toInt64 &&& 63)), ss, vj ((1074 : Int64) - ((((4611686018427387904 : UInt64)).toInt64 &&& (9218868437227405312 : Int64)) >>> ((52 : Int32).toInt64 &&& 63))), ss, uu, uu] [(.long (((4611686018427387904 : UInt64)).toInt64 &&& (4503599627370495 : Int64)))])) rfl (hb hby d_jdk_29_method_22_code_39)
  have k67 : own_G p e below E0 T48 (mkF m 42 #[vd (4611686018427387904 : UInt64), ss, vj ((4611686018427387904 : UInt64)).toInt64, ss, vj ((((4611686018427387904 : UInt64)).toInt64 &&& (9218868437227405312 : Int64)) >>> ((52 : Int32).toInt64 &&& 63)), ss, vj ((1074 : Int64) - ((((4611686018427387904 : UInt64)).toInt64 &&& (9218868437227405312 : Int64)) >>> ((52 : Int32).toInt64 &&& 63))), ss, uu, uu] [(.long (4503599627370496 : Int64)), (.long (((4611686018427387904 : UInt64)).toInt64 &&& (4503599627370495 : Int64)))]) := fun tQ kk => k65 tQ (st66 _ kk)
  clear k65 st66
  have k68 : own_G p e below E0 T48 (mkF m 66 #[vd (4611686018427387904 : UInt64), ss, vj ((4611686018427387904 : UInt64)).toInt64, ss, vj ((((4611686018427387904 : UInt64)).toInt64 &&& (9218868437227405312 : Int64)) >>> ((52 : Int32).toInt64 &&& 63)), ss, vj ((1074 : Int64) - ((((4611686018427387904 : UInt64)).toInt64 &&& (9218868437227405312 : Int64)) >>> ((52 : Int32).toInt64 &&& 63))), ss, vj ((((4611686018427387904 : UInt64)).toInt64 &&& (4503599627370495 : Int64)) ||| (4503599627370496 : Int64)), ss] [(.long (((((((4611686018427387904 : UInt64)).toInt64 &&& (4503599627370495 : Int64)) ||| (4503599627370496 : Int64)) >>> ((((1074 : Int64) - ((((4611686018427387904 : UInt64)).toInt64 &&& (9218868437227405312 : Int64)) >>> ((52 : Int32).toInt64 &&& 63))).toInt32).toInt64 &&& 63)) + (1 : Int64)) >>> ((1 : Int32).toInt64 &&& 63)))]) := by
    intro tQ kk
    refine k67 tQ ?_
    refine XT.lor X49.here hx rfl (hb hby d_jdk_29_method_22_code_42) rfl ?_
    refine XT.lstore X49.here hx rfl (hb hby d_jdk_29_method_22_code_43) rfl (l' := #[vd (4611686018427387904 : UInt64), ss, vj ((4611686018427387904 : UInt64)).toInt64, ss, vj ((((4611686018427387904 : UInt64)).toInt64 &&& (9218868437227405312 : Int64)) >>> ((52 : Int32).toInt64 &&& 63)), ss, vj ((1074 : Int64) - ((((4611686018427387904 : UInt64)).toInt64 &&& (9218868437227405312 : Int64)) >>> ((52 : Int32).toInt64 &&& 63))), ss, vj ((((4611686018427387904 : UInt64)).toInt64 &&& (4503599627370495 : Int64)) ||| (4503599627370496 : Int64)), ss]) rfl ?_
    refine XT.lloadN X49.here hx rfl (hb hby d_jdk_29_method_22_code_45) rfl ?_
    refine XT.lconst X49.here hx rfl (hb hby d_jdk_29_method_22_code_46) ?_
    show Steps p.tables e below (T48.setTop (mkF m 47 #[vd (4611686018427387904 : UInt64), ss, vj ((4611686018427387904 : UInt64)).toInt64, ss, vj ((((4611686018427387904 : UInt64)).toInt64 &&& (9218868437227405312 : Int64)) >>> ((52 : Int32).toInt64 &&& 63)), ss, vj ((1074 : Int64) - ((((4611686018427387904 : UInt64)).toInt64 &&& (9218868437227405312 : Int64)) >>> ((52 : Int32).toInt64 &&& 63))), ss, vj ((((4611686018427387904 : UInt64)).toInt64 &&& (4503599627370495 : Int64)) ||| (4503599627370496 : Int64)), ss] [(.long (0 : Int64)), (.long ((4611686018427387904 : UInt64)).toInt64)])) tQ
    refine XT.lcmp X49.here hx rfl (hb hby d_jdk_29_method_22_code_47) rfl ?_
    refine XS.ifYes X49.here hx rfl (pc0 := 48) (pc' := 56) rfl (hb hby d_jdk_29_method_22_code_48) rfl (own_l_geY (by decide)) (by decide) (by decide) ?_
    refine XT.lload X49.here hx rfl (hb hby d_jdk_29_method_22_code_56) rfl ?_
    refine XT.lload X49.here hx rfl (hb hby d_jdk_29_method_22_code_58) rfl ?_
    show Steps p.tables e below (T48.setTop (mkF m 60 #[vd (4611686018427387904 : UInt64), ss, vj ((4611686018427387904 : UInt64)).toInt64, ss, vj ((((4611686018427387904 : UInt64)).toInt64 &&& (9218868437227405312 : Int64)) >>> ((52 : Int32).toInt64 &&& 63)), ss, vj ((1074 : Int64) - ((((4611686018427387904 : UInt64)).toInt64 &&& (9218868437227405312 : Int64)) >>> ((52 : Int32).toInt64 &&& 63))), ss, vj ((((4611686018427387904 : UInt64)).toInt64 &&& (4503599627370495 : Int64)) ||| (4503599627370496 : Int64)), ss] [(.long ((1074 : Int64) - ((((4611686018427387904 : UInt64)).toInt64 &&& (9218868437227405312 : Int64)) >>> ((52 : Int32).toInt64 &&& 63)))), (.long ((((4611686018427387904 : UInt64)).toInt64 &&& (4503599627370495 : Int64)) ||| (4503599627370496 : Int64)))])) tQ
    refine XT.l2i X49.here hx rfl (hb hby d_jdk_29_method_22_code_60) rfl ?_
    refine XT.lshr X49.here hx rfl (hb hby d_jdk_29_method_22_code_61) rfl ?_
    refine XT.lconst X49.here hx rfl (hb hby d_jdk_29_method_22_code_62) ?_
    refine XT.ladd X49.here hx rfl (hb hby d_jdk_29_method_22_code_63) rfl ?_
    show Steps p.tables e below (T48.setTop (mkF m 64 #[vd (4611686018427387904 : UInt64), ss, vj ((4611686018427387904 : UInt64)).toInt64, ss, vj ((((4611686018427387904 : UInt64)).toInt64 &&& (9218868437227405312 : Int64)) >>> ((52 : Int32).toInt64 &&& 63)), ss, vj ((1074 : Int64) - ((((4611686018427387904 : UInt64)).toInt64 &&& (9218868437227405312 : Int64)) >>> ((52 : Int32).toInt64 &&& 63))), ss, vj ((((4611686018427387904 : UInt64)).toInt64 &&& (4503599627370495 : Int64)) ||| (4503599627370496 : Int64)), ss] [(.long ((((((4611686018427387904 : UInt64)).toInt64 &&& (4503599627370495 : Int64)) ||| (4503599627370496 : Int64)) >>> ((((1074 : Int64) - ((((4611686018427387904 : UInt64)).toInt64 &&& (9218868437227405312 : Int64)) >>> ((52 : Int32).toInt64 &&& 63))).toInt32).toInt64 &&& 63)) + (1 : Int64)))])) tQ
    refine XS.iconst X49.here hx rfl (hb hby d_jdk_29_method_22_code_64) ?_
    refine XT.lshr X49.here hx rfl (hb hby d_jdk_29_method_22_code_65) rfl ?_
    exact kk
  clear k67
  obtain ⟨fs, hr, hrun, hended, hW, hsame⟩ := X49.leave (v := some (.long (((((((4611686018427387904 : UInt64)).toInt64 &&& (4503599627370495 : Int64)) ||| (4503599627370496 : Int64)) >>> ((((1074 : Int64) - ((((4611686018427387904 : UInt64)).toInt64 &&& (9218868437227405312 : Int64)) >>> ((52 : Int32).toInt64 &&& 63))).toInt32).toInt64 &&& 63)) + (1 : Int64)) >>> ((1 : Int32).toInt64 &&& 63)))) (fun h => by rw [Bd.returns] at h; cases h)
  have hrun0 := k68 _ (retOut X49 hx Bd.returns (t := .long) rfl (Or.inr (Or.inl ⟨rfl, rfl, _, rfl⟩)) (hb hby d_jdk_29_method_22_code_66) hr)
  subst hE0
  refine ⟨_, _, hrun0, hrun, hended, _, _, rfl, ?_, ⟨_, rfl⟩, hW, hsame.mono (by decide) (by decide)⟩
  show QrmRD100 Z  h0 n0 _ T48.heap _
  rw [e50]
  exact ⟨congrArg (fun z => some (Value.long z)) (by decide), N0, rfl⟩
def QrmRD150 (Z : State)  (h0 : Heap) (n0 : Nat) (vQ : Option Value) (hQ : Heap) (LQ : List Loc) : Prop := vQ = some (.long (3 : Int64)) ∧ Fr n0 LQ ∧ hQ = h0
theorem ef_rmRD150 (m : MethodId)  : entryFrame m #[(.double (4613937818241073152 : UInt64))] 10 = mkF m 0 #[vd (4613937818241073152 : UInt64), ss, uu, uu, uu, uu, uu, uu, uu, uu] [] := by first | (simp [entryFrame, mkF, argsToLocals, Value.category]; done) | rfl
set_option maxRecDepth 65536 in
set_option maxHeartbeats 40000000 in
theorem rmRD150 (l : Launch) (Z : State) (a0 : Array Value) (hw : ∀ d ∈ tables_1, d.before a0 Z = true) (ws : List Jvm.Cond)  (h0 : Heap) (n0 : Nat) (Z0 : n0 ≤ h0.size)  :
    MetFree l mn2 (head1 (Jvm.Cond.code mn2 jdk_29_method_22_code 10 (some .long) :: ws) ({ frames := 1, cells := 0, slots := 0, locals := 15 } : Room)) (fun aA U => aA = #[(.double (4613937818241073152 : UInt64))] ∧ Z.Warmed39 U.vm ∧ U.heap = h0) (fun _ _ _ _ _ => True) (fun _ U o U' => ∃ vR LR, o = .returned vR ∧ QrmRD150 Z  h0 n0 vR U'.heap LR ∧ FrameEnd U o U' LR ({ frames := 1, cells := 0, slots := 0, locals := 15 } : Room).cells ({ frames := 1, cells := 0, slots := 0, locals := 15 } : Room).slots) := by
  refine MetFree.of_bodySF (Jvm.Free.JP.mathPlain rfl (by decide +kernel)) hisR ?_
  intro p e s m args below meth c s₁ Bd hml0 hPre hKk
  obtain ⟨rfl, hZ, hh⟩ := hPre
  have hx := Bd.exec
  have hby := Bd.bytes
  have hml : c.maxLocals = 10 := hml0
  have hown : s.vm.findClass "java/lang/Math" = some m.cls := findClass_of_methodNamed Bd.named
  have hnm := (name_of_methodNamed Bd.named Bd.method).1
  have X0 : Stand p l e ({ frames := 1, cells := 0, slots := 0, locals := 15 } : Room) s m #[(.double (4613937818241073152 : UInt64))] below meth c s₁ [] 0 0 := Stand.of_body Bd
  have e0 : s₁.heap = h0 := by rw [← hh, Bd.state]; rfl
  have N0 := Fr.nil n0
  obtain ⟨E0, hE0⟩ : ∃ zE : State, zE = s₁.setTop (entryFrame m #[(.double (4613937818241073152 : UInt64))] 10) := ⟨_, rfl⟩
  have k0 : own_G p e below E0 s₁ (mkF m 0 #[vd (4613937818241073152 : UInt64), ss, uu, uu, uu, uu, uu, uu, uu, uu] []) := fun tz kz => hE0 ▸ castTop (ef_rmRD150 m ) kz
  have k69 : own_G p e below E0 s₁ (mkF m 1 #[vd (4613937818241073152 : UInt64), ss, uu, uu, uu, uu, uu, uu, uu, uu] [(.double (4613937818241073152 : UInt64))]) := by
    intro tQ kk
    refine k0 tQ ?_
    refine XS.dloadN X0.here hx rfl (hb hby d_jdk_29_method_22_code_0) rfl ?_
    exact kk
  clear k0
  obtain ⟨T70, X71, e72, st73⟩ := own_rawBits X0 hx hZ hown (tw18 hw) (tw19 hw) (tw20 hw) (tw21 hw) e0 (x := (4613937818241073152 : UInt64)) (W := 0) (g := (mkF m 1 #[vd (4613937818241073152 : UInt64), ss, uu, uu, uu, uu, uu, uu, uu, uu] [(.double (4613937818241073152 : UInt64))])) rfl (by rw [hml]; rfl) (rest := []) rfl (by show 2 * 0 + _ ≤ _; exact Nat.le_of_eq rfl) (hb hby d_jdk_29_method_22_code_1) (by decide) (by decide)
  have k74 : own_G p e below E0 T70 (mkF m 4 #[vd (4613937818241073152 : UInt64), ss, uu, uu, uu, uu, uu, uu, uu, uu] [(.long ((4613937818241073152 : UInt64)).toInt64)]) := fun tQ kk => k69 tQ (st73 _ kk)
  clear k69 st73
  have k75 : own_G p e below E0 T70 (mkF m 6 #[vd (4613937818241073152 : UInt64), ss, vj ((4613937818241073152 : UInt64)).toInt64, ss, uu, uu, uu, uu, uu, uu] [(.long ((4613937818241073152 : UInt64)).toInt64)]) := by
    intro tQ kk
    refine k74 tQ ?_
    refine XT.lstoreN X71.here hx rfl (hb hby d_jdk_29_method_22_code_4) rfl (l' := #[vd (4613937818241073152 : UInt64), ss, vj ((4613937818241073152 : UInt64)).toInt64, ss, uu, uu, uu, uu, uu, uu]) rfl ?_
    refine XT.lloadN X71.here hx rfl (hb hby d_jdk_29_method_22_code_5) rfl ?_
    exact kk
  clear k74
  have st76 := X71.ldc2Long hx hown (mvT hZ (tw22 hw)) (g := (mkF m 6 #[vd (4613937818241073152 : UInt64), ss, vj ((4613937818241073152 : UInt64)).toInt64, ss, uu, uu, uu, uu, uu, uu] [(.long ((4613937818241073152 : UInt64)).toInt64)])) rfl (hb hby d_jdk_29_method_22_code_6)
  have k77 : own_G p e below E0 T70 (mkF m 9 #[vd (4613937818241073152 : UInt64), ss, vj ((4613937818241073152 : UInt64)).toInt64, ss, uu, uu, uu, uu, uu, uu] [(.long (9218868437227405312 : Int64)), (.long ((4613937818241073152 : UInt64)).toInt64)]) := fun tQ kk => k75 tQ (st76 _ kk)
  clear k75 st76
  have k78 : own_G p e below E0 T70 (mkF m 15 #[vd (4613937818241073152 : UInt64), ss, vj ((4613937818241073152 : UInt64)).toInt64, ss, vj ((((4613937818241073152 : UInt64)).toInt64 &&& (9218868437227405312 : Int64)) >>> ((52 : Int32).toInt64 &&& 63)), ss, uu, uu, uu, uu] []) := by
    intro tQ kk
    refine k77 tQ ?_
    refine XT.land X71.here hx rfl (hb hby d_jdk_29_method_22_code_9) rfl ?_
    refine XS.bipush X71.here hx rfl (hb hby d_jdk_29_method_22_code_10) ?_
    refine XT.lshr X71.here hx rfl (hb hby d_jdk_29_method_22_code_12) rfl ?_
    refine XT.lstore X71.here hx rfl (hb hby d_jdk_29_method_22_code_13) rfl (l' := #[vd (4613937818241073152 : UInt64), ss, vj ((4613937818241073152 : UInt64)).toInt64, ss, vj ((((4613937818241073152 : UInt64)).toInt64 &&& (9218868437227405312 : Int64)) >>> ((52 : Int32).toInt64 &&& 63)), ss, uu, uu, uu, uu]) rfl ?_
    exact kk
  clear k77
  have st79 := X71.ldc2Long hx hown (mvT hZ (tw23 hw)) (g := (mkF m 15 #[vd (4613937818241073152 : UInt64), ss, vj ((4613937818241073152 : UInt64)).toInt64, ss, vj ((((4613937818241073152 : UInt64)).toInt64 &&& (9218868437227405312 : Int64)) >>> ((52 : Int32).toInt64 &&& 63)), ss, uu, uu, uu, uu] [])) rfl (hb hby d_jdk_29_method_22_code_15)
  have k80 : own_G p e below E0 T70 (mkF m 18 #[vd (4613937818241073152 : UInt64), ss, vj ((4613937818241073152 : UInt64)).toInt64, ss, vj ((((4613937818241073152 : UInt64)).toInt64 &&& (9218868437227405312 : Int64)) >>> ((52 : Int32).toInt64 &&& 63)), ss, uu, uu, uu, uu] [(.long (1074 : Int64))]) := fun tQ kk => k78 tQ (st79 _ kk)
  clear k78 st79
  have k81 : own_G p e below E0 T70 (mkF m 25 #[vd (4613937818241073152 : UInt64), ss, vj ((4613937818241073152 : UInt64)).toInt64, ss, vj ((((4613937818241073152 : UInt64)).toInt64 &&& (9218868437227405312 : Int64)) >>> ((52 : Int32).toInt64 &&& 63)), ss, vj ((1074 : Int64) - ((((4613937818241073152 : UInt64)).toInt64 &&& (9218868437227405312 : Int64)) >>> ((52 : Int32).toInt64 &&& 63))), ss, uu, uu] [(.long ((1074 : Int64) - ((((4613937818241073152 : UInt64)).toInt64 &&& (9218868437227405312 : Int64)) >>> ((52 : Int32).toInt64 &&& 63))))]) := by
    intro tQ kk
    refine k80 tQ ?_
    refine XT.lload X71.here hx rfl (hb hby d_jdk_29_method_22_code_18) rfl ?_
    refine XT.lsub X71.here hx rfl (hb hby d_jdk_29_method_22_code_20) rfl ?_
    refine XT.lstore X71.here hx rfl (hb hby d_jdk_29_method_22_code_21) rfl (l' := #[vd (4613937818241073152 : UInt64), ss, vj ((4613937818241073152 : UInt64)).toInt64, ss, vj ((((4613937818241073152 : UInt64)).toInt64 &&& (9218868437227405312 : Int64)) >>> ((52 : Int32).toInt64 &&& 63)), ss, vj ((1074 : Int64) - ((((4613937818241073152 : UInt64)).toInt64 &&& (9218868437227405312 : Int64)) >>> ((52 : Int32).toInt64 &&& 63))), ss, uu, uu]) rfl ?_
    refine XT.lload X71.here hx rfl (hb hby d_jdk_29_method_22_code_23) rfl ?_
    exact kk
  clear k80
  have st82 := X71.ldc2Long hx hown (mvT hZ (tw24 hw)) (g := (mkF m 25 #[vd (4613937818241073152 : UInt64), ss, vj ((4613937818241073152 : UInt64)).toInt64, ss, vj ((((4613937818241073152 : UInt64)).toInt64 &&& (9218868437227405312 : Int64)) >>> ((52 : Int32).toInt64 &&& 63)), ss, vj ((1074 : Int64) - ((((4613937818241073152 : UInt64)).toInt64 &&& (9218868437227405312 : Int64)) >>> ((52 : Int32).toInt64 &&& 63))), ss, uu, uu] [(.long ((1074 : Int64) - ((((4613937818241073152 : UInt64)).toInt64 &&& (9218868437227405312 : Int64)) >>> ((52 : Int32).toInt64 &&& 63))))])) rfl (hb hby d_jdk_29_method_22_code_25)
  have k83 : own_G p e below E0 T70 (mkF m 28 #[vd (4613937818241073152 : UInt64), ss, vj ((4613937818241073152 : UInt64)).toInt64, ss, vj ((((4613937818241073152 : UInt64)).toInt64 &&& (9218868437227405312 : Int64)) >>> ((52 : Int32).toInt64 &&& 63)), ss, vj ((1074 : Int64) - ((((4613937818241073152 : UInt64)).toInt64 &&& (9218868437227405312 : Int64)) >>> ((52 : Int32).toInt64 &&& 63))), ss, uu, uu] [(.long (-64 : Int64)), (.long ((1074 : Int64) - ((((4613937818241073152 : UInt64)).toInt64 &&& (9218868437227405312 : Int64)) >>> ((52 : Int32).toInt64 &&& 63))))]) := fun tQ kk => k81 tQ (st82 _ kk)
  clear k81 st82
  have k84 : own_G p e below E0 T70 (mkF m 35 #[vd (4613937818241073152 : UInt64), ss, vj ((4613937818241073152 : UInt64)).toInt64, ss, vj ((((4613937818241073152 : UInt64)).toInt64 &&& (9218868437227405312 : Int64)) >>> ((52 : Int32).toInt64 &&& 63)), ss, vj ((1074 : Int64) - ((((4613937818241073152 : UInt64)).toInt64 &&& (9218868437227405312 : Int64)) >>> ((52 : Int32).toInt64 &&& 63))), ss, uu, uu] [(.long ((4613937818241073152 : UInt64)).toInt64)]) := by
    intro tQ kk
    refine k83 tQ ?_
    refine XT.land X71.here hx rfl (hb hby d_jdk_29_method_22_code_28) rfl ?_
    refine XT.lconst X71.here hx rfl (hb hby d_jdk_29_method_22_code_29) ?_
    refine XT.lcmp X71.here hx rfl (hb hby d_jdk_29_method_22_code_30) rfl ?_
    refine XS.ifNo X71.here hx rfl (hb hby d_jdk_29_method_22_code_31) rfl (own_l_neN (by decide)) ?_
    show Steps p.tables e below (T70.setTop (mkF m 34 #[vd (4613937818241073152 : UInt64), ss, vj ((4613937818241073152 : UInt64)).toInt64, ss, vj ((((4613937818241073152 : UInt64)).toInt64 &&& (9218868437227405312 : Int64)) >>> ((52 : Int32).toInt64 &&& 63)), ss, vj ((1074 : Int64) - ((((4613937818241073152 : UInt64)).toInt64 &&& (9218868437227405312 : Int64)) >>> ((52 : Int32).toInt64 &&& 63))), ss, uu, uu] [])) tQ
    refine XT.lloadN X71.here hx rfl (hb hby d_jdk_29_method_22_code_34) rfl ?_
    exact kk
  clear k83
  have st85 := X71.ldc2Long hx hown (mvT hZ (tw25 hw)) (g := (mkF m 35 #[vd (4613937818241073152 : UInt64), ss, vj ((4613937818241073152 : UInt64)).toInt64, ss, vj ((((4613937818241073152 : UInt64)).toInt64 &&& (9218868437227405312 : Int64)) >>> ((52 : Int32).toInt64 &&& 63)), ss, vj ((1074 : Int64) - ((((4613937818241073152 : UInt64)).toInt64 &&& (9218868437227405312 : Int64)) >>> ((52 : Int32).toInt64 &&& 63))), ss, uu, uu] [(.long ((4613937818241073152 : UInt64)).toInt64)])) rfl (hb hby d_jdk_29_method_22_code_35)
  have k86 : own_G p e below E0 T70 (mkF m 38 #[vd (4613937818241073152 : UInt64), ss, vj ((4613937818241073152 : UInt64)).toInt64, ss, vj ((((4613937818241073152 : UInt64)).toInt64 &&& (9218868437227405312 : Int64)) >>> ((52 : Int32).toInt64 &&& 63)), ss, vj ((1074 : Int64) - ((((4613937818241073152 : UInt64)).toInt64 &&& (9218868437227405312 : Int64)) >>> ((52 : Int32).toInt64 &&& 63))), ss, uu, uu] [(.long (4503599627370495 : Int64)), (.long ((4613937818241073152 : UInt64)).toInt64)]) := fun tQ kk => k84 tQ (st85 _ kk)
  clear k84 st85
  have k87 : own_G p e below E0 T70 (mkF m 39 #[vd (4613937818241073152 : UInt64), ss, vj ((4613937818241073152 : UInt64)).toInt64, ss, vj ((((4613937818241073152 : UInt64)).toInt64 &&& (9218868437227405312 : Int64)) >>> ((52 : Int32).toInt64 &&& 63)), ss, vj ((1074 : Int64) - ((((4613937818241073152 : UInt64)).toInt64 &&& (9218868437227405312 : Int64)) >>> ((52 : Int32).toInt64 &&& 63))), ss, uu, uu] [(.long (((4613937818241073152 : UInt64)).toInt64 &&& (4503599627370495 : Int64)))]) := by
    intro tQ kk
    refine k86 tQ ?_
    refine XT.land X71.here hx rfl (hb hby d_jdk_29_method_22_code_38) rfl ?_
    exact kk
  clear k86
  have st88 := X71.ldc2Long hx hown (mvT hZ (tw26 hw)) (g := (mkF m 39 #[vd (4613937818241073152 : UInt64), ss, vj ((4613937818241073152 : UInt64)).toInt64, ss, vj ((((4613937818241073152 : UInt64)).toInt64 &&& (9218868437227405312 : Int64)) >>> ((52 : Int32).toInt64 &&& 63)), ss, vj ((1074 : Int64) - ((((4613937818241073152 : UInt64)).toInt64 &&& (9218868437227405312 : Int64)) >>> ((52 : Int32).toInt64 &&& 63))), ss, uu, uu] [(.long (((4613937818241073152 : UInt64)).toInt64 &&& (4503599627370495 : Int64)))])) rfl (hb hby d_jdk_29_method_22_code_39)
  have k89 : own_G p e below E0 T70 (mkF m 42 #[vd (4613937818241073152 : UInt64), ss, vj ((4613937818241073152 : UInt64)).toInt64, ss, vj ((((4613937818241073152 : UInt64)).toInt64 &&& (9218868437227405312 : Int64)) >>> ((52 : Int32).toInt64 &&& 63)), ss, vj ((1074 : Int64) - ((((4613937818241073152 : UInt64)).toInt64 &&& (9218868437227405312 : Int64)) >>> ((52 : Int32).toInt64 &&& 63))), ss, uu, uu] [(.long (4503599627370496 : Int64)), (.long (((4613937818241073152 : UInt64)).toInt64 &&& (4503599627370495 : Int64)))]) := fun tQ kk => k87 tQ (st88 _ kk)
  clear k87 st88
  have k90 : own_G p e below E0 T70 (mkF m 66 #[vd (4613937818241073152 : UInt64), ss, vj ((4613937818241073152 : UInt64)).toInt64, ss, vj ((((4613937818241073152 : UInt64)).toInt64 &&& (9218868437227405312 : Int64)) >>> ((52 : Int32).toInt64 &&& 63)), ss, vj ((1074 : Int64) - ((((4613937818241073152 : UInt64)).toInt64 &&& (9218868437227405312 : Int64)) >>> ((52 : Int32).toInt64 &&& 63))), ss, vj ((((4613937818241073152 : UInt64)).toInt64 &&& (4503599627370495 : Int64)) ||| (4503599627370496 : Int64)), ss] [(.long (((((((4613937818241073152 : UInt64)).toInt64 &&& (4503599627370495 : Int64)) ||| (4503599627370496 : Int64)) >>> ((((1074 : Int64) - ((((4613937818241073152 : UInt64)).toInt64 &&& (9218868437227405312 : Int64)) >>> ((52 : Int32).toInt64 &&& 63))).toInt32).toInt64 &&& 63)) + (1 : Int64)) >>> ((1 : Int32).toInt64 &&& 63)))]) := by
    intro tQ kk
    refine k89 tQ ?_
    refine XT.lor X71.here hx rfl (hb hby d_jdk_29_method_22_code_42) rfl ?_
    refine XT.lstore X71.here hx rfl (hb hby d_jdk_29_method_22_code_43) rfl (l' := #[vd (4613937818241073152 : UInt64), ss, vj ((4613937818241073152 : UInt64)).toInt64, ss, vj ((((4613937818241073152 : UInt64)).toInt64 &&& (9218868437227405312 : Int64)) >>> ((52 : Int32).toInt64 &&& 63)), ss, vj ((1074 : Int64) - ((((4613937818241073152 : UInt64)).toInt64 &&& (9218868437227405312 : Int64)) >>> ((52 : Int32).toInt64 &&& 63))), ss, vj ((((4613937818241073152 : UInt64)).toInt64 &&& (4503599627370495 : Int64)) ||| (4503599627370496 : Int64)), ss]) rfl ?_
    refine XT.lloadN X71.here hx rfl (hb hby d_jdk_29_method_22_code_45) rfl ?_
    refine XT.lconst X71.here hx rfl (hb hby d_jdk_29_method_22_code_46) ?_
    show Steps p.tables e below (T70.setTop (mkF m 47 #[vd (4613937818241073152 : UInt64), ss, vj ((4613937818241073152 : UInt64)).toInt64, ss, vj ((((4613937818241073152 : UInt64)).toInt64 &&& (9218868437227405312 : Int64)) >>> ((52 : Int32).toInt64 &&& 63)), ss, vj ((1074 : Int64) - ((((4613937818241073152 : UInt64)).toInt64 &&& (9218868437227405312 : Int64)) >>> ((52 : Int32).toInt64 &&& 63))), ss, vj ((((4613937818241073152 : UInt64)).toInt64 &&& (4503599627370495 : Int64)) ||| (4503599627370496 : Int64)), ss] [(.long (0 : Int64)), (.long ((4613937818241073152 : UInt64)).toInt64)])) tQ
    refine XT.lcmp X71.here hx rfl (hb hby d_jdk_29_method_22_code_47) rfl ?_
    refine XS.ifYes X71.here hx rfl (pc0 := 48) (pc' := 56) rfl (hb hby d_jdk_29_method_22_code_48) rfl (own_l_geY (by decide)) (by decide) (by decide) ?_
    refine XT.lload X71.here hx rfl (hb hby d_jdk_29_method_22_code_56) rfl ?_
    refine XT.lload X71.here hx rfl (hb hby d_jdk_29_method_22_code_58) rfl ?_
    show Steps p.tables e below (T70.setTop (mkF m 60 #[vd (4613937818241073152 : UInt64), ss, vj ((4613937818241073152 : UInt64)).toInt64, ss, vj ((((4613937818241073152 : UInt64)).toInt64 &&& (9218868437227405312 : Int64)) >>> ((52 : Int32).toInt64 &&& 63)), ss, vj ((1074 : Int64) - ((((4613937818241073152 : UInt64)).toInt64 &&& (9218868437227405312 : Int64)) >>> ((52 : Int32).toInt64 &&& 63))), ss, vj ((((4613937818241073152 : UInt64)).toInt64 &&& (4503599627370495 : Int64)) ||| (4503599627370496 : Int64)), ss] [(.long ((1074 : Int64) - ((((4613937818241073152 : UInt64)).toInt64 &&& (9218868437227405312 : Int64)) >>> ((52 : Int32).toInt64 &&& 63)))), (.long ((((4613937818241073152 : UInt64)).toInt64 &&& (4503599627370495 : Int64)) ||| (4503599627370496 : Int64)))])) tQ
    refine XT.l2i X71.here hx rfl (hb hby d_jdk_29_method_22_code_60) rfl ?_
    refine XT.lshr X71.here hx rfl (hb hby d_jdk_29_method_22_code_61) rfl ?_
    refine XT.lconst X71.here hx rfl (hb hby d_jdk_29_method_22_code_62) ?_
    refine XT.ladd X71.here hx rfl (hb hby d_jdk_29_method_22_code_63) rfl ?_
    show Steps p.tables e below (T70.setTop (mkF m 64 #[vd (4613937818241073152 : UInt64), ss, vj ((4613937818241073152 : UInt64)).toInt64, ss, vj ((((4613937818241073152 : UInt64)).toInt64 &&& (9218868437227405312 : Int64)) >>> ((52 : Int32).toInt64 &&& 63)), ss, vj ((1074 : Int64) - ((((4613937818241073152 : UInt64)).toInt64 &&& (9218868437227405312 : Int64)) >>> ((52 : Int32).toInt64 &&& 63))), ss, vj ((((4613937818241073152 : UInt64)).toInt64 &&& (4503599627370495 : Int64)) ||| (4503599627370496 : Int64)), ss] [(.long ((((((4613937818241073152 : UInt64)).toInt64 &&& (4503599627370495 : Int64)) ||| (4503599627370496 : Int64)) >>> ((((1074 : Int64) - ((((4613937818241073152 : UInt64)).toInt64 &&& (9218868437227405312 : Int64)) >>> ((52 : Int32).toInt64 &&& 63))).toInt32).toInt64 &&& 63)) + (1 : Int64)))])) tQ
    refine XS.iconst X71.here hx rfl (hb hby d_jdk_29_method_22_code_64) ?_
    refine XT.lshr X71.here hx rfl (hb hby d_jdk_29_method_22_code_65) rfl ?_
    exact kk
  clear k89
  obtain ⟨fs, hr, hrun, hended, hW, hsame⟩ := X71.leave (v := some (.long (((((((4613937818241073152 : UInt64)).toInt64 &&& (4503599627370495 : Int64)) ||| (4503599627370496 : Int64)) >>> ((((1074 : Int64) - ((((4613937818241073152 : UInt64)).toInt64 &&& (9218868437227405312 : Int64)) >>> ((52 : Int32).toInt64 &&& 63))).toInt32).toInt64 &&& 63)) + (1 : Int64)) >>> ((1 : Int32).toInt64 &&& 63)))) (fun h => by rw [Bd.returns] at h; cases h)
  have hrun0 := k90 _ (retOut X71 hx Bd.returns (t := .long) rfl (Or.inr (Or.inl ⟨rfl, rfl, _, rfl⟩)) (hb hby d_jdk_29_method_22_code_66) hr)
  subst hE0
  refine ⟨_, _, hrun0, hrun, hended, _, _, rfl, ?_, ⟨_, rfl⟩, hW, hsame.mono (by decide) (by decide)⟩
  show QrmRD150 Z  h0 n0 _ T70.heap _
  rw [e72]
  exact ⟨congrArg (fun z => some (Value.long z)) (by decide), N0, rfl⟩
def QrmRD200 (Z : State)  (h0 : Heap) (n0 : Nat) (vQ : Option Value) (hQ : Heap) (LQ : List Loc) : Prop := vQ = some (.long (4 : Int64)) ∧ Fr n0 LQ ∧ hQ = h0
theorem ef_rmRD200 (m : MethodId)  : entryFrame m #[(.double (4616189618054758400 : UInt64))] 10 = mkF m 0 #[vd (4616189618054758400 : UInt64), ss, uu, uu, uu, uu, uu, uu, uu, uu] [] := by first | (simp [entryFrame, mkF, argsToLocals, Value.category]; done) | rfl
set_option maxRecDepth 65536 in
set_option maxHeartbeats 40000000 in
theorem rmRD200 (l : Launch) (Z : State) (a0 : Array Value) (hw : ∀ d ∈ tables_1, d.before a0 Z = true) (ws : List Jvm.Cond)  (h0 : Heap) (n0 : Nat) (Z0 : n0 ≤ h0.size)  :
    MetFree l mn2 (head1 (Jvm.Cond.code mn2 jdk_29_method_22_code 10 (some .long) :: ws) ({ frames := 1, cells := 0, slots := 0, locals := 15 } : Room)) (fun aA U => aA = #[(.double (4616189618054758400 : UInt64))] ∧ Z.Warmed39 U.vm ∧ U.heap = h0) (fun _ _ _ _ _ => True) (fun _ U o U' => ∃ vR LR, o = .returned vR ∧ QrmRD200 Z  h0 n0 vR U'.heap LR ∧ FrameEnd U o U' LR ({ frames := 1, cells := 0, slots := 0, locals := 15 } : Room).cells ({ frames := 1, cells := 0, slots := 0, locals := 15 } : Room).slots) := by
  refine MetFree.of_bodySF (Jvm.Free.JP.mathPlain rfl (by decide +kernel)) hisR ?_
  intro p e s m args below meth c s₁ Bd hml0 hPre hKk
  obtain ⟨rfl, hZ, hh⟩ := hPre
  have hx := Bd.exec
  have hby := Bd.bytes
  have hml : c.maxLocals = 10 := hml0
  have hown : s.vm.findClass "java/lang/Math" = some m.cls := findClass_of_methodNamed Bd.named
  have hnm := (name_of_methodNamed Bd.named Bd.method).1
  have X0 : Stand p l e ({ frames := 1, cells := 0, slots := 0, locals := 15 } : Room) s m #[(.double (4616189618054758400 : UInt64))] below meth c s₁ [] 0 0 := Stand.of_body Bd
  have e0 : s₁.heap = h0 := by rw [← hh, Bd.state]; rfl
  have N0 := Fr.nil n0
  obtain ⟨E0, hE0⟩ : ∃ zE : State, zE = s₁.setTop (entryFrame m #[(.double (4616189618054758400 : UInt64))] 10) := ⟨_, rfl⟩
  have k0 : own_G p e below E0 s₁ (mkF m 0 #[vd (4616189618054758400 : UInt64), ss, uu, uu, uu, uu, uu, uu, uu, uu] []) := fun tz kz => hE0 ▸ castTop (ef_rmRD200 m ) kz
  have k91 : own_G p e below E0 s₁ (mkF m 1 #[vd (4616189618054758400 : UInt64), ss, uu, uu, uu, uu, uu, uu, uu, uu] [(.double (4616189618054758400 : UInt64))]) := by
    intro tQ kk
    refine k0 tQ ?_
    refine XS.dloadN X0.here hx rfl (hb hby d_jdk_29_method_22_code_0) rfl ?_
    exact kk
  clear k0
  obtain ⟨T92, X93, e94, st95⟩ := own_rawBits X0 hx hZ hown (tw18 hw) (tw19 hw) (tw20 hw) (tw21 hw) e0 (x := (4616189618054758400 : UInt64)) (W := 0) (g := (mkF m 1 #[vd (4616189618054758400 : UInt64), ss, uu, uu, uu, uu, uu, uu, uu, uu] [(.double (4616189618054758400 : UInt64))])) rfl (by rw [hml]; rfl) (rest := []) rfl (by show 2 * 0 + _ ≤ _; exact Nat.le_of_eq rfl) (hb hby d_jdk_29_method_22_code_1) (by decide) (by decide)
  have k96 : own_G p e below E0 T92 (mkF m 4 #[vd (4616189618054758400 : UInt64), ss, uu, uu, uu, uu, uu, uu, uu, uu] [(.long ((4616189618054758400 : UInt64)).toInt64)]) := fun tQ kk => k91 tQ (st95 _ kk)
  clear k91 st95
  have k97 : own_G p e below E0 T92 (mkF m 6 #[vd (4616189618054758400 : UInt64), ss, vj ((4616189618054758400 : UInt64)).toInt64, ss, uu, uu, uu, uu, uu, uu] [(.long ((4616189618054758400 : UInt64)).toInt64)]) := by
    intro tQ kk
    refine k96 tQ ?_
    refine XT.lstoreN X93.here hx rfl (hb hby d_jdk_29_method_22_code_4) rfl (l' := #[vd (4616189618054758400 : UInt64), ss, vj ((4616189618054758400 : UInt64)).toInt64, ss, uu, uu, uu, uu, uu, uu]) rfl ?_
    refine XT.lloadN X93.here hx rfl (hb hby d_jdk_29_method_22_code_5) rfl ?_
    exact kk
  clear k96
  have st98 := X93.ldc2Long hx hown (mvT hZ (tw22 hw)) (g := (mkF m 6 #[vd (4616189618054758400 : UInt64), ss, vj ((4616189618054758400 : UInt64)).toInt64, ss, uu, uu, uu, uu, uu, uu] [(.long ((4616189618054758400 : UInt64)).toInt64)])) rfl (hb hby d_jdk_29_method_22_code_6)
  have k99 : own_G p e below E0 T92 (mkF m 9 #[vd (4616189618054758400 : UInt64), ss, vj ((4616189618054758400 : UInt64)).toInt64, ss, uu, uu, uu, uu, uu, uu] [(.long (9218868437227405312 : Int64)), (.long ((4616189618054758400 : UInt64)).toInt64)]) := fun tQ kk => k97 tQ (st98 _ kk)
  clear k97 st98
  have k100 : own_G p e below E0 T92 (mkF m 15 #[vd (4616189618054758400 : UInt64), ss, vj ((4616189618054758400 : UInt64)).toInt64, ss, vj ((((4616189618054758400 : UInt64)).toInt64 &&& (9218868437227405312 : Int64)) >>> ((52 : Int32).toInt64 &&& 63)), ss, uu, uu, uu, uu] []) := by
    intro tQ kk
    refine k99 tQ ?_
    refine XT.land X93.here hx rfl (hb hby d_jdk_29_method_22_code_9) rfl ?_
    refine XS.bipush X93.here hx rfl (hb hby d_jdk_29_method_22_code_10) ?_
    refine XT.lshr X93.here hx rfl (hb hby d_jdk_29_method_22_code_12) rfl ?_
    refine XT.lstore X93.here hx rfl (hb hby d_jdk_29_method_22_code_13) rfl (l' := #[vd (4616189618054758400 : UInt64), ss, vj ((4616189618054758400 : UInt64)).toInt64, ss, vj ((((4616189618054758400 : UInt64)).toInt64 &&& (9218868437227405312 : Int64)) >>> ((52 : Int32).toInt64 &&& 63)), ss, uu, uu, uu, uu]) rfl ?_
    exact kk
  clear k99
  have st101 := X93.ldc2Long hx hown (mvT hZ (tw23 hw)) (g := (mkF m 15 #[vd (4616189618054758400 : UInt64), ss, vj ((4616189618054758400 : UInt64)).toInt64, ss, vj ((((4616189618054758400 : UInt64)).toInt64 &&& (9218868437227405312 : Int64)) >>> ((52 : Int32).toInt64 &&& 63)), ss, uu, uu, uu, uu] [])) rfl (hb hby d_jdk_29_method_22_code_15)
  have k102 : own_G p e below E0 T92 (mkF m 18 #[vd (4616189618054758400 : UInt64), ss, vj ((4616189618054758400 : UInt64)).toInt64, ss, vj ((((4616189618054758400 : UInt64)).toInt64 &&& (9218868437227405312 : Int64)) >>> ((52 : Int32).toInt64 &&& 63)), ss, uu, uu, uu, uu] [(.long (1074 : Int64))]) := fun tQ kk => k100 tQ (st101 _ kk)
  clear k100 st101
  have k103 : own_G p e below E0 T92 (mkF m 25 #[vd (4616189618054758400 : UInt64), ss, vj ((4616189618054758400 : UInt64)).toInt64, ss, vj ((((4616189618054758400 : UInt64)).toInt64 &&& (9218868437227405312 : Int64)) >>> ((52 : Int32).toInt64 &&& 63)), ss, vj ((1074 : Int64) - ((((4616189618054758400 : UInt64)).toInt64 &&& (9218868437227405312 : Int64)) >>> ((52 : Int32).toInt64 &&& 63))), ss, uu, uu] [(.long ((1074 : Int64) - ((((4616189618054758400 : UInt64)).toInt64 &&& (9218868437227405312 : Int64)) >>> ((52 : Int32).toInt64 &&& 63))))]) := by
    intro tQ kk
    refine k102 tQ ?_
    refine XT.lload X93.here hx rfl (hb hby d_jdk_29_method_22_code_18) rfl ?_
    refine XT.lsub X93.here hx rfl (hb hby d_jdk_29_method_22_code_20) rfl ?_
    refine XT.lstore X93.here hx rfl (hb hby d_jdk_29_method_22_code_21) rfl (l' := #[vd (4616189618054758400 : UInt64), ss, vj ((4616189618054758400 : UInt64)).toInt64, ss, vj ((((4616189618054758400 : UInt64)).toInt64 &&& (9218868437227405312 : Int64)) >>> ((52 : Int32).toInt64 &&& 63)), ss, vj ((1074 : Int64) - ((((4616189618054758400 : UInt64)).toInt64 &&& (9218868437227405312 : Int64)) >>> ((52 : Int32).toInt64 &&& 63))), ss, uu, uu]) rfl ?_
    refine XT.lload X93.here hx rfl (hb hby d_jdk_29_method_22_code_23) rfl ?_
    exact kk
  clear k102
  have st104 := X93.ldc2Long hx hown (mvT hZ (tw24 hw)) (g := (mkF m 25 #[vd (4616189618054758400 : UInt64), ss, vj ((4616189618054758400 : UInt64)).toInt64, ss, vj ((((4616189618054758400 : UInt64)).toInt64 &&& (9218868437227405312 : Int64)) >>> ((52 : Int32).toInt64 &&& 63)), ss, vj ((1074 : Int64) - ((((4616189618054758400 : UInt64)).toInt64 &&& (9218868437227405312 : Int64)) >>> ((52 : Int32).toInt64 &&& 63))), ss, uu, uu] [(.long ((1074 : Int64) - ((((4616189618054758400 : UInt64)).toInt64 &&& (9218868437227405312 : Int64)) >>> ((52 : Int32).toInt64 &&& 63))))])) rfl (hb hby d_jdk_29_method_22_code_25)
  have k105 : own_G p e below E0 T92 (mkF m 28 #[vd (4616189618054758400 : UInt64), ss, vj ((4616189618054758400 : UInt64)).toInt64, ss, vj ((((4616189618054758400 : UInt64)).toInt64 &&& (9218868437227405312 : Int64)) >>> ((52 : Int32).toInt64 &&& 63)), ss, vj ((1074 : Int64) - ((((4616189618054758400 : UInt64)).toInt64 &&& (9218868437227405312 : Int64)) >>> ((52 : Int32).toInt64 &&& 63))), ss, uu, uu] [(.long (-64 : Int64)), (.long ((1074 : Int64) - ((((4616189618054758400 : UInt64)).toInt64 &&& (9218868437227405312 : Int64)) >>> ((52 : Int32).toInt64 &&& 63))))]) := fun tQ kk => k103 tQ (st104 _ kk)
  clear k103 st104
  have k106 : own_G p e below E0 T92 (mkF m 35 #[vd (4616189618054758400 : UInt64), ss, vj ((4616189618054758400 : UInt64)).toInt64, ss, vj ((((4616189618054758400 : UInt64)).toInt64 &&& (9218868437227405312 : Int64)) >>> ((52 : Int32).toInt64 &&& 63)), ss, vj ((1074 : Int64) - ((((4616189618054758400 : UInt64)).toInt64 &&& (9218868437227405312 : Int64)) >>> ((52 : Int32).toInt64 &&& 63))), ss, uu, uu] [(.long ((4616189618054758400 : UInt64)).toInt64)]) := by
    intro tQ kk
    refine k105 tQ ?_
    refine XT.land X93.here hx rfl (hb hby d_jdk_29_method_22_code_28) rfl ?_
    refine XT.lconst X93.here hx rfl (hb hby d_jdk_29_method_22_code_29) ?_
    refine XT.lcmp X93.here hx rfl (hb hby d_jdk_29_method_22_code_30) rfl ?_
    refine XS.ifNo X93.here hx rfl (hb hby d_jdk_29_method_22_code_31) rfl (own_l_neN (by decide)) ?_
    show Steps p.tables e below (T92.setTop (mkF m 34 #[vd (4616189618054758400 : UInt64), ss, vj ((4616189618054758400 : UInt64)).toInt64, ss, vj ((((4616189618054758400 : UInt64)).toInt64 &&& (9218868437227405312 : Int64)) >>> ((52 : Int32).toInt64 &&& 63)), ss, vj ((1074 : Int64) - ((((4616189618054758400 : UInt64)).toInt64 &&& (9218868437227405312 : Int64)) >>> ((52 : Int32).toInt64 &&& 63))), ss, uu, uu] [])) tQ
    refine XT.lloadN X93.here hx rfl (hb hby d_jdk_29_method_22_code_34) rfl ?_
    exact kk
  clear k105
  have st107 := X93.ldc2Long hx hown (mvT hZ (tw25 hw)) (g := (mkF m 35 #[vd (4616189618054758400 : UInt64), ss, vj ((4616189618054758400 : UInt64)).toInt64, ss, vj ((((4616189618054758400 : UInt64)).toInt64 &&& (9218868437227405312 : Int64)) >>> ((52 : Int32).toInt64 &&& 63)), ss, vj ((1074 : Int64) - ((((4616189618054758400 : UInt64)).toInt64 &&& (9218868437227405312 : Int64)) >>> ((52 : Int32).toInt64 &&& 63))), ss, uu, uu] [(.long ((4616189618054758400 : UInt64)).toInt64)])) rfl (hb hby d_jdk_29_method_22_code_35)
  have k108 : own_G p e below E0 T92 (mkF m 38 #[vd (4616189618054758400 : UInt64), ss, vj ((4616189618054758400 : UInt64)).toInt64, ss, vj ((((4616189618054758400 : UInt64)).toInt64 &&& (9218868437227405312 : Int64)) >>> ((52 : Int32).toInt64 &&& 63)), ss, vj ((1074 : Int64) - ((((4616189618054758400 : UInt64)).toInt64 &&& (9218868437227405312 : Int64)) >>> ((52 : Int32).toInt64 &&& 63))), ss, uu, uu] [(.long (4503599627370495 : Int64)), (.long ((4616189618054758400 : UInt64)).toInt64)]) := fun tQ kk => k106 tQ (st107 _ kk)
  clear k106 st107
  have k109 : own_G p e below E0 T92 (mkF m 39 #[vd (4616189618054758400 : UInt64), ss, vj ((4616189618054758400 : UInt64)).toInt64, ss, vj ((((4616189618054758400 : UInt64)).toInt64 &&& (9218868437227405312 : Int64)) >>> ((52 : Int32).toInt64 &&& 63)), ss, vj ((1074 : Int64) - ((((4616189618054758400 : UInt64)).toInt64 &&& (9218868437227405312 : Int64)) >>> ((52 : Int32).toInt64 &&& 63))), ss, uu, uu] [(.long (((4616189618054758400 : UInt64)).toInt64 &&& (4503599627370495 : Int64)))]) := by
    intro tQ kk
    refine k108 tQ ?_
    refine XT.land X93.here hx rfl (hb hby d_jdk_29_method_22_code_38) rfl ?_
    exact kk
  clear k108
  have st110 := X93.ldc2Long hx hown (mvT hZ (tw26 hw)) (g := (mkF m 39 #[vd (4616189618054758400 : UInt64), ss, vj ((4616189618054758400 : UInt64)).toInt64, ss, vj ((((4616189618054758400 : UInt64)).toInt64 &&& (9218868437227405312 : Int64)) >>> ((52 : Int32).toInt64 &&& 63)), ss, vj ((1074 : Int64) - ((((4616189618054758400 : UInt64)).toInt64 &&& (9218868437227405312 : Int64)) >>> ((52 : Int32).toInt64 &&& 63))), ss, uu, uu] [(.long (((4616189618054758400 : UInt64)).toInt64 &&& (4503599627370495 : Int64)))])) rfl (hb hby d_jdk_29_method_22_code_39)
  have k111 : own_G p e below E0 T92 (mkF m 42 #[vd (4616189618054758400 : UInt64), ss, vj ((4616189618054758400 : UInt64)).toInt64, ss, vj ((((4616189618054758400 : UInt64)).toInt64 &&& (9218868437227405312 : Int64)) >>> ((52 : Int32).toInt64 &&& 63)), ss, vj ((1074 : Int64) - ((((4616189618054758400 : UInt64)).toInt64 &&& (9218868437227405312 : Int64)) >>> ((52 : Int32).toInt64 &&& 63))), ss, uu, uu] [(.long (4503599627370496 : Int64)), (.long (((4616189618054758400 : UInt64)).toInt64 &&& (4503599627370495 : Int64)))]) := fun tQ kk => k109 tQ (st110 _ kk)
  clear k109 st110
  have k112 : own_G p e below E0 T92 (mkF m 66 #[vd (4616189618054758400 : UInt64), ss, vj ((4616189618054758400 : UInt64)).toInt64, ss, vj ((((4616189618054758400 : UInt64)).toInt64 &&& (9218868437227405312 : Int64)) >>> ((52 : Int32).toInt64 &&& 63)), ss, vj ((1074 : Int64) - ((((4616189618054758400 : UInt64)).toInt64 &&& (9218868437227405312 : Int64)) >>> ((52 : Int32).toInt64 &&& 63))), ss, vj ((((4616189618054758400 : UInt64)).toInt64 &&& (4503599627370495 : Int64)) ||| (4503599627370496 : Int64)), ss] [(.long (((((((4616189618054758400 : UInt64)).toInt64 &&& (4503599627370495 : Int64)) ||| (4503599627370496 : Int64)) >>> ((((1074 : Int64) - ((((4616189618054758400 : UInt64)).toInt64 &&& (9218868437227405312 : Int64)) >>> ((52 : Int32).toInt64 &&& 63))).toInt32).toInt64 &&& 63)) + (1 : Int64)) >>> ((1 : Int32).toInt64 &&& 63)))]) := by
    intro tQ kk
    refine k111 tQ ?_
    refine XT.lor X93.here hx rfl (hb hby d_jdk_29_method_22_code_42) rfl ?_
    refine XT.lstore X93.here hx rfl (hb hby d_jdk_29_method_22_code_43) rfl (l' := #[vd (4616189618054758400 : UInt64), ss, vj ((4616189618054758400 : UInt64)).toInt64, ss, vj ((((4616189618054758400 : UInt64)).toInt64 &&& (9218868437227405312 : Int64)) >>> ((52 : Int32).toInt64 &&& 63)), ss, vj ((1074 : Int64) - ((((4616189618054758400 : UInt64)).toInt64 &&& (9218868437227405312 : Int64)) >>> ((52 : Int32).toInt64 &&& 63))), ss, vj ((((4616189618054758400 : UInt64)).toInt64 &&& (4503599627370495 : Int64)) ||| (4503599627370496 : Int64)), ss]) rfl ?_
    refine XT.lloadN X93.here hx rfl (hb hby d_jdk_29_method_22_code_45) rfl ?_
    refine XT.lconst X93.here hx rfl (hb hby d_jdk_29_method_22_code_46) ?_
    show Steps p.tables e below (T92.setTop (mkF m 47 #[vd (4616189618054758400 : UInt64), ss, vj ((4616189618054758400 : UInt64)).toInt64, ss, vj ((((4616189618054758400 : UInt64)).toInt64 &&& (9218868437227405312 : Int64)) >>> ((52 : Int32).toInt64 &&& 63)), ss, vj ((1074 : Int64) - ((((4616189618054758400 : UInt64)).toInt64 &&& (9218868437227405312 : Int64)) >>> ((52 : Int32).toInt64 &&& 63))), ss, vj ((((4616189618054758400 : UInt64)).toInt64 &&& (4503599627370495 : Int64)) ||| (4503599627370496 : Int64)), ss] [(.long (0 : Int64)), (.long ((4616189618054758400 : UInt64)).toInt64)])) tQ
    refine XT.lcmp X93.here hx rfl (hb hby d_jdk_29_method_22_code_47) rfl ?_
    refine XS.ifYes X93.here hx rfl (pc0 := 48) (pc' := 56) rfl (hb hby d_jdk_29_method_22_code_48) rfl (own_l_geY (by decide)) (by decide) (by decide) ?_
    refine XT.lload X93.here hx rfl (hb hby d_jdk_29_method_22_code_56) rfl ?_
    refine XT.lload X93.here hx rfl (hb hby d_jdk_29_method_22_code_58) rfl ?_
    show Steps p.tables e below (T92.setTop (mkF m 60 #[vd (4616189618054758400 : UInt64), ss, vj ((4616189618054758400 : UInt64)).toInt64, ss, vj ((((4616189618054758400 : UInt64)).toInt64 &&& (9218868437227405312 : Int64)) >>> ((52 : Int32).toInt64 &&& 63)), ss, vj ((1074 : Int64) - ((((4616189618054758400 : UInt64)).toInt64 &&& (9218868437227405312 : Int64)) >>> ((52 : Int32).toInt64 &&& 63))), ss, vj ((((4616189618054758400 : UInt64)).toInt64 &&& (4503599627370495 : Int64)) ||| (4503599627370496 : Int64)), ss] [(.long ((1074 : Int64) - ((((4616189618054758400 : UInt64)).toInt64 &&& (9218868437227405312 : Int64)) >>> ((52 : Int32).toInt64 &&& 63)))), (.long ((((4616189618054758400 : UInt64)).toInt64 &&& (4503599627370495 : Int64)) ||| (4503599627370496 : Int64)))])) tQ
    refine XT.l2i X93.here hx rfl (hb hby d_jdk_29_method_22_code_60) rfl ?_
    refine XT.lshr X93.here hx rfl (hb hby d_jdk_29_method_22_code_61) rfl ?_
    refine XT.lconst X93.here hx rfl (hb hby d_jdk_29_method_22_code_62) ?_
    refine XT.ladd X93.here hx rfl (hb hby d_jdk_29_method_22_code_63) rfl ?_
    show Steps p.tables e below (T92.setTop (mkF m 64 #[vd (4616189618054758400 : UInt64), ss, vj ((4616189618054758400 : UInt64)).toInt64, ss, vj ((((4616189618054758400 : UInt64)).toInt64 &&& (9218868437227405312 : Int64)) >>> ((52 : Int32).toInt64 &&& 63)), ss, vj ((1074 : Int64) - ((((4616189618054758400 : UInt64)).toInt64 &&& (9218868437227405312 : Int64)) >>> ((52 : Int32).toInt64 &&& 63))), ss, vj ((((4616189618054758400 : UInt64)).toInt64 &&& (4503599627370495 : Int64)) ||| (4503599627370496 : Int64)), ss] [(.long ((((((4616189618054758400 : UInt64)).toInt64 &&& (4503599627370495 : Int64)) ||| (4503599627370496 : Int64)) >>> ((((1074 : Int64) - ((((4616189618054758400 : UInt64)).toInt64 &&& (9218868437227405312 : Int64)) >>> ((52 : Int32).toInt64 &&& 63))).toInt32).toInt64 &&& 63)) + (1 : Int64)))])) tQ
    refine XS.iconst X93.here hx rfl (hb hby d_jdk_29_method_22_code_64) ?_
    refine XT.lshr X93.here hx rfl (hb hby d_jdk_29_method_22_code_65) rfl ?_
    exact kk
  clear k111
  obtain ⟨fs, hr, hrun, hended, hW, hsame⟩ := X93.leave (v := some (.long (((((((4616189618054758400 : UInt64)).toInt64 &&& (4503599627370495 : Int64)) ||| (4503599627370496 : Int64)) >>> ((((1074 : Int64) - ((((4616189618054758400 : UInt64)).toInt64 &&& (9218868437227405312 : Int64)) >>> ((52 : Int32).toInt64 &&& 63))).toInt32).toInt64 &&& 63)) + (1 : Int64)) >>> ((1 : Int32).toInt64 &&& 63)))) (fun h => by rw [Bd.returns] at h; cases h)
  have hrun0 := k112 _ (retOut X93 hx Bd.returns (t := .long) rfl (Or.inr (Or.inl ⟨rfl, rfl, _, rfl⟩)) (hb hby d_jdk_29_method_22_code_66) hr)
  subst hE0
  refine ⟨_, _, hrun0, hrun, hended, _, _, rfl, ?_, ⟨_, rfl⟩, hW, hsame.mono (by decide) (by decide)⟩
  show QrmRD200 Z  h0 n0 _ T92.heap _
  rw [e94]
  exact ⟨congrArg (fun z => some (Value.long z)) (by decide), N0, rfl⟩
abbrev fd3 (Z : State) (h : Heap) (a : Addr) (v : Value) : Prop := Fld Z h a "com/example/lampwork/lampwork/Glide" "frames" "I" v
abbrev fd4 (Z : State) (h : Heap) (a : Addr) (v : Value) : Prop := Fld Z h a "com/example/lampwork/lampwork/Glide" "value" "D" v
abbrev fd5 (Z : State) (h : Heap) (a : Addr) (v : Value) : Prop := Fld Z h a "com/example/lampwork/lampwork/Glide" "target" "D" v
abbrev fd6 (Z : State) (h : Heap) (a : Addr) (v : Value) : Prop := Fld Z h a "com/example/lampwork/lampwork/Glide" "step" "D" v
abbrev fd7 (Z : State) (h : Heap) (a : Addr) (v : Value) : Prop := Fld Z h a "com/example/lampwork/lampwork/Glide" "remaining" "I" v
def QrmI (Z : State) (a : Addr) (x : UInt64) (K : Int32) (h0 : Heap) (n0 : Nat) (vQ : Option Value) (hQ : Heap) (LQ : List Loc) : Prop := vQ = none ∧ Fr n0 LQ ∧ Keep h0 hQ [a] ∧ (fd3 Z hQ a (.int (own_F K))) ∧ (fd4 Z hQ a (.double x)) ∧ (fd5 Z hQ a (.double x)) ∧ (fd6 Z hQ a (.double (0 : UInt64))) ∧ (fd7 Z hQ a (.int (0 : Int32)))
theorem ef_rmI (m : MethodId) (a : Addr) (x : UInt64) (K : Int32) : entryFrame m #[(.ref a), (.double x), (.int ((50 : Int32) * K))] 4 = mkF m 0 #[vr a, vd x, ss, vi ((50 : Int32) * K)] [] := by first | (simp [entryFrame, mkF, argsToLocals, Value.category]; done) | rfl
abbrev xa8 (Z : State) (h : Heap) (a : Addr) : Prop := Exa Z h a "com/example/lampwork/lampwork/Glide"
abbrev mn9 : MethodName := ⟨"com/example/lampwork/lampwork/Glide", "<init>", "(DI)V"⟩
theorem pn_com_example_lampwork_lampwork_Glide : plainName "com/example/lampwork/lampwork/Glide" = true := by first | (simp [plainName, overriddenIn]; done) | decide +kernel
theorem d_prog_12_method_1_code_0 : decode prog_12_method_1_code 0 = .ok (.aload_n 0, 1) := by decide +kernel
theorem d_prog_12_method_1_code_1 : decode prog_12_method_1_code 1 = .ok (.invokespecial 1, 3) := by decide +kernel
def tw11 {Z : State} {a0 : Array Value} (hw : ∀ d ∈ tables_1, d.before a0 Z = true) := hw _ (List.mem_of_getElem? (i := 11) rfl)
def tw12 {Z : State} {a0 : Array Value} (hw : ∀ d ∈ tables_1, d.before a0 Z = true) := hw _ (List.mem_of_getElem? (i := 12) rfl)
def tw13 {Z : State} {a0 : Array Value} (hw : ∀ d ∈ tables_1, d.before a0 Z = true) := hw _ (List.mem_of_getElem? (i := 13) rfl)
theorem d_prog_12_method_1_code_4 : decode prog_12_method_1_code 4 = .ok (.aload_n 0, 1) := by decide +kernel
theorem d_prog_12_method_1_code_5 : decode prog_12_method_1_code 5 = .ok (.lconst 1, 1) := by decide +kernel
theorem d_prog_12_method_1_code_6 : decode prog_12_method_1_code 6 = .ok (.ldc2_w 9, 3) := by decide +kernel
def tw14 {Z : State} {a0 : Array Value} (hw : ∀ d ∈ tables_1, d.before a0 Z = true) := hw _ (List.mem_of_getElem? (i := 14) rfl)
theorem d_prog_12_method_1_code_9 : decode prog_12_method_1_code 9 = .ok (.iload_n 3, 1) := by decide +kernel
theorem d_prog_12_method_1_code_10 : decode prog_12_method_1_code 10 = .ok (.i2d, 1) := by decide +kernel
theorem d_prog_12_method_1_code_11 : decode prog_12_method_1_code 11 = .ok (.dmul, 1) := by decide +kernel
theorem d_prog_12_method_1_code_12 : decode prog_12_method_1_code 12 = .ok (.invokestatic 11, 3) := by decide +kernel
def tw15 {Z : State} {a0 : Array Value} (hw : ∀ d ∈ tables_1, d.before a0 Z = true) := hw _ (List.mem_of_getElem? (i := 15) rfl)
def tw17 {Z : State} {a0 : Array Value} (hw : ∀ d ∈ tables_1, d.before a0 Z = true) := hw _ (List.mem_of_getElem? (i := 17) rfl)
def tw3 {Z : State} {a0 : Array Value} (hw : ∀ d ∈ tables_1, d.before a0 Z = true) := hw _ (List.mem_of_getElem? (i := 3) rfl)
theorem pd_10 : parseMethodDescriptor "(D)J" = some ⟨[.double], some .long⟩ := by decide +kernel
def tw16 {Z : State} {a0 : Array Value} (hw : ∀ d ∈ tables_1, d.before a0 Z = true) := hw _ (List.mem_of_getElem? (i := 16) rfl)
theorem d_prog_12_method_1_code_15 : decode prog_12_method_1_code 15 = .ok (.invokestatic 17, 3) := by decide +kernel
def tw27 {Z : State} {a0 : Array Value} (hw : ∀ d ∈ tables_1, d.before a0 Z = true) := hw _ (List.mem_of_getElem? (i := 27) rfl)
def tw29 {Z : State} {a0 : Array Value} (hw : ∀ d ∈ tables_1, d.before a0 Z = true) := hw _ (List.mem_of_getElem? (i := 29) rfl)
theorem pd_11 : parseMethodDescriptor "(JJ)J" = some ⟨[.long, .long], some .long⟩ := by decide +kernel
def tw28 {Z : State} {a0 : Array Value} (hw : ∀ d ∈ tables_1, d.before a0 Z = true) := hw _ (List.mem_of_getElem? (i := 28) rfl)
theorem d_prog_12_method_1_code_18 : decode prog_12_method_1_code 18 = .ok (.l2i, 1) := by decide +kernel
theorem d_prog_12_method_1_code_19 : decode prog_12_method_1_code 19 = .ok (.putfield 21, 3) := by decide +kernel
def tw30 {Z : State} {a0 : Array Value} (hw : ∀ d ∈ tables_1, d.before a0 Z = true) := hw _ (List.mem_of_getElem? (i := 30) rfl)
def tw31 {Z : State} {a0 : Array Value} (hw : ∀ d ∈ tables_1, d.before a0 Z = true) := hw _ (List.mem_of_getElem? (i := 31) rfl)
def tw6 {Z : State} {a0 : Array Value} (hw : ∀ d ∈ tables_1, d.before a0 Z = true) := hw _ (List.mem_of_getElem? (i := 6) rfl)
def tw33 {Z : State} {a0 : Array Value} (hw : ∀ d ∈ tables_1, d.before a0 Z = true) := hw _ (List.mem_of_getElem? (i := 33) rfl)
def tw35 {Z : State} {a0 : Array Value} (hw : ∀ d ∈ tables_1, d.before a0 Z = true) := hw _ (List.mem_of_getElem? (i := 35) rfl)
def tw63 {Z : State} {a0 : Array Value} (hw : ∀ d ∈ tables_1, d.before a0 Z = true) := hw _ (List.mem_of_getElem? (i := 63) rfl)
def tw42 {Z : State} {a0 : Array Value} (hw : ∀ d ∈ tables_1, d.before a0 Z = true) := hw _ (List.mem_of_getElem? (i := 42) rfl)
theorem d_prog_12_method_1_code_22 : decode prog_12_method_1_code 22 = .ok (.aload_n 0, 1) := by decide +kernel
theorem d_prog_12_method_1_code_23 : decode prog_12_method_1_code 23 = .ok (.dload_n 1, 1) := by decide +kernel
theorem d_prog_12_method_1_code_24 : decode prog_12_method_1_code 24 = .ok (.putfield 25, 3) := by decide +kernel
def tw32 {Z : State} {a0 : Array Value} (hw : ∀ d ∈ tables_1, d.before a0 Z = true) := hw _ (List.mem_of_getElem? (i := 32) rfl)
theorem d_prog_12_method_1_code_27 : decode prog_12_method_1_code 27 = .ok (.aload_n 0, 1) := by decide +kernel
theorem d_prog_12_method_1_code_28 : decode prog_12_method_1_code 28 = .ok (.dload_n 1, 1) := by decide +kernel
theorem d_prog_12_method_1_code_29 : decode prog_12_method_1_code 29 = .ok (.putfield 29, 3) := by decide +kernel
def tw34 {Z : State} {a0 : Array Value} (hw : ∀ d ∈ tables_1, d.before a0 Z = true) := hw _ (List.mem_of_getElem? (i := 34) rfl)
theorem d_prog_12_method_1_code_32 : decode prog_12_method_1_code 32 = .ok (.return_, 1) := by decide +kernel
set_option maxRecDepth 65536 in
set_option maxHeartbeats 40000000 in
theorem rmI (l : Launch) (Z : State) (a0 : Array Value) (hw : ∀ d ∈ tables_1, d.before a0 Z = true) (ws : List Jvm.Cond) (a : Addr) (x : UInt64) (K : Int32) (h0 : Heap) (n0 : Nat) (Z0 : n0 ≤ h0.size) (E1 : xa8 Z h0 a) (F_frames : fd3 Z h0 a (.int (0 : Int32))) (F_value : fd4 Z h0 a (.double (0 : UInt64))) (F_target : fd5 Z h0 a (.double (0 : UInt64))) (F_step : fd6 Z h0 a (.double (0 : UInt64))) (F_remaining : fd7 Z h0 a (.int (0 : Int32))) (ge_a : n0 ≤ a) (hK : K = 0 ∨ K = 1 ∨ K = 2 ∨ K = 3 ∨ K = 4) :
    MetFree l mn9 (head1 (Jvm.Cond.code mn9 prog_12_method_1_code 4 none :: ws) ({ frames := 2, cells := 0, slots := 0, locals := 40 } : Room)) (fun aA U => aA = #[(.ref a), (.double x), (.int ((50 : Int32) * K))] ∧ Z.Warmed39 U.vm ∧ U.heap = h0) (fun _ _ _ _ _ => True) (fun _ U o U' => ∃ vR LR, o = .returned vR ∧ QrmI Z a x K h0 n0 vR U'.heap LR ∧ FrameEnd U o U' LR ({ frames := 2, cells := 0, slots := 0, locals := 40 } : Room).cells ({ frames := 2, cells := 0, slots := 0, locals := 40 } : Room).slots) := by
  refine MetFree.of_bodySF (plainFor_of_name pn_com_example_lampwork_lampwork_Glide) hisR ?_
  intro p e s m args below meth c s₁ Bd hml0 hPre hKk
  obtain ⟨rfl, hZ, hh⟩ := hPre
  have hx := Bd.exec
  have hby := Bd.bytes
  have hml : c.maxLocals = 4 := hml0
  have hown : s.vm.findClass "com/example/lampwork/lampwork/Glide" = some m.cls := findClass_of_methodNamed Bd.named
  have hnm := (name_of_methodNamed Bd.named Bd.method).1
  have X0 : Stand p l e ({ frames := 2, cells := 0, slots := 0, locals := 40 } : Room) s m #[(.ref a), (.double x), (.int ((50 : Int32) * K))] below meth c s₁ [] 0 0 := Stand.of_body Bd
  have e0 : s₁.heap = h0 := by rw [← hh, Bd.state]; rfl
  have N0 := Fr.nil n0
  obtain ⟨E0, hE0⟩ : ∃ zE : State, zE = s₁.setTop (entryFrame m #[(.ref a), (.double x), (.int ((50 : Int32) * K))] 4) := ⟨_, rfl⟩
  have k0 : own_G p e below E0 s₁ (mkF m 0 #[vr a, vd x, ss, vi ((50 : Int32) * K)] []) := fun tz kz => hE0 ▸ castTop (ef_rmI m a x K) kz
  have K0 : Keep h0 h0 [a] := Keep.refl _ _
  rcases hK with rfl | rfl | rfl | rfl | rfl
  · skip
    have k113 : own_G p e below E0 s₁ (mkF m 1 #[vr a, vd x, ss, vi ((50 : Int32) * (0 : Int32))] [(.ref a)]) := by
      intro tQ kk
      refine k0 tQ ?_
      refine XS.aloadN X0.here hx rfl (hb hby d_prog_12_method_1_code_0) rfl rfl ?_
      exact kk
    clear k0
    obtain ⟨T114, X115, e116, st117⟩ := initO X0 hx hZ hown (tw11 hw) (tw12 hw) (tw13 hw) e0 (g := (mkF m 1 #[vr a, vd x, ss, vi ((50 : Int32) * (0 : Int32))] [(.ref a)])) rfl (by rw [hml]; rfl) rfl (hb hby d_prog_12_method_1_code_1) (by decide) (W := 0) (by show 2 * 0 + _ ≤ _; exact Nat.le_of_eq rfl) (by decide)
    have k118 : own_G p e below E0 T114 (mkF m 4 #[vr a, vd x, ss, vi ((50 : Int32) * (0 : Int32))] []) := fun tQ kk => k113 tQ (st117 _ kk)
    clear k113 st117
    have k119 : own_G p e below E0 T114 (mkF m 6 #[vr a, vd x, ss, vi ((50 : Int32) * (0 : Int32))] [(.long (1 : Int64)), (.ref a)]) := by
      intro tQ kk
      refine k118 tQ ?_
      refine XS.aloadN X115.here hx rfl (hb hby d_prog_12_method_1_code_4) rfl rfl ?_
      refine XT.lconst X115.here hx rfl (hb hby d_prog_12_method_1_code_5) ?_
      exact kk
    clear k118
    have st120 := X115.ldc2DoubleC hx hown (mvT hZ (tw14 hw)) (g := (mkF m 6 #[vr a, vd x, ss, vi ((50 : Int32) * (0 : Int32))] [(.long (1 : Int64)), (.ref a)])) rfl (hb hby d_prog_12_method_1_code_6)
    have k121 : own_G p e below E0 T114 (mkF m 9 #[vr a, vd x, ss, vi ((50 : Int32) * (0 : Int32))] [(.double (4581421828931458171 : UInt64)), (.long (1 : Int64)), (.ref a)]) := fun tQ kk => k119 tQ (st120 _ kk)
    clear k119 st120
    have k122 : own_G p e below E0 T114 (mkF m 12 #[vr a, vd x, ss, vi ((50 : Int32) * (0 : Int32))] [(.double (0 : UInt64)), (.long (1 : Int64)), (.ref a)]) := by
      intro tQ kk
      refine k121 tQ ?_
      refine XS.iloadN X115.here hx rfl (hb hby d_prog_12_method_1_code_9) rfl ?_
      refine XS.i2dS X115.here hx rfl (hb hby d_prog_12_method_1_code_10) rfl rfl ?_
      refine XS.dmulS (v := (0 : UInt64)) X115.here hx rfl (hb hby d_prog_12_method_1_code_11) rfl (by unfold NoNaN64; decide +kernel) (by decide +kernel) ?_
      exact kk
    clear k121
    obtain ⟨_, _, ⟨T123, L124, kc125, nc126⟩, -, X127, ⟨Lc128, hQ129, l130, y131, z132⟩, st133⟩ := Jvm.LawKit.callS X115 hx (y := mn2) hown (mvT hZ (tw15 hw)) (mvT hZ (tw16 hw)) (mvT hZ (tw3 hw)) (mvT hZ (tw17 hw)) (by decide) (backOf (W := 3) (rmRD0 l Z a0 hw []  h0 n0 Z0 ) hZ (tw17 hw) (tw3 hw) (by decide) (by decide)) (g := (mkF m 12 #[vr a, vd x, ss, vi ((50 : Int32) * (0 : Int32))] [(.double (0 : UInt64)), (.long (1 : Int64)), (.ref a)])) rfl (by rw [hml]; rfl) (argsL := [(.double (0 : UInt64))]) (rest := [(.long (1 : Int64)), (.ref a)]) (lenOf pd_10 rfl) rfl (by show 2 * 0 + _ ≤ _; exact Nat.le_of_eq rfl) (hb hby d_prog_12_method_1_code_12) (fun _ _ => ⟨rfl, e116, (by decide : 0 + 0 ≤ _), (by decide : 0 + 0 ≤ _)⟩)
    dsimp only [Pt.U, Pt.locs, Pt.cells, Pt.slots] at X127 l130 y131 z132 st133 hQ129
    subst l130 y131 z132
    obtain ⟨rfl, N134, e135⟩ := hQ129
    have N137 := Fr.app N0 N134
    have k138 : own_G p e below E0 T123 (mkF m 15 #[vr a, vd x, ss, vi ((50 : Int32) * (0 : Int32))] [(.long (0 : Int64)), (.long (1 : Int64)), (.ref a)]) := fun tQ kk => k122 tQ (st133 _ kk)
    clear k122 st133
    obtain ⟨_, _, ⟨T139, L140, kc141, nc142⟩, -, X143, ⟨Lc144, hQ145, l146, y147, z148⟩, st149⟩ := Jvm.LawKit.callS X127 hx (y := mn1) hown (mvT hZ (tw27 hw)) (mvT hZ (tw28 hw)) (mvT hZ (tw3 hw)) (mvT hZ (tw29 hw)) (by decide) (backOf (W := 1) (rmMJ l Z a0 hw [] (1 : Int64) (0 : Int64) h0 n0 Z0 ) hZ (tw29 hw) (tw3 hw) (by decide) (by decide)) (g := (mkF m 15 #[vr a, vd x, ss, vi ((50 : Int32) * (0 : Int32))] [(.long (0 : Int64)), (.long (1 : Int64)), (.ref a)])) rfl (by rw [hml]; rfl) (argsL := [(.long (1 : Int64)), (.long (0 : Int64))]) (rest := [(.ref a)]) (lenOf pd_11 rfl) rfl (by show 2 * 0 + _ ≤ _; exact Nat.le_of_eq rfl) (hb hby d_prog_12_method_1_code_15) (fun _ _ => ⟨rfl, e135, (by decide : 0 + 0 ≤ _), (by decide : 0 + 0 ≤ _)⟩)
    dsimp only [Pt.U, Pt.locs, Pt.cells, Pt.slots] at X143 l146 y147 z148 st149 hQ145
    subst l146 y147 z148
    obtain ⟨rfl, N150, e151⟩ := hQ145
    have N153 := Fr.app N137 N150
    have k154 : own_G p e below E0 T139 (mkF m 18 #[vr a, vd x, ss, vi ((50 : Int32) * (0 : Int32))] [(.long (if (1 : Int64) < (0 : Int64) then (0 : Int64) else (1 : Int64))), (.ref a)]) := fun tQ kk => k138 tQ (st149 _ kk)
    clear k138 st149
    have eq155 : (if (1 : Int64) < (0 : Int64) then (0 : Int64) else (1 : Int64)) = (1 : Int64) := by decide
    rw [eq155] at k154
    have k156 : own_G p e below E0 T139 (mkF m 19 #[vr a, vd x, ss, vi ((50 : Int32) * (0 : Int32))] [(.int ((1 : Int64).toInt32)), (.ref a)]) := by
      intro tQ kk
      refine k154 tQ ?_
      refine XT.l2i X143.here hx rfl (hb hby d_prog_12_method_1_code_18) rfl ?_
      exact kk
    clear k154
    have eq157 : ((1 : Int64).toInt32) = (1 : Int32) := by decide
    rw [eq157] at k156
    obtain ⟨T158, h159, X160, e161, W162, st163⟩ := putF X143 hx hZ hown (host := "") (Or.inl (tw30 hw)) Via.refl e151 F_frames E1 (Or.inr ⟨(tw31 hw), rfl, hnm⟩) (tw6 hw) (ty := .int) (by decide) rfl rfl (g := (mkF m 19 #[vr a, vd x, ss, vi ((50 : Int32) * (0 : Int32))] [(.int (1 : Int32)), (.ref a)])) rfl rfl (hb hby d_prog_12_method_1_code_19)
    have N164 := Fr.snoc X160 N153 ge_a
    have k165 : own_G p e below E0 T158 (mkF m 22 #[vr a, vd x, ss, vi ((50 : Int32) * (0 : Int32))] []) := fun tQ kk => k156 tQ (st163 _ kk)
    clear k156 st163
    have F166 : xa8 Z h159 a := E1.wr W162
    clear E1
    have F167 : fd3 Z h159 a (.int (1 : Int32)) := F_frames.same W162
    clear F_frames
    have F168 : fd4 Z h159 a (.double (0 : UInt64)) := F_value.other W162 (Or.inr (slot_ne (C := "com/example/lampwork/lampwork/Glide") (Or.inl (tw33 hw)) (Or.inr (tw31 hw)) (by decide) (t := .double) (t' := .int) (by decide) (by decide)))
    clear F_value
    have F169 : fd5 Z h159 a (.double (0 : UInt64)) := F_target.other W162 (Or.inr (slot_ne (C := "com/example/lampwork/lampwork/Glide") (Or.inl (tw35 hw)) (Or.inr (tw31 hw)) (by decide) (t := .double) (t' := .int) (by decide) (by decide)))
    clear F_target
    have F170 : fd6 Z h159 a (.double (0 : UInt64)) := F_step.other W162 (Or.inr (slot_ne (C := "com/example/lampwork/lampwork/Glide") (Or.inl (tw63 hw)) (Or.inr (tw31 hw)) (by decide) (t := .double) (t' := .int) (by decide) (by decide)))
    clear F_step
    have F171 : fd7 Z h159 a (.int (0 : Int32)) := F_remaining.other W162 (Or.inr (slot_ne (C := "com/example/lampwork/lampwork/Glide") (Or.inl (tw42 hw)) (Or.inr (tw31 hw)) (by decide) (t := .int) (t' := .int) (by decide) (by decide)))
    clear F_remaining
    have Z172 : n0 ≤ h159.size := by rw [W162.size]; exact Z0
    have K173 : Keep h0 h159 [a] := K0.wr W162 (Or.inl (List.mem_of_getElem? (i := 0) rfl))
    have k174 : own_G p e below E0 T158 (mkF m 24 #[vr a, vd x, ss, vi ((50 : Int32) * (0 : Int32))] [(.double x), (.ref a)]) := by
      intro tQ kk
      refine k165 tQ ?_
      refine XS.aloadN X160.here hx rfl (hb hby d_prog_12_method_1_code_22) rfl rfl ?_
      refine XS.dloadN X160.here hx rfl (hb hby d_prog_12_method_1_code_23) rfl ?_
      exact kk
    clear k165
    obtain ⟨T175, h176, X177, e178, W179, st180⟩ := putF X160 hx hZ hown (host := "") (Or.inl (tw32 hw)) Via.refl e161 F168 F166 (Or.inl (tw33 hw)) (tw6 hw) (ty := .double) (by decide) rfl rfl (g := (mkF m 24 #[vr a, vd x, ss, vi ((50 : Int32) * (0 : Int32))] [(.double x), (.ref a)])) rfl rfl (hb hby d_prog_12_method_1_code_24)
    have N181 := Fr.snoc X177 N164 ge_a
    have k182 : own_G p e below E0 T175 (mkF m 27 #[vr a, vd x, ss, vi ((50 : Int32) * (0 : Int32))] []) := fun tQ kk => k174 tQ (st180 _ kk)
    clear k174 st180
    have F183 : xa8 Z h176 a := F166.wr W179
    clear F166
    have F184 : fd3 Z h176 a (.int (1 : Int32)) := F167.other W179 (Or.inr (slot_ne (C := "com/example/lampwork/lampwork/Glide") (Or.inr (tw31 hw)) (Or.inl (tw33 hw)) (by decide) (t := .int) (t' := .double) (by decide) (by decide)))
    clear F167
    have F185 : fd4 Z h176 a (.double x) := F168.same W179
    clear F168
    have F186 : fd5 Z h176 a (.double (0 : UInt64)) := F169.other W179 (Or.inr (slot_ne (C := "com/example/lampwork/lampwork/Glide") (Or.inl (tw35 hw)) (Or.inl (tw33 hw)) (by decide) (t := .double) (t' := .double) (by decide) (by decide)))
    clear F169
    have F187 : fd6 Z h176 a (.double (0 : UInt64)) := F170.other W179 (Or.inr (slot_ne (C := "com/example/lampwork/lampwork/Glide") (Or.inl (tw63 hw)) (Or.inl (tw33 hw)) (by decide) (t := .double) (t' := .double) (by decide) (by decide)))
    clear F170
    have F188 : fd7 Z h176 a (.int (0 : Int32)) := F171.other W179 (Or.inr (slot_ne (C := "com/example/lampwork/lampwork/Glide") (Or.inl (tw42 hw)) (Or.inl (tw33 hw)) (by decide) (t := .int) (t' := .double) (by decide) (by decide)))
    clear F171
    have Z189 : n0 ≤ h176.size := by rw [W179.size]; exact Z172
    have K190 : Keep h0 h176 [a] := K173.wr W179 (Or.inl (List.mem_of_getElem? (i := 0) rfl))
    have k191 : own_G p e below E0 T175 (mkF m 29 #[vr a, vd x, ss, vi ((50 : Int32) * (0 : Int32))] [(.double x), (.ref a)]) := by
      intro tQ kk
      refine k182 tQ ?_
      refine XS.aloadN X177.here hx rfl (hb hby d_prog_12_method_1_code_27) rfl rfl ?_
      refine XS.dloadN X177.here hx rfl (hb hby d_prog_12_method_1_code_28) rfl ?_
      exact kk
    clear k182
    obtain ⟨T192, h193, X194, e195, W196, st197⟩ := putF X177 hx hZ hown (host := "") (Or.inl (tw34 hw)) Via.refl e178 F186 F183 (Or.inl (tw35 hw)) (tw6 hw) (ty := .double) (by decide) rfl rfl (g := (mkF m 29 #[vr a, vd x, ss, vi ((50 : Int32) * (0 : Int32))] [(.double x), (.ref a)])) rfl rfl (hb hby d_prog_12_method_1_code_29)
    have N198 := Fr.snoc X194 N181 ge_a
    have k199 : own_G p e below E0 T192 (mkF m 32 #[vr a, vd x, ss, vi ((50 : Int32) * (0 : Int32))] []) := fun tQ kk => k191 tQ (st197 _ kk)
    clear k191 st197
    have F200 : xa8 Z h193 a := F183.wr W196
    clear F183
    have F201 : fd3 Z h193 a (.int (1 : Int32)) := F184.other W196 (Or.inr (slot_ne (C := "com/example/lampwork/lampwork/Glide") (Or.inr (tw31 hw)) (Or.inl (tw35 hw)) (by decide) (t := .int) (t' := .double) (by decide) (by decide)))
    clear F184
    have F202 : fd4 Z h193 a (.double x) := F185.other W196 (Or.inr (slot_ne (C := "com/example/lampwork/lampwork/Glide") (Or.inl (tw33 hw)) (Or.inl (tw35 hw)) (by decide) (t := .double) (t' := .double) (by decide) (by decide)))
    clear F185
    have F203 : fd5 Z h193 a (.double x) := F186.same W196
    clear F186
    have F204 : fd6 Z h193 a (.double (0 : UInt64)) := F187.other W196 (Or.inr (slot_ne (C := "com/example/lampwork/lampwork/Glide") (Or.inl (tw63 hw)) (Or.inl (tw35 hw)) (by decide) (t := .double) (t' := .double) (by decide) (by decide)))
    clear F187
    have F205 : fd7 Z h193 a (.int (0 : Int32)) := F188.other W196 (Or.inr (slot_ne (C := "com/example/lampwork/lampwork/Glide") (Or.inl (tw42 hw)) (Or.inl (tw35 hw)) (by decide) (t := .int) (t' := .double) (by decide) (by decide)))
    clear F188
    have Z206 : n0 ≤ h193.size := by rw [W196.size]; exact Z189
    have K207 : Keep h0 h193 [a] := K190.wr W196 (Or.inl (List.mem_of_getElem? (i := 0) rfl))
    obtain ⟨fs, hr, hrun, hended, hW, hsame⟩ := X194.leave (v := none) (fun _ => rfl)
    have hrun0 := k199 _ (X194.returnOut hx Bd.returns (hb hby d_prog_12_method_1_code_32) hr)
    subst hE0
    refine ⟨_, _, hrun0, hrun, hended, _, _, rfl, ?_, ⟨_, rfl⟩, hW, hsame.mono (by decide) (by decide)⟩
    show QrmI Z a x (0 : Int32) h0 n0 _ T192.heap _
    rw [e195]
    exact ⟨rfl, N198, K207, (by rw [show own_F (0 : Int32) = 1 by decide]; exact F201), F202, F203, F204, F205⟩
  · skip
    have k208 : own_G p e below E0 s₁ (mkF m 1 #[vr a, vd x, ss, vi ((50 : Int32) * (1 : Int32))] [(.ref a)]) := by
      intro tQ kk
      refine k0 tQ ?_
      refine XS.aloadN X0.here hx rfl (hb hby d_prog_12_method_1_code_0) rfl rfl ?_
      exact kk
    clear k0
    obtain ⟨T209, X210, e211, st212⟩ := initO X0 hx hZ hown (tw11 hw) (tw12 hw) (tw13 hw) e0 (g := (mkF m 1 #[vr a, vd x, ss, vi ((50 : Int32) * (1 : Int32))] [(.ref a)])) rfl (by rw [hml]; rfl) rfl (hb hby d_prog_12_method_1_code_1) (by decide) (W := 0) (by show 2 * 0 + _ ≤ _; exact Nat.le_of_eq rfl) (by decide)
    have k213 : own_G p e below E0 T209 (mkF m 4 #[vr a, vd x, ss, vi ((50 : Int32) * (1 : Int32))] []) := fun tQ kk => k208 tQ (st212 _ kk)
    clear k208 st212
    have k214 : own_G p e below E0 T209 (mkF m 6 #[vr a, vd x, ss, vi ((50 : Int32) * (1 : Int32))] [(.long (1 : Int64)), (.ref a)]) := by
      intro tQ kk
      refine k213 tQ ?_
      refine XS.aloadN X210.here hx rfl (hb hby d_prog_12_method_1_code_4) rfl rfl ?_
      refine XT.lconst X210.here hx rfl (hb hby d_prog_12_method_1_code_5) ?_
      exact kk
    clear k213
    have st215 := X210.ldc2DoubleC hx hown (mvT hZ (tw14 hw)) (g := (mkF m 6 #[vr a, vd x, ss, vi ((50 : Int32) * (1 : Int32))] [(.long (1 : Int64)), (.ref a)])) rfl (hb hby d_prog_12_method_1_code_6)
    have k216 : own_G p e below E0 T209 (mkF m 9 #[vr a, vd x, ss, vi ((50 : Int32) * (1 : Int32))] [(.double (4581421828931458171 : UInt64)), (.long (1 : Int64)), (.ref a)]) := fun tQ kk => k214 tQ (st215 _ kk)
    clear k214 st215
    have k217 : own_G p e below E0 T209 (mkF m 12 #[vr a, vd x, ss, vi ((50 : Int32) * (1 : Int32))] [(.double (4607182418800017408 : UInt64)), (.long (1 : Int64)), (.ref a)]) := by
      intro tQ kk
      refine k216 tQ ?_
      refine XS.iloadN X210.here hx rfl (hb hby d_prog_12_method_1_code_9) rfl ?_
      refine XS.i2dS X210.here hx rfl (hb hby d_prog_12_method_1_code_10) rfl rfl ?_
      refine XS.dmulS (v := (4607182418800017408 : UInt64)) X210.here hx rfl (hb hby d_prog_12_method_1_code_11) rfl (by unfold NoNaN64; decide +kernel) (by decide +kernel) ?_
      exact kk
    clear k216
    obtain ⟨_, _, ⟨T218, L219, kc220, nc221⟩, -, X222, ⟨Lc223, hQ224, l225, y226, z227⟩, st228⟩ := Jvm.LawKit.callS X210 hx (y := mn2) hown (mvT hZ (tw15 hw)) (mvT hZ (tw16 hw)) (mvT hZ (tw3 hw)) (mvT hZ (tw17 hw)) (by decide) (backOf (W := 3) (rmRD50 l Z a0 hw []  h0 n0 Z0 ) hZ (tw17 hw) (tw3 hw) (by decide) (by decide)) (g := (mkF m 12 #[vr a, vd x, ss, vi ((50 : Int32) * (1 : Int32))] [(.double (4607182418800017408 : UInt64)), (.long (1 : Int64)), (.ref a)])) rfl (by rw [hml]; rfl) (argsL := [(.double (4607182418800017408 : UInt64))]) (rest := [(.long (1 : Int64)), (.ref a)]) (lenOf pd_10 rfl) rfl (by show 2 * 0 + _ ≤ _; exact Nat.le_of_eq rfl) (hb hby d_prog_12_method_1_code_12) (fun _ _ => ⟨rfl, e211, (by decide : 0 + 0 ≤ _), (by decide : 0 + 0 ≤ _)⟩)
    dsimp only [Pt.U, Pt.locs, Pt.cells, Pt.slots] at X222 l225 y226 z227 st228 hQ224
    subst l225 y226 z227
    obtain ⟨rfl, N229, e230⟩ := hQ224
    have N232 := Fr.app N0 N229
    have k233 : own_G p e below E0 T218 (mkF m 15 #[vr a, vd x, ss, vi ((50 : Int32) * (1 : Int32))] [(.long (1 : Int64)), (.long (1 : Int64)), (.ref a)]) := fun tQ kk => k217 tQ (st228 _ kk)
    clear k217 st228
    obtain ⟨_, _, ⟨T234, L235, kc236, nc237⟩, -, X238, ⟨Lc239, hQ240, l241, y242, z243⟩, st244⟩ := Jvm.LawKit.callS X222 hx (y := mn1) hown (mvT hZ (tw27 hw)) (mvT hZ (tw28 hw)) (mvT hZ (tw3 hw)) (mvT hZ (tw29 hw)) (by decide) (backOf (W := 1) (rmMJ l Z a0 hw [] (1 : Int64) (1 : Int64) h0 n0 Z0 ) hZ (tw29 hw) (tw3 hw) (by decide) (by decide)) (g := (mkF m 15 #[vr a, vd x, ss, vi ((50 : Int32) * (1 : Int32))] [(.long (1 : Int64)), (.long (1 : Int64)), (.ref a)])) rfl (by rw [hml]; rfl) (argsL := [(.long (1 : Int64)), (.long (1 : Int64))]) (rest := [(.ref a)]) (lenOf pd_11 rfl) rfl (by show 2 * 0 + _ ≤ _; exact Nat.le_of_eq rfl) (hb hby d_prog_12_method_1_code_15) (fun _ _ => ⟨rfl, e230, (by decide : 0 + 0 ≤ _), (by decide : 0 + 0 ≤ _)⟩)
    dsimp only [Pt.U, Pt.locs, Pt.cells, Pt.slots] at X238 l241 y242 z243 st244 hQ240
    subst l241 y242 z243
    obtain ⟨rfl, N245, e246⟩ := hQ240
    have N248 := Fr.app N232 N245
    have k249 : own_G p e below E0 T234 (mkF m 18 #[vr a, vd x, ss, vi ((50 : Int32) * (1 : Int32))] [(.long (if (1 : Int64) < (1 : Int64) then (1 : Int64) else (1 : Int64))), (.ref a)]) := fun tQ kk => k233 tQ (st244 _ kk)
    clear k233 st244
    have eq250 : (if (1 : Int64) < (1 : Int64) then (1 : Int64) else (1 : Int64)) = (1 : Int64) := by decide
    rw [eq250] at k249
    have k251 : own_G p e below E0 T234 (mkF m 19 #[vr a, vd x, ss, vi ((50 : Int32) * (1 : Int32))] [(.int ((1 : Int64).toInt32)), (.ref a)]) := by
      intro tQ kk
      refine k249 tQ ?_
      refine XT.l2i X238.here hx rfl (hb hby d_prog_12_method_1_code_18) rfl ?_
      exact kk
    clear k249
    have eq252 : ((1 : Int64).toInt32) = (1 : Int32) := by decide
    rw [eq252] at k251
    obtain ⟨T253, h254, X255, e256, W257, st258⟩ := putF X238 hx hZ hown (host := "") (Or.inl (tw30 hw)) Via.refl e246 F_frames E1 (Or.inr ⟨(tw31 hw), rfl, hnm⟩) (tw6 hw) (ty := .int) (by decide) rfl rfl (g := (mkF m 19 #[vr a, vd x, ss, vi ((50 : Int32) * (1 : Int32))] [(.int (1 : Int32)), (.ref a)])) rfl rfl (hb hby d_prog_12_method_1_code_19)
    have N259 := Fr.snoc X255 N248 ge_a
    have k260 : own_G p e below E0 T253 (mkF m 22 #[vr a, vd x, ss, vi ((50 : Int32) * (1 : Int32))] []) := fun tQ kk => k251 tQ (st258 _ kk)
    clear k251 st258
    have F261 : xa8 Z h254 a := E1.wr W257
    clear E1
    have F262 : fd3 Z h254 a (.int (1 : Int32)) := F_frames.same W257
    clear F_frames
    have F263 : fd4 Z h254 a (.double (0 : UInt64)) := F_value.other W257 (Or.inr (slot_ne (C := "com/example/lampwork/lampwork/Glide") (Or.inl (tw33 hw)) (Or.inr (tw31 hw)) (by decide) (t := .double) (t' := .int) (by decide) (by decide)))
    clear F_value
    have F264 : fd5 Z h254 a (.double (0 : UInt64)) := F_target.other W257 (Or.inr (slot_ne (C := "com/example/lampwork/lampwork/Glide") (Or.inl (tw35 hw)) (Or.inr (tw31 hw)) (by decide) (t := .double) (t' := .int) (by decide) (by decide)))
    clear F_target
    have F265 : fd6 Z h254 a (.double (0 : UInt64)) := F_step.other W257 (Or.inr (slot_ne (C := "com/example/lampwork/lampwork/Glide") (Or.inl (tw63 hw)) (Or.inr (tw31 hw)) (by decide) (t := .double) (t' := .int) (by decide) (by decide)))
    clear F_step
    have F266 : fd7 Z h254 a (.int (0 : Int32)) := F_remaining.other W257 (Or.inr (slot_ne (C := "com/example/lampwork/lampwork/Glide") (Or.inl (tw42 hw)) (Or.inr (tw31 hw)) (by decide) (t := .int) (t' := .int) (by decide) (by decide)))
    clear F_remaining
    have Z267 : n0 ≤ h254.size := by rw [W257.size]; exact Z0
    have K268 : Keep h0 h254 [a] := K0.wr W257 (Or.inl (List.mem_of_getElem? (i := 0) rfl))
    have k269 : own_G p e below E0 T253 (mkF m 24 #[vr a, vd x, ss, vi ((50 : Int32) * (1 : Int32))] [(.double x), (.ref a)]) := by
      intro tQ kk
      refine k260 tQ ?_
      refine XS.aloadN X255.here hx rfl (hb hby d_prog_12_method_1_code_22) rfl rfl ?_
      refine XS.dloadN X255.here hx rfl (hb hby d_prog_12_method_1_code_23) rfl ?_
      exact kk
    clear k260
    obtain ⟨T270, h271, X272, e273, W274, st275⟩ := putF X255 hx hZ hown (host := "") (Or.inl (tw32 hw)) Via.refl e256 F263 F261 (Or.inl (tw33 hw)) (tw6 hw) (ty := .double) (by decide) rfl rfl (g := (mkF m 24 #[vr a, vd x, ss, vi ((50 : Int32) * (1 : Int32))] [(.double x), (.ref a)])) rfl rfl (hb hby d_prog_12_method_1_code_24)
    have N276 := Fr.snoc X272 N259 ge_a
    have k277 : own_G p e below E0 T270 (mkF m 27 #[vr a, vd x, ss, vi ((50 : Int32) * (1 : Int32))] []) := fun tQ kk => k269 tQ (st275 _ kk)
    clear k269 st275
    have F278 : xa8 Z h271 a := F261.wr W274
    clear F261
    have F279 : fd3 Z h271 a (.int (1 : Int32)) := F262.other W274 (Or.inr (slot_ne (C := "com/example/lampwork/lampwork/Glide") (Or.inr (tw31 hw)) (Or.inl (tw33 hw)) (by decide) (t := .int) (t' := .double) (by decide) (by decide)))
    clear F262
    have F280 : fd4 Z h271 a (.double x) := F263.same W274
    clear F263
    have F281 : fd5 Z h271 a (.double (0 : UInt64)) := F264.other W274 (Or.inr (slot_ne (C := "com/example/lampwork/lampwork/Glide") (Or.inl (tw35 hw)) (Or.inl (tw33 hw)) (by decide) (t := .double) (t' := .double) (by decide) (by decide)))
    clear F264
    have F282 : fd6 Z h271 a (.double (0 : UInt64)) := F265.other W274 (Or.inr (slot_ne (C := "com/example/lampwork/lampwork/Glide") (Or.inl (tw63 hw)) (Or.inl (tw33 hw)) (by decide) (t := .double) (t' := .double) (by decide) (by decide)))
    clear F265
    have F283 : fd7 Z h271 a (.int (0 : Int32)) := F266.other W274 (Or.inr (slot_ne (C := "com/example/lampwork/lampwork/Glide") (Or.inl (tw42 hw)) (Or.inl (tw33 hw)) (by decide) (t := .int) (t' := .double) (by decide) (by decide)))
    clear F266
    have Z284 : n0 ≤ h271.size := by rw [W274.size]; exact Z267
    have K285 : Keep h0 h271 [a] := K268.wr W274 (Or.inl (List.mem_of_getElem? (i := 0) rfl))
    have k286 : own_G p e below E0 T270 (mkF m 29 #[vr a, vd x, ss, vi ((50 : Int32) * (1 : Int32))] [(.double x), (.ref a)]) := by
      intro tQ kk
      refine k277 tQ ?_
      refine XS.aloadN X272.here hx rfl (hb hby d_prog_12_method_1_code_27) rfl rfl ?_
      refine XS.dloadN X272.here hx rfl (hb hby d_prog_12_method_1_code_28) rfl ?_
      exact kk
    clear k277
    obtain ⟨T287, h288, X289, e290, W291, st292⟩ := putF X272 hx hZ hown (host := "") (Or.inl (tw34 hw)) Via.refl e273 F281 F278 (Or.inl (tw35 hw)) (tw6 hw) (ty := .double) (by decide) rfl rfl (g := (mkF m 29 #[vr a, vd x, ss, vi ((50 : Int32) * (1 : Int32))] [(.double x), (.ref a)])) rfl rfl (hb hby d_prog_12_method_1_code_29)
    have N293 := Fr.snoc X289 N276 ge_a
    have k294 : own_G p e below E0 T287 (mkF m 32 #[vr a, vd x, ss, vi ((50 : Int32) * (1 : Int32))] []) := fun tQ kk => k286 tQ (st292 _ kk)
    clear k286 st292
    have F295 : xa8 Z h288 a := F278.wr W291
    clear F278
    have F296 : fd3 Z h288 a (.int (1 : Int32)) := F279.other W291 (Or.inr (slot_ne (C := "com/example/lampwork/lampwork/Glide") (Or.inr (tw31 hw)) (Or.inl (tw35 hw)) (by decide) (t := .int) (t' := .double) (by decide) (by decide)))
    clear F279
    have F297 : fd4 Z h288 a (.double x) := F280.other W291 (Or.inr (slot_ne (C := "com/example/lampwork/lampwork/Glide") (Or.inl (tw33 hw)) (Or.inl (tw35 hw)) (by decide) (t := .double) (t' := .double) (by decide) (by decide)))
    clear F280
    have F298 : fd5 Z h288 a (.double x) := F281.same W291
    clear F281
    have F299 : fd6 Z h288 a (.double (0 : UInt64)) := F282.other W291 (Or.inr (slot_ne (C := "com/example/lampwork/lampwork/Glide") (Or.inl (tw63 hw)) (Or.inl (tw35 hw)) (by decide) (t := .double) (t' := .double) (by decide) (by decide)))
    clear F282
    have F300 : fd7 Z h288 a (.int (0 : Int32)) := F283.other W291 (Or.inr (slot_ne (C := "com/example/lampwork/lampwork/Glide") (Or.inl (tw42 hw)) (Or.inl (tw35 hw)) (by decide) (t := .int) (t' := .double) (by decide) (by decide)))
    clear F283
    have Z301 : n0 ≤ h288.size := by rw [W291.size]; exact Z284
    have K302 : Keep h0 h288 [a] := K285.wr W291 (Or.inl (List.mem_of_getElem? (i := 0) rfl))
    obtain ⟨fs, hr, hrun, hended, hW, hsame⟩ := X289.leave (v := none) (fun _ => rfl)
    have hrun0 := k294 _ (X289.returnOut hx Bd.returns (hb hby d_prog_12_method_1_code_32) hr)
    subst hE0
    refine ⟨_, _, hrun0, hrun, hended, _, _, rfl, ?_, ⟨_, rfl⟩, hW, hsame.mono (by decide) (by decide)⟩
    show QrmI Z a x (1 : Int32) h0 n0 _ T287.heap _
    rw [e290]
    exact ⟨rfl, N293, K302, (by rw [show own_F (1 : Int32) = 1 by decide]; exact F296), F297, F298, F299, F300⟩
  · skip
    have k303 : own_G p e below E0 s₁ (mkF m 1 #[vr a, vd x, ss, vi ((50 : Int32) * (2 : Int32))] [(.ref a)]) := by
      intro tQ kk
      refine k0 tQ ?_
      refine XS.aloadN X0.here hx rfl (hb hby d_prog_12_method_1_code_0) rfl rfl ?_
      exact kk
    clear k0
    obtain ⟨T304, X305, e306, st307⟩ := initO X0 hx hZ hown (tw11 hw) (tw12 hw) (tw13 hw) e0 (g := (mkF m 1 #[vr a, vd x, ss, vi ((50 : Int32) * (2 : Int32))] [(.ref a)])) rfl (by rw [hml]; rfl) rfl (hb hby d_prog_12_method_1_code_1) (by decide) (W := 0) (by show 2 * 0 + _ ≤ _; exact Nat.le_of_eq rfl) (by decide)
    have k308 : own_G p e below E0 T304 (mkF m 4 #[vr a, vd x, ss, vi ((50 : Int32) * (2 : Int32))] []) := fun tQ kk => k303 tQ (st307 _ kk)
    clear k303 st307
    have k309 : own_G p e below E0 T304 (mkF m 6 #[vr a, vd x, ss, vi ((50 : Int32) * (2 : Int32))] [(.long (1 : Int64)), (.ref a)]) := by
      intro tQ kk
      refine k308 tQ ?_
      refine XS.aloadN X305.here hx rfl (hb hby d_prog_12_method_1_code_4) rfl rfl ?_
      refine XT.lconst X305.here hx rfl (hb hby d_prog_12_method_1_code_5) ?_
      exact kk
    clear k308
    have st310 := X305.ldc2DoubleC hx hown (mvT hZ (tw14 hw)) (g := (mkF m 6 #[vr a, vd x, ss, vi ((50 : Int32) * (2 : Int32))] [(.long (1 : Int64)), (.ref a)])) rfl (hb hby d_prog_12_method_1_code_6)
    have k311 : own_G p e below E0 T304 (mkF m 9 #[vr a, vd x, ss, vi ((50 : Int32) * (2 : Int32))] [(.double (4581421828931458171 : UInt64)), (.long (1 : Int64)), (.ref a)]) := fun tQ kk => k309 tQ (st310 _ kk)
    clear k309 st310
    have k312 : own_G p e below E0 T304 (mkF m 12 #[vr a, vd x, ss, vi ((50 : Int32) * (2 : Int32))] [(.double (4611686018427387904 : UInt64)), (.long (1 : Int64)), (.ref a)]) := by
      intro tQ kk
      refine k311 tQ ?_
      refine XS.iloadN X305.here hx rfl (hb hby d_prog_12_method_1_code_9) rfl ?_
      refine XS.i2dS X305.here hx rfl (hb hby d_prog_12_method_1_code_10) rfl rfl ?_
      refine XS.dmulS (v := (4611686018427387904 : UInt64)) X305.here hx rfl (hb hby d_prog_12_method_1_code_11) rfl (by unfold NoNaN64; decide +kernel) (by decide +kernel) ?_
      exact kk
    clear k311
    obtain ⟨_, _, ⟨T313, L314, kc315, nc316⟩, -, X317, ⟨Lc318, hQ319, l320, y321, z322⟩, st323⟩ := Jvm.LawKit.callS X305 hx (y := mn2) hown (mvT hZ (tw15 hw)) (mvT hZ (tw16 hw)) (mvT hZ (tw3 hw)) (mvT hZ (tw17 hw)) (by decide) (backOf (W := 3) (rmRD100 l Z a0 hw []  h0 n0 Z0 ) hZ (tw17 hw) (tw3 hw) (by decide) (by decide)) (g := (mkF m 12 #[vr a, vd x, ss, vi ((50 : Int32) * (2 : Int32))] [(.double (4611686018427387904 : UInt64)), (.long (1 : Int64)), (.ref a)])) rfl (by rw [hml]; rfl) (argsL := [(.double (4611686018427387904 : UInt64))]) (rest := [(.long (1 : Int64)), (.ref a)]) (lenOf pd_10 rfl) rfl (by show 2 * 0 + _ ≤ _; exact Nat.le_of_eq rfl) (hb hby d_prog_12_method_1_code_12) (fun _ _ => ⟨rfl, e306, (by decide : 0 + 0 ≤ _), (by decide : 0 + 0 ≤ _)⟩)
    dsimp only [Pt.U, Pt.locs, Pt.cells, Pt.slots] at X317 l320 y321 z322 st323 hQ319
    subst l320 y321 z322
    obtain ⟨rfl, N324, e325⟩ := hQ319
    have N327 := Fr.app N0 N324
    have k328 : own_G p e below E0 T313 (mkF m 15 #[vr a, vd x, ss, vi ((50 : Int32) * (2 : Int32))] [(.long (2 : Int64)), (.long (1 : Int64)), (.ref a)]) := fun tQ kk => k312 tQ (st323 _ kk)
    clear k312 st323
    obtain ⟨_, _, ⟨T329, L330, kc331, nc332⟩, -, X333, ⟨Lc334, hQ335, l336, y337, z338⟩, st339⟩ := Jvm.LawKit.callS X317 hx (y := mn1) hown (mvT hZ (tw27 hw)) (mvT hZ (tw28 hw)) (mvT hZ (tw3 hw)) (mvT hZ (tw29 hw)) (by decide) (backOf (W := 1) (rmMJ l Z a0 hw [] (1 : Int64) (2 : Int64) h0 n0 Z0 ) hZ (tw29 hw) (tw3 hw) (by decide) (by decide)) (g := (mkF m 15 #[vr a, vd x, ss, vi ((50 : Int32) * (2 : Int32))] [(.long (2 : Int64)), (.long (1 : Int64)), (.ref a)])) rfl (by rw [hml]; rfl) (argsL := [(.long (1 : Int64)), (.long (2 : Int64))]) (rest := [(.ref a)]) (lenOf pd_11 rfl) rfl (by show 2 * 0 + _ ≤ _; exact Nat.le_of_eq rfl) (hb hby d_prog_12_method_1_code_15) (fun _ _ => ⟨rfl, e325, (by decide : 0 + 0 ≤ _), (by decide : 0 + 0 ≤ _)⟩)
    dsimp only [Pt.U, Pt.locs, Pt.cells, Pt.slots] at X333 l336 y337 z338 st339 hQ335
    subst l336 y337 z338
    obtain ⟨rfl, N340, e341⟩ := hQ335
    have N343 := Fr.app N327 N340
    have k344 : own_G p e below E0 T329 (mkF m 18 #[vr a, vd x, ss, vi ((50 : Int32) * (2 : Int32))] [(.long (if (1 : Int64) < (2 : Int64) then (2 : Int64) else (1 : Int64))), (.ref a)]) := fun tQ kk => k328 tQ (st339 _ kk)
    clear k328 st339
    have eq345 : (if (1 : Int64) < (2 : Int64) then (2 : Int64) else (1 : Int64)) = (2 : Int64) := by decide
    rw [eq345] at k344
    have k346 : own_G p e below E0 T329 (mkF m 19 #[vr a, vd x, ss, vi ((50 : Int32) * (2 : Int32))] [(.int ((2 : Int64).toInt32)), (.ref a)]) := by
      intro tQ kk
      refine k344 tQ ?_
      refine XT.l2i X333.here hx rfl (hb hby d_prog_12_method_1_code_18) rfl ?_
      exact kk
    clear k344
    have eq347 : ((2 : Int64).toInt32) = (2 : Int32) := by decide
    rw [eq347] at k346
    obtain ⟨T348, h349, X350, e351, W352, st353⟩ := putF X333 hx hZ hown (host := "") (Or.inl (tw30 hw)) Via.refl e341 F_frames E1 (Or.inr ⟨(tw31 hw), rfl, hnm⟩) (tw6 hw) (ty := .int) (by decide) rfl rfl (g := (mkF m 19 #[vr a, vd x, ss, vi ((50 : Int32) * (2 : Int32))] [(.int (2 : Int32)), (.ref a)])) rfl rfl (hb hby d_prog_12_method_1_code_19)
    have N354 := Fr.snoc X350 N343 ge_a
    have k355 : own_G p e below E0 T348 (mkF m 22 #[vr a, vd x, ss, vi ((50 : Int32) * (2 : Int32))] []) := fun tQ kk => k346 tQ (st353 _ kk)
    clear k346 st353
    have F356 : xa8 Z h349 a := E1.wr W352
    clear E1
    have F357 : fd3 Z h349 a (.int (2 : Int32)) := F_frames.same W352
    clear F_frames
    have F358 : fd4 Z h349 a (.double (0 : UInt64)) := F_value.other W352 (Or.inr (slot_ne (C := "com/example/lampwork/lampwork/Glide") (Or.inl (tw33 hw)) (Or.inr (tw31 hw)) (by decide) (t := .double) (t' := .int) (by decide) (by decide)))
    clear F_value
    have F359 : fd5 Z h349 a (.double (0 : UInt64)) := F_target.other W352 (Or.inr (slot_ne (C := "com/example/lampwork/lampwork/Glide") (Or.inl (tw35 hw)) (Or.inr (tw31 hw)) (by decide) (t := .double) (t' := .int) (by decide) (by decide)))
    clear F_target
    have F360 : fd6 Z h349 a (.double (0 : UInt64)) := F_step.other W352 (Or.inr (slot_ne (C := "com/example/lampwork/lampwork/Glide") (Or.inl (tw63 hw)) (Or.inr (tw31 hw)) (by decide) (t := .double) (t' := .int) (by decide) (by decide)))
    clear F_step
    have F361 : fd7 Z h349 a (.int (0 : Int32)) := F_remaining.other W352 (Or.inr (slot_ne (C := "com/example/lampwork/lampwork/Glide") (Or.inl (tw42 hw)) (Or.inr (tw31 hw)) (by decide) (t := .int) (t' := .int) (by decide) (by decide)))
    clear F_remaining
    have Z362 : n0 ≤ h349.size := by rw [W352.size]; exact Z0
    have K363 : Keep h0 h349 [a] := K0.wr W352 (Or.inl (List.mem_of_getElem? (i := 0) rfl))
    have k364 : own_G p e below E0 T348 (mkF m 24 #[vr a, vd x, ss, vi ((50 : Int32) * (2 : Int32))] [(.double x), (.ref a)]) := by
      intro tQ kk
      refine k355 tQ ?_
      refine XS.aloadN X350.here hx rfl (hb hby d_prog_12_method_1_code_22) rfl rfl ?_
      refine XS.dloadN X350.here hx rfl (hb hby d_prog_12_method_1_code_23) rfl ?_
      exact kk
    clear k355
    obtain ⟨T365, h366, X367, e368, W369, st370⟩ := putF X350 hx hZ hown (host := "") (Or.inl (tw32 hw)) Via.refl e351 F358 F356 (Or.inl (tw33 hw)) (tw6 hw) (ty := .double) (by decide) rfl rfl (g := (mkF m 24 #[vr a, vd x, ss, vi ((50 : Int32) * (2 : Int32))] [(.double x), (.ref a)])) rfl rfl (hb hby d_prog_12_method_1_code_24)
    have N371 := Fr.snoc X367 N354 ge_a
    have k372 : own_G p e below E0 T365 (mkF m 27 #[vr a, vd x, ss, vi ((50 : Int32) * (2 : Int32))] []) := fun tQ kk => k364 tQ (st370 _ kk)
    clear k364 st370
    have F373 : xa8 Z h366 a := F356.wr W369
    clear F356
    have F374 : fd3 Z h366 a (.int (2 : Int32)) := F357.other W369 (Or.inr (slot_ne (C := "com/example/lampwork/lampwork/Glide") (Or.inr (tw31 hw)) (Or.inl (tw33 hw)) (by decide) (t := .int) (t' := .double) (by decide) (by decide)))
    clear F357
    have F375 : fd4 Z h366 a (.double x) := F358.same W369
    clear F358
    have F376 : fd5 Z h366 a (.double (0 : UInt64)) := F359.other W369 (Or.inr (slot_ne (C := "com/example/lampwork/lampwork/Glide") (Or.inl (tw35 hw)) (Or.inl (tw33 hw)) (by decide) (t := .double) (t' := .double) (by decide) (by decide)))
    clear F359
    have F377 : fd6 Z h366 a (.double (0 : UInt64)) := F360.other W369 (Or.inr (slot_ne (C := "com/example/lampwork/lampwork/Glide") (Or.inl (tw63 hw)) (Or.inl (tw33 hw)) (by decide) (t := .double) (t' := .double) (by decide) (by decide)))
    clear F360
    have F378 : fd7 Z h366 a (.int (0 : Int32)) := F361.other W369 (Or.inr (slot_ne (C := "com/example/lampwork/lampwork/Glide") (Or.inl (tw42 hw)) (Or.inl (tw33 hw)) (by decide) (t := .int) (t' := .double) (by decide) (by decide)))
    clear F361
    have Z379 : n0 ≤ h366.size := by rw [W369.size]; exact Z362
    have K380 : Keep h0 h366 [a] := K363.wr W369 (Or.inl (List.mem_of_getElem? (i := 0) rfl))
    have k381 : own_G p e below E0 T365 (mkF m 29 #[vr a, vd x, ss, vi ((50 : Int32) * (2 : Int32))] [(.double x), (.ref a)]) := by
      intro tQ kk
      refine k372 tQ ?_
      refine XS.aloadN X367.here hx rfl (hb hby d_prog_12_method_1_code_27) rfl rfl ?_
      refine XS.dloadN X367.here hx rfl (hb hby d_prog_12_method_1_code_28) rfl ?_
      exact kk
    clear k372
    obtain ⟨T382, h383, X384, e385, W386, st387⟩ := putF X367 hx hZ hown (host := "") (Or.inl (tw34 hw)) Via.refl e368 F376 F373 (Or.inl (tw35 hw)) (tw6 hw) (ty := .double) (by decide) rfl rfl (g := (mkF m 29 #[vr a, vd x, ss, vi ((50 : Int32) * (2 : Int32))] [(.double x), (.ref a)])) rfl rfl (hb hby d_prog_12_method_1_code_29)
    have N388 := Fr.snoc X384 N371 ge_a
    have k389 : own_G p e below E0 T382 (mkF m 32 #[vr a, vd x, ss, vi ((50 : Int32) * (2 : Int32))] []) := fun tQ kk => k381 tQ (st387 _ kk)
    clear k381 st387
    have F390 : xa8 Z h383 a := F373.wr W386
    clear F373
    have F391 : fd3 Z h383 a (.int (2 : Int32)) := F374.other W386 (Or.inr (slot_ne (C := "com/example/lampwork/lampwork/Glide") (Or.inr (tw31 hw)) (Or.inl (tw35 hw)) (by decide) (t := .int) (t' := .double) (by decide) (by decide)))
    clear F374
    have F392 : fd4 Z h383 a (.double x) := F375.other W386 (Or.inr (slot_ne (C := "com/example/lampwork/lampwork/Glide") (Or.inl (tw33 hw)) (Or.inl (tw35 hw)) (by decide) (t := .double) (t' := .double) (by decide) (by decide)))
    clear F375
    have F393 : fd5 Z h383 a (.double x) := F376.same W386
    clear F376
    have F394 : fd6 Z h383 a (.double (0 : UInt64)) := F377.other W386 (Or.inr (slot_ne (C := "com/example/lampwork/lampwork/Glide") (Or.inl (tw63 hw)) (Or.inl (tw35 hw)) (by decide) (t := .double) (t' := .double) (by decide) (by decide)))
    clear F377
    have F395 : fd7 Z h383 a (.int (0 : Int32)) := F378.other W386 (Or.inr (slot_ne (C := "com/example/lampwork/lampwork/Glide") (Or.inl (tw42 hw)) (Or.inl (tw35 hw)) (by decide) (t := .int) (t' := .double) (by decide) (by decide)))
    clear F378
    have Z396 : n0 ≤ h383.size := by rw [W386.size]; exact Z379
    have K397 : Keep h0 h383 [a] := K380.wr W386 (Or.inl (List.mem_of_getElem? (i := 0) rfl))
    obtain ⟨fs, hr, hrun, hended, hW, hsame⟩ := X384.leave (v := none) (fun _ => rfl)
    have hrun0 := k389 _ (X384.returnOut hx Bd.returns (hb hby d_prog_12_method_1_code_32) hr)
    subst hE0
    refine ⟨_, _, hrun0, hrun, hended, _, _, rfl, ?_, ⟨_, rfl⟩, hW, hsame.mono (by decide) (by decide)⟩
    show QrmI Z a x (2 : Int32) h0 n0 _ T382.heap _
    rw [e385]
    exact ⟨rfl, N388, K397, (by rw [show own_F (2 : Int32) = 2 by decide]; exact F391), F392, F393, F394, F395⟩
  · skip
    have k398 : own_G p e below E0 s₁ (mkF m 1 #[vr a, vd x, ss, vi ((50 : Int32) * (3 : Int32))] [(.ref a)]) := by
      intro tQ kk
      refine k0 tQ ?_
      refine XS.aloadN X0.here hx rfl (hb hby d_prog_12_method_1_code_0) rfl rfl ?_
      exact kk
    clear k0
    obtain ⟨T399, X400, e401, st402⟩ := initO X0 hx hZ hown (tw11 hw) (tw12 hw) (tw13 hw) e0 (g := (mkF m 1 #[vr a, vd x, ss, vi ((50 : Int32) * (3 : Int32))] [(.ref a)])) rfl (by rw [hml]; rfl) rfl (hb hby d_prog_12_method_1_code_1) (by decide) (W := 0) (by show 2 * 0 + _ ≤ _; exact Nat.le_of_eq rfl) (by decide)
    have k403 : own_G p e below E0 T399 (mkF m 4 #[vr a, vd x, ss, vi ((50 : Int32) * (3 : Int32))] []) := fun tQ kk => k398 tQ (st402 _ kk)
    clear k398 st402
    have k404 : own_G p e below E0 T399 (mkF m 6 #[vr a, vd x, ss, vi ((50 : Int32) * (3 : Int32))] [(.long (1 : Int64)), (.ref a)]) := by
      intro tQ kk
      refine k403 tQ ?_
      refine XS.aloadN X400.here hx rfl (hb hby d_prog_12_method_1_code_4) rfl rfl ?_
      refine XT.lconst X400.here hx rfl (hb hby d_prog_12_method_1_code_5) ?_
      exact kk
    clear k403
    have st405 := X400.ldc2DoubleC hx hown (mvT hZ (tw14 hw)) (g := (mkF m 6 #[vr a, vd x, ss, vi ((50 : Int32) * (3 : Int32))] [(.long (1 : Int64)), (.ref a)])) rfl (hb hby d_prog_12_method_1_code_6)
    have k406 : own_G p e below E0 T399 (mkF m 9 #[vr a, vd x, ss, vi ((50 : Int32) * (3 : Int32))] [(.double (4581421828931458171 : UInt64)), (.long (1 : Int64)), (.ref a)]) := fun tQ kk => k404 tQ (st405 _ kk)
    clear k404 st405
    have k407 : own_G p e below E0 T399 (mkF m 12 #[vr a, vd x, ss, vi ((50 : Int32) * (3 : Int32))] [(.double (4613937818241073152 : UInt64)), (.long (1 : Int64)), (.ref a)]) := by
      intro tQ kk
      refine k406 tQ ?_
      refine XS.iloadN X400.here hx rfl (hb hby d_prog_12_method_1_code_9) rfl ?_
      refine XS.i2dS X400.here hx rfl (hb hby d_prog_12_method_1_code_10) rfl rfl ?_
      refine XS.dmulS (v := (4613937818241073152 : UInt64)) X400.here hx rfl (hb hby d_prog_12_method_1_code_11) rfl (by unfold NoNaN64; decide +kernel) (by decide +kernel) ?_
      exact kk
    clear k406
    obtain ⟨_, _, ⟨T408, L409, kc410, nc411⟩, -, X412, ⟨Lc413, hQ414, l415, y416, z417⟩, st418⟩ := Jvm.LawKit.callS X400 hx (y := mn2) hown (mvT hZ (tw15 hw)) (mvT hZ (tw16 hw)) (mvT hZ (tw3 hw)) (mvT hZ (tw17 hw)) (by decide) (backOf (W := 3) (rmRD150 l Z a0 hw []  h0 n0 Z0 ) hZ (tw17 hw) (tw3 hw) (by decide) (by decide)) (g := (mkF m 12 #[vr a, vd x, ss, vi ((50 : Int32) * (3 : Int32))] [(.double (4613937818241073152 : UInt64)), (.long (1 : Int64)), (.ref a)])) rfl (by rw [hml]; rfl) (argsL := [(.double (4613937818241073152 : UInt64))]) (rest := [(.long (1 : Int64)), (.ref a)]) (lenOf pd_10 rfl) rfl (by show 2 * 0 + _ ≤ _; exact Nat.le_of_eq rfl) (hb hby d_prog_12_method_1_code_12) (fun _ _ => ⟨rfl, e401, (by decide : 0 + 0 ≤ _), (by decide : 0 + 0 ≤ _)⟩)
    dsimp only [Pt.U, Pt.locs, Pt.cells, Pt.slots] at X412 l415 y416 z417 st418 hQ414
    subst l415 y416 z417
    obtain ⟨rfl, N419, e420⟩ := hQ414
    have N422 := Fr.app N0 N419
    have k423 : own_G p e below E0 T408 (mkF m 15 #[vr a, vd x, ss, vi ((50 : Int32) * (3 : Int32))] [(.long (3 : Int64)), (.long (1 : Int64)), (.ref a)]) := fun tQ kk => k407 tQ (st418 _ kk)
    clear k407 st418
    obtain ⟨_, _, ⟨T424, L425, kc426, nc427⟩, -, X428, ⟨Lc429, hQ430, l431, y432, z433⟩, st434⟩ := Jvm.LawKit.callS X412 hx (y := mn1) hown (mvT hZ (tw27 hw)) (mvT hZ (tw28 hw)) (mvT hZ (tw3 hw)) (mvT hZ (tw29 hw)) (by decide) (backOf (W := 1) (rmMJ l Z a0 hw [] (1 : Int64) (3 : Int64) h0 n0 Z0 ) hZ (tw29 hw) (tw3 hw) (by decide) (by decide)) (g := (mkF m 15 #[vr a, vd x, ss, vi ((50 : Int32) * (3 : Int32))] [(.long (3 : Int64)), (.long (1 : Int64)), (.ref a)])) rfl (by rw [hml]; rfl) (argsL := [(.long (1 : Int64)), (.long (3 : Int64))]) (rest := [(.ref a)]) (lenOf pd_11 rfl) rfl (by show 2 * 0 + _ ≤ _; exact Nat.le_of_eq rfl) (hb hby d_prog_12_method_1_code_15) (fun _ _ => ⟨rfl, e420, (by decide : 0 + 0 ≤ _), (by decide : 0 + 0 ≤ _)⟩)
    dsimp only [Pt.U, Pt.locs, Pt.cells, Pt.slots] at X428 l431 y432 z433 st434 hQ430
    subst l431 y432 z433
    obtain ⟨rfl, N435, e436⟩ := hQ430
    have N438 := Fr.app N422 N435
    have k439 : own_G p e below E0 T424 (mkF m 18 #[vr a, vd x, ss, vi ((50 : Int32) * (3 : Int32))] [(.long (if (1 : Int64) < (3 : Int64) then (3 : Int64) else (1 : Int64))), (.ref a)]) := fun tQ kk => k423 tQ (st434 _ kk)
    clear k423 st434
    have eq440 : (if (1 : Int64) < (3 : Int64) then (3 : Int64) else (1 : Int64)) = (3 : Int64) := by decide
    rw [eq440] at k439
    have k441 : own_G p e below E0 T424 (mkF m 19 #[vr a, vd x, ss, vi ((50 : Int32) * (3 : Int32))] [(.int ((3 : Int64).toInt32)), (.ref a)]) := by
      intro tQ kk
      refine k439 tQ ?_
      refine XT.l2i X428.here hx rfl (hb hby d_prog_12_method_1_code_18) rfl ?_
      exact kk
    clear k439
    have eq442 : ((3 : Int64).toInt32) = (3 : Int32) := by decide
    rw [eq442] at k441
    obtain ⟨T443, h444, X445, e446, W447, st448⟩ := putF X428 hx hZ hown (host := "") (Or.inl (tw30 hw)) Via.refl e436 F_frames E1 (Or.inr ⟨(tw31 hw), rfl, hnm⟩) (tw6 hw) (ty := .int) (by decide) rfl rfl (g := (mkF m 19 #[vr a, vd x, ss, vi ((50 : Int32) * (3 : Int32))] [(.int (3 : Int32)), (.ref a)])) rfl rfl (hb hby d_prog_12_method_1_code_19)
    have N449 := Fr.snoc X445 N438 ge_a
    have k450 : own_G p e below E0 T443 (mkF m 22 #[vr a, vd x, ss, vi ((50 : Int32) * (3 : Int32))] []) := fun tQ kk => k441 tQ (st448 _ kk)
    clear k441 st448
    have F451 : xa8 Z h444 a := E1.wr W447
    clear E1
    have F452 : fd3 Z h444 a (.int (3 : Int32)) := F_frames.same W447
    clear F_frames
    have F453 : fd4 Z h444 a (.double (0 : UInt64)) := F_value.other W447 (Or.inr (slot_ne (C := "com/example/lampwork/lampwork/Glide") (Or.inl (tw33 hw)) (Or.inr (tw31 hw)) (by decide) (t := .double) (t' := .int) (by decide) (by decide)))
    clear F_value
    have F454 : fd5 Z h444 a (.double (0 : UInt64)) := F_target.other W447 (Or.inr (slot_ne (C := "com/example/lampwork/lampwork/Glide") (Or.inl (tw35 hw)) (Or.inr (tw31 hw)) (by decide) (t := .double) (t' := .int) (by decide) (by decide)))
    clear F_target
    have F455 : fd6 Z h444 a (.double (0 : UInt64)) := F_step.other W447 (Or.inr (slot_ne (C := "com/example/lampwork/lampwork/Glide") (Or.inl (tw63 hw)) (Or.inr (tw31 hw)) (by decide) (t := .double) (t' := .int) (by decide) (by decide)))
    clear F_step
    have F456 : fd7 Z h444 a (.int (0 : Int32)) := F_remaining.other W447 (Or.inr (slot_ne (C := "com/example/lampwork/lampwork/Glide") (Or.inl (tw42 hw)) (Or.inr (tw31 hw)) (by decide) (t := .int) (t' := .int) (by decide) (by decide)))
    clear F_remaining
    have Z457 : n0 ≤ h444.size := by rw [W447.size]; exact Z0
    have K458 : Keep h0 h444 [a] := K0.wr W447 (Or.inl (List.mem_of_getElem? (i := 0) rfl))
    have k459 : own_G p e below E0 T443 (mkF m 24 #[vr a, vd x, ss, vi ((50 : Int32) * (3 : Int32))] [(.double x), (.ref a)]) := by
      intro tQ kk
      refine k450 tQ ?_
      refine XS.aloadN X445.here hx rfl (hb hby d_prog_12_method_1_code_22) rfl rfl ?_
      refine XS.dloadN X445.here hx rfl (hb hby d_prog_12_method_1_code_23) rfl ?_
      exact kk
    clear k450
    obtain ⟨T460, h461, X462, e463, W464, st465⟩ := putF X445 hx hZ hown (host := "") (Or.inl (tw32 hw)) Via.refl e446 F453 F451 (Or.inl (tw33 hw)) (tw6 hw) (ty := .double) (by decide) rfl rfl (g := (mkF m 24 #[vr a, vd x, ss, vi ((50 : Int32) * (3 : Int32))] [(.double x), (.ref a)])) rfl rfl (hb hby d_prog_12_method_1_code_24)
    have N466 := Fr.snoc X462 N449 ge_a
    have k467 : own_G p e below E0 T460 (mkF m 27 #[vr a, vd x, ss, vi ((50 : Int32) * (3 : Int32))] []) := fun tQ kk => k459 tQ (st465 _ kk)
    clear k459 st465
    have F468 : xa8 Z h461 a := F451.wr W464
    clear F451
    have F469 : fd3 Z h461 a (.int (3 : Int32)) := F452.other W464 (Or.inr (slot_ne (C := "com/example/lampwork/lampwork/Glide") (Or.inr (tw31 hw)) (Or.inl (tw33 hw)) (by decide) (t := .int) (t' := .double) (by decide) (by decide)))
    clear F452
    have F470 : fd4 Z h461 a (.double x) := F453.same W464
    clear F453
    have F471 : fd5 Z h461 a (.double (0 : UInt64)) := F454.other W464 (Or.inr (slot_ne (C := "com/example/lampwork/lampwork/Glide") (Or.inl (tw35 hw)) (Or.inl (tw33 hw)) (by decide) (t := .double) (t' := .double) (by decide) (by decide)))
    clear F454
    have F472 : fd6 Z h461 a (.double (0 : UInt64)) := F455.other W464 (Or.inr (slot_ne (C := "com/example/lampwork/lampwork/Glide") (Or.inl (tw63 hw)) (Or.inl (tw33 hw)) (by decide) (t := .double) (t' := .double) (by decide) (by decide)))
    clear F455
    have F473 : fd7 Z h461 a (.int (0 : Int32)) := F456.other W464 (Or.inr (slot_ne (C := "com/example/lampwork/lampwork/Glide") (Or.inl (tw42 hw)) (Or.inl (tw33 hw)) (by decide) (t := .int) (t' := .double) (by decide) (by decide)))
    clear F456
    have Z474 : n0 ≤ h461.size := by rw [W464.size]; exact Z457
    have K475 : Keep h0 h461 [a] := K458.wr W464 (Or.inl (List.mem_of_getElem? (i := 0) rfl))
    have k476 : own_G p e below E0 T460 (mkF m 29 #[vr a, vd x, ss, vi ((50 : Int32) * (3 : Int32))] [(.double x), (.ref a)]) := by
      intro tQ kk
      refine k467 tQ ?_
      refine XS.aloadN X462.here hx rfl (hb hby d_prog_12_method_1_code_27) rfl rfl ?_
      refine XS.dloadN X462.here hx rfl (hb hby d_prog_12_method_1_code_28) rfl ?_
      exact kk
    clear k467
    obtain ⟨T477, h478, X479, e480, W481, st482⟩ := putF X462 hx hZ hown (host := "") (Or.inl (tw34 hw)) Via.refl e463 F471 F468 (Or.inl (tw35 hw)) (tw6 hw) (ty := .double) (by decide) rfl rfl (g := (mkF m 29 #[vr a, vd x, ss, vi ((50 : Int32) * (3 : Int32))] [(.double x), (.ref a)])) rfl rfl (hb hby d_prog_12_method_1_code_29)
    have N483 := Fr.snoc X479 N466 ge_a
    have k484 : own_G p e below E0 T477 (mkF m 32 #[vr a, vd x, ss, vi ((50 : Int32) * (3 : Int32))] []) := fun tQ kk => k476 tQ (st482 _ kk)
    clear k476 st482
    have F485 : xa8 Z h478 a := F468.wr W481
    clear F468
    have F486 : fd3 Z h478 a (.int (3 : Int32)) := F469.other W481 (Or.inr (slot_ne (C := "com/example/lampwork/lampwork/Glide") (Or.inr (tw31 hw)) (Or.inl (tw35 hw)) (by decide) (t := .int) (t' := .double) (by decide) (by decide)))
    clear F469
    have F487 : fd4 Z h478 a (.double x) := F470.other W481 (Or.inr (slot_ne (C := "com/example/lampwork/lampwork/Glide") (Or.inl (tw33 hw)) (Or.inl (tw35 hw)) (by decide) (t := .double) (t' := .double) (by decide) (by decide)))
    clear F470
    have F488 : fd5 Z h478 a (.double x) := F471.same W481
    clear F471
    have F489 : fd6 Z h478 a (.double (0 : UInt64)) := F472.other W481 (Or.inr (slot_ne (C := "com/example/lampwork/lampwork/Glide") (Or.inl (tw63 hw)) (Or.inl (tw35 hw)) (by decide) (t := .double) (t' := .double) (by decide) (by decide)))
    clear F472
    have F490 : fd7 Z h478 a (.int (0 : Int32)) := F473.other W481 (Or.inr (slot_ne (C := "com/example/lampwork/lampwork/Glide") (Or.inl (tw42 hw)) (Or.inl (tw35 hw)) (by decide) (t := .int) (t' := .double) (by decide) (by decide)))
    clear F473
    have Z491 : n0 ≤ h478.size := by rw [W481.size]; exact Z474
    have K492 : Keep h0 h478 [a] := K475.wr W481 (Or.inl (List.mem_of_getElem? (i := 0) rfl))
    obtain ⟨fs, hr, hrun, hended, hW, hsame⟩ := X479.leave (v := none) (fun _ => rfl)
    have hrun0 := k484 _ (X479.returnOut hx Bd.returns (hb hby d_prog_12_method_1_code_32) hr)
    subst hE0
    refine ⟨_, _, hrun0, hrun, hended, _, _, rfl, ?_, ⟨_, rfl⟩, hW, hsame.mono (by decide) (by decide)⟩
    show QrmI Z a x (3 : Int32) h0 n0 _ T477.heap _
    rw [e480]
    exact ⟨rfl, N483, K492, (by rw [show own_F (3 : Int32) = 3 by decide]; exact F486), F487, F488, F489, F490⟩
  · skip
    have k493 : own_G p e below E0 s₁ (mkF m 1 #[vr a, vd x, ss, vi ((50 : Int32) * (4 : Int32))] [(.ref a)]) := by
      intro tQ kk
      refine k0 tQ ?_
      refine XS.aloadN X0.here hx rfl (hb hby d_prog_12_method_1_code_0) rfl rfl ?_
      exact kk
    clear k0
    obtain ⟨T494, X495, e496, st497⟩ := initO X0 hx hZ hown (tw11 hw) (tw12 hw) (tw13 hw) e0 (g := (mkF m 1 #[vr a, vd x, ss, vi ((50 : Int32) * (4 : Int32))] [(.ref a)])) rfl (by rw [hml]; rfl) rfl (hb hby d_prog_12_method_1_code_1) (by decide) (W := 0) (by show 2 * 0 + _ ≤ _; exact Nat.le_of_eq rfl) (by decide)
    have k498 : own_G p e below E0 T494 (mkF m 4 #[vr a, vd x, ss, vi ((50 : Int32) * (4 : Int32))] []) := fun tQ kk => k493 tQ (st497 _ kk)
    clear k493 st497
    have k499 : own_G p e below E0 T494 (mkF m 6 #[vr a, vd x, ss, vi ((50 : Int32) * (4 : Int32))] [(.long (1 : Int64)), (.ref a)]) := by
      intro tQ kk
      refine k498 tQ ?_
      refine XS.aloadN X495.here hx rfl (hb hby d_prog_12_method_1_code_4) rfl rfl ?_
      refine XT.lconst X495.here hx rfl (hb hby d_prog_12_method_1_code_5) ?_
      exact kk
    clear k498
    have st500 := X495.ldc2DoubleC hx hown (mvT hZ (tw14 hw)) (g := (mkF m 6 #[vr a, vd x, ss, vi ((50 : Int32) * (4 : Int32))] [(.long (1 : Int64)), (.ref a)])) rfl (hb hby d_prog_12_method_1_code_6)
    have k501 : own_G p e below E0 T494 (mkF m 9 #[vr a, vd x, ss, vi ((50 : Int32) * (4 : Int32))] [(.double (4581421828931458171 : UInt64)), (.long (1 : Int64)), (.ref a)]) := fun tQ kk => k499 tQ (st500 _ kk)
    clear k499 st500
    have k502 : own_G p e below E0 T494 (mkF m 12 #[vr a, vd x, ss, vi ((50 : Int32) * (4 : Int32))] [(.double (4616189618054758400 : UInt64)), (.long (1 : Int64)), (.ref a)]) := by
      intro tQ kk
      refine k501 tQ ?_
      refine XS.iloadN X495.here hx rfl (hb hby d_prog_12_method_1_code_9) rfl ?_
      refine XS.i2dS X495.here hx rfl (hb hby d_prog_12_method_1_code_10) rfl rfl ?_
      refine XS.dmulS (v := (4616189618054758400 : UInt64)) X495.here hx rfl (hb hby d_prog_12_method_1_code_11) rfl (by unfold NoNaN64; decide +kernel) (by decide +kernel) ?_
      exact kk
    clear k501
    obtain ⟨_, _, ⟨T503, L504, kc505, nc506⟩, -, X507, ⟨Lc508, hQ509, l510, y511, z512⟩, st513⟩ := Jvm.LawKit.callS X495 hx (y := mn2) hown (mvT hZ (tw15 hw)) (mvT hZ (tw16 hw)) (mvT hZ (tw3 hw)) (mvT hZ (tw17 hw)) (by decide) (backOf (W := 3) (rmRD200 l Z a0 hw []  h0 n0 Z0 ) hZ (tw17 hw) (tw3 hw) (by decide) (by decide)) (g := (mkF m 12 #[vr a, vd x, ss, vi ((50 : Int32) * (4 : Int32))] [(.double (4616189618054758400 : UInt64)), (.long (1 : Int64)), (.ref a)])) rfl (by rw [hml]; rfl) (argsL := [(.double (4616189618054758400 : UInt64))]) (rest := [(.long (1 : Int64)), (.ref a)]) (lenOf pd_10 rfl) rfl (by show 2 * 0 + _ ≤ _; exact Nat.le_of_eq rfl) (hb hby d_prog_12_method_1_code_12) (fun _ _ => ⟨rfl, e496, (by decide : 0 + 0 ≤ _), (by decide : 0 + 0 ≤ _)⟩)
    dsimp only [Pt.U, Pt.locs, Pt.cells, Pt.slots] at X507 l510 y511 z512 st513 hQ509
    subst l510 y511 z512
    obtain ⟨rfl, N514, e515⟩ := hQ509
    have N517 := Fr.app N0 N514
    have k518 : own_G p e below E0 T503 (mkF m 15 #[vr a, vd x, ss, vi ((50 : Int32) * (4 : Int32))] [(.long (4 : Int64)), (.long (1 : Int64)), (.ref a)]) := fun tQ kk => k502 tQ (st513 _ kk)
    clear k502 st513
    obtain ⟨_, _, ⟨T519, L520, kc521, nc522⟩, -, X523, ⟨Lc524, hQ525, l526, y527, z528⟩, st529⟩ := Jvm.LawKit.callS X507 hx (y := mn1) hown (mvT hZ (tw27 hw)) (mvT hZ (tw28 hw)) (mvT hZ (tw3 hw)) (mvT hZ (tw29 hw)) (by decide) (backOf (W := 1) (rmMJ l Z a0 hw [] (1 : Int64) (4 : Int64) h0 n0 Z0 ) hZ (tw29 hw) (tw3 hw) (by decide) (by decide)) (g := (mkF m 15 #[vr a, vd x, ss, vi ((50 : Int32) * (4 : Int32))] [(.long (4 : Int64)), (.long (1 : Int64)), (.ref a)])) rfl (by rw [hml]; rfl) (argsL := [(.long (1 : Int64)), (.long (4 : Int64))]) (rest := [(.ref a)]) (lenOf pd_11 rfl) rfl (by show 2 * 0 + _ ≤ _; exact Nat.le_of_eq rfl) (hb hby d_prog_12_method_1_code_15) (fun _ _ => ⟨rfl, e515, (by decide : 0 + 0 ≤ _), (by decide : 0 + 0 ≤ _)⟩)
    dsimp only [Pt.U, Pt.locs, Pt.cells, Pt.slots] at X523 l526 y527 z528 st529 hQ525
    subst l526 y527 z528
    obtain ⟨rfl, N530, e531⟩ := hQ525
    have N533 := Fr.app N517 N530
    have k534 : own_G p e below E0 T519 (mkF m 18 #[vr a, vd x, ss, vi ((50 : Int32) * (4 : Int32))] [(.long (if (1 : Int64) < (4 : Int64) then (4 : Int64) else (1 : Int64))), (.ref a)]) := fun tQ kk => k518 tQ (st529 _ kk)
    clear k518 st529
    have eq535 : (if (1 : Int64) < (4 : Int64) then (4 : Int64) else (1 : Int64)) = (4 : Int64) := by decide
    rw [eq535] at k534
    have k536 : own_G p e below E0 T519 (mkF m 19 #[vr a, vd x, ss, vi ((50 : Int32) * (4 : Int32))] [(.int ((4 : Int64).toInt32)), (.ref a)]) := by
      intro tQ kk
      refine k534 tQ ?_
      refine XT.l2i X523.here hx rfl (hb hby d_prog_12_method_1_code_18) rfl ?_
      exact kk
    clear k534
    have eq537 : ((4 : Int64).toInt32) = (4 : Int32) := by decide
    rw [eq537] at k536
    obtain ⟨T538, h539, X540, e541, W542, st543⟩ := putF X523 hx hZ hown (host := "") (Or.inl (tw30 hw)) Via.refl e531 F_frames E1 (Or.inr ⟨(tw31 hw), rfl, hnm⟩) (tw6 hw) (ty := .int) (by decide) rfl rfl (g := (mkF m 19 #[vr a, vd x, ss, vi ((50 : Int32) * (4 : Int32))] [(.int (4 : Int32)), (.ref a)])) rfl rfl (hb hby d_prog_12_method_1_code_19)
    have N544 := Fr.snoc X540 N533 ge_a
    have k545 : own_G p e below E0 T538 (mkF m 22 #[vr a, vd x, ss, vi ((50 : Int32) * (4 : Int32))] []) := fun tQ kk => k536 tQ (st543 _ kk)
    clear k536 st543
    have F546 : xa8 Z h539 a := E1.wr W542
    clear E1
    have F547 : fd3 Z h539 a (.int (4 : Int32)) := F_frames.same W542
    clear F_frames
    have F548 : fd4 Z h539 a (.double (0 : UInt64)) := F_value.other W542 (Or.inr (slot_ne (C := "com/example/lampwork/lampwork/Glide") (Or.inl (tw33 hw)) (Or.inr (tw31 hw)) (by decide) (t := .double) (t' := .int) (by decide) (by decide)))
    clear F_value
    have F549 : fd5 Z h539 a (.double (0 : UInt64)) := F_target.other W542 (Or.inr (slot_ne (C := "com/example/lampwork/lampwork/Glide") (Or.inl (tw35 hw)) (Or.inr (tw31 hw)) (by decide) (t := .double) (t' := .int) (by decide) (by decide)))
    clear F_target
    have F550 : fd6 Z h539 a (.double (0 : UInt64)) := F_step.other W542 (Or.inr (slot_ne (C := "com/example/lampwork/lampwork/Glide") (Or.inl (tw63 hw)) (Or.inr (tw31 hw)) (by decide) (t := .double) (t' := .int) (by decide) (by decide)))
    clear F_step
    have F551 : fd7 Z h539 a (.int (0 : Int32)) := F_remaining.other W542 (Or.inr (slot_ne (C := "com/example/lampwork/lampwork/Glide") (Or.inl (tw42 hw)) (Or.inr (tw31 hw)) (by decide) (t := .int) (t' := .int) (by decide) (by decide)))
    clear F_remaining
    have Z552 : n0 ≤ h539.size := by rw [W542.size]; exact Z0
    have K553 : Keep h0 h539 [a] := K0.wr W542 (Or.inl (List.mem_of_getElem? (i := 0) rfl))
    have k554 : own_G p e below E0 T538 (mkF m 24 #[vr a, vd x, ss, vi ((50 : Int32) * (4 : Int32))] [(.double x), (.ref a)]) := by
      intro tQ kk
      refine k545 tQ ?_
      refine XS.aloadN X540.here hx rfl (hb hby d_prog_12_method_1_code_22) rfl rfl ?_
      refine XS.dloadN X540.here hx rfl (hb hby d_prog_12_method_1_code_23) rfl ?_
      exact kk
    clear k545
    obtain ⟨T555, h556, X557, e558, W559, st560⟩ := putF X540 hx hZ hown (host := "") (Or.inl (tw32 hw)) Via.refl e541 F548 F546 (Or.inl (tw33 hw)) (tw6 hw) (ty := .double) (by decide) rfl rfl (g := (mkF m 24 #[vr a, vd x, ss, vi ((50 : Int32) * (4 : Int32))] [(.double x), (.ref a)])) rfl rfl (hb hby d_prog_12_method_1_code_24)
    have N561 := Fr.snoc X557 N544 ge_a
    have k562 : own_G p e below E0 T555 (mkF m 27 #[vr a, vd x, ss, vi ((50 : Int32) * (4 : Int32))] []) := fun tQ kk => k554 tQ (st560 _ kk)
    clear k554 st560
    have F563 : xa8 Z h556 a := F546.wr W559
    clear F546
    have F564 : fd3 Z h556 a (.int (4 : Int32)) := F547.other W559 (Or.inr (slot_ne (C := "com/example/lampwork/lampwork/Glide") (Or.inr (tw31 hw)) (Or.inl (tw33 hw)) (by decide) (t := .int) (t' := .double) (by decide) (by decide)))
    clear F547
    have F565 : fd4 Z h556 a (.double x) := F548.same W559
    clear F548
    have F566 : fd5 Z h556 a (.double (0 : UInt64)) := F549.other W559 (Or.inr (slot_ne (C := "com/example/lampwork/lampwork/Glide") (Or.inl (tw35 hw)) (Or.inl (tw33 hw)) (by decide) (t := .double) (t' := .double) (by decide) (by decide)))
    clear F549
    have F567 : fd6 Z h556 a (.double (0 : UInt64)) := F550.other W559 (Or.inr (slot_ne (C := "com/example/lampwork/lampwork/Glide") (Or.inl (tw63 hw)) (Or.inl (tw33 hw)) (by decide) (t := .double) (t' := .double) (by decide) (by decide)))
    clear F550
    have F568 : fd7 Z h556 a (.int (0 : Int32)) := F551.other W559 (Or.inr (slot_ne (C := "com/example/lampwork/lampwork/Glide") (Or.inl (tw42 hw)) (Or.inl (tw33 hw)) (by decide) (t := .int) (t' := .double) (by decide) (by decide)))
    clear F551
    have Z569 : n0 ≤ h556.size := by rw [W559.size]; exact Z552
    have K570 : Keep h0 h556 [a] := K553.wr W559 (Or.inl (List.mem_of_getElem? (i := 0) rfl))
    have k571 : own_G p e below E0 T555 (mkF m 29 #[vr a, vd x, ss, vi ((50 : Int32) * (4 : Int32))] [(.double x), (.ref a)]) := by
      intro tQ kk
      refine k562 tQ ?_
      refine XS.aloadN X557.here hx rfl (hb hby d_prog_12_method_1_code_27) rfl rfl ?_
      refine XS.dloadN X557.here hx rfl (hb hby d_prog_12_method_1_code_28) rfl ?_
      exact kk
    clear k562
    obtain ⟨T572, h573, X574, e575, W576, st577⟩ := putF X557 hx hZ hown (host := "") (Or.inl (tw34 hw)) Via.refl e558 F566 F563 (Or.inl (tw35 hw)) (tw6 hw) (ty := .double) (by decide) rfl rfl (g := (mkF m 29 #[vr a, vd x, ss, vi ((50 : Int32) * (4 : Int32))] [(.double x), (.ref a)])) rfl rfl (hb hby d_prog_12_method_1_code_29)
    have N578 := Fr.snoc X574 N561 ge_a
    have k579 : own_G p e below E0 T572 (mkF m 32 #[vr a, vd x, ss, vi ((50 : Int32) * (4 : Int32))] []) := fun tQ kk => k571 tQ (st577 _ kk)
    clear k571 st577
    have F580 : xa8 Z h573 a := F563.wr W576
    clear F563
    have F581 : fd3 Z h573 a (.int (4 : Int32)) := F564.other W576 (Or.inr (slot_ne (C := "com/example/lampwork/lampwork/Glide") (Or.inr (tw31 hw)) (Or.inl (tw35 hw)) (by decide) (t := .int) (t' := .double) (by decide) (by decide)))
    clear F564
    have F582 : fd4 Z h573 a (.double x) := F565.other W576 (Or.inr (slot_ne (C := "com/example/lampwork/lampwork/Glide") (Or.inl (tw33 hw)) (Or.inl (tw35 hw)) (by decide) (t := .double) (t' := .double) (by decide) (by decide)))
    clear F565
    have F583 : fd5 Z h573 a (.double x) := F566.same W576
    clear F566
    have F584 : fd6 Z h573 a (.double (0 : UInt64)) := F567.other W576 (Or.inr (slot_ne (C := "com/example/lampwork/lampwork/Glide") (Or.inl (tw63 hw)) (Or.inl (tw35 hw)) (by decide) (t := .double) (t' := .double) (by decide) (by decide)))
    clear F567
    have F585 : fd7 Z h573 a (.int (0 : Int32)) := F568.other W576 (Or.inr (slot_ne (C := "com/example/lampwork/lampwork/Glide") (Or.inl (tw42 hw)) (Or.inl (tw35 hw)) (by decide) (t := .int) (t' := .double) (by decide) (by decide)))
    clear F568
    have Z586 : n0 ≤ h573.size := by rw [W576.size]; exact Z569
    have K587 : Keep h0 h573 [a] := K570.wr W576 (Or.inl (List.mem_of_getElem? (i := 0) rfl))
    obtain ⟨fs, hr, hrun, hended, hW, hsame⟩ := X574.leave (v := none) (fun _ => rfl)
    have hrun0 := k579 _ (X574.returnOut hx Bd.returns (hb hby d_prog_12_method_1_code_32) hr)
    subst hE0
    refine ⟨_, _, hrun0, hrun, hended, _, _, rfl, ?_, ⟨_, rfl⟩, hW, hsame.mono (by decide) (by decide)⟩
    show QrmI Z a x (4 : Int32) h0 n0 _ T572.heap _
    rw [e575]
    exact ⟨rfl, N578, K587, (by rw [show own_F (4 : Int32) = 4 by decide]; exact F581), F582, F583, F584, F585⟩
def QrmS0 (Z : State) (a : Addr) (x : UInt64) (F : Int32) (vl : UInt64) (tg : UInt64) (sp : UInt64) (rm : Int32) (h0 : Heap) (n0 : Nat) (vQ : Option Value) (hQ : Heap) (LQ : List Loc) : Prop := vQ = none ∧ Fr n0 LQ ∧ Keep h0 hQ [a] ∧ (fd3 Z hQ a (.int F)) ∧ (fd4 Z hQ a (.double x)) ∧ (fd5 Z hQ a (.double x)) ∧ (fd6 Z hQ a (.double sp)) ∧ (fd7 Z hQ a (.int (0 : Int32)))
theorem ef_rmS0 (m : MethodId) (a : Addr) (x : UInt64) (F : Int32) (vl : UInt64) (tg : UInt64) (sp : UInt64) (rm : Int32) : entryFrame m #[(.ref a), (.double x), (.int (0 : Int32))] 4 = mkF m 0 #[vr a, vd x, ss, vi (0 : Int32)] [] := by first | (simp [entryFrame, mkF, argsToLocals, Value.category]; done) | rfl
abbrev mn12 : MethodName := ⟨"com/example/lampwork/lampwork/Glide", "set", "(DZ)V"⟩
theorem d_prog_12_method_2_code_0 : decode prog_12_method_2_code 0 = .ok (.iload_n 3, 1) := by decide +kernel
theorem d_prog_12_method_2_code_1 : decode prog_12_method_2_code 1 = .ok (.ifCond .ne 21, 3) := by decide +kernel
theorem d_prog_12_method_2_code_4 : decode prog_12_method_2_code 4 = .ok (.aload_n 0, 1) := by decide +kernel
theorem d_prog_12_method_2_code_5 : decode prog_12_method_2_code 5 = .ok (.dload_n 1, 1) := by decide +kernel
theorem d_prog_12_method_2_code_6 : decode prog_12_method_2_code 6 = .ok (.putfield 25, 3) := by decide +kernel
theorem d_prog_12_method_2_code_9 : decode prog_12_method_2_code 9 = .ok (.aload_n 0, 1) := by decide +kernel
theorem d_prog_12_method_2_code_10 : decode prog_12_method_2_code 10 = .ok (.dload_n 1, 1) := by decide +kernel
theorem d_prog_12_method_2_code_11 : decode prog_12_method_2_code 11 = .ok (.putfield 29, 3) := by decide +kernel
theorem d_prog_12_method_2_code_14 : decode prog_12_method_2_code 14 = .ok (.aload_n 0, 1) := by decide +kernel
theorem d_prog_12_method_2_code_15 : decode prog_12_method_2_code 15 = .ok (.iconst 0, 1) := by decide +kernel
theorem d_prog_12_method_2_code_16 : decode prog_12_method_2_code 16 = .ok (.putfield 32, 3) := by decide +kernel
def tw41 {Z : State} {a0 : Array Value} (hw : ∀ d ∈ tables_1, d.before a0 Z = true) := hw _ (List.mem_of_getElem? (i := 41) rfl)
theorem d_prog_12_method_2_code_19 : decode prog_12_method_2_code 19 = .ok (.goto 41, 3) := by decide +kernel
theorem d_prog_12_method_2_code_60 : decode prog_12_method_2_code 60 = .ok (.return_, 1) := by decide +kernel
set_option maxRecDepth 65536 in
set_option maxHeartbeats 40000000 in
theorem rmS0 (l : Launch) (Z : State) (a0 : Array Value) (hw : ∀ d ∈ tables_1, d.before a0 Z = true) (ws : List Jvm.Cond) (a : Addr) (x : UInt64) (F : Int32) (vl : UInt64) (tg : UInt64) (sp : UInt64) (rm : Int32) (h0 : Heap) (n0 : Nat) (Z0 : n0 ≤ h0.size) (E1 : xa8 Z h0 a) (F_frames : fd3 Z h0 a (.int F)) (F_value : fd4 Z h0 a (.double vl)) (F_target : fd5 Z h0 a (.double tg)) (F_step : fd6 Z h0 a (.double sp)) (F_remaining : fd7 Z h0 a (.int rm)) (ge_a : n0 ≤ a) :
    MetFree l mn12 (head1 (Jvm.Cond.code mn12 prog_12_method_2_code 4 none :: ws) ({ frames := 0, cells := 0, slots := 0, locals := 0 } : Room)) (fun aA U => aA = #[(.ref a), (.double x), (.int (0 : Int32))] ∧ Z.Warmed39 U.vm ∧ U.heap = h0) (fun _ _ _ _ _ => True) (fun _ U o U' => ∃ vR LR, o = .returned vR ∧ QrmS0 Z a x F vl tg sp rm h0 n0 vR U'.heap LR ∧ FrameEnd U o U' LR ({ frames := 0, cells := 0, slots := 0, locals := 0 } : Room).cells ({ frames := 0, cells := 0, slots := 0, locals := 0 } : Room).slots) := by
  refine MetFree.of_bodySF (plainFor_of_name pn_com_example_lampwork_lampwork_Glide) hisR ?_
  intro p e s m args below meth c s₁ Bd hml0 hPre hKk
  obtain ⟨rfl, hZ, hh⟩ := hPre
  have hx := Bd.exec
  have hby := Bd.bytes
  have hml : c.maxLocals = 4 := hml0
  have hown : s.vm.findClass "com/example/lampwork/lampwork/Glide" = some m.cls := findClass_of_methodNamed Bd.named
  have hnm := (name_of_methodNamed Bd.named Bd.method).1
  have X0 : Stand p l e ({ frames := 0, cells := 0, slots := 0, locals := 0 } : Room) s m #[(.ref a), (.double x), (.int (0 : Int32))] below meth c s₁ [] 0 0 := Stand.of_body Bd
  have e0 : s₁.heap = h0 := by rw [← hh, Bd.state]; rfl
  have N0 := Fr.nil n0
  obtain ⟨E0, hE0⟩ : ∃ zE : State, zE = s₁.setTop (entryFrame m #[(.ref a), (.double x), (.int (0 : Int32))] 4) := ⟨_, rfl⟩
  have k0 : own_G p e below E0 s₁ (mkF m 0 #[vr a, vd x, ss, vi (0 : Int32)] []) := fun tz kz => hE0 ▸ castTop (ef_rmS0 m a x F vl tg sp rm) kz
  have K0 : Keep h0 h0 [a] := Keep.refl _ _
  have k588 : own_G p e below E0 s₁ (mkF m 6 #[vr a, vd x, ss, vi (0 : Int32)] [(.double x), (.ref a)]) := by
    intro tQ kk
    refine k0 tQ ?_
    refine XS.iloadN X0.here hx rfl (hb hby d_prog_12_method_2_code_0) rfl ?_
    refine XS.ifNo X0.here hx rfl (hb hby d_prog_12_method_2_code_1) rfl (own_if_neN (by decide)) ?_
    refine XS.aloadN X0.here hx rfl (hb hby d_prog_12_method_2_code_4) rfl rfl ?_
    refine XS.dloadN X0.here hx rfl (hb hby d_prog_12_method_2_code_5) rfl ?_
    exact kk
  clear k0
  obtain ⟨T589, h590, X591, e592, W593, st594⟩ := putF X0 hx hZ hown (host := "") (Or.inl (tw32 hw)) Via.refl e0 F_value E1 (Or.inl (tw33 hw)) (tw6 hw) (ty := .double) (by decide) rfl rfl (g := (mkF m 6 #[vr a, vd x, ss, vi (0 : Int32)] [(.double x), (.ref a)])) rfl rfl (hb hby d_prog_12_method_2_code_6)
  have N595 := Fr.snoc X591 N0 ge_a
  have k596 : own_G p e below E0 T589 (mkF m 9 #[vr a, vd x, ss, vi (0 : Int32)] []) := fun tQ kk => k588 tQ (st594 _ kk)
  clear k588 st594
  have F597 : xa8 Z h590 a := E1.wr W593
  clear E1
  have F598 : fd3 Z h590 a (.int F) := F_frames.other W593 (Or.inr (slot_ne (C := "com/example/lampwork/lampwork/Glide") (Or.inr (tw31 hw)) (Or.inl (tw33 hw)) (by decide) (t := .int) (t' := .double) (by decide) (by decide)))
  clear F_frames
  have F599 : fd4 Z h590 a (.double x) := F_value.same W593
  clear F_value
  have F600 : fd5 Z h590 a (.double tg) := F_target.other W593 (Or.inr (slot_ne (C := "com/example/lampwork/lampwork/Glide") (Or.inl (tw35 hw)) (Or.inl (tw33 hw)) (by decide) (t := .double) (t' := .double) (by decide) (by decide)))
  clear F_target
  have F601 : fd6 Z h590 a (.double sp) := F_step.other W593 (Or.inr (slot_ne (C := "com/example/lampwork/lampwork/Glide") (Or.inl (tw63 hw)) (Or.inl (tw33 hw)) (by decide) (t := .double) (t' := .double) (by decide) (by decide)))
  clear F_step
  have F602 : fd7 Z h590 a (.int rm) := F_remaining.other W593 (Or.inr (slot_ne (C := "com/example/lampwork/lampwork/Glide") (Or.inl (tw42 hw)) (Or.inl (tw33 hw)) (by decide) (t := .int) (t' := .double) (by decide) (by decide)))
  clear F_remaining
  have Z603 : n0 ≤ h590.size := by rw [W593.size]; exact Z0
  have K604 : Keep h0 h590 [a] := K0.wr W593 (Or.inl (List.mem_of_getElem? (i := 0) rfl))
  have k605 : own_G p e below E0 T589 (mkF m 11 #[vr a, vd x, ss, vi (0 : Int32)] [(.double x), (.ref a)]) := by
    intro tQ kk
    refine k596 tQ ?_
    refine XS.aloadN X591.here hx rfl (hb hby d_prog_12_method_2_code_9) rfl rfl ?_
    refine XS.dloadN X591.here hx rfl (hb hby d_prog_12_method_2_code_10) rfl ?_
    exact kk
  clear k596
  obtain ⟨T606, h607, X608, e609, W610, st611⟩ := putF X591 hx hZ hown (host := "") (Or.inl (tw34 hw)) Via.refl e592 F600 F597 (Or.inl (tw35 hw)) (tw6 hw) (ty := .double) (by decide) rfl rfl (g := (mkF m 11 #[vr a, vd x, ss, vi (0 : Int32)] [(.double x), (.ref a)])) rfl rfl (hb hby d_prog_12_method_2_code_11)
  have N612 := Fr.snoc X608 N595 ge_a
  have k613 : own_G p e below E0 T606 (mkF m 14 #[vr a, vd x, ss, vi (0 : Int32)] []) := fun tQ kk => k605 tQ (st611 _ kk)
  clear k605 st611
  have F614 : xa8 Z h607 a := F597.wr W610
  clear F597
  have F615 : fd3 Z h607 a (.int F) := F598.other W610 (Or.inr (slot_ne (C := "com/example/lampwork/lampwork/Glide") (Or.inr (tw31 hw)) (Or.inl (tw35 hw)) (by decide) (t := .int) (t' := .double) (by decide) (by decide)))
  clear F598
  have F616 : fd4 Z h607 a (.double x) := F599.other W610 (Or.inr (slot_ne (C := "com/example/lampwork/lampwork/Glide") (Or.inl (tw33 hw)) (Or.inl (tw35 hw)) (by decide) (t := .double) (t' := .double) (by decide) (by decide)))
  clear F599
  have F617 : fd5 Z h607 a (.double x) := F600.same W610
  clear F600
  have F618 : fd6 Z h607 a (.double sp) := F601.other W610 (Or.inr (slot_ne (C := "com/example/lampwork/lampwork/Glide") (Or.inl (tw63 hw)) (Or.inl (tw35 hw)) (by decide) (t := .double) (t' := .double) (by decide) (by decide)))
  clear F601
  have F619 : fd7 Z h607 a (.int rm) := F602.other W610 (Or.inr (slot_ne (C := "com/example/lampwork/lampwork/Glide") (Or.inl (tw42 hw)) (Or.inl (tw35 hw)) (by decide) (t := .int) (t' := .double) (by decide) (by decide)))
  clear F602
  have Z620 : n0 ≤ h607.size := by rw [W610.size]; exact Z603
  have K621 : Keep h0 h607 [a] := K604.wr W610 (Or.inl (List.mem_of_getElem? (i := 0) rfl))
  have k622 : own_G p e below E0 T606 (mkF m 16 #[vr a, vd x, ss, vi (0 : Int32)] [(.int (0 : Int32)), (.ref a)]) := by
    intro tQ kk
    refine k613 tQ ?_
    refine XS.aloadN X608.here hx rfl (hb hby d_prog_12_method_2_code_14) rfl rfl ?_
    refine XS.iconst X608.here hx rfl (hb hby d_prog_12_method_2_code_15) ?_
    exact kk
  clear k613
  obtain ⟨T623, h624, X625, e626, W627, st628⟩ := putF X608 hx hZ hown (host := "") (Or.inl (tw41 hw)) Via.refl e609 F619 F614 (Or.inl (tw42 hw)) (tw6 hw) (ty := .int) (by decide) rfl rfl (g := (mkF m 16 #[vr a, vd x, ss, vi (0 : Int32)] [(.int (0 : Int32)), (.ref a)])) rfl rfl (hb hby d_prog_12_method_2_code_16)
  have N629 := Fr.snoc X625 N612 ge_a
  have k630 : own_G p e below E0 T623 (mkF m 19 #[vr a, vd x, ss, vi (0 : Int32)] []) := fun tQ kk => k622 tQ (st628 _ kk)
  clear k622 st628
  have F631 : xa8 Z h624 a := F614.wr W627
  clear F614
  have F632 : fd3 Z h624 a (.int F) := F615.other W627 (Or.inr (slot_ne (C := "com/example/lampwork/lampwork/Glide") (Or.inr (tw31 hw)) (Or.inl (tw42 hw)) (by decide) (t := .int) (t' := .int) (by decide) (by decide)))
  clear F615
  have F633 : fd4 Z h624 a (.double x) := F616.other W627 (Or.inr (slot_ne (C := "com/example/lampwork/lampwork/Glide") (Or.inl (tw33 hw)) (Or.inl (tw42 hw)) (by decide) (t := .double) (t' := .int) (by decide) (by decide)))
  clear F616
  have F634 : fd5 Z h624 a (.double x) := F617.other W627 (Or.inr (slot_ne (C := "com/example/lampwork/lampwork/Glide") (Or.inl (tw35 hw)) (Or.inl (tw42 hw)) (by decide) (t := .double) (t' := .int) (by decide) (by decide)))
  clear F617
  have F635 : fd6 Z h624 a (.double sp) := F618.other W627 (Or.inr (slot_ne (C := "com/example/lampwork/lampwork/Glide") (Or.inl (tw63 hw)) (Or.inl (tw42 hw)) (by decide) (t := .double) (t' := .int) (by decide) (by decide)))
  clear F618
  have F636 : fd7 Z h624 a (.int (0 : Int32)) := F619.same W627
  clear F619
  have Z637 : n0 ≤ h624.size := by rw [W627.size]; exact Z620
  have K638 : Keep h0 h624 [a] := K621.wr W627 (Or.inl (List.mem_of_getElem? (i := 0) rfl))
  have k639 : own_G p e below E0 T623 (mkF m 60 #[vr a, vd x, ss, vi (0 : Int32)] []) := by
    intro tQ kk
    refine k630 tQ ?_
    refine XS.goto X625.here hx rfl (pc0 := 19) (pc' := 60) rfl (hb hby d_prog_12_method_2_code_19) (by decide) (by decide) ?_
    exact kk
  clear k630
  obtain ⟨fs, hr, hrun, hended, hW, hsame⟩ := X625.leave (v := none) (fun _ => rfl)
  have hrun0 := k639 _ (X625.returnOut hx Bd.returns (hb hby d_prog_12_method_2_code_60) hr)
  subst hE0
  refine ⟨_, _, hrun0, hrun, hended, _, _, rfl, ?_, ⟨_, rfl⟩, hW, hsame.mono (by decide) (by decide)⟩
  show QrmS0 Z a x F vl tg sp rm h0 n0 _ T623.heap _
  rw [e626]
  exact ⟨rfl, N629, K638, F632, F633, F634, F635, F636⟩
def QrmS1 (Z : State) (a : Addr) (x : UInt64) (F : Int32) (vl : UInt64) (tg : UInt64) (sp : UInt64) (rm : Int32) (h0 : Heap) (n0 : Nat) (vQ : Option Value) (hQ : Heap) (LQ : List Loc) : Prop := vQ = none ∧ Fr n0 LQ ∧ Keep h0 hQ [a] ∧ (fd3 Z hQ a (.int F)) ∧ (fd4 Z hQ a (.double vl)) ∧ (fd5 Z hQ a (.double (own_tg x tg))) ∧ (fd6 Z hQ a (.double (own_sp x vl tg sp F))) ∧ (fd7 Z hQ a (.int (own_rm x tg rm F)))
theorem ef_rmS1 (m : MethodId) (a : Addr) (x : UInt64) (F : Int32) (vl : UInt64) (tg : UInt64) (sp : UInt64) (rm : Int32) : entryFrame m #[(.ref a), (.double x), (.int (1 : Int32))] 4 = mkF m 0 #[vr a, vd x, ss, vi (1 : Int32)] [] := by first | (simp [entryFrame, mkF, argsToLocals, Value.category]; done) | rfl
theorem d_prog_12_method_2_code_22 : decode prog_12_method_2_code 22 = .ok (.dload_n 1, 1) := by decide +kernel
theorem d_prog_12_method_2_code_23 : decode prog_12_method_2_code 23 = .ok (.aload_n 0, 1) := by decide +kernel
theorem d_prog_12_method_2_code_24 : decode prog_12_method_2_code 24 = .ok (.getfield 29, 3) := by decide +kernel
theorem d_prog_12_method_2_code_27 : decode prog_12_method_2_code 27 = .ok (.dcmp .l, 1) := by decide +kernel
theorem d_prog_12_method_2_code_28 : decode prog_12_method_2_code 28 = .ok (.ifCond .eq 32, 3) := by decide +kernel
theorem d_prog_12_method_2_code_31 : decode prog_12_method_2_code 31 = .ok (.aload_n 0, 1) := by decide +kernel
theorem d_prog_12_method_2_code_32 : decode prog_12_method_2_code 32 = .ok (.dload_n 1, 1) := by decide +kernel
theorem d_prog_12_method_2_code_33 : decode prog_12_method_2_code 33 = .ok (.putfield 29, 3) := by decide +kernel
theorem d_prog_12_method_2_code_36 : decode prog_12_method_2_code 36 = .ok (.aload_n 0, 1) := by decide +kernel
theorem d_prog_12_method_2_code_37 : decode prog_12_method_2_code 37 = .ok (.dload_n 1, 1) := by decide +kernel
theorem d_prog_12_method_2_code_38 : decode prog_12_method_2_code 38 = .ok (.aload_n 0, 1) := by decide +kernel
theorem d_prog_12_method_2_code_39 : decode prog_12_method_2_code 39 = .ok (.getfield 25, 3) := by decide +kernel
theorem d_prog_12_method_2_code_42 : decode prog_12_method_2_code 42 = .ok (.dsub, 1) := by decide +kernel
theorem d_prog_12_method_2_code_43 : decode prog_12_method_2_code 43 = .ok (.aload_n 0, 1) := by decide +kernel
theorem d_prog_12_method_2_code_44 : decode prog_12_method_2_code 44 = .ok (.getfield 21, 3) := by decide +kernel
theorem d_prog_12_method_2_code_47 : decode prog_12_method_2_code 47 = .ok (.i2d, 1) := by decide +kernel
theorem d_prog_12_method_2_code_48 : decode prog_12_method_2_code 48 = .ok (.ddiv, 1) := by decide +kernel
theorem d_prog_12_method_2_code_49 : decode prog_12_method_2_code 49 = .ok (.putfield 35, 3) := by decide +kernel
def tw62 {Z : State} {a0 : Array Value} (hw : ∀ d ∈ tables_1, d.before a0 Z = true) := hw _ (List.mem_of_getElem? (i := 62) rfl)
theorem d_prog_12_method_2_code_52 : decode prog_12_method_2_code 52 = .ok (.aload_n 0, 1) := by decide +kernel
theorem d_prog_12_method_2_code_53 : decode prog_12_method_2_code 53 = .ok (.aload_n 0, 1) := by decide +kernel
theorem d_prog_12_method_2_code_54 : decode prog_12_method_2_code 54 = .ok (.getfield 21, 3) := by decide +kernel
theorem d_prog_12_method_2_code_57 : decode prog_12_method_2_code 57 = .ok (.putfield 32, 3) := by decide +kernel
set_option maxRecDepth 65536 in
set_option maxHeartbeats 40000000 in
theorem rmS1 (l : Launch) (Z : State) (a0 : Array Value) (hw : ∀ d ∈ tables_1, d.before a0 Z = true) (ws : List Jvm.Cond) (a : Addr) (x : UInt64) (F : Int32) (vl : UInt64) (tg : UInt64) (sp : UInt64) (rm : Int32) (h0 : Heap) (n0 : Nat) (Z0 : n0 ≤ h0.size) (E1 : xa8 Z h0 a) (F_frames : fd3 Z h0 a (.int F)) (F_value : fd4 Z h0 a (.double vl)) (F_target : fd5 Z h0 a (.double tg)) (F_step : fd6 Z h0 a (.double sp)) (F_remaining : fd7 Z h0 a (.int rm)) (ge_a : n0 ≤ a) (nx : NoNaN64 x) (ntg : NoNaN64 tg) (hnn : ¬ own_z x = own_z tg → NoNaN64 (FP.dsub x vl) ∧ NoNaN64 (FP.ddiv (FP.dsub x vl) (FP.i2d F))) :
    MetFree l mn12 (head1 (Jvm.Cond.code mn12 prog_12_method_2_code 4 none :: ws) ({ frames := 0, cells := 0, slots := 0, locals := 0 } : Room)) (fun aA U => aA = #[(.ref a), (.double x), (.int (1 : Int32))] ∧ Z.Warmed39 U.vm ∧ U.heap = h0) (fun _ _ _ _ _ => True) (fun _ U o U' => ∃ vR LR, o = .returned vR ∧ QrmS1 Z a x F vl tg sp rm h0 n0 vR U'.heap LR ∧ FrameEnd U o U' LR ({ frames := 0, cells := 0, slots := 0, locals := 0 } : Room).cells ({ frames := 0, cells := 0, slots := 0, locals := 0 } : Room).slots) := by
  refine MetFree.of_bodySF (plainFor_of_name pn_com_example_lampwork_lampwork_Glide) hisR ?_
  intro p e s m args below meth c s₁ Bd hml0 hPre hKk
  obtain ⟨rfl, hZ, hh⟩ := hPre
  have hx := Bd.exec
  have hby := Bd.bytes
  have hml : c.maxLocals = 4 := hml0
  have hown : s.vm.findClass "com/example/lampwork/lampwork/Glide" = some m.cls := findClass_of_methodNamed Bd.named
  have hnm := (name_of_methodNamed Bd.named Bd.method).1
  have X0 : Stand p l e ({ frames := 0, cells := 0, slots := 0, locals := 0 } : Room) s m #[(.ref a), (.double x), (.int (1 : Int32))] below meth c s₁ [] 0 0 := Stand.of_body Bd
  have e0 : s₁.heap = h0 := by rw [← hh, Bd.state]; rfl
  have N0 := Fr.nil n0
  obtain ⟨E0, hE0⟩ : ∃ zE : State, zE = s₁.setTop (entryFrame m #[(.ref a), (.double x), (.int (1 : Int32))] 4) := ⟨_, rfl⟩
  have k0 : own_G p e below E0 s₁ (mkF m 0 #[vr a, vd x, ss, vi (1 : Int32)] []) := fun tz kz => hE0 ▸ castTop (ef_rmS1 m a x F vl tg sp rm) kz
  have K0 : Keep h0 h0 [a] := Keep.refl _ _
  have k640 : own_G p e below E0 s₁ (mkF m 24 #[vr a, vd x, ss, vi (1 : Int32)] [(.ref a), (.double x)]) := by
    intro tQ kk
    refine k0 tQ ?_
    refine XS.iloadN X0.here hx rfl (hb hby d_prog_12_method_2_code_0) rfl ?_
    refine XS.ifYes X0.here hx rfl (pc0 := 1) (pc' := 22) rfl (hb hby d_prog_12_method_2_code_1) rfl (own_if_neY (by decide)) (by decide) (by decide) ?_
    refine XS.dloadN X0.here hx rfl (hb hby d_prog_12_method_2_code_22) rfl ?_
    refine XS.aloadN X0.here hx rfl (hb hby d_prog_12_method_2_code_23) rfl rfl ?_
    exact kk
  clear k0
  obtain ⟨T641, X642, e643, st644⟩ := getF X0 hx hZ hown (host := "") (Or.inl (tw34 hw)) Via.refl e0 F_target (g := (mkF m 24 #[vr a, vd x, ss, vi (1 : Int32)] [(.ref a), (.double x)])) rfl rfl (hb hby d_prog_12_method_2_code_24)
  have k645 : own_G p e below E0 T641 (mkF m 27 #[vr a, vd x, ss, vi (1 : Int32)] [(.double tg), (.double x)]) := fun tQ kk => k640 tQ (st644 _ kk)
  clear k640 st644
  have k646 : own_G p e below E0 T641 (mkF m 28 #[vr a, vd x, ss, vi (1 : Int32)] [(.int (own_c (own_z x) (own_z tg)))]) := by
    intro tQ kk
    refine k645 tQ ?_
    refine XS.dcmpS (v := (own_c (own_z x) (own_z tg))) X642.here hx rfl (hb hby d_prog_12_method_2_code_27) rfl (own_cE .l (own_cmpz nx ntg)) ?_
    exact kk
  clear k645
  by_cases cE : (own_z x) = (own_z tg)
  · skip
    have k648 : own_G p e below E0 T641 (mkF m 60 #[vr a, vd x, ss, vi (1 : Int32)] []) := by
      intro tQ kk
      refine k646 tQ ?_
      refine XS.ifYes X642.here hx rfl (pc0 := 28) (pc' := 60) rfl (hb hby d_prog_12_method_2_code_28) rfl (own_c_eqY cE) (by decide) (by decide) ?_
      exact kk
    clear k646
    obtain ⟨fs, hr, hrun, hended, hW, hsame⟩ := X642.leave (v := none) (fun _ => rfl)
    have hrun0 := k648 _ (X642.returnOut hx Bd.returns (hb hby d_prog_12_method_2_code_60) hr)
    subst hE0
    refine ⟨_, _, hrun0, hrun, hended, _, _, rfl, ?_, ⟨_, rfl⟩, hW, hsame.mono (by decide) (by decide)⟩
    show QrmS1 Z a x F vl tg sp rm h0 n0 _ T641.heap _
    rw [e643]
    exact ⟨rfl, N0, K0, F_frames, F_value, (by rw [own_tg, if_pos cE]; exact F_target), (by rw [own_sp, if_pos cE]; exact F_step), (by rw [own_rm, if_pos cE]; exact F_remaining)⟩
  · skip
    have k649 : own_G p e below E0 T641 (mkF m 33 #[vr a, vd x, ss, vi (1 : Int32)] [(.double x), (.ref a)]) := by
      intro tQ kk
      refine k646 tQ ?_
      refine XS.ifNo X642.here hx rfl (hb hby d_prog_12_method_2_code_28) rfl (own_c_eqN cE) ?_
      refine XS.aloadN X642.here hx rfl (hb hby d_prog_12_method_2_code_31) rfl rfl ?_
      refine XS.dloadN X642.here hx rfl (hb hby d_prog_12_method_2_code_32) rfl ?_
      exact kk
    clear k646
    obtain ⟨T650, h651, X652, e653, W654, st655⟩ := putF X642 hx hZ hown (host := "") (Or.inl (tw34 hw)) Via.refl e643 F_target E1 (Or.inl (tw35 hw)) (tw6 hw) (ty := .double) (by decide) rfl rfl (g := (mkF m 33 #[vr a, vd x, ss, vi (1 : Int32)] [(.double x), (.ref a)])) rfl rfl (hb hby d_prog_12_method_2_code_33)
    have N656 := Fr.snoc X652 N0 ge_a
    have k657 : own_G p e below E0 T650 (mkF m 36 #[vr a, vd x, ss, vi (1 : Int32)] []) := fun tQ kk => k649 tQ (st655 _ kk)
    clear k649 st655
    have F658 : xa8 Z h651 a := E1.wr W654
    clear E1
    have F659 : fd3 Z h651 a (.int F) := F_frames.other W654 (Or.inr (slot_ne (C := "com/example/lampwork/lampwork/Glide") (Or.inr (tw31 hw)) (Or.inl (tw35 hw)) (by decide) (t := .int) (t' := .double) (by decide) (by decide)))
    clear F_frames
    have F660 : fd4 Z h651 a (.double vl) := F_value.other W654 (Or.inr (slot_ne (C := "com/example/lampwork/lampwork/Glide") (Or.inl (tw33 hw)) (Or.inl (tw35 hw)) (by decide) (t := .double) (t' := .double) (by decide) (by decide)))
    clear F_value
    have F661 : fd5 Z h651 a (.double x) := F_target.same W654
    clear F_target
    have F662 : fd6 Z h651 a (.double sp) := F_step.other W654 (Or.inr (slot_ne (C := "com/example/lampwork/lampwork/Glide") (Or.inl (tw63 hw)) (Or.inl (tw35 hw)) (by decide) (t := .double) (t' := .double) (by decide) (by decide)))
    clear F_step
    have F663 : fd7 Z h651 a (.int rm) := F_remaining.other W654 (Or.inr (slot_ne (C := "com/example/lampwork/lampwork/Glide") (Or.inl (tw42 hw)) (Or.inl (tw35 hw)) (by decide) (t := .int) (t' := .double) (by decide) (by decide)))
    clear F_remaining
    have Z664 : n0 ≤ h651.size := by rw [W654.size]; exact Z0
    have K665 : Keep h0 h651 [a] := K0.wr W654 (Or.inl (List.mem_of_getElem? (i := 0) rfl))
    have k666 : own_G p e below E0 T650 (mkF m 39 #[vr a, vd x, ss, vi (1 : Int32)] [(.ref a), (.double x), (.ref a)]) := by
      intro tQ kk
      refine k657 tQ ?_
      refine XS.aloadN X652.here hx rfl (hb hby d_prog_12_method_2_code_36) rfl rfl ?_
      refine XS.dloadN X652.here hx rfl (hb hby d_prog_12_method_2_code_37) rfl ?_
      refine XS.aloadN X652.here hx rfl (hb hby d_prog_12_method_2_code_38) rfl rfl ?_
      exact kk
    clear k657
    obtain ⟨T667, X668, e669, st670⟩ := getF X652 hx hZ hown (host := "") (Or.inl (tw32 hw)) Via.refl e653 F660 (g := (mkF m 39 #[vr a, vd x, ss, vi (1 : Int32)] [(.ref a), (.double x), (.ref a)])) rfl rfl (hb hby d_prog_12_method_2_code_39)
    have k671 : own_G p e below E0 T667 (mkF m 42 #[vr a, vd x, ss, vi (1 : Int32)] [(.double vl), (.double x), (.ref a)]) := fun tQ kk => k666 tQ (st670 _ kk)
    clear k666 st670
    have k672 : own_G p e below E0 T667 (mkF m 44 #[vr a, vd x, ss, vi (1 : Int32)] [(.ref a), (.double (FP.dsub x vl)), (.ref a)]) := by
      intro tQ kk
      refine k671 tQ ?_
      refine XS.dsubS X668.here hx rfl (hb hby d_prog_12_method_2_code_42) rfl (hnn cE).1 rfl ?_
      refine XS.aloadN X668.here hx rfl (hb hby d_prog_12_method_2_code_43) rfl rfl ?_
      exact kk
    clear k671
    obtain ⟨T673, X674, e675, st676⟩ := getF X668 hx hZ hown (host := "") (Or.inl (tw30 hw)) Via.refl e669 F659 (g := (mkF m 44 #[vr a, vd x, ss, vi (1 : Int32)] [(.ref a), (.double (FP.dsub x vl)), (.ref a)])) rfl rfl (hb hby d_prog_12_method_2_code_44)
    have k677 : own_G p e below E0 T673 (mkF m 47 #[vr a, vd x, ss, vi (1 : Int32)] [(.int F), (.double (FP.dsub x vl)), (.ref a)]) := fun tQ kk => k672 tQ (st676 _ kk)
    clear k672 st676
    have k678 : own_G p e below E0 T673 (mkF m 49 #[vr a, vd x, ss, vi (1 : Int32)] [(.double (FP.ddiv (FP.dsub x vl) (FP.i2d F))), (.ref a)]) := by
      intro tQ kk
      refine k677 tQ ?_
      refine XS.i2dS X674.here hx rfl (hb hby d_prog_12_method_2_code_47) rfl rfl ?_
      refine XS.ddivS X674.here hx rfl (hb hby d_prog_12_method_2_code_48) rfl (hnn cE).2 rfl ?_
      exact kk
    clear k677
    obtain ⟨T679, h680, X681, e682, W683, st684⟩ := putF X674 hx hZ hown (host := "") (Or.inl (tw62 hw)) Via.refl e675 F662 F658 (Or.inl (tw63 hw)) (tw6 hw) (ty := .double) (by decide) rfl rfl (g := (mkF m 49 #[vr a, vd x, ss, vi (1 : Int32)] [(.double (FP.ddiv (FP.dsub x vl) (FP.i2d F))), (.ref a)])) rfl rfl (hb hby d_prog_12_method_2_code_49)
    have N685 := Fr.snoc X681 N656 ge_a
    have k686 : own_G p e below E0 T679 (mkF m 52 #[vr a, vd x, ss, vi (1 : Int32)] []) := fun tQ kk => k678 tQ (st684 _ kk)
    clear k678 st684
    have F687 : xa8 Z h680 a := F658.wr W683
    clear F658
    have F688 : fd3 Z h680 a (.int F) := F659.other W683 (Or.inr (slot_ne (C := "com/example/lampwork/lampwork/Glide") (Or.inr (tw31 hw)) (Or.inl (tw63 hw)) (by decide) (t := .int) (t' := .double) (by decide) (by decide)))
    clear F659
    have F689 : fd4 Z h680 a (.double vl) := F660.other W683 (Or.inr (slot_ne (C := "com/example/lampwork/lampwork/Glide") (Or.inl (tw33 hw)) (Or.inl (tw63 hw)) (by decide) (t := .double) (t' := .double) (by decide) (by decide)))
    clear F660
    have F690 : fd5 Z h680 a (.double x) := F661.other W683 (Or.inr (slot_ne (C := "com/example/lampwork/lampwork/Glide") (Or.inl (tw35 hw)) (Or.inl (tw63 hw)) (by decide) (t := .double) (t' := .double) (by decide) (by decide)))
    clear F661
    have F691 : fd6 Z h680 a (.double (FP.ddiv (FP.dsub x vl) (FP.i2d F))) := F662.same W683
    clear F662
    have F692 : fd7 Z h680 a (.int rm) := F663.other W683 (Or.inr (slot_ne (C := "com/example/lampwork/lampwork/Glide") (Or.inl (tw42 hw)) (Or.inl (tw63 hw)) (by decide) (t := .int) (t' := .double) (by decide) (by decide)))
    clear F663
    have Z693 : n0 ≤ h680.size := by rw [W683.size]; exact Z664
    have K694 : Keep h0 h680 [a] := K665.wr W683 (Or.inl (List.mem_of_getElem? (i := 0) rfl))
    have k695 : own_G p e below E0 T679 (mkF m 54 #[vr a, vd x, ss, vi (1 : Int32)] [(.ref a), (.ref a)]) := by
      intro tQ kk
      refine k686 tQ ?_
      refine XS.aloadN X681.here hx rfl (hb hby d_prog_12_method_2_code_52) rfl rfl ?_
      refine XS.aloadN X681.here hx rfl (hb hby d_prog_12_method_2_code_53) rfl rfl ?_
      exact kk
    clear k686
    obtain ⟨T696, X697, e698, st699⟩ := getF X681 hx hZ hown (host := "") (Or.inl (tw30 hw)) Via.refl e682 F688 (g := (mkF m 54 #[vr a, vd x, ss, vi (1 : Int32)] [(.ref a), (.ref a)])) rfl rfl (hb hby d_prog_12_method_2_code_54)
    have k700 : own_G p e below E0 T696 (mkF m 57 #[vr a, vd x, ss, vi (1 : Int32)] [(.int F), (.ref a)]) := fun tQ kk => k695 tQ (st699 _ kk)
    clear k695 st699
    obtain ⟨T701, h702, X703, e704, W705, st706⟩ := putF X697 hx hZ hown (host := "") (Or.inl (tw41 hw)) Via.refl e698 F692 F687 (Or.inl (tw42 hw)) (tw6 hw) (ty := .int) (by decide) rfl rfl (g := (mkF m 57 #[vr a, vd x, ss, vi (1 : Int32)] [(.int F), (.ref a)])) rfl rfl (hb hby d_prog_12_method_2_code_57)
    have N707 := Fr.snoc X703 N685 ge_a
    have k708 : own_G p e below E0 T701 (mkF m 60 #[vr a, vd x, ss, vi (1 : Int32)] []) := fun tQ kk => k700 tQ (st706 _ kk)
    clear k700 st706
    have F709 : xa8 Z h702 a := F687.wr W705
    clear F687
    have F710 : fd3 Z h702 a (.int F) := F688.other W705 (Or.inr (slot_ne (C := "com/example/lampwork/lampwork/Glide") (Or.inr (tw31 hw)) (Or.inl (tw42 hw)) (by decide) (t := .int) (t' := .int) (by decide) (by decide)))
    clear F688
    have F711 : fd4 Z h702 a (.double vl) := F689.other W705 (Or.inr (slot_ne (C := "com/example/lampwork/lampwork/Glide") (Or.inl (tw33 hw)) (Or.inl (tw42 hw)) (by decide) (t := .double) (t' := .int) (by decide) (by decide)))
    clear F689
    have F712 : fd5 Z h702 a (.double x) := F690.other W705 (Or.inr (slot_ne (C := "com/example/lampwork/lampwork/Glide") (Or.inl (tw35 hw)) (Or.inl (tw42 hw)) (by decide) (t := .double) (t' := .int) (by decide) (by decide)))
    clear F690
    have F713 : fd6 Z h702 a (.double (FP.ddiv (FP.dsub x vl) (FP.i2d F))) := F691.other W705 (Or.inr (slot_ne (C := "com/example/lampwork/lampwork/Glide") (Or.inl (tw63 hw)) (Or.inl (tw42 hw)) (by decide) (t := .double) (t' := .int) (by decide) (by decide)))
    clear F691
    have F714 : fd7 Z h702 a (.int F) := F692.same W705
    clear F692
    have Z715 : n0 ≤ h702.size := by rw [W705.size]; exact Z693
    have K716 : Keep h0 h702 [a] := K694.wr W705 (Or.inl (List.mem_of_getElem? (i := 0) rfl))
    obtain ⟨fs, hr, hrun, hended, hW, hsame⟩ := X703.leave (v := none) (fun _ => rfl)
    have hrun0 := k708 _ (X703.returnOut hx Bd.returns (hb hby d_prog_12_method_2_code_60) hr)
    subst hE0
    refine ⟨_, _, hrun0, hrun, hended, _, _, rfl, ?_, ⟨_, rfl⟩, hW, hsame.mono (by decide) (by decide)⟩
    show QrmS1 Z a x F vl tg sp rm h0 n0 _ T701.heap _
    rw [e704]
    exact ⟨rfl, N707, K716, F710, F711, (by rw [own_tg, if_neg cE]; exact F712), (by rw [own_sp, if_neg cE]; exact F713), (by rw [own_rm, if_neg cE]; exact F714)⟩
def QrmN (Z : State) (a : Addr) (F : Int32) (vl : UInt64) (tg : UInt64) (sp : UInt64) (rm : Int32) (h0 : Heap) (n0 : Nat) (vQ : Option Value) (hQ : Heap) (LQ : List Loc) : Prop := vQ = some (.double (own_nv vl tg sp rm)) ∧ Fr n0 LQ ∧ Keep h0 hQ [a] ∧ (fd3 Z hQ a (.int F)) ∧ (fd4 Z hQ a (.double (own_nv vl tg sp rm))) ∧ (fd5 Z hQ a (.double tg)) ∧ (fd6 Z hQ a (.double sp)) ∧ (fd7 Z hQ a (.int (own_nr rm)))
theorem ef_rmN (m : MethodId) (a : Addr) (F : Int32) (vl : UInt64) (tg : UInt64) (sp : UInt64) (rm : Int32) : entryFrame m #[(.ref a)] 1 = mkF m 0 #[vr a] [] := by first | (simp [entryFrame, mkF, argsToLocals, Value.category]; done) | rfl
abbrev mn13 : MethodName := ⟨"com/example/lampwork/lampwork/Glide", "next", "()D"⟩
theorem d_prog_12_method_5_code_0 : decode prog_12_method_5_code 0 = .ok (.aload_n 0, 1) := by decide +kernel
theorem d_prog_12_method_5_code_1 : decode prog_12_method_5_code 1 = .ok (.getfield 32, 3) := by decide +kernel
theorem d_prog_12_method_5_code_4 : decode prog_12_method_5_code 4 = .ok (.ifCond .le 32, 3) := by decide +kernel
theorem d_prog_12_method_5_code_7 : decode prog_12_method_5_code 7 = .ok (.aload_n 0, 1) := by decide +kernel
theorem d_prog_12_method_5_code_8 : decode prog_12_method_5_code 8 = .ok (.dup, 1) := by decide +kernel
theorem d_prog_12_method_5_code_9 : decode prog_12_method_5_code 9 = .ok (.getfield 32, 3) := by decide +kernel
theorem d_prog_12_method_5_code_12 : decode prog_12_method_5_code 12 = .ok (.iconst 1, 1) := by decide +kernel
theorem d_prog_12_method_5_code_13 : decode prog_12_method_5_code 13 = .ok (.isub, 1) := by decide +kernel
theorem d_prog_12_method_5_code_14 : decode prog_12_method_5_code 14 = .ok (.putfield 32, 3) := by decide +kernel
theorem d_prog_12_method_5_code_17 : decode prog_12_method_5_code 17 = .ok (.aload_n 0, 1) := by decide +kernel
theorem d_prog_12_method_5_code_18 : decode prog_12_method_5_code 18 = .ok (.aload_n 0, 1) := by decide +kernel
theorem d_prog_12_method_5_code_19 : decode prog_12_method_5_code 19 = .ok (.getfield 29, 3) := by decide +kernel
theorem d_prog_12_method_5_code_22 : decode prog_12_method_5_code 22 = .ok (.aload_n 0, 1) := by decide +kernel
theorem d_prog_12_method_5_code_23 : decode prog_12_method_5_code 23 = .ok (.getfield 32, 3) := by decide +kernel
theorem d_prog_12_method_5_code_26 : decode prog_12_method_5_code 26 = .ok (.i2d, 1) := by decide +kernel
theorem d_prog_12_method_5_code_27 : decode prog_12_method_5_code 27 = .ok (.aload_n 0, 1) := by decide +kernel
theorem d_prog_12_method_5_code_28 : decode prog_12_method_5_code 28 = .ok (.getfield 35, 3) := by decide +kernel
theorem d_prog_12_method_5_code_31 : decode prog_12_method_5_code 31 = .ok (.dmul, 1) := by decide +kernel
theorem d_prog_12_method_5_code_32 : decode prog_12_method_5_code 32 = .ok (.dsub, 1) := by decide +kernel
theorem d_prog_12_method_5_code_33 : decode prog_12_method_5_code 33 = .ok (.putfield 25, 3) := by decide +kernel
theorem d_prog_12_method_5_code_36 : decode prog_12_method_5_code 36 = .ok (.aload_n 0, 1) := by decide +kernel
theorem d_prog_12_method_5_code_37 : decode prog_12_method_5_code 37 = .ok (.getfield 25, 3) := by decide +kernel
theorem d_prog_12_method_5_code_40 : decode prog_12_method_5_code 40 = .ok (.dreturn, 1) := by decide +kernel
set_option maxRecDepth 65536 in
set_option maxHeartbeats 40000000 in
theorem rmN (l : Launch) (Z : State) (a0 : Array Value) (hw : ∀ d ∈ tables_1, d.before a0 Z = true) (ws : List Jvm.Cond) (a : Addr) (F : Int32) (vl : UInt64) (tg : UInt64) (sp : UInt64) (rm : Int32) (h0 : Heap) (n0 : Nat) (Z0 : n0 ≤ h0.size) (E1 : xa8 Z h0 a) (F_frames : fd3 Z h0 a (.int F)) (F_value : fd4 Z h0 a (.double vl)) (F_target : fd5 Z h0 a (.double tg)) (F_step : fd6 Z h0 a (.double sp)) (F_remaining : fd7 Z h0 a (.int rm)) (ge_a : n0 ≤ a) (hnn : 0 < rm → NoNaN64 (FP.dmul (FP.i2d (rm - 1)) sp) ∧ NoNaN64 (FP.dsub tg (FP.dmul (FP.i2d (rm - 1)) sp))) :
    MetFree l mn13 (head1 (Jvm.Cond.code mn13 prog_12_method_5_code 1 (some .double) :: ws) ({ frames := 0, cells := 0, slots := 0, locals := 0 } : Room)) (fun aA U => aA = #[(.ref a)] ∧ Z.Warmed39 U.vm ∧ U.heap = h0) (fun _ _ _ _ _ => True) (fun _ U o U' => ∃ vR LR, o = .returned vR ∧ QrmN Z a F vl tg sp rm h0 n0 vR U'.heap LR ∧ FrameEnd U o U' LR ({ frames := 0, cells := 0, slots := 0, locals := 0 } : Room).cells ({ frames := 0, cells := 0, slots := 0, locals := 0 } : Room).slots) := by
  refine MetFree.of_bodySF (plainFor_of_name pn_com_example_lampwork_lampwork_Glide) hisR ?_
  intro p e s m args below meth c s₁ Bd hml0 hPre hKk
  obtain ⟨rfl, hZ, hh⟩ := hPre
  have hx := Bd.exec
  have hby := Bd.bytes
  have hml : c.maxLocals = 1 := hml0
  have hown : s.vm.findClass "com/example/lampwork/lampwork/Glide" = some m.cls := findClass_of_methodNamed Bd.named
  have hnm := (name_of_methodNamed Bd.named Bd.method).1
  have X0 : Stand p l e ({ frames := 0, cells := 0, slots := 0, locals := 0 } : Room) s m #[(.ref a)] below meth c s₁ [] 0 0 := Stand.of_body Bd
  have e0 : s₁.heap = h0 := by rw [← hh, Bd.state]; rfl
  have N0 := Fr.nil n0
  obtain ⟨E0, hE0⟩ : ∃ zE : State, zE = s₁.setTop (entryFrame m #[(.ref a)] 1) := ⟨_, rfl⟩
  have k0 : own_G p e below E0 s₁ (mkF m 0 #[vr a] []) := fun tz kz => hE0 ▸ castTop (ef_rmN m a F vl tg sp rm) kz
  have K0 : Keep h0 h0 [a] := Keep.refl _ _
  have k717 : own_G p e below E0 s₁ (mkF m 1 #[vr a] [(.ref a)]) := by
    intro tQ kk
    refine k0 tQ ?_
    refine XS.aloadN X0.here hx rfl (hb hby d_prog_12_method_5_code_0) rfl rfl ?_
    exact kk
  clear k0
  obtain ⟨T718, X719, e720, st721⟩ := getF X0 hx hZ hown (host := "") (Or.inl (tw41 hw)) Via.refl e0 F_remaining (g := (mkF m 1 #[vr a] [(.ref a)])) rfl rfl (hb hby d_prog_12_method_5_code_1)
  have k722 : own_G p e below E0 T718 (mkF m 4 #[vr a] [(.int rm)]) := fun tQ kk => k717 tQ (st721 _ kk)
  clear k717 st721
  by_cases c0 : 0 < rm
  · skip
    have k724 : own_G p e below E0 T718 (mkF m 9 #[vr a] [(.ref a), (.ref a)]) := by
      intro tQ kk
      refine k722 tQ ?_
      refine XS.ifNo X719.here hx rfl (hb hby d_prog_12_method_5_code_4) rfl (own_if_leN c0) ?_
      refine XS.aloadN X719.here hx rfl (hb hby d_prog_12_method_5_code_7) rfl rfl ?_
      refine XS.dup X719.here hx rfl (hb hby d_prog_12_method_5_code_8) rfl rfl ?_
      exact kk
    clear k722
    obtain ⟨T725, X726, e727, st728⟩ := getF X719 hx hZ hown (host := "") (Or.inl (tw41 hw)) Via.refl e720 F_remaining (g := (mkF m 9 #[vr a] [(.ref a), (.ref a)])) rfl rfl (hb hby d_prog_12_method_5_code_9)
    have k729 : own_G p e below E0 T725 (mkF m 12 #[vr a] [(.int rm), (.ref a)]) := fun tQ kk => k724 tQ (st728 _ kk)
    clear k724 st728
    have k730 : own_G p e below E0 T725 (mkF m 14 #[vr a] [(.int (rm - (1 : Int32))), (.ref a)]) := by
      intro tQ kk
      refine k729 tQ ?_
      refine XS.iconst X726.here hx rfl (hb hby d_prog_12_method_5_code_12) ?_
      refine XS.isub X726.here hx rfl (hb hby d_prog_12_method_5_code_13) rfl ?_
      exact kk
    clear k729
    obtain ⟨T731, h732, X733, e734, W735, st736⟩ := putF X726 hx hZ hown (host := "") (Or.inl (tw41 hw)) Via.refl e727 F_remaining E1 (Or.inl (tw42 hw)) (tw6 hw) (ty := .int) (by decide) rfl rfl (g := (mkF m 14 #[vr a] [(.int (rm - (1 : Int32))), (.ref a)])) rfl rfl (hb hby d_prog_12_method_5_code_14)
    have N737 := Fr.snoc X733 N0 ge_a
    have k738 : own_G p e below E0 T731 (mkF m 17 #[vr a] []) := fun tQ kk => k730 tQ (st736 _ kk)
    clear k730 st736
    have F739 : xa8 Z h732 a := E1.wr W735
    clear E1
    have F740 : fd3 Z h732 a (.int F) := F_frames.other W735 (Or.inr (slot_ne (C := "com/example/lampwork/lampwork/Glide") (Or.inr (tw31 hw)) (Or.inl (tw42 hw)) (by decide) (t := .int) (t' := .int) (by decide) (by decide)))
    clear F_frames
    have F741 : fd4 Z h732 a (.double vl) := F_value.other W735 (Or.inr (slot_ne (C := "com/example/lampwork/lampwork/Glide") (Or.inl (tw33 hw)) (Or.inl (tw42 hw)) (by decide) (t := .double) (t' := .int) (by decide) (by decide)))
    clear F_value
    have F742 : fd5 Z h732 a (.double tg) := F_target.other W735 (Or.inr (slot_ne (C := "com/example/lampwork/lampwork/Glide") (Or.inl (tw35 hw)) (Or.inl (tw42 hw)) (by decide) (t := .double) (t' := .int) (by decide) (by decide)))
    clear F_target
    have F743 : fd6 Z h732 a (.double sp) := F_step.other W735 (Or.inr (slot_ne (C := "com/example/lampwork/lampwork/Glide") (Or.inl (tw63 hw)) (Or.inl (tw42 hw)) (by decide) (t := .double) (t' := .int) (by decide) (by decide)))
    clear F_step
    have F744 : fd7 Z h732 a (.int (rm - (1 : Int32))) := F_remaining.same W735
    clear F_remaining
    have Z745 : n0 ≤ h732.size := by rw [W735.size]; exact Z0
    have K746 : Keep h0 h732 [a] := K0.wr W735 (Or.inl (List.mem_of_getElem? (i := 0) rfl))
    have k747 : own_G p e below E0 T731 (mkF m 19 #[vr a] [(.ref a), (.ref a)]) := by
      intro tQ kk
      refine k738 tQ ?_
      refine XS.aloadN X733.here hx rfl (hb hby d_prog_12_method_5_code_17) rfl rfl ?_
      refine XS.aloadN X733.here hx rfl (hb hby d_prog_12_method_5_code_18) rfl rfl ?_
      exact kk
    clear k738
    obtain ⟨T748, X749, e750, st751⟩ := getF X733 hx hZ hown (host := "") (Or.inl (tw34 hw)) Via.refl e734 F742 (g := (mkF m 19 #[vr a] [(.ref a), (.ref a)])) rfl rfl (hb hby d_prog_12_method_5_code_19)
    have k752 : own_G p e below E0 T748 (mkF m 22 #[vr a] [(.double tg), (.ref a)]) := fun tQ kk => k747 tQ (st751 _ kk)
    clear k747 st751
    have k753 : own_G p e below E0 T748 (mkF m 23 #[vr a] [(.ref a), (.double tg), (.ref a)]) := by
      intro tQ kk
      refine k752 tQ ?_
      refine XS.aloadN X749.here hx rfl (hb hby d_prog_12_method_5_code_22) rfl rfl ?_
      exact kk
    clear k752
    obtain ⟨T754, X755, e756, st757⟩ := getF X749 hx hZ hown (host := "") (Or.inl (tw41 hw)) Via.refl e750 F744 (g := (mkF m 23 #[vr a] [(.ref a), (.double tg), (.ref a)])) rfl rfl (hb hby d_prog_12_method_5_code_23)
    have k758 : own_G p e below E0 T754 (mkF m 26 #[vr a] [(.int (rm - (1 : Int32))), (.double tg), (.ref a)]) := fun tQ kk => k753 tQ (st757 _ kk)
    clear k753 st757
    have k759 : own_G p e below E0 T754 (mkF m 28 #[vr a] [(.ref a), (.double (FP.i2d (rm - (1 : Int32)))), (.double tg), (.ref a)]) := by
      intro tQ kk
      refine k758 tQ ?_
      refine XS.i2dS X755.here hx rfl (hb hby d_prog_12_method_5_code_26) rfl rfl ?_
      refine XS.aloadN X755.here hx rfl (hb hby d_prog_12_method_5_code_27) rfl rfl ?_
      exact kk
    clear k758
    obtain ⟨T760, X761, e762, st763⟩ := getF X755 hx hZ hown (host := "") (Or.inl (tw62 hw)) Via.refl e756 F743 (g := (mkF m 28 #[vr a] [(.ref a), (.double (FP.i2d (rm - (1 : Int32)))), (.double tg), (.ref a)])) rfl rfl (hb hby d_prog_12_method_5_code_28)
    have k764 : own_G p e below E0 T760 (mkF m 31 #[vr a] [(.double sp), (.double (FP.i2d (rm - (1 : Int32)))), (.double tg), (.ref a)]) := fun tQ kk => k759 tQ (st763 _ kk)
    clear k759 st763
    have k765 : own_G p e below E0 T760 (mkF m 33 #[vr a] [(.double (FP.dsub tg (FP.dmul (FP.i2d (rm - (1 : Int32))) sp))), (.ref a)]) := by
      intro tQ kk
      refine k764 tQ ?_
      refine XS.dmulS X761.here hx rfl (hb hby d_prog_12_method_5_code_31) rfl (hnn c0).1 rfl ?_
      refine XS.dsubS X761.here hx rfl (hb hby d_prog_12_method_5_code_32) rfl (hnn c0).2 rfl ?_
      exact kk
    clear k764
    obtain ⟨T766, h767, X768, e769, W770, st771⟩ := putF X761 hx hZ hown (host := "") (Or.inl (tw32 hw)) Via.refl e762 F741 F739 (Or.inl (tw33 hw)) (tw6 hw) (ty := .double) (by decide) rfl rfl (g := (mkF m 33 #[vr a] [(.double (FP.dsub tg (FP.dmul (FP.i2d (rm - (1 : Int32))) sp))), (.ref a)])) rfl rfl (hb hby d_prog_12_method_5_code_33)
    have N772 := Fr.snoc X768 N737 ge_a
    have k773 : own_G p e below E0 T766 (mkF m 36 #[vr a] []) := fun tQ kk => k765 tQ (st771 _ kk)
    clear k765 st771
    have F774 : xa8 Z h767 a := F739.wr W770
    clear F739
    have F775 : fd3 Z h767 a (.int F) := F740.other W770 (Or.inr (slot_ne (C := "com/example/lampwork/lampwork/Glide") (Or.inr (tw31 hw)) (Or.inl (tw33 hw)) (by decide) (t := .int) (t' := .double) (by decide) (by decide)))
    clear F740
    have F776 : fd4 Z h767 a (.double (FP.dsub tg (FP.dmul (FP.i2d (rm - (1 : Int32))) sp))) := F741.same W770
    clear F741
    have F777 : fd5 Z h767 a (.double tg) := F742.other W770 (Or.inr (slot_ne (C := "com/example/lampwork/lampwork/Glide") (Or.inl (tw35 hw)) (Or.inl (tw33 hw)) (by decide) (t := .double) (t' := .double) (by decide) (by decide)))
    clear F742
    have F778 : fd6 Z h767 a (.double sp) := F743.other W770 (Or.inr (slot_ne (C := "com/example/lampwork/lampwork/Glide") (Or.inl (tw63 hw)) (Or.inl (tw33 hw)) (by decide) (t := .double) (t' := .double) (by decide) (by decide)))
    clear F743
    have F779 : fd7 Z h767 a (.int (rm - (1 : Int32))) := F744.other W770 (Or.inr (slot_ne (C := "com/example/lampwork/lampwork/Glide") (Or.inl (tw42 hw)) (Or.inl (tw33 hw)) (by decide) (t := .int) (t' := .double) (by decide) (by decide)))
    clear F744
    have Z780 : n0 ≤ h767.size := by rw [W770.size]; exact Z745
    have K781 : Keep h0 h767 [a] := K746.wr W770 (Or.inl (List.mem_of_getElem? (i := 0) rfl))
    have k782 : own_G p e below E0 T766 (mkF m 37 #[vr a] [(.ref a)]) := by
      intro tQ kk
      refine k773 tQ ?_
      refine XS.aloadN X768.here hx rfl (hb hby d_prog_12_method_5_code_36) rfl rfl ?_
      exact kk
    clear k773
    obtain ⟨T783, X784, e785, st786⟩ := getF X768 hx hZ hown (host := "") (Or.inl (tw32 hw)) Via.refl e769 F776 (g := (mkF m 37 #[vr a] [(.ref a)])) rfl rfl (hb hby d_prog_12_method_5_code_37)
    have k787 : own_G p e below E0 T783 (mkF m 40 #[vr a] [(.double (FP.dsub tg (FP.dmul (FP.i2d (rm - (1 : Int32))) sp)))]) := fun tQ kk => k782 tQ (st786 _ kk)
    clear k782 st786
    obtain ⟨fs, hr, hrun, hended, hW, hsame⟩ := X784.leave (v := some (.double (FP.dsub tg (FP.dmul (FP.i2d (rm - (1 : Int32))) sp)))) (fun h => by rw [Bd.returns] at h; cases h)
    have hrun0 := k787 _ (retOut X784 hx Bd.returns (t := .double) rfl (Or.inr (Or.inr (Or.inl ⟨rfl, rfl, _, rfl⟩))) (hb hby d_prog_12_method_5_code_40) hr)
    subst hE0
    refine ⟨_, _, hrun0, hrun, hended, _, _, rfl, ?_, ⟨_, rfl⟩, hW, hsame.mono (by decide) (by decide)⟩
    show QrmN Z a F vl tg sp rm h0 n0 _ T783.heap _
    rw [e785]
    exact ⟨by rw [own_nv, if_pos c0], N772, K781, F775, (by rw [own_nv, if_pos c0]; exact F776), F777, F778, (by rw [own_nr, if_pos c0]; exact F779)⟩
  · skip
    have k788 : own_G p e below E0 T718 (mkF m 37 #[vr a] [(.ref a)]) := by
      intro tQ kk
      refine k722 tQ ?_
      refine XS.ifYes X719.here hx rfl (pc0 := 4) (pc' := 36) rfl (hb hby d_prog_12_method_5_code_4) rfl (own_if_leY c0) (by decide) (by decide) ?_
      refine XS.aloadN X719.here hx rfl (hb hby d_prog_12_method_5_code_36) rfl rfl ?_
      exact kk
    clear k722
    obtain ⟨T789, X790, e791, st792⟩ := getF X719 hx hZ hown (host := "") (Or.inl (tw32 hw)) Via.refl e720 F_value (g := (mkF m 37 #[vr a] [(.ref a)])) rfl rfl (hb hby d_prog_12_method_5_code_37)
    have k793 : own_G p e below E0 T789 (mkF m 40 #[vr a] [(.double vl)]) := fun tQ kk => k788 tQ (st792 _ kk)
    clear k788 st792
    obtain ⟨fs, hr, hrun, hended, hW, hsame⟩ := X790.leave (v := some (.double vl)) (fun h => by rw [Bd.returns] at h; cases h)
    have hrun0 := k793 _ (retOut X790 hx Bd.returns (t := .double) rfl (Or.inr (Or.inr (Or.inl ⟨rfl, rfl, _, rfl⟩))) (hb hby d_prog_12_method_5_code_40) hr)
    subst hE0
    refine ⟨_, _, hrun0, hrun, hended, _, _, rfl, ?_, ⟨_, rfl⟩, hW, hsame.mono (by decide) (by decide)⟩
    show QrmN Z a F vl tg sp rm h0 n0 _ T789.heap _
    rw [e791]
    exact ⟨by rw [own_nv, if_neg c0], N0, K0, F_frames, (by rw [own_nv, if_neg c0]; exact F_value), F_target, F_step, (by rw [own_nr, if_neg c0]; exact F_remaining)⟩
def QrmMv (Z : State) (a : Addr) (rm : Int32) (h0 : Heap) (n0 : Nat) (vQ : Option Value) (hQ : Heap) (LQ : List Loc) : Prop := vQ = some (.int (own_mv rm)) ∧ Fr n0 LQ ∧ hQ = h0
theorem ef_rmMv (m : MethodId) (a : Addr) (rm : Int32) : entryFrame m #[(.ref a)] 1 = mkF m 0 #[vr a] [] := by first | (simp [entryFrame, mkF, argsToLocals, Value.category]; done) | rfl
abbrev mn14 : MethodName := ⟨"com/example/lampwork/lampwork/Glide", "moving", "()Z"⟩
theorem d_prog_12_method_3_code_0 : decode prog_12_method_3_code 0 = .ok (.aload_n 0, 1) := by decide +kernel
theorem d_prog_12_method_3_code_1 : decode prog_12_method_3_code 1 = .ok (.getfield 32, 3) := by decide +kernel
theorem d_prog_12_method_3_code_4 : decode prog_12_method_3_code 4 = .ok (.ifCond .le 7, 3) := by decide +kernel
theorem d_prog_12_method_3_code_7 : decode prog_12_method_3_code 7 = .ok (.iconst 1, 1) := by decide +kernel
theorem d_prog_12_method_3_code_8 : decode prog_12_method_3_code 8 = .ok (.goto 4, 3) := by decide +kernel
theorem d_prog_12_method_3_code_12 : decode prog_12_method_3_code 12 = .ok (.ireturn, 1) := by decide +kernel
theorem d_prog_12_method_3_code_11 : decode prog_12_method_3_code 11 = .ok (.iconst 0, 1) := by decide +kernel
set_option maxRecDepth 65536 in
set_option maxHeartbeats 40000000 in
theorem rmMv (l : Launch) (Z : State) (a0 : Array Value) (hw : ∀ d ∈ tables_1, d.before a0 Z = true) (ws : List Jvm.Cond) (a : Addr) (rm : Int32) (h0 : Heap) (n0 : Nat) (Z0 : n0 ≤ h0.size) (F1 : fd7 Z h0 a (.int rm)) :
    MetFree l mn14 (head1 (Jvm.Cond.code mn14 prog_12_method_3_code 1 (some .boolean) :: ws) ({ frames := 0, cells := 0, slots := 0, locals := 0 } : Room)) (fun aA U => aA = #[(.ref a)] ∧ Z.Warmed39 U.vm ∧ U.heap = h0) (fun _ _ _ _ _ => True) (fun _ U o U' => ∃ vR LR, o = .returned vR ∧ QrmMv Z a rm h0 n0 vR U'.heap LR ∧ FrameEnd U o U' LR ({ frames := 0, cells := 0, slots := 0, locals := 0 } : Room).cells ({ frames := 0, cells := 0, slots := 0, locals := 0 } : Room).slots) := by
  refine MetFree.of_bodySF (plainFor_of_name pn_com_example_lampwork_lampwork_Glide) hisR ?_
  intro p e s m args below meth c s₁ Bd hml0 hPre hKk
  obtain ⟨rfl, hZ, hh⟩ := hPre
  have hx := Bd.exec
  have hby := Bd.bytes
  have hml : c.maxLocals = 1 := hml0
  have hown : s.vm.findClass "com/example/lampwork/lampwork/Glide" = some m.cls := findClass_of_methodNamed Bd.named
  have hnm := (name_of_methodNamed Bd.named Bd.method).1
  have X0 : Stand p l e ({ frames := 0, cells := 0, slots := 0, locals := 0 } : Room) s m #[(.ref a)] below meth c s₁ [] 0 0 := Stand.of_body Bd
  have e0 : s₁.heap = h0 := by rw [← hh, Bd.state]; rfl
  have N0 := Fr.nil n0
  obtain ⟨E0, hE0⟩ : ∃ zE : State, zE = s₁.setTop (entryFrame m #[(.ref a)] 1) := ⟨_, rfl⟩
  have k0 : own_G p e below E0 s₁ (mkF m 0 #[vr a] []) := fun tz kz => hE0 ▸ castTop (ef_rmMv m a rm) kz
  have k794 : own_G p e below E0 s₁ (mkF m 1 #[vr a] [(.ref a)]) := by
    intro tQ kk
    refine k0 tQ ?_
    refine XS.aloadN X0.here hx rfl (hb hby d_prog_12_method_3_code_0) rfl rfl ?_
    exact kk
  clear k0
  obtain ⟨T795, X796, e797, st798⟩ := getF X0 hx hZ hown (host := "") (Or.inl (tw41 hw)) Via.refl e0 F1 (g := (mkF m 1 #[vr a] [(.ref a)])) rfl rfl (hb hby d_prog_12_method_3_code_1)
  have k799 : own_G p e below E0 T795 (mkF m 4 #[vr a] [(.int rm)]) := fun tQ kk => k794 tQ (st798 _ kk)
  clear k794 st798
  by_cases c800 : 0 < rm
  · skip
    have k801 : own_G p e below E0 T795 (mkF m 12 #[vr a] [(.int (1 : Int32))]) := by
      intro tQ kk
      refine k799 tQ ?_
      refine XS.ifNo X796.here hx rfl (hb hby d_prog_12_method_3_code_4) rfl (own_if_leN c800) ?_
      refine XS.iconst X796.here hx rfl (hb hby d_prog_12_method_3_code_7) ?_
      refine XS.goto X796.here hx rfl (pc0 := 8) (pc' := 12) rfl (hb hby d_prog_12_method_3_code_8) (by decide) (by decide) ?_
      exact kk
    clear k799
    obtain ⟨fs, hr, hrun, hended, hW, hsame⟩ := X796.leave (v := some (.int (1 : Int32))) (fun h => by rw [Bd.returns] at h; cases h)
    have hrun0 := k801 _ (retOut X796 hx Bd.returns (t := .boolean) rfl (Or.inl ⟨rfl, Or.inr (Or.inl rfl), _, rfl⟩) (hb hby d_prog_12_method_3_code_12) hr)
    subst hE0
    refine ⟨_, _, hrun0, hrun, hended, _, _, rfl, ?_, ⟨_, rfl⟩, hW, hsame.mono (by decide) (by decide)⟩
    show QrmMv Z a rm h0 n0 _ T795.heap _
    rw [e797]
    exact ⟨by rw [own_mv, if_pos c800], N0, rfl⟩
  · skip
    have k802 : own_G p e below E0 T795 (mkF m 12 #[vr a] [(.int (0 : Int32))]) := by
      intro tQ kk
      refine k799 tQ ?_
      refine XS.ifYes X796.here hx rfl (pc0 := 4) (pc' := 11) rfl (hb hby d_prog_12_method_3_code_4) rfl (own_if_leY c800) (by decide) (by decide) ?_
      refine XS.iconst X796.here hx rfl (hb hby d_prog_12_method_3_code_11) ?_
      exact kk
    clear k799
    obtain ⟨fs, hr, hrun, hended, hW, hsame⟩ := X796.leave (v := some (.int (0 : Int32))) (fun h => by rw [Bd.returns] at h; cases h)
    have hrun0 := k802 _ (retOut X796 hx Bd.returns (t := .boolean) rfl (Or.inl ⟨rfl, Or.inr (Or.inl rfl), _, rfl⟩) (hb hby d_prog_12_method_3_code_12) hr)
    subst hE0
    refine ⟨_, _, hrun0, hrun, hended, _, _, rfl, ?_, ⟨_, rfl⟩, hW, hsame.mono (by decide) (by decide)⟩
    show QrmMv Z a rm h0 n0 _ T795.heap _
    rw [e797]
    exact ⟨by rw [own_mv, if_neg c800], N0, rfl⟩
def QrmVl (Z : State) (a : Addr) (vl : UInt64) (h0 : Heap) (n0 : Nat) (vQ : Option Value) (hQ : Heap) (LQ : List Loc) : Prop := vQ = some (.double vl) ∧ Fr n0 LQ ∧ hQ = h0
theorem ef_rmVl (m : MethodId) (a : Addr) (vl : UInt64) : entryFrame m #[(.ref a)] 1 = mkF m 0 #[vr a] [] := by first | (simp [entryFrame, mkF, argsToLocals, Value.category]; done) | rfl
abbrev mn15 : MethodName := ⟨"com/example/lampwork/lampwork/Glide", "value", "()D"⟩
theorem d_prog_12_method_4_code_0 : decode prog_12_method_4_code 0 = .ok (.aload_n 0, 1) := by decide +kernel
theorem d_prog_12_method_4_code_1 : decode prog_12_method_4_code 1 = .ok (.getfield 25, 3) := by decide +kernel
theorem d_prog_12_method_4_code_4 : decode prog_12_method_4_code 4 = .ok (.dreturn, 1) := by decide +kernel
set_option maxRecDepth 65536 in
set_option maxHeartbeats 40000000 in
theorem rmVl (l : Launch) (Z : State) (a0 : Array Value) (hw : ∀ d ∈ tables_1, d.before a0 Z = true) (ws : List Jvm.Cond) (a : Addr) (vl : UInt64) (h0 : Heap) (n0 : Nat) (Z0 : n0 ≤ h0.size) (F1 : fd4 Z h0 a (.double vl)) :
    MetFree l mn15 (head1 (Jvm.Cond.code mn15 prog_12_method_4_code 1 (some .double) :: ws) ({ frames := 0, cells := 0, slots := 0, locals := 0 } : Room)) (fun aA U => aA = #[(.ref a)] ∧ Z.Warmed39 U.vm ∧ U.heap = h0) (fun _ _ _ _ _ => True) (fun _ U o U' => ∃ vR LR, o = .returned vR ∧ QrmVl Z a vl h0 n0 vR U'.heap LR ∧ FrameEnd U o U' LR ({ frames := 0, cells := 0, slots := 0, locals := 0 } : Room).cells ({ frames := 0, cells := 0, slots := 0, locals := 0 } : Room).slots) := by
  refine MetFree.of_bodySF (plainFor_of_name pn_com_example_lampwork_lampwork_Glide) hisR ?_
  intro p e s m args below meth c s₁ Bd hml0 hPre hKk
  obtain ⟨rfl, hZ, hh⟩ := hPre
  have hx := Bd.exec
  have hby := Bd.bytes
  have hml : c.maxLocals = 1 := hml0
  have hown : s.vm.findClass "com/example/lampwork/lampwork/Glide" = some m.cls := findClass_of_methodNamed Bd.named
  have hnm := (name_of_methodNamed Bd.named Bd.method).1
  have X0 : Stand p l e ({ frames := 0, cells := 0, slots := 0, locals := 0 } : Room) s m #[(.ref a)] below meth c s₁ [] 0 0 := Stand.of_body Bd
  have e0 : s₁.heap = h0 := by rw [← hh, Bd.state]; rfl
  have N0 := Fr.nil n0
  obtain ⟨E0, hE0⟩ : ∃ zE : State, zE = s₁.setTop (entryFrame m #[(.ref a)] 1) := ⟨_, rfl⟩
  have k0 : own_G p e below E0 s₁ (mkF m 0 #[vr a] []) := fun tz kz => hE0 ▸ castTop (ef_rmVl m a vl) kz
  have k803 : own_G p e below E0 s₁ (mkF m 1 #[vr a] [(.ref a)]) := by
    intro tQ kk
    refine k0 tQ ?_
    refine XS.aloadN X0.here hx rfl (hb hby d_prog_12_method_4_code_0) rfl rfl ?_
    exact kk
  clear k0
  obtain ⟨T804, X805, e806, st807⟩ := getF X0 hx hZ hown (host := "") (Or.inl (tw32 hw)) Via.refl e0 F1 (g := (mkF m 1 #[vr a] [(.ref a)])) rfl rfl (hb hby d_prog_12_method_4_code_1)
  have k808 : own_G p e below E0 T804 (mkF m 4 #[vr a] [(.double vl)]) := fun tQ kk => k803 tQ (st807 _ kk)
  clear k803 st807
  obtain ⟨fs, hr, hrun, hended, hW, hsame⟩ := X805.leave (v := some (.double vl)) (fun h => by rw [Bd.returns] at h; cases h)
  have hrun0 := k808 _ (retOut X805 hx Bd.returns (t := .double) rfl (Or.inr (Or.inr (Or.inl ⟨rfl, rfl, _, rfl⟩))) (hb hby d_prog_12_method_4_code_4) hr)
  subst hE0
  refine ⟨_, _, hrun0, hrun, hended, _, _, rfl, ?_, ⟨_, rfl⟩, hW, hsame.mono (by decide) (by decide)⟩
  show QrmVl Z a vl h0 n0 _ T804.heap _
  rw [e806]
  exact ⟨rfl, N0, rfl⟩
def QrmE (Z : State) (v : UInt64) (t : UInt64) (F : Int32) (md : Int32) (i : Int32) (h0 : Heap) (n0 : Nat) (vQ : Option Value) (hQ : Heap) (LQ : List Loc) : Prop := vQ = some (.double (own_exp v t F md i)) ∧ Fr n0 LQ ∧ hQ = h0
theorem ef_rmE (m : MethodId) (v : UInt64) (t : UInt64) (F : Int32) (md : Int32) (i : Int32) : entryFrame m #[(.double v), (.double t), (.int F), (.int md), (.int i)] 10 = mkF m 0 #[vd v, ss, vd t, ss, vi F, vi md, vi i, uu, uu, uu] [] := by first | (simp [entryFrame, mkF, argsToLocals, Value.category]; done) | rfl
abbrev mn16 : MethodName := ⟨"com/example/lampwork/lampwork/GlideNextPinLaw", "expect", "(DDIII)D"⟩
theorem pn_com_example_lampwork_lampwork_GlideNextPinLaw : plainName "com/example/lampwork/lampwork/GlideNextPinLaw" = true := by first | (simp [plainName, overriddenIn]; done) | decide +kernel
theorem d_method_2_code_0 : decode method_2_code 0 = .ok (.iload 5, 2) := by decide +kernel
theorem d_method_2_code_2 : decode method_2_code 2 = .ok (.ifCond .ne 5, 3) := by decide +kernel
theorem d_method_2_code_5 : decode method_2_code 5 = .ok (.dload_n 0, 1) := by decide +kernel
theorem d_method_2_code_6 : decode method_2_code 6 = .ok (.dreturn, 1) := by decide +kernel
theorem d_method_2_code_7 : decode method_2_code 7 = .ok (.iload 5, 2) := by decide +kernel
theorem d_method_2_code_9 : decode method_2_code 9 = .ok (.iconst 1, 1) := by decide +kernel
theorem d_method_2_code_10 : decode method_2_code 10 = .ok (.if_icmp .ne 5, 3) := by decide +kernel
theorem d_method_2_code_13 : decode method_2_code 13 = .ok (.dload_n 2, 1) := by decide +kernel
theorem d_method_2_code_14 : decode method_2_code 14 = .ok (.dreturn, 1) := by decide +kernel
theorem d_method_2_code_15 : decode method_2_code 15 = .ok (.dload_n 2, 1) := by decide +kernel
theorem d_method_2_code_16 : decode method_2_code 16 = .ok (.dload_n 0, 1) := by decide +kernel
theorem d_method_2_code_17 : decode method_2_code 17 = .ok (.dcmp .l, 1) := by decide +kernel
theorem d_method_2_code_18 : decode method_2_code 18 = .ok (.ifCond .ne 5, 3) := by decide +kernel
theorem d_method_2_code_21 : decode method_2_code 21 = .ok (.dload_n 0, 1) := by decide +kernel
theorem d_method_2_code_22 : decode method_2_code 22 = .ok (.dreturn, 1) := by decide +kernel
theorem d_method_2_code_23 : decode method_2_code 23 = .ok (.iconst 0, 1) := by decide +kernel
theorem d_method_2_code_24 : decode method_2_code 24 = .ok (.iload 4, 2) := by decide +kernel
theorem d_method_2_code_26 : decode method_2_code 26 = .ok (.iload 6, 2) := by decide +kernel
theorem d_method_2_code_28 : decode method_2_code 28 = .ok (.isub, 1) := by decide +kernel
theorem d_method_2_code_29 : decode method_2_code 29 = .ok (.invokestatic 7, 3) := by decide +kernel
def tw1 {Z : State} {a0 : Array Value} (hw : ∀ d ∈ tables_1, d.before a0 Z = true) := hw _ (List.mem_of_getElem? (i := 1) rfl)
def tw4 {Z : State} {a0 : Array Value} (hw : ∀ d ∈ tables_1, d.before a0 Z = true) := hw _ (List.mem_of_getElem? (i := 4) rfl)
theorem pd_17 : parseMethodDescriptor "(II)I" = some ⟨[.int, .int], some .int⟩ := by decide +kernel
def tw2 {Z : State} {a0 : Array Value} (hw : ∀ d ∈ tables_1, d.before a0 Z = true) := hw _ (List.mem_of_getElem? (i := 2) rfl)
theorem d_method_2_code_32 : decode method_2_code 32 = .ok (.istore 7, 2) := by decide +kernel
theorem d_method_2_code_34 : decode method_2_code 34 = .ok (.iload 7, 2) := by decide +kernel
theorem d_method_2_code_36 : decode method_2_code 36 = .ok (.ifCond .ne 5, 3) := by decide +kernel
theorem d_method_2_code_39 : decode method_2_code 39 = .ok (.dload_n 2, 1) := by decide +kernel
theorem d_method_2_code_40 : decode method_2_code 40 = .ok (.dreturn, 1) := by decide +kernel
theorem d_method_2_code_41 : decode method_2_code 41 = .ok (.dload_n 2, 1) := by decide +kernel
theorem d_method_2_code_42 : decode method_2_code 42 = .ok (.dload_n 0, 1) := by decide +kernel
theorem d_method_2_code_43 : decode method_2_code 43 = .ok (.dsub, 1) := by decide +kernel
theorem d_method_2_code_44 : decode method_2_code 44 = .ok (.iload 4, 2) := by decide +kernel
theorem d_method_2_code_46 : decode method_2_code 46 = .ok (.i2d, 1) := by decide +kernel
theorem d_method_2_code_47 : decode method_2_code 47 = .ok (.ddiv, 1) := by decide +kernel
theorem d_method_2_code_48 : decode method_2_code 48 = .ok (.dstore 8, 2) := by decide +kernel
theorem d_method_2_code_50 : decode method_2_code 50 = .ok (.dload_n 2, 1) := by decide +kernel
theorem d_method_2_code_51 : decode method_2_code 51 = .ok (.iload 7, 2) := by decide +kernel
theorem d_method_2_code_53 : decode method_2_code 53 = .ok (.i2d, 1) := by decide +kernel
theorem d_method_2_code_54 : decode method_2_code 54 = .ok (.dload 8, 2) := by decide +kernel
theorem d_method_2_code_56 : decode method_2_code 56 = .ok (.dmul, 1) := by decide +kernel
theorem d_method_2_code_57 : decode method_2_code 57 = .ok (.dsub, 1) := by decide +kernel
theorem d_method_2_code_58 : decode method_2_code 58 = .ok (.dreturn, 1) := by decide +kernel
set_option maxRecDepth 65536 in
set_option maxHeartbeats 40000000 in
theorem rmE (l : Launch) (Z : State) (a0 : Array Value) (hw : ∀ d ∈ tables_1, d.before a0 Z = true) (ws : List Jvm.Cond) (v : UInt64) (t : UInt64) (F : Int32) (md : Int32) (i : Int32) (h0 : Heap) (n0 : Nat) (Z0 : n0 ≤ h0.size) (nv : NoNaN64 v) (nt : NoNaN64 t) (h1 : NoNaN64 (FP.dsub t v)) (h2 : NoNaN64 (FP.ddiv (FP.dsub t v) (FP.i2d F))) (h34 : NoNaN64 (FP.dmul (FP.i2d (own_mx 0 (F - i))) (FP.ddiv (FP.dsub t v) (FP.i2d F))) ∧ NoNaN64 (FP.dsub t (FP.dmul (FP.i2d (own_mx 0 (F - i))) (FP.ddiv (FP.dsub t v) (FP.i2d F))))) :
    MetFree l mn16 (head1 (Jvm.Cond.code mn16 method_2_code 10 (some .double) :: ws) ({ frames := 1, cells := 0, slots := 0, locals := 13 } : Room)) (fun aA U => aA = #[(.double v), (.double t), (.int F), (.int md), (.int i)] ∧ Z.Warmed39 U.vm ∧ U.heap = h0) (fun _ _ _ _ _ => True) (fun _ U o U' => ∃ vR LR, o = .returned vR ∧ QrmE Z v t F md i h0 n0 vR U'.heap LR ∧ FrameEnd U o U' LR ({ frames := 1, cells := 0, slots := 0, locals := 13 } : Room).cells ({ frames := 1, cells := 0, slots := 0, locals := 13 } : Room).slots) := by
  refine MetFree.of_bodySF (plainFor_of_name pn_com_example_lampwork_lampwork_GlideNextPinLaw) hisR ?_
  intro p e s m args below meth c s₁ Bd hml0 hPre hKk
  obtain ⟨rfl, hZ, hh⟩ := hPre
  have hx := Bd.exec
  have hby := Bd.bytes
  have hml : c.maxLocals = 10 := hml0
  have hown : s.vm.findClass "com/example/lampwork/lampwork/GlideNextPinLaw" = some m.cls := findClass_of_methodNamed Bd.named
  have hnm := (name_of_methodNamed Bd.named Bd.method).1
  have X0 : Stand p l e ({ frames := 1, cells := 0, slots := 0, locals := 13 } : Room) s m #[(.double v), (.double t), (.int F), (.int md), (.int i)] below meth c s₁ [] 0 0 := Stand.of_body Bd
  have e0 : s₁.heap = h0 := by rw [← hh, Bd.state]; rfl
  have N0 := Fr.nil n0
  obtain ⟨E0, hE0⟩ : ∃ zE : State, zE = s₁.setTop (entryFrame m #[(.double v), (.double t), (.int F), (.int md), (.int i)] 10) := ⟨_, rfl⟩
  have k0 : own_G p e below E0 s₁ (mkF m 0 #[vd v, ss, vd t, ss, vi F, vi md, vi i, uu, uu, uu] []) := fun tz kz => hE0 ▸ castTop (ef_rmE m v t F md i) kz
  have k809 : own_G p e below E0 s₁ (mkF m 2 #[vd v, ss, vd t, ss, vi F, vi md, vi i, uu, uu, uu] [(.int md)]) := by
    intro tQ kk
    refine k0 tQ ?_
    refine XS.iload X0.here hx rfl (hb hby d_method_2_code_0) rfl ?_
    exact kk
  clear k0
  by_cases c810 : md = 0
  · skip
    have k811 : own_G p e below E0 s₁ (mkF m 6 #[vd v, ss, vd t, ss, vi F, vi md, vi i, uu, uu, uu] [(.double v)]) := by
      intro tQ kk
      refine k809 tQ ?_
      refine XS.ifNo X0.here hx rfl (hb hby d_method_2_code_2) rfl (own_if_neN c810) ?_
      refine XS.dloadN X0.here hx rfl (hb hby d_method_2_code_5) rfl ?_
      exact kk
    clear k809
    obtain ⟨fs, hr, hrun, hended, hW, hsame⟩ := X0.leave (v := some (.double v)) (fun h => by rw [Bd.returns] at h; cases h)
    have hrun0 := k811 _ (retOut X0 hx Bd.returns (t := .double) rfl (Or.inr (Or.inr (Or.inl ⟨rfl, rfl, _, rfl⟩))) (hb hby d_method_2_code_6) hr)
    subst hE0
    refine ⟨_, _, hrun0, hrun, hended, _, _, rfl, ?_, ⟨_, rfl⟩, hW, hsame.mono (by decide) (by decide)⟩
    show QrmE Z v t F md i h0 n0 _ s₁.heap _
    rw [e0]
    exact ⟨by rw [own_exp, if_pos c810], N0, rfl⟩
  · skip
    have k812 : own_G p e below E0 s₁ (mkF m 10 #[vd v, ss, vd t, ss, vi F, vi md, vi i, uu, uu, uu] [(.int (1 : Int32)), (.int md)]) := by
      intro tQ kk
      refine k809 tQ ?_
      refine XS.ifYes X0.here hx rfl (pc0 := 2) (pc' := 7) rfl (hb hby d_method_2_code_2) rfl (own_if_neY c810) (by decide) (by decide) ?_
      refine XS.iload X0.here hx rfl (hb hby d_method_2_code_7) rfl ?_
      refine XS.iconst X0.here hx rfl (hb hby d_method_2_code_9) ?_
      exact kk
    clear k809
    by_cases c813 : md = (1 : Int32)
    · skip
      have k814 : own_G p e below E0 s₁ (mkF m 14 #[vd v, ss, vd t, ss, vi F, vi md, vi i, uu, uu, uu] [(.double t)]) := by
        intro tQ kk
        refine k812 tQ ?_
        refine XS.icmpNo X0.here hx rfl (hb hby d_method_2_code_10) rfl (own_ic_neN c813) ?_
        refine XS.dloadN X0.here hx rfl (hb hby d_method_2_code_13) rfl ?_
        exact kk
      clear k812
      obtain ⟨fs, hr, hrun, hended, hW, hsame⟩ := X0.leave (v := some (.double t)) (fun h => by rw [Bd.returns] at h; cases h)
      have hrun0 := k814 _ (retOut X0 hx Bd.returns (t := .double) rfl (Or.inr (Or.inr (Or.inl ⟨rfl, rfl, _, rfl⟩))) (hb hby d_method_2_code_14) hr)
      subst hE0
      refine ⟨_, _, hrun0, hrun, hended, _, _, rfl, ?_, ⟨_, rfl⟩, hW, hsame.mono (by decide) (by decide)⟩
      show QrmE Z v t F md i h0 n0 _ s₁.heap _
      rw [e0]
      exact ⟨by rw [own_exp, if_neg c810, if_pos c813], N0, rfl⟩
    · skip
      have k815 : own_G p e below E0 s₁ (mkF m 18 #[vd v, ss, vd t, ss, vi F, vi md, vi i, uu, uu, uu] [(.int (own_c (own_z t) (own_z v)))]) := by
        intro tQ kk
        refine k812 tQ ?_
        refine XS.icmpYes X0.here hx rfl (pc0 := 10) (pc' := 15) rfl (hb hby d_method_2_code_10) rfl (own_ic_neY c813) (by decide) (by decide) ?_
        refine XS.dloadN X0.here hx rfl (hb hby d_method_2_code_15) rfl ?_
        refine XS.dloadN X0.here hx rfl (hb hby d_method_2_code_16) rfl ?_
        refine XS.dcmpS (v := (own_c (own_z t) (own_z v))) X0.here hx rfl (hb hby d_method_2_code_17) rfl (own_cE .l (own_cmpz nt nv)) ?_
        exact kk
      clear k812
      by_cases c816 : (own_z t) = (own_z v)
      · skip
        have k817 : own_G p e below E0 s₁ (mkF m 22 #[vd v, ss, vd t, ss, vi F, vi md, vi i, uu, uu, uu] [(.double v)]) := by
          intro tQ kk
          refine k815 tQ ?_
          refine XS.ifNo X0.here hx rfl (hb hby d_method_2_code_18) rfl (own_c_neN c816) ?_
          refine XS.dloadN X0.here hx rfl (hb hby d_method_2_code_21) rfl ?_
          exact kk
        clear k815
        obtain ⟨fs, hr, hrun, hended, hW, hsame⟩ := X0.leave (v := some (.double v)) (fun h => by rw [Bd.returns] at h; cases h)
        have hrun0 := k817 _ (retOut X0 hx Bd.returns (t := .double) rfl (Or.inr (Or.inr (Or.inl ⟨rfl, rfl, _, rfl⟩))) (hb hby d_method_2_code_22) hr)
        subst hE0
        refine ⟨_, _, hrun0, hrun, hended, _, _, rfl, ?_, ⟨_, rfl⟩, hW, hsame.mono (by decide) (by decide)⟩
        show QrmE Z v t F md i h0 n0 _ s₁.heap _
        rw [e0]
        exact ⟨by rw [own_exp, if_neg c810, if_neg c813, if_pos c816], N0, rfl⟩
      · skip
        have k818 : own_G p e below E0 s₁ (mkF m 29 #[vd v, ss, vd t, ss, vi F, vi md, vi i, uu, uu, uu] [(.int (F - i)), (.int (0 : Int32))]) := by
          intro tQ kk
          refine k815 tQ ?_
          refine XS.ifYes X0.here hx rfl (pc0 := 18) (pc' := 23) rfl (hb hby d_method_2_code_18) rfl (own_c_neY c816) (by decide) (by decide) ?_
          refine XS.iconst X0.here hx rfl (hb hby d_method_2_code_23) ?_
          refine XS.iload X0.here hx rfl (hb hby d_method_2_code_24) rfl ?_
          refine XS.iload X0.here hx rfl (hb hby d_method_2_code_26) rfl ?_
          show Steps p.tables e below (s₁.setTop (mkF m 28 #[vd v, ss, vd t, ss, vi F, vi md, vi i, uu, uu, uu] [(.int i), (.int F), (.int (0 : Int32))])) tQ
          refine XS.isub X0.here hx rfl (hb hby d_method_2_code_28) rfl ?_
          exact kk
        clear k815
        obtain ⟨_, _, ⟨T819, L820, kc821, nc822⟩, -, X823, ⟨Lc824, hQ825, l826, y827, z828⟩, st829⟩ := Jvm.LawKit.callS X0 hx (y := mn0) hown (mvT hZ (tw1 hw)) (mvT hZ (tw2 hw)) (mvT hZ (tw3 hw)) (mvT hZ (tw4 hw)) (by decide) (backOf (W := 0) (rmX l Z a0 hw [] (0 : Int32) (F - i) h0 n0 Z0 ) hZ (tw4 hw) (tw3 hw) (by decide) (by decide)) (g := (mkF m 29 #[vd v, ss, vd t, ss, vi F, vi md, vi i, uu, uu, uu] [(.int (F - i)), (.int (0 : Int32))])) rfl (by rw [hml]; rfl) (argsL := [(.int (0 : Int32)), (.int (F - i))]) (rest := []) (lenOf pd_17 rfl) rfl (by show 2 * 0 + _ ≤ _; exact Nat.le_of_eq rfl) (hb hby d_method_2_code_29) (fun _ _ => ⟨rfl, e0, (by decide : 0 + 0 ≤ _), (by decide : 0 + 0 ≤ _)⟩)
        dsimp only [Pt.U, Pt.locs, Pt.cells, Pt.slots] at X823 l826 y827 z828 st829 hQ825
        subst l826 y827 z828
        obtain ⟨rfl, N830, e831⟩ := hQ825
        have N833 := Fr.app N0 N830
        have k834 : own_G p e below E0 T819 (mkF m 32 #[vd v, ss, vd t, ss, vi F, vi md, vi i, uu, uu, uu] [(.int (own_mx (0 : Int32) (F - i)))]) := fun tQ kk => k818 tQ (st829 _ kk)
        clear k818 st829
        have k835 : own_G p e below E0 T819 (mkF m 36 #[vd v, ss, vd t, ss, vi F, vi md, vi i, vi (own_mx (0 : Int32) (F - i)), uu, uu] [(.int (own_mx (0 : Int32) (F - i)))]) := by
          intro tQ kk
          refine k834 tQ ?_
          refine XS.istore X823.here hx rfl (hb hby d_method_2_code_32) rfl (l' := #[vd v, ss, vd t, ss, vi F, vi md, vi i, vi (own_mx (0 : Int32) (F - i)), uu, uu]) rfl ?_
          refine XS.iload X823.here hx rfl (hb hby d_method_2_code_34) rfl ?_
          exact kk
        clear k834
        by_cases c836 : (own_mx (0 : Int32) (F - i)) = 0
        · skip
          have k837 : own_G p e below E0 T819 (mkF m 40 #[vd v, ss, vd t, ss, vi F, vi md, vi i, vi (own_mx (0 : Int32) (F - i)), uu, uu] [(.double t)]) := by
            intro tQ kk
            refine k835 tQ ?_
            refine XS.ifNo X823.here hx rfl (hb hby d_method_2_code_36) rfl (own_if_neN c836) ?_
            refine XS.dloadN X823.here hx rfl (hb hby d_method_2_code_39) rfl ?_
            exact kk
          clear k835
          obtain ⟨fs, hr, hrun, hended, hW, hsame⟩ := X823.leave (v := some (.double t)) (fun h => by rw [Bd.returns] at h; cases h)
          have hrun0 := k837 _ (retOut X823 hx Bd.returns (t := .double) rfl (Or.inr (Or.inr (Or.inl ⟨rfl, rfl, _, rfl⟩))) (hb hby d_method_2_code_40) hr)
          subst hE0
          refine ⟨_, _, hrun0, hrun, hended, _, _, rfl, ?_, ⟨_, rfl⟩, hW, hsame.mono (by decide) (by decide)⟩
          show QrmE Z v t F md i h0 n0 _ T819.heap _
          rw [e831]
          exact ⟨by rw [own_exp, if_neg c810, if_neg c813, if_neg c816, if_pos c836], N833, rfl⟩
        · skip
          have k838 : own_G p e below E0 T819 (mkF m 58 #[vd v, ss, vd t, ss, vi F, vi md, vi i, vi (own_mx (0 : Int32) (F - i)), vd (FP.ddiv (FP.dsub t v) (FP.i2d F)), ss] [(.double (FP.dsub t (FP.dmul (FP.i2d (own_mx (0 : Int32) (F - i))) (FP.ddiv (FP.dsub t v) (FP.i2d F)))))]) := by
            intro tQ kk
            refine k835 tQ ?_
            refine XS.ifYes X823.here hx rfl (pc0 := 36) (pc' := 41) rfl (hb hby d_method_2_code_36) rfl (own_if_neY c836) (by decide) (by decide) ?_
            refine XS.dloadN X823.here hx rfl (hb hby d_method_2_code_41) rfl ?_
            refine XS.dloadN X823.here hx rfl (hb hby d_method_2_code_42) rfl ?_
            refine XS.dsubS X823.here hx rfl (hb hby d_method_2_code_43) rfl h1 rfl ?_
            show Steps p.tables e below (T819.setTop (mkF m 44 #[vd v, ss, vd t, ss, vi F, vi md, vi i, vi (own_mx (0 : Int32) (F - i)), uu, uu] [(.double (FP.dsub t v))])) tQ
            refine XS.iload X823.here hx rfl (hb hby d_method_2_code_44) rfl ?_
            refine XS.i2dS X823.here hx rfl (hb hby d_method_2_code_46) rfl rfl ?_
            refine XS.ddivS X823.here hx rfl (hb hby d_method_2_code_47) rfl h2 rfl ?_
            refine XS.dstore X823.here hx rfl (hb hby d_method_2_code_48) rfl (l' := #[vd v, ss, vd t, ss, vi F, vi md, vi i, vi (own_mx (0 : Int32) (F - i)), vd (FP.ddiv (FP.dsub t v) (FP.i2d F)), ss]) rfl ?_
            show Steps p.tables e below (T819.setTop (mkF m 50 #[vd v, ss, vd t, ss, vi F, vi md, vi i, vi (own_mx (0 : Int32) (F - i)), vd (FP.ddiv (FP.dsub t v) (FP.i2d F)), ss] [])) tQ
            refine XS.dloadN X823.here hx rfl (hb hby d_method_2_code_50) rfl ?_
            refine XS.iload X823.here hx rfl (hb hby d_method_2_code_51) rfl ?_
            refine XS.i2dS X823.here hx rfl (hb hby d_method_2_code_53) rfl rfl ?_
            refine XS.dload X823.here hx rfl (hb hby d_method_2_code_54) rfl ?_
            show Steps p.tables e below (T819.setTop (mkF m 56 #[vd v, ss, vd t, ss, vi F, vi md, vi i, vi (own_mx (0 : Int32) (F - i)), vd (FP.ddiv (FP.dsub t v) (FP.i2d F)), ss] [(.double (FP.ddiv (FP.dsub t v) (FP.i2d F))), (.double (FP.i2d (own_mx (0 : Int32) (F - i)))), (.double t)])) tQ
            refine XS.dmulS X823.here hx rfl (hb hby d_method_2_code_56) rfl h34.1 rfl ?_
            refine XS.dsubS X823.here hx rfl (hb hby d_method_2_code_57) rfl h34.2 rfl ?_
            exact kk
          clear k835
          obtain ⟨fs, hr, hrun, hended, hW, hsame⟩ := X823.leave (v := some (.double (FP.dsub t (FP.dmul (FP.i2d (own_mx (0 : Int32) (F - i))) (FP.ddiv (FP.dsub t v) (FP.i2d F)))))) (fun h => by rw [Bd.returns] at h; cases h)
          have hrun0 := k838 _ (retOut X823 hx Bd.returns (t := .double) rfl (Or.inr (Or.inr (Or.inl ⟨rfl, rfl, _, rfl⟩))) (hb hby d_method_2_code_58) hr)
          subst hE0
          refine ⟨_, _, hrun0, hrun, hended, _, _, rfl, ?_, ⟨_, rfl⟩, hW, hsame.mono (by decide) (by decide)⟩
          show QrmE Z v t F md i h0 n0 _ T819.heap _
          rw [e831]
          exact ⟨by rw [own_exp, if_neg c810, if_neg c813, if_neg c816, if_neg c836], N833, rfl⟩
def Qrm0 (Z : State) (p0 : Int32) (p1 : Int32) (p2 : Int32) (p3 : Int32) (h0 : Heap) (n0 : Nat) (vQ : Option Value) (hQ : Heap) (LQ : List Loc) : Prop := vQ = some (.int (1 : Int32)) ∧ Fr n0 LQ
theorem ef_rm0 (m : MethodId) (p0 : Int32) (p1 : Int32) (p2 : Int32) (p3 : Int32) : entryFrame m #[(.int p0), (.int p1), (.int p2), (.int p3)] maxLocals = mkF m 0 #[vi p0, vi p1, vi p2, vi p3, uu, uu, uu, uu, uu, uu, uu, uu, uu, uu, uu, uu, uu, uu, uu, uu, uu, uu, uu, uu] [] := by first | (simp [entryFrame, mkF, argsToLocals, Value.category, maxLocals]; done) | rfl
def tw0 {Z : State} {a0 : Array Value} (hw : ∀ d ∈ tables_1, d.before a0 Z = true) := hw _ (List.mem_of_getElem? (i := 0) rfl)
def tw5 {Z : State} {a0 : Array Value} (hw : ∀ d ∈ tables_1, d.before a0 Z = true) := hw _ (List.mem_of_getElem? (i := 5) rfl)
def tw7 {Z : State} {a0 : Array Value} (hw : ∀ d ∈ tables_1, d.before a0 Z = true) := hw _ (List.mem_of_getElem? (i := 7) rfl)
def tw8 {Z : State} {a0 : Array Value} (hw : ∀ d ∈ tables_1, d.before a0 Z = true) := hw _ (List.mem_of_getElem? (i := 8) rfl)
def tw10 {Z : State} {a0 : Array Value} (hw : ∀ d ∈ tables_1, d.before a0 Z = true) := hw _ (List.mem_of_getElem? (i := 10) rfl)
theorem pd_18 : parseMethodDescriptor "(DI)V" = some ⟨[.double, .int], none⟩ := by decide +kernel
def tw9 {Z : State} {a0 : Array Value} (hw : ∀ d ∈ tables_1, d.before a0 Z = true) := hw _ (List.mem_of_getElem? (i := 9) rfl)
def tw36 {Z : State} {a0 : Array Value} (hw : ∀ d ∈ tables_1, d.before a0 Z = true) := hw _ (List.mem_of_getElem? (i := 36) rfl)
def tw39 {Z : State} {a0 : Array Value} (hw : ∀ d ∈ tables_1, d.before a0 Z = true) := hw _ (List.mem_of_getElem? (i := 39) rfl)
def tw40 {Z : State} {a0 : Array Value} (hw : ∀ d ∈ tables_1, d.before a0 Z = true) := hw _ (List.mem_of_getElem? (i := 40) rfl)
theorem pd_19 : parseMethodDescriptor "(DZ)V" = some ⟨[.double, .boolean], none⟩ := by decide +kernel
def tw37 {Z : State} {a0 : Array Value} (hw : ∀ d ∈ tables_1, d.before a0 Z = true) := hw _ (List.mem_of_getElem? (i := 37) rfl)
def tw38 {Z : State} {a0 : Array Value} (hw : ∀ d ∈ tables_1, d.before a0 Z = true) := hw _ (List.mem_of_getElem? (i := 38) rfl)
def tw43 {Z : State} {a0 : Array Value} (hw : ∀ d ∈ tables_1, d.before a0 Z = true) := hw _ (List.mem_of_getElem? (i := 43) rfl)
def tw46 {Z : State} {a0 : Array Value} (hw : ∀ d ∈ tables_1, d.before a0 Z = true) := hw _ (List.mem_of_getElem? (i := 46) rfl)
def tw47 {Z : State} {a0 : Array Value} (hw : ∀ d ∈ tables_1, d.before a0 Z = true) := hw _ (List.mem_of_getElem? (i := 47) rfl)
theorem pd_20 : parseMethodDescriptor "()D" = some ⟨[], some .double⟩ := by decide +kernel
def tw44 {Z : State} {a0 : Array Value} (hw : ∀ d ∈ tables_1, d.before a0 Z = true) := hw _ (List.mem_of_getElem? (i := 44) rfl)
def tw45 {Z : State} {a0 : Array Value} (hw : ∀ d ∈ tables_1, d.before a0 Z = true) := hw _ (List.mem_of_getElem? (i := 45) rfl)
def tw48 {Z : State} {a0 : Array Value} (hw : ∀ d ∈ tables_1, d.before a0 Z = true) := hw _ (List.mem_of_getElem? (i := 48) rfl)
def tw51 {Z : State} {a0 : Array Value} (hw : ∀ d ∈ tables_1, d.before a0 Z = true) := hw _ (List.mem_of_getElem? (i := 51) rfl)
def tw50 {Z : State} {a0 : Array Value} (hw : ∀ d ∈ tables_1, d.before a0 Z = true) := hw _ (List.mem_of_getElem? (i := 50) rfl)
theorem pd_21 : parseMethodDescriptor "(DDIII)D" = some ⟨[.double, .double, .int, .int, .int], some .double⟩ := by decide +kernel
def tw49 {Z : State} {a0 : Array Value} (hw : ∀ d ∈ tables_1, d.before a0 Z = true) := hw _ (List.mem_of_getElem? (i := 49) rfl)
def tw52 {Z : State} {a0 : Array Value} (hw : ∀ d ∈ tables_1, d.before a0 Z = true) := hw _ (List.mem_of_getElem? (i := 52) rfl)
def tw55 {Z : State} {a0 : Array Value} (hw : ∀ d ∈ tables_1, d.before a0 Z = true) := hw _ (List.mem_of_getElem? (i := 55) rfl)
def tw56 {Z : State} {a0 : Array Value} (hw : ∀ d ∈ tables_1, d.before a0 Z = true) := hw _ (List.mem_of_getElem? (i := 56) rfl)
theorem pd_22 : parseMethodDescriptor "()Z" = some ⟨[], some .boolean⟩ := by decide +kernel
def tw53 {Z : State} {a0 : Array Value} (hw : ∀ d ∈ tables_1, d.before a0 Z = true) := hw _ (List.mem_of_getElem? (i := 53) rfl)
def tw54 {Z : State} {a0 : Array Value} (hw : ∀ d ∈ tables_1, d.before a0 Z = true) := hw _ (List.mem_of_getElem? (i := 54) rfl)
def tw57 {Z : State} {a0 : Array Value} (hw : ∀ d ∈ tables_1, d.before a0 Z = true) := hw _ (List.mem_of_getElem? (i := 57) rfl)
def tw60 {Z : State} {a0 : Array Value} (hw : ∀ d ∈ tables_1, d.before a0 Z = true) := hw _ (List.mem_of_getElem? (i := 60) rfl)
def tw61 {Z : State} {a0 : Array Value} (hw : ∀ d ∈ tables_1, d.before a0 Z = true) := hw _ (List.mem_of_getElem? (i := 61) rfl)
def tw58 {Z : State} {a0 : Array Value} (hw : ∀ d ∈ tables_1, d.before a0 Z = true) := hw _ (List.mem_of_getElem? (i := 58) rfl)
def tw59 {Z : State} {a0 : Array Value} (hw : ∀ d ∈ tables_1, d.before a0 Z = true) := hw _ (List.mem_of_getElem? (i := 59) rfl)
set_option maxRecDepth 65536 in
set_option maxHeartbeats 40000000 in
theorem rm0 (l : Launch) (Z : State) (a0 : Array Value) (hw : ∀ d ∈ tables_1, d.before a0 Z = true) (ws : List Jvm.Cond) (p0 : Int32) (p1 : Int32) (p2 : Int32) (p3 : Int32) (h0 : Heap) (n0 : Nat) (Z0 : n0 ≤ h0.size)  :
    MetFree l x (head1 (Jvm.Cond.code x code maxLocals ret :: ws) room_1) (fun aA U => aA = #[(.int p0), (.int p1), (.int p2), (.int p3)] ∧ Z.Warmed39 U.vm ∧ U.heap = h0) (fun _ _ _ _ _ => True) (fun _ U o U' => ∃ vR LR, o = .returned vR ∧ Qrm0 Z p0 p1 p2 p3 h0 n0 vR U'.heap LR ∧ FrameEnd U o U' LR 16 128) := by
  refine MetFree.of_bodySF (plainFor_of_name pn_com_example_lampwork_lampwork_GlideNextPinLaw) hisR ?_
  intro p e s m args below meth c s₁ Bd hml0 hPre hKk
  obtain ⟨rfl, hZ, hh⟩ := hPre
  have hx := Bd.exec
  have hby := Bd.bytes
  have hml : c.maxLocals = 24 := hml0
  have hown : s.vm.findClass "com/example/lampwork/lampwork/GlideNextPinLaw" = some m.cls := findClass_of_methodNamed Bd.named
  have hnm := (name_of_methodNamed Bd.named Bd.method).1
  have X0 : Stand p l e room_1 s m #[(.int p0), (.int p1), (.int p2), (.int p3)] below meth c s₁ [] 0 0 := Stand.of_body Bd
  have e0 : s₁.heap = h0 := by rw [← hh, Bd.state]; rfl
  have N0 := Fr.nil n0
  obtain ⟨E0, hE0⟩ : ∃ zE : State, zE = s₁.setTop (entryFrame m #[(.int p0), (.int p1), (.int p2), (.int p3)] maxLocals) := ⟨_, rfl⟩
  have k0 : own_G p e below E0 s₁ (mkF m 0 #[vi p0, vi p1, vi p2, vi p3, uu, uu, uu, uu, uu, uu, uu, uu, uu, uu, uu, uu, uu, uu, uu, uu, uu, uu, uu, uu] []) := fun tz kz => hE0 ▸ castTop (ef_rm0 m p0 p1 p2 p3) kz
  have k839 : own_G p e below E0 s₁ (mkF m 1 #[vi p0, vi p1, vi p2, vi p3, uu, uu, uu, uu, uu, uu, uu, uu, uu, uu, uu, uu, uu, uu, uu, uu, uu, uu, uu, uu] [(.int p2)]) := by
    intro tQ kk
    refine k0 tQ ?_
    refine XS.iloadN X0.here hx rfl (hb hby at_0) rfl ?_
    exact kk
  clear k0
  have st840 := X0.ldcInt hx hown (mvT hZ (tw0 hw)) (g := (mkF m 1 #[vi p0, vi p1, vi p2, vi p3, uu, uu, uu, uu, uu, uu, uu, uu, uu, uu, uu, uu, uu, uu, uu, uu, uu, uu, uu, uu] [(.int p2)])) rfl (hb hby at_1)
  have k841 : own_G p e below E0 s₁ (mkF m 3 #[vi p0, vi p1, vi p2, vi p3, uu, uu, uu, uu, uu, uu, uu, uu, uu, uu, uu, uu, uu, uu, uu, uu, uu, uu, uu, uu] [(.int (2147483647 : Int32)), (.int p2)]) := fun tQ kk => k839 tQ (st840 _ kk)
  clear k839 st840
  have k842 : own_G p e below E0 s₁ (mkF m 6 #[vi p0, vi p1, vi p2, vi p3, uu, uu, uu, uu, uu, uu, uu, uu, uu, uu, uu, uu, uu, uu, uu, uu, uu, uu, uu, uu] [(.int ((p2 &&& (2147483647 : Int32)) % (5 : Int32)))]) := by
    intro tQ kk
    refine k841 tQ ?_
    refine XS.iand X0.here hx rfl (hb hby at_3) rfl ?_
    refine XS.iconst X0.here hx rfl (hb hby at_4) ?_
    refine iremM X0 hx rfl (hb hby at_5) rfl (by decide) ?_
    exact kk
  clear k841
  obtain ⟨K, hK0⟩ : ∃ vA, vA = ((p2 &&& (2147483647 : Int32)) % (5 : Int32)) := ⟨_, rfl⟩
  have k843 : own_G p e below E0 s₁ (mkF m 6 #[vi p0, vi p1, vi p2, vi p3, uu, uu, uu, uu, uu, uu, uu, uu, uu, uu, uu, uu, uu, uu, uu, uu, uu, uu, uu, uu] [(.int K)]) := by rw [hK0]; exact k842
  have hK := own_len5 p2 hK0
  have hFb := own_Fb hK
  have k844 : own_G p e below E0 s₁ (mkF m 11 #[vi p0, vi p1, vi p2, vi p3, vi K, uu, uu, uu, uu, uu, uu, uu, uu, uu, uu, uu, uu, uu, uu, uu, uu, uu, uu, uu] [(.int K), (.int (1 : Int32))]) := by
    intro tQ kk
    refine k843 tQ ?_
    refine XS.istore X0.here hx rfl (hb hby at_6) rfl (l' := #[vi p0, vi p1, vi p2, vi p3, vi K, uu, uu, uu, uu, uu, uu, uu, uu, uu, uu, uu, uu, uu, uu, uu, uu, uu, uu, uu]) rfl ?_
    refine XS.iconst X0.here hx rfl (hb hby at_8) ?_
    refine XS.iload X0.here hx rfl (hb hby at_9) rfl ?_
    exact kk
  clear k843
  obtain ⟨_, _, ⟨T845, L846, kc847, nc848⟩, -, X849, ⟨Lc850, hQ851, l852, y853, z854⟩, st855⟩ := Jvm.LawKit.callS X0 hx (y := mn0) hown (mvT hZ (tw1 hw)) (mvT hZ (tw2 hw)) (mvT hZ (tw3 hw)) (mvT hZ (tw4 hw)) (by decide) (backOf (W := 0) (rmX l Z a0 hw [] (1 : Int32) K h0 n0 Z0 ) hZ (tw4 hw) (tw3 hw) (by decide) (by decide)) (g := (mkF m 11 #[vi p0, vi p1, vi p2, vi p3, vi K, uu, uu, uu, uu, uu, uu, uu, uu, uu, uu, uu, uu, uu, uu, uu, uu, uu, uu, uu] [(.int K), (.int (1 : Int32))])) rfl (by rw [hml]; rfl) (argsL := [(.int (1 : Int32)), (.int K)]) (rest := []) (lenOf pd_17 rfl) rfl (by show 2 * 0 + _ ≤ _; exact Nat.le_of_eq rfl) (hb hby at_11) (fun _ _ => ⟨rfl, e0, (by decide : 0 + 0 ≤ _), (by decide : 0 + 0 ≤ _)⟩)
  dsimp only [Pt.U, Pt.locs, Pt.cells, Pt.slots] at X849 l852 y853 z854 st855 hQ851
  subst l852 y853 z854
  obtain ⟨rfl, N856, e857⟩ := hQ851
  have N859 := Fr.app N0 N856
  have k860 : own_G p e below E0 T845 (mkF m 14 #[vi p0, vi p1, vi p2, vi p3, vi K, uu, uu, uu, uu, uu, uu, uu, uu, uu, uu, uu, uu, uu, uu, uu, uu, uu, uu, uu] [(.int (own_mx (1 : Int32) K))]) := fun tQ kk => k844 tQ (st855 _ kk)
  clear k844 st855
  have eq861 : (own_mx (1 : Int32) K) = (own_F K) := rfl
  rw [eq861] at k860
  have k862 : own_G p e below E0 T845 (mkF m 19 #[vi p0, vi p1, vi p2, vi p3, vi K, vi (own_F K), uu, uu, uu, uu, uu, uu, uu, uu, uu, uu, uu, uu, uu, uu, uu, uu, uu, uu] [(.int (p3 &&& (3 : Int32)))]) := by
    intro tQ kk
    refine k860 tQ ?_
    refine XS.istore X849.here hx rfl (hb hby at_14) rfl (l' := #[vi p0, vi p1, vi p2, vi p3, vi K, vi (own_F K), uu, uu, uu, uu, uu, uu, uu, uu, uu, uu, uu, uu, uu, uu, uu, uu, uu, uu]) rfl ?_
    refine XS.iloadN X849.here hx rfl (hb hby at_16) rfl ?_
    refine XS.iconst X849.here hx rfl (hb hby at_17) ?_
    refine XS.iand X849.here hx rfl (hb hby at_18) rfl ?_
    exact kk
  clear k860
  obtain ⟨md, hmd⟩ : ∃ vA, vA = (p3 &&& (3 : Int32)) := ⟨_, rfl⟩
  have k863 : own_G p e below E0 T845 (mkF m 19 #[vi p0, vi p1, vi p2, vi p3, vi K, vi (own_F K), uu, uu, uu, uu, uu, uu, uu, uu, uu, uu, uu, uu, uu, uu, uu, uu, uu, uu] [(.int md)]) := by rw [hmd]; exact k862
  have k864 : own_G p e below E0 T845 (mkF m 29 #[vi p0, vi p1, vi p2, vi p3, vi K, vi (own_F K), vi md, vd (FP.i2d p0), ss, vd (FP.i2d p1), ss, uu, uu, uu, uu, uu, uu, uu, uu, uu, uu, uu, uu, uu] []) := by
    intro tQ kk
    refine k863 tQ ?_
    refine XS.istore X849.here hx rfl (hb hby at_19) rfl (l' := #[vi p0, vi p1, vi p2, vi p3, vi K, vi (own_F K), vi md, uu, uu, uu, uu, uu, uu, uu, uu, uu, uu, uu, uu, uu, uu, uu, uu, uu]) rfl ?_
    refine XS.iloadN X849.here hx rfl (hb hby at_21) rfl ?_
    refine XS.i2dS X849.here hx rfl (hb hby at_22) rfl rfl ?_
    refine XS.dstore X849.here hx rfl (hb hby at_23) rfl (l' := #[vi p0, vi p1, vi p2, vi p3, vi K, vi (own_F K), vi md, vd (FP.i2d p0), ss, uu, uu, uu, uu, uu, uu, uu, uu, uu, uu, uu, uu, uu, uu, uu]) rfl ?_
    show Steps p.tables e below (T845.setTop (mkF m 25 #[vi p0, vi p1, vi p2, vi p3, vi K, vi (own_F K), vi md, vd (FP.i2d p0), ss, uu, uu, uu, uu, uu, uu, uu, uu, uu, uu, uu, uu, uu, uu, uu] [])) tQ
    refine XS.iloadN X849.here hx rfl (hb hby at_25) rfl ?_
    refine XS.i2dS X849.here hx rfl (hb hby at_26) rfl rfl ?_
    refine XS.dstore X849.here hx rfl (hb hby at_27) rfl (l' := #[vi p0, vi p1, vi p2, vi p3, vi K, vi (own_F K), vi md, vd (FP.i2d p0), ss, vd (FP.i2d p1), ss, uu, uu, uu, uu, uu, uu, uu, uu, uu, uu, uu, uu, uu]) rfl ?_
    exact kk
  clear k863
  obtain ⟨T865, h866, X867, e868, E869, A870, D871, -, st872⟩ := newO X849 hx hZ hown (tw5 hw) (tw6 hw) (tw7 hw) e857 (g := (mkF m 29 #[vi p0, vi p1, vi p2, vi p3, vi K, vi (own_F K), vi md, vd (FP.i2d p0), ss, vd (FP.i2d p1), ss, uu, uu, uu, uu, uu, uu, uu, uu, uu, uu, uu, uu, uu] [])) rfl (hb hby at_29) (by decide) (by decide)
  obtain ⟨a873, g874⟩ : ∃ zA : Nat, zA = h0.size := ⟨_, rfl⟩
  rw [← g874] at A870 D871 st872
  have ge875 : n0 ≤ a873 := own_ge_of Z0 g874
  have Z876 : n0 ≤ h866.size := Nat.le_trans Z0 E869.1
  have F877 : Fld Z h866 a873 "com/example/lampwork/lampwork/Glide" "frames" "I" (.int (0 : Int32)) := (D871 (Or.inr (tw31 hw)) (ty := .int) (by decide))
  have F878 : Fld Z h866 a873 "com/example/lampwork/lampwork/Glide" "value" "D" (.double (0 : UInt64)) := (D871 (Or.inl (tw33 hw)) (ty := .double) (by decide))
  have F879 : Fld Z h866 a873 "com/example/lampwork/lampwork/Glide" "target" "D" (.double (0 : UInt64)) := (D871 (Or.inl (tw35 hw)) (ty := .double) (by decide))
  have F880 : Fld Z h866 a873 "com/example/lampwork/lampwork/Glide" "remaining" "I" (.int (0 : Int32)) := (D871 (Or.inl (tw42 hw)) (ty := .int) (by decide))
  have F881 : Fld Z h866 a873 "com/example/lampwork/lampwork/Glide" "step" "D" (.double (0 : UInt64)) := (D871 (Or.inl (tw63 hw)) (ty := .double) (by decide))
  have k882 : own_G p e below E0 T865 (mkF m 32 #[vi p0, vi p1, vi p2, vi p3, vi K, vi (own_F K), vi md, vd (FP.i2d p0), ss, vd (FP.i2d p1), ss, uu, uu, uu, uu, uu, uu, uu, uu, uu, uu, uu, uu, uu] [(.ref a873)]) := fun tQ kk => k864 tQ (st872 _ kk)
  clear k864 st872
  have k883 : own_G p e below E0 T865 (mkF m 40 #[vi p0, vi p1, vi p2, vi p3, vi K, vi (own_F K), vi md, vd (FP.i2d p0), ss, vd (FP.i2d p1), ss, uu, uu, uu, uu, uu, uu, uu, uu, uu, uu, uu, uu, uu] [(.int ((50 : Int32) * K)), (.double (FP.i2d p0)), (.ref a873), (.ref a873)]) := by
    intro tQ kk
    refine k882 tQ ?_
    refine XS.dup X867.here hx rfl (hb hby at_32) rfl rfl ?_
    refine XS.dload X867.here hx rfl (hb hby at_33) rfl ?_
    refine XS.bipush X867.here hx rfl (hb hby at_35) ?_
    refine XS.iload X867.here hx rfl (hb hby at_37) rfl ?_
    show Steps p.tables e below (T865.setTop (mkF m 39 #[vi p0, vi p1, vi p2, vi p3, vi K, vi (own_F K), vi md, vd (FP.i2d p0), ss, vd (FP.i2d p1), ss, uu, uu, uu, uu, uu, uu, uu, uu, uu, uu, uu, uu, uu] [(.int K), (.int (50 : Int32)), (.double (FP.i2d p0)), (.ref a873), (.ref a873)])) tQ
    refine XS.imul X867.here hx rfl (hb hby at_39) rfl ?_
    exact kk
  clear k882
  obtain ⟨_, _, ⟨T884, L885, kc886, nc887⟩, -, X888, ⟨Lc889, hQ890, l891, y892, z893⟩, st894⟩ := X867.specialBack hx (y := mn9) rfl hown (mvT hZ (tw8 hw)) (mvT hZ (tw9 hw)) (mvT hZ (tw10 hw)) (by decide) (backOf (W := 1) (rmI l Z a0 hw [] a873 (FP.i2d p0) K h866 n0 Z876 A870 F877 F878 F879 F881 F880 ge875 hK) hZ (tw10 hw) (tw7 hw) (by decide) (by decide)) (g := (mkF m 40 #[vi p0, vi p1, vi p2, vi p3, vi K, vi (own_F K), vi md, vd (FP.i2d p0), ss, vd (FP.i2d p1), ss, uu, uu, uu, uu, uu, uu, uu, uu, uu, uu, uu, uu, uu] [(.int ((50 : Int32) * K)), (.double (FP.i2d p0)), (.ref a873), (.ref a873)])) rfl (by rw [hml]; rfl) (Steps.refl _) (a := a873) (argsL := [(.double (FP.i2d p0)), (.int ((50 : Int32) * K))]) (rest := [(.ref a873)]) (lenOf pd_18 rfl) rfl (by show 2 * 0 + _ ≤ _; exact Nat.le_of_eq rfl) (hb hby at_40) (fun _ _ => ⟨rfl, e868, (by decide : 1 + 0 ≤ _), (by decide : 5 + 0 ≤ _)⟩)
  dsimp only [Pt.U, Pt.locs, Pt.cells, Pt.slots] at X888 l891 y892 z893 st894 hQ890
  subst l891 y892 z893
  obtain ⟨rfl, N895, K898, g899, g900, g901, g902, g903⟩ := hQ890
  have N904 := Fr.app N859 N895
  have Z905 : n0 ≤ T884.heap.size := Nat.le_trans Z876 K898.1
  have F906 : xa8 Z T884.heap a873 := A870.keep K898
  clear A870
  clear F877
  clear F878
  clear F879
  clear F880
  clear F881
  have k912 : own_G p e below E0 T884 (mkF m 43 #[vi p0, vi p1, vi p2, vi p3, vi K, vi (own_F K), vi md, vd (FP.i2d p0), ss, vd (FP.i2d p1), ss, uu, uu, uu, uu, uu, uu, uu, uu, uu, uu, uu, uu, uu] [(.ref a873)]) := fun tQ kk => k883 tQ (st894.trans kk)
  clear k883 st894
  have k913 : own_G p e below E0 T884 (mkF m 48 #[vi p0, vi p1, vi p2, vi p3, vi K, vi (own_F K), vi md, vd (FP.i2d p0), ss, vd (FP.i2d p1), ss, vr a873, uu, uu, uu, uu, uu, uu, uu, uu, uu, uu, uu, uu] [(.int (1 : Int32)), (.int md)]) := by
    intro tQ kk
    refine k912 tQ ?_
    refine XS.astore X888.here hx rfl (hb hby at_43) rfl rfl (l' := #[vi p0, vi p1, vi p2, vi p3, vi K, vi (own_F K), vi md, vd (FP.i2d p0), ss, vd (FP.i2d p1), ss, vr a873, uu, uu, uu, uu, uu, uu, uu, uu, uu, uu, uu, uu]) rfl ?_
    refine XS.iload X888.here hx rfl (hb hby at_45) rfl ?_
    refine XS.iconst X888.here hx rfl (hb hby at_47) ?_
    exact kk
  clear k912
  by_cases cm1 : md = (1 : Int32)
  · skip
    have k915 : own_G p e below E0 T884 (mkF m 56 #[vi p0, vi p1, vi p2, vi p3, vi K, vi (own_F K), vi md, vd (FP.i2d p0), ss, vd (FP.i2d p1), ss, vr a873, uu, uu, uu, uu, uu, uu, uu, uu, uu, uu, uu, uu] [(.int (0 : Int32)), (.double (FP.i2d p1)), (.ref a873)]) := by
      intro tQ kk
      refine k913 tQ ?_
      refine XS.icmpNo X888.here hx rfl (hb hby at_48) rfl (own_ic_neN cm1) ?_
      refine XS.aload X888.here hx rfl (hb hby at_51) rfl rfl ?_
      refine XS.dload X888.here hx rfl (hb hby at_53) rfl ?_
      refine XS.iconst X888.here hx rfl (hb hby at_55) ?_
      exact kk
    clear k913
    obtain ⟨cq927, kq928, qa929, qb930, qc931⟩ := isOf hZ rfl F906
    obtain ⟨_, _, ⟨T916, L917, kc918, nc919⟩, -, X920, ⟨Lc921, hQ922, l923, y924, z925⟩, st926⟩ := X888.virtualBack hx (y := mn12) (z := mn12) hown (mvT hZ (tw36 hw)) (mvT hZ (tw37 hw)) (notFace_of_selects (args := #[]) (mvT hZ (tw39 hw))) (mvT hZ (tw39 hw)) (mvT hZ (tw38 hw)) (by decide) (backOf (W := 0) (rmS0 l Z a0 hw [] a873 (FP.i2d p1) (own_F K) (FP.i2d p0) (FP.i2d p0) (0 : UInt64) (0 : Int32) T884.heap n0 Z905 F906 g899 g900 g901 g902 g903 ge875) hZ (tw40 hw) (tw7 hw) (by decide) (by decide)) qa929 qc931 (g := (mkF m 56 #[vi p0, vi p1, vi p2, vi p3, vi K, vi (own_F K), vi md, vd (FP.i2d p0), ss, vd (FP.i2d p1), ss, vr a873, uu, uu, uu, uu, uu, uu, uu, uu, uu, uu, uu, uu] [(.int (0 : Int32)), (.double (FP.i2d p1)), (.ref a873)])) rfl (by rw [hml]; rfl) (Steps.refl _) (argsL := [(.double (FP.i2d p1)), (.int (0 : Int32))]) (rest := []) (lenOf pd_19 rfl) rfl (by show 2 * 0 + _ ≤ _; exact Nat.le_of_eq rfl) (hb hby at_56) (fun _ _ => ⟨rfl, rfl, (by decide : 1 + 0 ≤ _), (by decide : 5 + 0 ≤ _)⟩)
    dsimp only [Pt.U, Pt.locs, Pt.cells, Pt.slots] at X920 l923 y924 z925 st926 hQ922
    subst l923 y924 z925
    obtain ⟨rfl, N932, K935, g936, g937, g938, g939, g940⟩ := hQ922
    have N941 := Fr.app N904 N932
    have Z942 : n0 ≤ T916.heap.size := Nat.le_trans Z905 K935.1
    have F943 : xa8 Z T916.heap a873 := F906.keep K935
    clear F906
    clear g899
    clear g900
    clear g901
    clear g902
    clear g903
    have k949 : own_G p e below E0 T916 (mkF m 59 #[vi p0, vi p1, vi p2, vi p3, vi K, vi (own_F K), vi md, vd (FP.i2d p0), ss, vd (FP.i2d p1), ss, vr a873, uu, uu, uu, uu, uu, uu, uu, uu, uu, uu, uu, uu] []) := fun tQ kk => k915 tQ (st926.trans kk)
    clear k915 st926
    have k950 : own_G p e below E0 T916 (mkF m 81 #[vi p0, vi p1, vi p2, vi p3, vi K, vi (own_F K), vi md, vd (FP.i2d p0), ss, vd (FP.i2d p1), ss, vr a873, vi (1 : Int32), uu, uu, uu, uu, uu, uu, uu, uu, uu, uu, uu] [(.ref a873)]) := by
      intro tQ kk
      refine k949 tQ ?_
      refine XS.goto X920.here hx rfl (pc0 := 59) (pc' := 76) rfl (hb hby at_59) (by decide) (by decide) ?_
      refine XS.iconst X920.here hx rfl (hb hby at_76) ?_
      refine XS.istore X920.here hx rfl (hb hby at_77) rfl (l' := #[vi p0, vi p1, vi p2, vi p3, vi K, vi (own_F K), vi md, vd (FP.i2d p0), ss, vd (FP.i2d p1), ss, vr a873, vi (1 : Int32), uu, uu, uu, uu, uu, uu, uu, uu, uu, uu, uu]) rfl ?_
      refine XS.aload X920.here hx rfl (hb hby at_79) rfl rfl ?_
      exact kk
    clear k949
    obtain ⟨cq962, kq963, qa964, qb965, qc966⟩ := isOf hZ rfl F943
    obtain ⟨_, _, ⟨T951, L952, kc953, nc954⟩, -, X955, ⟨Lc956, hQ957, l958, y959, z960⟩, st961⟩ := X920.virtualBack hx (y := mn13) (z := mn13) hown (mvT hZ (tw43 hw)) (mvT hZ (tw44 hw)) (notFace_of_selects (args := #[]) (mvT hZ (tw46 hw))) (mvT hZ (tw46 hw)) (mvT hZ (tw45 hw)) (by decide) (backOf (W := 0) (rmN l Z a0 hw [] a873 (own_F K) (FP.i2d p1) (FP.i2d p1) (0 : UInt64) (0 : Int32) T916.heap n0 Z942 F943 g936 g937 g938 g939 g940 ge875 (fun z => absurd z (by decide))) hZ (tw47 hw) (tw7 hw) (by decide) (by decide)) qa964 qc966 (g := (mkF m 81 #[vi p0, vi p1, vi p2, vi p3, vi K, vi (own_F K), vi md, vd (FP.i2d p0), ss, vd (FP.i2d p1), ss, vr a873, vi (1 : Int32), uu, uu, uu, uu, uu, uu, uu, uu, uu, uu, uu] [(.ref a873)])) rfl (by rw [hml]; rfl) (Steps.refl _) (argsL := []) (rest := []) (lenOf pd_20 rfl) rfl (by show 2 * 0 + _ ≤ _; exact Nat.le_of_eq rfl) (hb hby at_81) (fun _ _ => ⟨rfl, rfl, (by decide : 1 + 0 ≤ _), (by decide : 5 + 0 ≤ _)⟩)
    dsimp only [Pt.U, Pt.locs, Pt.cells, Pt.slots] at X955 l958 y959 z960 st961 hQ957
    subst l958 y959 z960
    obtain ⟨rfl, N967, K970, g971, g972, g973, g974, g975⟩ := hQ957
    have N976 := Fr.app N941 N967
    have Z977 : n0 ≤ T951.heap.size := Nat.le_trans Z942 K970.1
    have F978 : xa8 Z T951.heap a873 := F943.keep K970
    clear F943
    clear g936
    clear g937
    clear g938
    clear g939
    clear g940
    have k984 : own_G p e below E0 T951 (mkF m 84 #[vi p0, vi p1, vi p2, vi p3, vi K, vi (own_F K), vi md, vd (FP.i2d p0), ss, vd (FP.i2d p1), ss, vr a873, vi (1 : Int32), uu, uu, uu, uu, uu, uu, uu, uu, uu, uu, uu] [(.double (own_nv (FP.i2d p1) (FP.i2d p1) (0 : UInt64) (0 : Int32)))]) := fun tQ kk => k950 tQ (st961.trans kk)
    clear k950 st961
    have eq985 : (own_nv (FP.i2d p1) (FP.i2d p1) (0 : UInt64) (0 : Int32)) = (FP.i2d p1) := by rw [own_nv, if_neg (by decide)]
    have F986 : fd4 Z T951.heap a873 (.double (FP.i2d p1)) := by rw [← eq985]; exact g972
    have eq987 : (own_nr (0 : Int32)) = (0 : Int32) := by decide
    have F988 : fd7 Z T951.heap a873 (.int (0 : Int32)) := by rw [← eq987]; exact g975
    have eq989 : (own_nv (FP.i2d p1) (FP.i2d p1) (0 : UInt64) (0 : Int32)) = (FP.i2d p1) := by rw [own_nv, if_neg (by decide)]
    rw [eq989] at k984
    have k990 : own_G p e below E0 T951 (mkF m 102 #[vi p0, vi p1, vi p2, vi p3, vi K, vi (own_F K), vi md, vd (FP.i2d p0), ss, vd (FP.i2d p1), ss, vr a873, vi (1 : Int32), vd (FP.i2d p1), ss, uu, uu, uu, uu, uu, uu, uu, uu, uu] [(.int (1 : Int32)), (.int md), (.int (own_F K)), (.double (FP.i2d p1)), (.double (FP.i2d p0)), (.double (FP.i2d p1))]) := by
      intro tQ kk
      refine k984 tQ ?_
      refine XS.dstore X955.here hx rfl (hb hby at_84) rfl (l' := #[vi p0, vi p1, vi p2, vi p3, vi K, vi (own_F K), vi md, vd (FP.i2d p0), ss, vd (FP.i2d p1), ss, vr a873, vi (1 : Int32), vd (FP.i2d p1), ss, uu, uu, uu, uu, uu, uu, uu, uu, uu]) rfl ?_
      refine XS.iload X955.here hx rfl (hb hby at_86) rfl ?_
      refine XS.ifNo X955.here hx rfl (hb hby at_88) rfl (own_if_eqN (by decide)) ?_
      refine XS.dload X955.here hx rfl (hb hby at_91) rfl ?_
      show Steps p.tables e below (T951.setTop (mkF m 93 #[vi p0, vi p1, vi p2, vi p3, vi K, vi (own_F K), vi md, vd (FP.i2d p0), ss, vd (FP.i2d p1), ss, vr a873, vi (1 : Int32), vd (FP.i2d p1), ss, uu, uu, uu, uu, uu, uu, uu, uu, uu] [(.double (FP.i2d p1))])) tQ
      refine XS.dload X955.here hx rfl (hb hby at_93) rfl ?_
      refine XS.dload X955.here hx rfl (hb hby at_95) rfl ?_
      refine XS.iload X955.here hx rfl (hb hby at_97) rfl ?_
      refine XS.iload X955.here hx rfl (hb hby at_99) rfl ?_
      show Steps p.tables e below (T951.setTop (mkF m 101 #[vi p0, vi p1, vi p2, vi p3, vi K, vi (own_F K), vi md, vd (FP.i2d p0), ss, vd (FP.i2d p1), ss, vr a873, vi (1 : Int32), vd (FP.i2d p1), ss, uu, uu, uu, uu, uu, uu, uu, uu, uu] [(.int md), (.int (own_F K)), (.double (FP.i2d p1)), (.double (FP.i2d p0)), (.double (FP.i2d p1))])) tQ
      refine XS.iconst X955.here hx rfl (hb hby at_101) ?_
      exact kk
    clear k984
    obtain ⟨_, _, ⟨T991, L992, kc993, nc994⟩, -, X995, ⟨Lc996, hQ997, l998, y999, z1000⟩, st1001⟩ := Jvm.LawKit.callS X955 hx (y := mn16) hown (mvT hZ (tw48 hw)) (mvT hZ (tw49 hw)) (mvT hZ (tw50 hw)) (mvT hZ (tw51 hw)) (by decide) (backOf (W := 2) (rmE l Z a0 hw [] (FP.i2d p0) (FP.i2d p1) (own_F K) md (1 : Int32) T951.heap n0 Z977 (Fl.i2d_fin p0).noNaN (Fl.i2d_fin p1).noNaN (own_h1 p0 p1) (own_h2 p0 p1 (F := (own_F K)) hFb) (own_q3 p0 p1 (F := (own_F K)) (r := (own_mx 0 ((own_F K) - (1 : Int32)))) hFb (own_mxb hFb (by decide)))) hZ (tw51 hw) (tw50 hw) (by decide) (by decide)) (g := (mkF m 102 #[vi p0, vi p1, vi p2, vi p3, vi K, vi (own_F K), vi md, vd (FP.i2d p0), ss, vd (FP.i2d p1), ss, vr a873, vi (1 : Int32), vd (FP.i2d p1), ss, uu, uu, uu, uu, uu, uu, uu, uu, uu] [(.int (1 : Int32)), (.int md), (.int (own_F K)), (.double (FP.i2d p1)), (.double (FP.i2d p0)), (.double (FP.i2d p1))])) rfl (by rw [hml]; rfl) (argsL := [(.double (FP.i2d p0)), (.double (FP.i2d p1)), (.int (own_F K)), (.int md), (.int (1 : Int32))]) (rest := [(.double (FP.i2d p1))]) (lenOf pd_21 rfl) rfl (by show 2 * 0 + _ ≤ _; exact Nat.le_of_eq rfl) (hb hby at_102) (fun _ _ => ⟨rfl, rfl, (by decide : 1 + 0 ≤ _), (by decide : 5 + 0 ≤ _)⟩)
    dsimp only [Pt.U, Pt.locs, Pt.cells, Pt.slots] at X995 l998 y999 z1000 st1001 hQ997
    subst l998 y999 z1000
    obtain ⟨rfl, N1002, e1003⟩ := hQ997
    have N1005 := Fr.app N976 N1002
    have k1006 : own_G p e below E0 T991 (mkF m 105 #[vi p0, vi p1, vi p2, vi p3, vi K, vi (own_F K), vi md, vd (FP.i2d p0), ss, vd (FP.i2d p1), ss, vr a873, vi (1 : Int32), vd (FP.i2d p1), ss, uu, uu, uu, uu, uu, uu, uu, uu, uu] [(.double (own_exp (FP.i2d p0) (FP.i2d p1) (own_F K) md (1 : Int32))), (.double (FP.i2d p1))]) := fun tQ kk => k990 tQ (st1001 _ kk)
    clear k990 st1001
    have k1007 : own_G p e below E0 T991 (mkF m 118 #[vi p0, vi p1, vi p2, vi p3, vi K, vi (own_F K), vi md, vd (FP.i2d p0), ss, vd (FP.i2d p1), ss, vr a873, vi (1 : Int32), vd (FP.i2d p1), ss, uu, uu, uu, uu, uu, uu, uu, uu, uu] [(.ref a873)]) := by
      intro tQ kk
      refine k1006 tQ ?_
      refine XS.dcmpS (v := (0 : Int32)) X995.here hx rfl (hb hby at_105) rfl (own_e1 cm1 (Fl.i2d_fin p1).noNaN) ?_
      refine XS.ifNo X995.here hx rfl (hb hby at_106) rfl (own_if_neN (by decide)) ?_
      refine XS.iconst X995.here hx rfl (hb hby at_109) ?_
      refine XS.goto X995.here hx rfl (pc0 := 110) (pc' := 114) rfl (hb hby at_110) (by decide) (by decide) ?_
      show Steps p.tables e below (T991.setTop (mkF m 114 #[vi p0, vi p1, vi p2, vi p3, vi K, vi (own_F K), vi md, vd (FP.i2d p0), ss, vd (FP.i2d p1), ss, vr a873, vi (1 : Int32), vd (FP.i2d p1), ss, uu, uu, uu, uu, uu, uu, uu, uu, uu] [(.int (1 : Int32))])) tQ
      refine XS.istore X995.here hx rfl (hb hby at_114) rfl (l' := #[vi p0, vi p1, vi p2, vi p3, vi K, vi (own_F K), vi md, vd (FP.i2d p0), ss, vd (FP.i2d p1), ss, vr a873, vi (1 : Int32), vd (FP.i2d p1), ss, uu, uu, uu, uu, uu, uu, uu, uu, uu]) rfl ?_
      refine XS.aload X995.here hx rfl (hb hby at_116) rfl rfl ?_
      exact kk
    clear k1006
    obtain ⟨cq1019, kq1020, qa1021, qb1022, qc1023⟩ := isOf hZ e1003 F978
    obtain ⟨_, _, ⟨T1008, L1009, kc1010, nc1011⟩, -, X1012, ⟨Lc1013, hQ1014, l1015, y1016, z1017⟩, st1018⟩ := X995.virtualBack hx (y := mn14) (z := mn14) hown (mvT hZ (tw52 hw)) (mvT hZ (tw53 hw)) (notFace_of_selects (args := #[]) (mvT hZ (tw55 hw))) (mvT hZ (tw55 hw)) (mvT hZ (tw54 hw)) (by decide) (backOf (W := 0) (rmMv l Z a0 hw [] a873 (0 : Int32) T951.heap n0 Z977 F988) hZ (tw56 hw) (tw7 hw) (by decide) (by decide)) qa1021 qc1023 (g := (mkF m 118 #[vi p0, vi p1, vi p2, vi p3, vi K, vi (own_F K), vi md, vd (FP.i2d p0), ss, vd (FP.i2d p1), ss, vr a873, vi (1 : Int32), vd (FP.i2d p1), ss, uu, uu, uu, uu, uu, uu, uu, uu, uu] [(.ref a873)])) rfl (by rw [hml]; rfl) (Steps.refl _) (argsL := []) (rest := []) (lenOf pd_22 rfl) rfl (by show 2 * 0 + _ ≤ _; exact Nat.le_of_eq rfl) (hb hby at_118) (fun _ _ => ⟨rfl, e1003, (by decide : 1 + 0 ≤ _), (by decide : 5 + 0 ≤ _)⟩)
    dsimp only [Pt.U, Pt.locs, Pt.cells, Pt.slots] at X1012 l1015 y1016 z1017 st1018 hQ1014
    subst l1015 y1016 z1017
    obtain ⟨rfl, N1024, e1025⟩ := hQ1014
    have N1027 := Fr.app N1005 N1024
    have k1028 : own_G p e below E0 T1008 (mkF m 121 #[vi p0, vi p1, vi p2, vi p3, vi K, vi (own_F K), vi md, vd (FP.i2d p0), ss, vd (FP.i2d p1), ss, vr a873, vi (1 : Int32), vd (FP.i2d p1), ss, uu, uu, uu, uu, uu, uu, uu, uu, uu] [(.int (own_mv (0 : Int32)))]) := fun tQ kk => k1007 tQ (st1018.trans kk)
    clear k1007 st1018
    have eq1029 : (own_mv (0 : Int32)) = (0 : Int32) := by decide
    rw [eq1029] at k1028
    have k1030 : own_G p e below E0 T1008 (mkF m 167 #[vi p0, vi p1, vi p2, vi p3, vi K, vi (own_F K), vi md, vd (FP.i2d p0), ss, vd (FP.i2d p1), ss, vr a873, vi (1 : Int32), vd (FP.i2d p1), ss, vi (0 : Int32), uu, uu, uu, uu, uu, uu, uu, uu] [(.ref a873)]) := by
      intro tQ kk
      refine k1028 tQ ?_
      refine XS.istore X1012.here hx rfl (hb hby at_121) rfl (l' := #[vi p0, vi p1, vi p2, vi p3, vi K, vi (own_F K), vi md, vd (FP.i2d p0), ss, vd (FP.i2d p1), ss, vr a873, vi (1 : Int32), vd (FP.i2d p1), ss, vi (0 : Int32), uu, uu, uu, uu, uu, uu, uu, uu]) rfl ?_
      refine XS.iload X1012.here hx rfl (hb hby at_123) rfl ?_
      refine XS.ifNo X1012.here hx rfl (hb hby at_125) rfl (own_if_eqN (by decide)) ?_
      refine XS.iload X1012.here hx rfl (hb hby at_128) rfl ?_
      show Steps p.tables e below (T1008.setTop (mkF m 130 #[vi p0, vi p1, vi p2, vi p3, vi K, vi (own_F K), vi md, vd (FP.i2d p0), ss, vd (FP.i2d p1), ss, vr a873, vi (1 : Int32), vd (FP.i2d p1), ss, vi (0 : Int32), uu, uu, uu, uu, uu, uu, uu, uu] [(.int (0 : Int32))])) tQ
      refine XS.iload X1012.here hx rfl (hb hby at_130) rfl ?_
      refine XS.iconst X1012.here hx rfl (hb hby at_132) ?_
      refine XS.icmpYes X1012.here hx rfl (pc0 := 133) (pc' := 154) rfl (hb hby at_133) rfl (own_ic_ltY (own_lt2 cm1)) (by decide) (by decide) ?_
      refine XS.iconst X1012.here hx rfl (hb hby at_154) ?_
      show Steps p.tables e below (T1008.setTop (mkF m 155 #[vi p0, vi p1, vi p2, vi p3, vi K, vi (own_F K), vi md, vd (FP.i2d p0), ss, vd (FP.i2d p1), ss, vr a873, vi (1 : Int32), vd (FP.i2d p1), ss, vi (0 : Int32), uu, uu, uu, uu, uu, uu, uu, uu] [(.int (0 : Int32)), (.int (0 : Int32))])) tQ
      refine XS.icmpNo X1012.here hx rfl (hb hby at_155) rfl (own_ic_neN (by decide)) ?_
      refine XS.iconst X1012.here hx rfl (hb hby at_158) ?_
      refine XS.goto X1012.here hx rfl (pc0 := 159) (pc' := 163) rfl (hb hby at_159) (by decide) (by decide) ?_
      refine XS.istore X1012.here hx rfl (hb hby at_163) rfl (l' := #[vi p0, vi p1, vi p2, vi p3, vi K, vi (own_F K), vi md, vd (FP.i2d p0), ss, vd (FP.i2d p1), ss, vr a873, vi (1 : Int32), vd (FP.i2d p1), ss, vi (0 : Int32), uu, uu, uu, uu, uu, uu, uu, uu]) rfl ?_
      show Steps p.tables e below (T1008.setTop (mkF m 165 #[vi p0, vi p1, vi p2, vi p3, vi K, vi (own_F K), vi md, vd (FP.i2d p0), ss, vd (FP.i2d p1), ss, vr a873, vi (1 : Int32), vd (FP.i2d p1), ss, vi (0 : Int32), uu, uu, uu, uu, uu, uu, uu, uu] [])) tQ
      refine XS.aload X1012.here hx rfl (hb hby at_165) rfl rfl ?_
      exact kk
    clear k1028
    obtain ⟨cq1042, kq1043, qa1044, qb1045, qc1046⟩ := isOf hZ e1025 F978
    obtain ⟨_, _, ⟨T1031, L1032, kc1033, nc1034⟩, -, X1035, ⟨Lc1036, hQ1037, l1038, y1039, z1040⟩, st1041⟩ := X1012.virtualBack hx (y := mn13) (z := mn13) hown (mvT hZ (tw43 hw)) (mvT hZ (tw44 hw)) (notFace_of_selects (args := #[]) (mvT hZ (tw46 hw))) (mvT hZ (tw46 hw)) (mvT hZ (tw45 hw)) (by decide) (backOf (W := 0) (rmN l Z a0 hw [] a873 (own_F K) (FP.i2d p1) (FP.i2d p1) (0 : UInt64) (0 : Int32) T951.heap n0 Z977 F978 g971 F986 g973 g974 F988 ge875 (fun z => absurd z (by decide))) hZ (tw47 hw) (tw7 hw) (by decide) (by decide)) qa1044 qc1046 (g := (mkF m 167 #[vi p0, vi p1, vi p2, vi p3, vi K, vi (own_F K), vi md, vd (FP.i2d p0), ss, vd (FP.i2d p1), ss, vr a873, vi (1 : Int32), vd (FP.i2d p1), ss, vi (0 : Int32), uu, uu, uu, uu, uu, uu, uu, uu] [(.ref a873)])) rfl (by rw [hml]; rfl) (Steps.refl _) (argsL := []) (rest := []) (lenOf pd_20 rfl) rfl (by show 2 * 0 + _ ≤ _; exact Nat.le_of_eq rfl) (hb hby at_167) (fun _ _ => ⟨rfl, e1025, (by decide : 1 + 0 ≤ _), (by decide : 5 + 0 ≤ _)⟩)
    dsimp only [Pt.U, Pt.locs, Pt.cells, Pt.slots] at X1035 l1038 y1039 z1040 st1041 hQ1037
    subst l1038 y1039 z1040
    obtain ⟨rfl, N1047, K1050, g1051, g1052, g1053, g1054, g1055⟩ := hQ1037
    have N1056 := Fr.app N1027 N1047
    have Z1057 : n0 ≤ T1031.heap.size := Nat.le_trans Z977 K1050.1
    have F1058 : xa8 Z T1031.heap a873 := F978.keep K1050
    clear F978
    clear g971
    clear F986
    clear g973
    clear g974
    clear F988
    have k1064 : own_G p e below E0 T1031 (mkF m 170 #[vi p0, vi p1, vi p2, vi p3, vi K, vi (own_F K), vi md, vd (FP.i2d p0), ss, vd (FP.i2d p1), ss, vr a873, vi (1 : Int32), vd (FP.i2d p1), ss, vi (0 : Int32), uu, uu, uu, uu, uu, uu, uu, uu] [(.double (own_nv (FP.i2d p1) (FP.i2d p1) (0 : UInt64) (0 : Int32)))]) := fun tQ kk => k1030 tQ (st1041.trans kk)
    clear k1030 st1041
    have eq1065 : (own_nv (FP.i2d p1) (FP.i2d p1) (0 : UInt64) (0 : Int32)) = (FP.i2d p1) := by rw [own_nv, if_neg (by decide)]
    have F1066 : fd4 Z T1031.heap a873 (.double (FP.i2d p1)) := by rw [← eq1065]; exact g1052
    have eq1067 : (own_nr (0 : Int32)) = (0 : Int32) := by decide
    have F1068 : fd7 Z T1031.heap a873 (.int (0 : Int32)) := by rw [← eq1067]; exact g1055
    have eq1069 : (own_nv (FP.i2d p1) (FP.i2d p1) (0 : UInt64) (0 : Int32)) = (FP.i2d p1) := by rw [own_nv, if_neg (by decide)]
    rw [eq1069] at k1064
    have k1070 : own_G p e below E0 T1031 (mkF m 188 #[vi p0, vi p1, vi p2, vi p3, vi K, vi (own_F K), vi md, vd (FP.i2d p0), ss, vd (FP.i2d p1), ss, vr a873, vi (1 : Int32), vd (FP.i2d p1), ss, vi (0 : Int32), vd (FP.i2d p1), ss, uu, uu, uu, uu, uu, uu] [(.int (2 : Int32)), (.int md), (.int (own_F K)), (.double (FP.i2d p1)), (.double (FP.i2d p0)), (.double (FP.i2d p1))]) := by
      intro tQ kk
      refine k1064 tQ ?_
      refine XS.dstore X1035.here hx rfl (hb hby at_170) rfl (l' := #[vi p0, vi p1, vi p2, vi p3, vi K, vi (own_F K), vi md, vd (FP.i2d p0), ss, vd (FP.i2d p1), ss, vr a873, vi (1 : Int32), vd (FP.i2d p1), ss, vi (0 : Int32), vd (FP.i2d p1), ss, uu, uu, uu, uu, uu, uu]) rfl ?_
      refine XS.iload X1035.here hx rfl (hb hby at_172) rfl ?_
      refine XS.ifNo X1035.here hx rfl (hb hby at_174) rfl (own_if_eqN (by decide)) ?_
      refine XS.dload X1035.here hx rfl (hb hby at_177) rfl ?_
      show Steps p.tables e below (T1031.setTop (mkF m 179 #[vi p0, vi p1, vi p2, vi p3, vi K, vi (own_F K), vi md, vd (FP.i2d p0), ss, vd (FP.i2d p1), ss, vr a873, vi (1 : Int32), vd (FP.i2d p1), ss, vi (0 : Int32), vd (FP.i2d p1), ss, uu, uu, uu, uu, uu, uu] [(.double (FP.i2d p1))])) tQ
      refine XS.dload X1035.here hx rfl (hb hby at_179) rfl ?_
      refine XS.dload X1035.here hx rfl (hb hby at_181) rfl ?_
      refine XS.iload X1035.here hx rfl (hb hby at_183) rfl ?_
      refine XS.iload X1035.here hx rfl (hb hby at_185) rfl ?_
      show Steps p.tables e below (T1031.setTop (mkF m 187 #[vi p0, vi p1, vi p2, vi p3, vi K, vi (own_F K), vi md, vd (FP.i2d p0), ss, vd (FP.i2d p1), ss, vr a873, vi (1 : Int32), vd (FP.i2d p1), ss, vi (0 : Int32), vd (FP.i2d p1), ss, uu, uu, uu, uu, uu, uu] [(.int md), (.int (own_F K)), (.double (FP.i2d p1)), (.double (FP.i2d p0)), (.double (FP.i2d p1))])) tQ
      refine XS.iconst X1035.here hx rfl (hb hby at_187) ?_
      exact kk
    clear k1064
    obtain ⟨_, _, ⟨T1071, L1072, kc1073, nc1074⟩, -, X1075, ⟨Lc1076, hQ1077, l1078, y1079, z1080⟩, st1081⟩ := Jvm.LawKit.callS X1035 hx (y := mn16) hown (mvT hZ (tw48 hw)) (mvT hZ (tw49 hw)) (mvT hZ (tw50 hw)) (mvT hZ (tw51 hw)) (by decide) (backOf (W := 2) (rmE l Z a0 hw [] (FP.i2d p0) (FP.i2d p1) (own_F K) md (2 : Int32) T1031.heap n0 Z1057 (Fl.i2d_fin p0).noNaN (Fl.i2d_fin p1).noNaN (own_h1 p0 p1) (own_h2 p0 p1 (F := (own_F K)) hFb) (own_q3 p0 p1 (F := (own_F K)) (r := (own_mx 0 ((own_F K) - (2 : Int32)))) hFb (own_mxb hFb (by decide)))) hZ (tw51 hw) (tw50 hw) (by decide) (by decide)) (g := (mkF m 188 #[vi p0, vi p1, vi p2, vi p3, vi K, vi (own_F K), vi md, vd (FP.i2d p0), ss, vd (FP.i2d p1), ss, vr a873, vi (1 : Int32), vd (FP.i2d p1), ss, vi (0 : Int32), vd (FP.i2d p1), ss, uu, uu, uu, uu, uu, uu] [(.int (2 : Int32)), (.int md), (.int (own_F K)), (.double (FP.i2d p1)), (.double (FP.i2d p0)), (.double (FP.i2d p1))])) rfl (by rw [hml]; rfl) (argsL := [(.double (FP.i2d p0)), (.double (FP.i2d p1)), (.int (own_F K)), (.int md), (.int (2 : Int32))]) (rest := [(.double (FP.i2d p1))]) (lenOf pd_21 rfl) rfl (by show 2 * 0 + _ ≤ _; exact Nat.le_of_eq rfl) (hb hby at_188) (fun _ _ => ⟨rfl, rfl, (by decide : 1 + 0 ≤ _), (by decide : 5 + 0 ≤ _)⟩)
    dsimp only [Pt.U, Pt.locs, Pt.cells, Pt.slots] at X1075 l1078 y1079 z1080 st1081 hQ1077
    subst l1078 y1079 z1080
    obtain ⟨rfl, N1082, e1083⟩ := hQ1077
    have N1085 := Fr.app N1056 N1082
    have k1086 : own_G p e below E0 T1071 (mkF m 191 #[vi p0, vi p1, vi p2, vi p3, vi K, vi (own_F K), vi md, vd (FP.i2d p0), ss, vd (FP.i2d p1), ss, vr a873, vi (1 : Int32), vd (FP.i2d p1), ss, vi (0 : Int32), vd (FP.i2d p1), ss, uu, uu, uu, uu, uu, uu] [(.double (own_exp (FP.i2d p0) (FP.i2d p1) (own_F K) md (2 : Int32))), (.double (FP.i2d p1))]) := fun tQ kk => k1070 tQ (st1081 _ kk)
    clear k1070 st1081
    have k1087 : own_G p e below E0 T1071 (mkF m 204 #[vi p0, vi p1, vi p2, vi p3, vi K, vi (own_F K), vi md, vd (FP.i2d p0), ss, vd (FP.i2d p1), ss, vr a873, vi (1 : Int32), vd (FP.i2d p1), ss, vi (0 : Int32), vd (FP.i2d p1), ss, uu, uu, uu, uu, uu, uu] [(.ref a873)]) := by
      intro tQ kk
      refine k1086 tQ ?_
      refine XS.dcmpS (v := (0 : Int32)) X1075.here hx rfl (hb hby at_191) rfl (own_e1 cm1 (Fl.i2d_fin p1).noNaN) ?_
      refine XS.ifNo X1075.here hx rfl (hb hby at_192) rfl (own_if_neN (by decide)) ?_
      refine XS.iconst X1075.here hx rfl (hb hby at_195) ?_
      refine XS.goto X1075.here hx rfl (pc0 := 196) (pc' := 200) rfl (hb hby at_196) (by decide) (by decide) ?_
      show Steps p.tables e below (T1071.setTop (mkF m 200 #[vi p0, vi p1, vi p2, vi p3, vi K, vi (own_F K), vi md, vd (FP.i2d p0), ss, vd (FP.i2d p1), ss, vr a873, vi (1 : Int32), vd (FP.i2d p1), ss, vi (0 : Int32), vd (FP.i2d p1), ss, uu, uu, uu, uu, uu, uu] [(.int (1 : Int32))])) tQ
      refine XS.istore X1075.here hx rfl (hb hby at_200) rfl (l' := #[vi p0, vi p1, vi p2, vi p3, vi K, vi (own_F K), vi md, vd (FP.i2d p0), ss, vd (FP.i2d p1), ss, vr a873, vi (1 : Int32), vd (FP.i2d p1), ss, vi (0 : Int32), vd (FP.i2d p1), ss, uu, uu, uu, uu, uu, uu]) rfl ?_
      refine XS.aload X1075.here hx rfl (hb hby at_202) rfl rfl ?_
      exact kk
    clear k1086
    obtain ⟨cq1099, kq1100, qa1101, qb1102, qc1103⟩ := isOf hZ e1083 F1058
    obtain ⟨_, _, ⟨T1088, L1089, kc1090, nc1091⟩, -, X1092, ⟨Lc1093, hQ1094, l1095, y1096, z1097⟩, st1098⟩ := X1075.virtualBack hx (y := mn13) (z := mn13) hown (mvT hZ (tw43 hw)) (mvT hZ (tw44 hw)) (notFace_of_selects (args := #[]) (mvT hZ (tw46 hw))) (mvT hZ (tw46 hw)) (mvT hZ (tw45 hw)) (by decide) (backOf (W := 0) (rmN l Z a0 hw [] a873 (own_F K) (FP.i2d p1) (FP.i2d p1) (0 : UInt64) (0 : Int32) T1031.heap n0 Z1057 F1058 g1051 F1066 g1053 g1054 F1068 ge875 (fun z => absurd z (by decide))) hZ (tw47 hw) (tw7 hw) (by decide) (by decide)) qa1101 qc1103 (g := (mkF m 204 #[vi p0, vi p1, vi p2, vi p3, vi K, vi (own_F K), vi md, vd (FP.i2d p0), ss, vd (FP.i2d p1), ss, vr a873, vi (1 : Int32), vd (FP.i2d p1), ss, vi (0 : Int32), vd (FP.i2d p1), ss, uu, uu, uu, uu, uu, uu] [(.ref a873)])) rfl (by rw [hml]; rfl) (Steps.refl _) (argsL := []) (rest := []) (lenOf pd_20 rfl) rfl (by show 2 * 0 + _ ≤ _; exact Nat.le_of_eq rfl) (hb hby at_204) (fun _ _ => ⟨rfl, e1083, (by decide : 1 + 0 ≤ _), (by decide : 5 + 0 ≤ _)⟩)
    dsimp only [Pt.U, Pt.locs, Pt.cells, Pt.slots] at X1092 l1095 y1096 z1097 st1098 hQ1094
    subst l1095 y1096 z1097
    obtain ⟨rfl, N1104, K1107, g1108, g1109, g1110, g1111, g1112⟩ := hQ1094
    have N1113 := Fr.app N1085 N1104
    have Z1114 : n0 ≤ T1088.heap.size := Nat.le_trans Z1057 K1107.1
    have F1115 : xa8 Z T1088.heap a873 := F1058.keep K1107
    clear F1058
    clear g1051
    clear F1066
    clear g1053
    clear g1054
    clear F1068
    have k1121 : own_G p e below E0 T1088 (mkF m 207 #[vi p0, vi p1, vi p2, vi p3, vi K, vi (own_F K), vi md, vd (FP.i2d p0), ss, vd (FP.i2d p1), ss, vr a873, vi (1 : Int32), vd (FP.i2d p1), ss, vi (0 : Int32), vd (FP.i2d p1), ss, uu, uu, uu, uu, uu, uu] [(.double (own_nv (FP.i2d p1) (FP.i2d p1) (0 : UInt64) (0 : Int32)))]) := fun tQ kk => k1087 tQ (st1098.trans kk)
    clear k1087 st1098
    have eq1122 : (own_nv (FP.i2d p1) (FP.i2d p1) (0 : UInt64) (0 : Int32)) = (FP.i2d p1) := by rw [own_nv, if_neg (by decide)]
    have F1123 : fd4 Z T1088.heap a873 (.double (FP.i2d p1)) := by rw [← eq1122]; exact g1109
    have eq1124 : (own_nr (0 : Int32)) = (0 : Int32) := by decide
    have F1125 : fd7 Z T1088.heap a873 (.int (0 : Int32)) := by rw [← eq1124]; exact g1112
    have eq1126 : (own_nv (FP.i2d p1) (FP.i2d p1) (0 : UInt64) (0 : Int32)) = (FP.i2d p1) := by rw [own_nv, if_neg (by decide)]
    rw [eq1126] at k1121
    have k1127 : own_G p e below E0 T1088 (mkF m 225 #[vi p0, vi p1, vi p2, vi p3, vi K, vi (own_F K), vi md, vd (FP.i2d p0), ss, vd (FP.i2d p1), ss, vr a873, vi (1 : Int32), vd (FP.i2d p1), ss, vi (0 : Int32), vd (FP.i2d p1), ss, vd (FP.i2d p1), ss, uu, uu, uu, uu] [(.int (3 : Int32)), (.int md), (.int (own_F K)), (.double (FP.i2d p1)), (.double (FP.i2d p0)), (.double (FP.i2d p1))]) := by
      intro tQ kk
      refine k1121 tQ ?_
      refine XS.dstore X1092.here hx rfl (hb hby at_207) rfl (l' := #[vi p0, vi p1, vi p2, vi p3, vi K, vi (own_F K), vi md, vd (FP.i2d p0), ss, vd (FP.i2d p1), ss, vr a873, vi (1 : Int32), vd (FP.i2d p1), ss, vi (0 : Int32), vd (FP.i2d p1), ss, vd (FP.i2d p1), ss, uu, uu, uu, uu]) rfl ?_
      refine XS.iload X1092.here hx rfl (hb hby at_209) rfl ?_
      refine XS.ifNo X1092.here hx rfl (hb hby at_211) rfl (own_if_eqN (by decide)) ?_
      refine XS.dload X1092.here hx rfl (hb hby at_214) rfl ?_
      show Steps p.tables e below (T1088.setTop (mkF m 216 #[vi p0, vi p1, vi p2, vi p3, vi K, vi (own_F K), vi md, vd (FP.i2d p0), ss, vd (FP.i2d p1), ss, vr a873, vi (1 : Int32), vd (FP.i2d p1), ss, vi (0 : Int32), vd (FP.i2d p1), ss, vd (FP.i2d p1), ss, uu, uu, uu, uu] [(.double (FP.i2d p1))])) tQ
      refine XS.dload X1092.here hx rfl (hb hby at_216) rfl ?_
      refine XS.dload X1092.here hx rfl (hb hby at_218) rfl ?_
      refine XS.iload X1092.here hx rfl (hb hby at_220) rfl ?_
      refine XS.iload X1092.here hx rfl (hb hby at_222) rfl ?_
      show Steps p.tables e below (T1088.setTop (mkF m 224 #[vi p0, vi p1, vi p2, vi p3, vi K, vi (own_F K), vi md, vd (FP.i2d p0), ss, vd (FP.i2d p1), ss, vr a873, vi (1 : Int32), vd (FP.i2d p1), ss, vi (0 : Int32), vd (FP.i2d p1), ss, vd (FP.i2d p1), ss, uu, uu, uu, uu] [(.int md), (.int (own_F K)), (.double (FP.i2d p1)), (.double (FP.i2d p0)), (.double (FP.i2d p1))])) tQ
      refine XS.iconst X1092.here hx rfl (hb hby at_224) ?_
      exact kk
    clear k1121
    obtain ⟨_, _, ⟨T1128, L1129, kc1130, nc1131⟩, -, X1132, ⟨Lc1133, hQ1134, l1135, y1136, z1137⟩, st1138⟩ := Jvm.LawKit.callS X1092 hx (y := mn16) hown (mvT hZ (tw48 hw)) (mvT hZ (tw49 hw)) (mvT hZ (tw50 hw)) (mvT hZ (tw51 hw)) (by decide) (backOf (W := 2) (rmE l Z a0 hw [] (FP.i2d p0) (FP.i2d p1) (own_F K) md (3 : Int32) T1088.heap n0 Z1114 (Fl.i2d_fin p0).noNaN (Fl.i2d_fin p1).noNaN (own_h1 p0 p1) (own_h2 p0 p1 (F := (own_F K)) hFb) (own_q3 p0 p1 (F := (own_F K)) (r := (own_mx 0 ((own_F K) - (3 : Int32)))) hFb (own_mxb hFb (by decide)))) hZ (tw51 hw) (tw50 hw) (by decide) (by decide)) (g := (mkF m 225 #[vi p0, vi p1, vi p2, vi p3, vi K, vi (own_F K), vi md, vd (FP.i2d p0), ss, vd (FP.i2d p1), ss, vr a873, vi (1 : Int32), vd (FP.i2d p1), ss, vi (0 : Int32), vd (FP.i2d p1), ss, vd (FP.i2d p1), ss, uu, uu, uu, uu] [(.int (3 : Int32)), (.int md), (.int (own_F K)), (.double (FP.i2d p1)), (.double (FP.i2d p0)), (.double (FP.i2d p1))])) rfl (by rw [hml]; rfl) (argsL := [(.double (FP.i2d p0)), (.double (FP.i2d p1)), (.int (own_F K)), (.int md), (.int (3 : Int32))]) (rest := [(.double (FP.i2d p1))]) (lenOf pd_21 rfl) rfl (by show 2 * 0 + _ ≤ _; exact Nat.le_of_eq rfl) (hb hby at_225) (fun _ _ => ⟨rfl, rfl, (by decide : 1 + 0 ≤ _), (by decide : 5 + 0 ≤ _)⟩)
    dsimp only [Pt.U, Pt.locs, Pt.cells, Pt.slots] at X1132 l1135 y1136 z1137 st1138 hQ1134
    subst l1135 y1136 z1137
    obtain ⟨rfl, N1139, e1140⟩ := hQ1134
    have N1142 := Fr.app N1113 N1139
    have k1143 : own_G p e below E0 T1128 (mkF m 228 #[vi p0, vi p1, vi p2, vi p3, vi K, vi (own_F K), vi md, vd (FP.i2d p0), ss, vd (FP.i2d p1), ss, vr a873, vi (1 : Int32), vd (FP.i2d p1), ss, vi (0 : Int32), vd (FP.i2d p1), ss, vd (FP.i2d p1), ss, uu, uu, uu, uu] [(.double (own_exp (FP.i2d p0) (FP.i2d p1) (own_F K) md (3 : Int32))), (.double (FP.i2d p1))]) := fun tQ kk => k1127 tQ (st1138 _ kk)
    clear k1127 st1138
    have k1144 : own_G p e below E0 T1128 (mkF m 241 #[vi p0, vi p1, vi p2, vi p3, vi K, vi (own_F K), vi md, vd (FP.i2d p0), ss, vd (FP.i2d p1), ss, vr a873, vi (1 : Int32), vd (FP.i2d p1), ss, vi (0 : Int32), vd (FP.i2d p1), ss, vd (FP.i2d p1), ss, uu, uu, uu, uu] [(.ref a873)]) := by
      intro tQ kk
      refine k1143 tQ ?_
      refine XS.dcmpS (v := (0 : Int32)) X1132.here hx rfl (hb hby at_228) rfl (own_e1 cm1 (Fl.i2d_fin p1).noNaN) ?_
      refine XS.ifNo X1132.here hx rfl (hb hby at_229) rfl (own_if_neN (by decide)) ?_
      refine XS.iconst X1132.here hx rfl (hb hby at_232) ?_
      refine XS.goto X1132.here hx rfl (pc0 := 233) (pc' := 237) rfl (hb hby at_233) (by decide) (by decide) ?_
      show Steps p.tables e below (T1128.setTop (mkF m 237 #[vi p0, vi p1, vi p2, vi p3, vi K, vi (own_F K), vi md, vd (FP.i2d p0), ss, vd (FP.i2d p1), ss, vr a873, vi (1 : Int32), vd (FP.i2d p1), ss, vi (0 : Int32), vd (FP.i2d p1), ss, vd (FP.i2d p1), ss, uu, uu, uu, uu] [(.int (1 : Int32))])) tQ
      refine XS.istore X1132.here hx rfl (hb hby at_237) rfl (l' := #[vi p0, vi p1, vi p2, vi p3, vi K, vi (own_F K), vi md, vd (FP.i2d p0), ss, vd (FP.i2d p1), ss, vr a873, vi (1 : Int32), vd (FP.i2d p1), ss, vi (0 : Int32), vd (FP.i2d p1), ss, vd (FP.i2d p1), ss, uu, uu, uu, uu]) rfl ?_
      refine XS.aload X1132.here hx rfl (hb hby at_239) rfl rfl ?_
      exact kk
    clear k1143
    obtain ⟨cq1156, kq1157, qa1158, qb1159, qc1160⟩ := isOf hZ e1140 F1115
    obtain ⟨_, _, ⟨T1145, L1146, kc1147, nc1148⟩, -, X1149, ⟨Lc1150, hQ1151, l1152, y1153, z1154⟩, st1155⟩ := X1132.virtualBack hx (y := mn13) (z := mn13) hown (mvT hZ (tw43 hw)) (mvT hZ (tw44 hw)) (notFace_of_selects (args := #[]) (mvT hZ (tw46 hw))) (mvT hZ (tw46 hw)) (mvT hZ (tw45 hw)) (by decide) (backOf (W := 0) (rmN l Z a0 hw [] a873 (own_F K) (FP.i2d p1) (FP.i2d p1) (0 : UInt64) (0 : Int32) T1088.heap n0 Z1114 F1115 g1108 F1123 g1110 g1111 F1125 ge875 (fun z => absurd z (by decide))) hZ (tw47 hw) (tw7 hw) (by decide) (by decide)) qa1158 qc1160 (g := (mkF m 241 #[vi p0, vi p1, vi p2, vi p3, vi K, vi (own_F K), vi md, vd (FP.i2d p0), ss, vd (FP.i2d p1), ss, vr a873, vi (1 : Int32), vd (FP.i2d p1), ss, vi (0 : Int32), vd (FP.i2d p1), ss, vd (FP.i2d p1), ss, uu, uu, uu, uu] [(.ref a873)])) rfl (by rw [hml]; rfl) (Steps.refl _) (argsL := []) (rest := []) (lenOf pd_20 rfl) rfl (by show 2 * 0 + _ ≤ _; exact Nat.le_of_eq rfl) (hb hby at_241) (fun _ _ => ⟨rfl, e1140, (by decide : 1 + 0 ≤ _), (by decide : 5 + 0 ≤ _)⟩)
    dsimp only [Pt.U, Pt.locs, Pt.cells, Pt.slots] at X1149 l1152 y1153 z1154 st1155 hQ1151
    subst l1152 y1153 z1154
    obtain ⟨rfl, N1161, K1164, g1165, g1166, g1167, g1168, g1169⟩ := hQ1151
    have N1170 := Fr.app N1142 N1161
    have Z1171 : n0 ≤ T1145.heap.size := Nat.le_trans Z1114 K1164.1
    have F1172 : xa8 Z T1145.heap a873 := F1115.keep K1164
    clear F1115
    clear g1108
    clear F1123
    clear g1110
    clear g1111
    clear F1125
    have k1178 : own_G p e below E0 T1145 (mkF m 244 #[vi p0, vi p1, vi p2, vi p3, vi K, vi (own_F K), vi md, vd (FP.i2d p0), ss, vd (FP.i2d p1), ss, vr a873, vi (1 : Int32), vd (FP.i2d p1), ss, vi (0 : Int32), vd (FP.i2d p1), ss, vd (FP.i2d p1), ss, uu, uu, uu, uu] [(.double (own_nv (FP.i2d p1) (FP.i2d p1) (0 : UInt64) (0 : Int32)))]) := fun tQ kk => k1144 tQ (st1155.trans kk)
    clear k1144 st1155
    have eq1179 : (own_nv (FP.i2d p1) (FP.i2d p1) (0 : UInt64) (0 : Int32)) = (FP.i2d p1) := by rw [own_nv, if_neg (by decide)]
    have F1180 : fd4 Z T1145.heap a873 (.double (FP.i2d p1)) := by rw [← eq1179]; exact g1166
    have eq1181 : (own_nr (0 : Int32)) = (0 : Int32) := by decide
    have F1182 : fd7 Z T1145.heap a873 (.int (0 : Int32)) := by rw [← eq1181]; exact g1169
    have eq1183 : (own_nv (FP.i2d p1) (FP.i2d p1) (0 : UInt64) (0 : Int32)) = (FP.i2d p1) := by rw [own_nv, if_neg (by decide)]
    rw [eq1183] at k1178
    have k1184 : own_G p e below E0 T1145 (mkF m 262 #[vi p0, vi p1, vi p2, vi p3, vi K, vi (own_F K), vi md, vd (FP.i2d p0), ss, vd (FP.i2d p1), ss, vr a873, vi (1 : Int32), vd (FP.i2d p1), ss, vi (0 : Int32), vd (FP.i2d p1), ss, vd (FP.i2d p1), ss, vd (FP.i2d p1), ss, uu, uu] [(.int (4 : Int32)), (.int md), (.int (own_F K)), (.double (FP.i2d p1)), (.double (FP.i2d p0)), (.double (FP.i2d p1))]) := by
      intro tQ kk
      refine k1178 tQ ?_
      refine XS.dstore X1149.here hx rfl (hb hby at_244) rfl (l' := #[vi p0, vi p1, vi p2, vi p3, vi K, vi (own_F K), vi md, vd (FP.i2d p0), ss, vd (FP.i2d p1), ss, vr a873, vi (1 : Int32), vd (FP.i2d p1), ss, vi (0 : Int32), vd (FP.i2d p1), ss, vd (FP.i2d p1), ss, vd (FP.i2d p1), ss, uu, uu]) rfl ?_
      refine XS.iload X1149.here hx rfl (hb hby at_246) rfl ?_
      refine XS.ifNo X1149.here hx rfl (hb hby at_248) rfl (own_if_eqN (by decide)) ?_
      refine XS.dload X1149.here hx rfl (hb hby at_251) rfl ?_
      show Steps p.tables e below (T1145.setTop (mkF m 253 #[vi p0, vi p1, vi p2, vi p3, vi K, vi (own_F K), vi md, vd (FP.i2d p0), ss, vd (FP.i2d p1), ss, vr a873, vi (1 : Int32), vd (FP.i2d p1), ss, vi (0 : Int32), vd (FP.i2d p1), ss, vd (FP.i2d p1), ss, vd (FP.i2d p1), ss, uu, uu] [(.double (FP.i2d p1))])) tQ
      refine XS.dload X1149.here hx rfl (hb hby at_253) rfl ?_
      refine XS.dload X1149.here hx rfl (hb hby at_255) rfl ?_
      refine XS.iload X1149.here hx rfl (hb hby at_257) rfl ?_
      refine XS.iload X1149.here hx rfl (hb hby at_259) rfl ?_
      show Steps p.tables e below (T1145.setTop (mkF m 261 #[vi p0, vi p1, vi p2, vi p3, vi K, vi (own_F K), vi md, vd (FP.i2d p0), ss, vd (FP.i2d p1), ss, vr a873, vi (1 : Int32), vd (FP.i2d p1), ss, vi (0 : Int32), vd (FP.i2d p1), ss, vd (FP.i2d p1), ss, vd (FP.i2d p1), ss, uu, uu] [(.int md), (.int (own_F K)), (.double (FP.i2d p1)), (.double (FP.i2d p0)), (.double (FP.i2d p1))])) tQ
      refine XS.iconst X1149.here hx rfl (hb hby at_261) ?_
      exact kk
    clear k1178
    obtain ⟨_, _, ⟨T1185, L1186, kc1187, nc1188⟩, -, X1189, ⟨Lc1190, hQ1191, l1192, y1193, z1194⟩, st1195⟩ := Jvm.LawKit.callS X1149 hx (y := mn16) hown (mvT hZ (tw48 hw)) (mvT hZ (tw49 hw)) (mvT hZ (tw50 hw)) (mvT hZ (tw51 hw)) (by decide) (backOf (W := 2) (rmE l Z a0 hw [] (FP.i2d p0) (FP.i2d p1) (own_F K) md (4 : Int32) T1145.heap n0 Z1171 (Fl.i2d_fin p0).noNaN (Fl.i2d_fin p1).noNaN (own_h1 p0 p1) (own_h2 p0 p1 (F := (own_F K)) hFb) (own_q3 p0 p1 (F := (own_F K)) (r := (own_mx 0 ((own_F K) - (4 : Int32)))) hFb (own_mxb hFb (by decide)))) hZ (tw51 hw) (tw50 hw) (by decide) (by decide)) (g := (mkF m 262 #[vi p0, vi p1, vi p2, vi p3, vi K, vi (own_F K), vi md, vd (FP.i2d p0), ss, vd (FP.i2d p1), ss, vr a873, vi (1 : Int32), vd (FP.i2d p1), ss, vi (0 : Int32), vd (FP.i2d p1), ss, vd (FP.i2d p1), ss, vd (FP.i2d p1), ss, uu, uu] [(.int (4 : Int32)), (.int md), (.int (own_F K)), (.double (FP.i2d p1)), (.double (FP.i2d p0)), (.double (FP.i2d p1))])) rfl (by rw [hml]; rfl) (argsL := [(.double (FP.i2d p0)), (.double (FP.i2d p1)), (.int (own_F K)), (.int md), (.int (4 : Int32))]) (rest := [(.double (FP.i2d p1))]) (lenOf pd_21 rfl) rfl (by show 2 * 0 + _ ≤ _; exact Nat.le_of_eq rfl) (hb hby at_262) (fun _ _ => ⟨rfl, rfl, (by decide : 1 + 0 ≤ _), (by decide : 5 + 0 ≤ _)⟩)
    dsimp only [Pt.U, Pt.locs, Pt.cells, Pt.slots] at X1189 l1192 y1193 z1194 st1195 hQ1191
    subst l1192 y1193 z1194
    obtain ⟨rfl, N1196, e1197⟩ := hQ1191
    have N1199 := Fr.app N1170 N1196
    have k1200 : own_G p e below E0 T1185 (mkF m 265 #[vi p0, vi p1, vi p2, vi p3, vi K, vi (own_F K), vi md, vd (FP.i2d p0), ss, vd (FP.i2d p1), ss, vr a873, vi (1 : Int32), vd (FP.i2d p1), ss, vi (0 : Int32), vd (FP.i2d p1), ss, vd (FP.i2d p1), ss, vd (FP.i2d p1), ss, uu, uu] [(.double (own_exp (FP.i2d p0) (FP.i2d p1) (own_F K) md (4 : Int32))), (.double (FP.i2d p1))]) := fun tQ kk => k1184 tQ (st1195 _ kk)
    clear k1184 st1195
    have k1201 : own_G p e below E0 T1185 (mkF m 278 #[vi p0, vi p1, vi p2, vi p3, vi K, vi (own_F K), vi md, vd (FP.i2d p0), ss, vd (FP.i2d p1), ss, vr a873, vi (1 : Int32), vd (FP.i2d p1), ss, vi (0 : Int32), vd (FP.i2d p1), ss, vd (FP.i2d p1), ss, vd (FP.i2d p1), ss, uu, uu] [(.ref a873)]) := by
      intro tQ kk
      refine k1200 tQ ?_
      refine XS.dcmpS (v := (0 : Int32)) X1189.here hx rfl (hb hby at_265) rfl (own_e1 cm1 (Fl.i2d_fin p1).noNaN) ?_
      refine XS.ifNo X1189.here hx rfl (hb hby at_266) rfl (own_if_neN (by decide)) ?_
      refine XS.iconst X1189.here hx rfl (hb hby at_269) ?_
      refine XS.goto X1189.here hx rfl (pc0 := 270) (pc' := 274) rfl (hb hby at_270) (by decide) (by decide) ?_
      show Steps p.tables e below (T1185.setTop (mkF m 274 #[vi p0, vi p1, vi p2, vi p3, vi K, vi (own_F K), vi md, vd (FP.i2d p0), ss, vd (FP.i2d p1), ss, vr a873, vi (1 : Int32), vd (FP.i2d p1), ss, vi (0 : Int32), vd (FP.i2d p1), ss, vd (FP.i2d p1), ss, vd (FP.i2d p1), ss, uu, uu] [(.int (1 : Int32))])) tQ
      refine XS.istore X1189.here hx rfl (hb hby at_274) rfl (l' := #[vi p0, vi p1, vi p2, vi p3, vi K, vi (own_F K), vi md, vd (FP.i2d p0), ss, vd (FP.i2d p1), ss, vr a873, vi (1 : Int32), vd (FP.i2d p1), ss, vi (0 : Int32), vd (FP.i2d p1), ss, vd (FP.i2d p1), ss, vd (FP.i2d p1), ss, uu, uu]) rfl ?_
      refine XS.aload X1189.here hx rfl (hb hby at_276) rfl rfl ?_
      exact kk
    clear k1200
    obtain ⟨cq1213, kq1214, qa1215, qb1216, qc1217⟩ := isOf hZ e1197 F1172
    obtain ⟨_, _, ⟨T1202, L1203, kc1204, nc1205⟩, -, X1206, ⟨Lc1207, hQ1208, l1209, y1210, z1211⟩, st1212⟩ := X1189.virtualBack hx (y := mn13) (z := mn13) hown (mvT hZ (tw43 hw)) (mvT hZ (tw44 hw)) (notFace_of_selects (args := #[]) (mvT hZ (tw46 hw))) (mvT hZ (tw46 hw)) (mvT hZ (tw45 hw)) (by decide) (backOf (W := 0) (rmN l Z a0 hw [] a873 (own_F K) (FP.i2d p1) (FP.i2d p1) (0 : UInt64) (0 : Int32) T1145.heap n0 Z1171 F1172 g1165 F1180 g1167 g1168 F1182 ge875 (fun z => absurd z (by decide))) hZ (tw47 hw) (tw7 hw) (by decide) (by decide)) qa1215 qc1217 (g := (mkF m 278 #[vi p0, vi p1, vi p2, vi p3, vi K, vi (own_F K), vi md, vd (FP.i2d p0), ss, vd (FP.i2d p1), ss, vr a873, vi (1 : Int32), vd (FP.i2d p1), ss, vi (0 : Int32), vd (FP.i2d p1), ss, vd (FP.i2d p1), ss, vd (FP.i2d p1), ss, uu, uu] [(.ref a873)])) rfl (by rw [hml]; rfl) (Steps.refl _) (argsL := []) (rest := []) (lenOf pd_20 rfl) rfl (by show 2 * 0 + _ ≤ _; exact Nat.le_of_eq rfl) (hb hby at_278) (fun _ _ => ⟨rfl, e1197, (by decide : 1 + 0 ≤ _), (by decide : 5 + 0 ≤ _)⟩)
    dsimp only [Pt.U, Pt.locs, Pt.cells, Pt.slots] at X1206 l1209 y1210 z1211 st1212 hQ1208
    subst l1209 y1210 z1211
    obtain ⟨rfl, N1218, K1221, g1222, g1223, g1224, g1225, g1226⟩ := hQ1208
    have N1227 := Fr.app N1199 N1218
    have Z1228 : n0 ≤ T1202.heap.size := Nat.le_trans Z1171 K1221.1
    have F1229 : xa8 Z T1202.heap a873 := F1172.keep K1221
    clear F1172
    clear g1165
    clear F1180
    clear g1167
    clear g1168
    clear F1182
    have k1235 : own_G p e below E0 T1202 (mkF m 281 #[vi p0, vi p1, vi p2, vi p3, vi K, vi (own_F K), vi md, vd (FP.i2d p0), ss, vd (FP.i2d p1), ss, vr a873, vi (1 : Int32), vd (FP.i2d p1), ss, vi (0 : Int32), vd (FP.i2d p1), ss, vd (FP.i2d p1), ss, vd (FP.i2d p1), ss, uu, uu] [(.double (own_nv (FP.i2d p1) (FP.i2d p1) (0 : UInt64) (0 : Int32)))]) := fun tQ kk => k1201 tQ (st1212.trans kk)
    clear k1201 st1212
    have eq1236 : (own_nv (FP.i2d p1) (FP.i2d p1) (0 : UInt64) (0 : Int32)) = (FP.i2d p1) := by rw [own_nv, if_neg (by decide)]
    have F1237 : fd4 Z T1202.heap a873 (.double (FP.i2d p1)) := by rw [← eq1236]; exact g1223
    have eq1238 : (own_nr (0 : Int32)) = (0 : Int32) := by decide
    have F1239 : fd7 Z T1202.heap a873 (.int (0 : Int32)) := by rw [← eq1238]; exact g1226
    have eq1240 : (own_nv (FP.i2d p1) (FP.i2d p1) (0 : UInt64) (0 : Int32)) = (FP.i2d p1) := by rw [own_nv, if_neg (by decide)]
    rw [eq1240] at k1235
    have k1241 : own_G p e below E0 T1202 (mkF m 299 #[vi p0, vi p1, vi p2, vi p3, vi K, vi (own_F K), vi md, vd (FP.i2d p0), ss, vd (FP.i2d p1), ss, vr a873, vi (1 : Int32), vd (FP.i2d p1), ss, vi (0 : Int32), vd (FP.i2d p1), ss, vd (FP.i2d p1), ss, vd (FP.i2d p1), ss, vd (FP.i2d p1), ss] [(.int (5 : Int32)), (.int md), (.int (own_F K)), (.double (FP.i2d p1)), (.double (FP.i2d p0)), (.double (FP.i2d p1))]) := by
      intro tQ kk
      refine k1235 tQ ?_
      refine XS.dstore X1206.here hx rfl (hb hby at_281) rfl (l' := #[vi p0, vi p1, vi p2, vi p3, vi K, vi (own_F K), vi md, vd (FP.i2d p0), ss, vd (FP.i2d p1), ss, vr a873, vi (1 : Int32), vd (FP.i2d p1), ss, vi (0 : Int32), vd (FP.i2d p1), ss, vd (FP.i2d p1), ss, vd (FP.i2d p1), ss, vd (FP.i2d p1), ss]) rfl ?_
      refine XS.iload X1206.here hx rfl (hb hby at_283) rfl ?_
      refine XS.ifNo X1206.here hx rfl (hb hby at_285) rfl (own_if_eqN (by decide)) ?_
      refine XS.dload X1206.here hx rfl (hb hby at_288) rfl ?_
      show Steps p.tables e below (T1202.setTop (mkF m 290 #[vi p0, vi p1, vi p2, vi p3, vi K, vi (own_F K), vi md, vd (FP.i2d p0), ss, vd (FP.i2d p1), ss, vr a873, vi (1 : Int32), vd (FP.i2d p1), ss, vi (0 : Int32), vd (FP.i2d p1), ss, vd (FP.i2d p1), ss, vd (FP.i2d p1), ss, vd (FP.i2d p1), ss] [(.double (FP.i2d p1))])) tQ
      refine XS.dload X1206.here hx rfl (hb hby at_290) rfl ?_
      refine XS.dload X1206.here hx rfl (hb hby at_292) rfl ?_
      refine XS.iload X1206.here hx rfl (hb hby at_294) rfl ?_
      refine XS.iload X1206.here hx rfl (hb hby at_296) rfl ?_
      show Steps p.tables e below (T1202.setTop (mkF m 298 #[vi p0, vi p1, vi p2, vi p3, vi K, vi (own_F K), vi md, vd (FP.i2d p0), ss, vd (FP.i2d p1), ss, vr a873, vi (1 : Int32), vd (FP.i2d p1), ss, vi (0 : Int32), vd (FP.i2d p1), ss, vd (FP.i2d p1), ss, vd (FP.i2d p1), ss, vd (FP.i2d p1), ss] [(.int md), (.int (own_F K)), (.double (FP.i2d p1)), (.double (FP.i2d p0)), (.double (FP.i2d p1))])) tQ
      refine XS.iconst X1206.here hx rfl (hb hby at_298) ?_
      exact kk
    clear k1235
    obtain ⟨_, _, ⟨T1242, L1243, kc1244, nc1245⟩, -, X1246, ⟨Lc1247, hQ1248, l1249, y1250, z1251⟩, st1252⟩ := Jvm.LawKit.callS X1206 hx (y := mn16) hown (mvT hZ (tw48 hw)) (mvT hZ (tw49 hw)) (mvT hZ (tw50 hw)) (mvT hZ (tw51 hw)) (by decide) (backOf (W := 2) (rmE l Z a0 hw [] (FP.i2d p0) (FP.i2d p1) (own_F K) md (5 : Int32) T1202.heap n0 Z1228 (Fl.i2d_fin p0).noNaN (Fl.i2d_fin p1).noNaN (own_h1 p0 p1) (own_h2 p0 p1 (F := (own_F K)) hFb) (own_q3 p0 p1 (F := (own_F K)) (r := (own_mx 0 ((own_F K) - (5 : Int32)))) hFb (own_mxb hFb (by decide)))) hZ (tw51 hw) (tw50 hw) (by decide) (by decide)) (g := (mkF m 299 #[vi p0, vi p1, vi p2, vi p3, vi K, vi (own_F K), vi md, vd (FP.i2d p0), ss, vd (FP.i2d p1), ss, vr a873, vi (1 : Int32), vd (FP.i2d p1), ss, vi (0 : Int32), vd (FP.i2d p1), ss, vd (FP.i2d p1), ss, vd (FP.i2d p1), ss, vd (FP.i2d p1), ss] [(.int (5 : Int32)), (.int md), (.int (own_F K)), (.double (FP.i2d p1)), (.double (FP.i2d p0)), (.double (FP.i2d p1))])) rfl (by rw [hml]; rfl) (argsL := [(.double (FP.i2d p0)), (.double (FP.i2d p1)), (.int (own_F K)), (.int md), (.int (5 : Int32))]) (rest := [(.double (FP.i2d p1))]) (lenOf pd_21 rfl) rfl (by show 2 * 0 + _ ≤ _; exact Nat.le_of_eq rfl) (hb hby at_299) (fun _ _ => ⟨rfl, rfl, (by decide : 1 + 0 ≤ _), (by decide : 5 + 0 ≤ _)⟩)
    dsimp only [Pt.U, Pt.locs, Pt.cells, Pt.slots] at X1246 l1249 y1250 z1251 st1252 hQ1248
    subst l1249 y1250 z1251
    obtain ⟨rfl, N1253, e1254⟩ := hQ1248
    have N1256 := Fr.app N1227 N1253
    have k1257 : own_G p e below E0 T1242 (mkF m 302 #[vi p0, vi p1, vi p2, vi p3, vi K, vi (own_F K), vi md, vd (FP.i2d p0), ss, vd (FP.i2d p1), ss, vr a873, vi (1 : Int32), vd (FP.i2d p1), ss, vi (0 : Int32), vd (FP.i2d p1), ss, vd (FP.i2d p1), ss, vd (FP.i2d p1), ss, vd (FP.i2d p1), ss] [(.double (own_exp (FP.i2d p0) (FP.i2d p1) (own_F K) md (5 : Int32))), (.double (FP.i2d p1))]) := fun tQ kk => k1241 tQ (st1252 _ kk)
    clear k1241 st1252
    have k1258 : own_G p e below E0 T1242 (mkF m 353 #[vi p0, vi p1, vi p2, vi p3, vi K, vi (own_F K), vi md, vd (FP.i2d p0), ss, vd (FP.i2d p1), ss, vr a873, vi (1 : Int32), vd (FP.i2d p1), ss, vi (0 : Int32), vd (FP.i2d p1), ss, vd (FP.i2d p1), ss, vd (FP.i2d p1), ss, vd (FP.i2d p1), ss] [(.ref a873)]) := by
      intro tQ kk
      refine k1257 tQ ?_
      refine XS.dcmpS (v := (0 : Int32)) X1246.here hx rfl (hb hby at_302) rfl (own_e1 cm1 (Fl.i2d_fin p1).noNaN) ?_
      refine XS.ifNo X1246.here hx rfl (hb hby at_303) rfl (own_if_neN (by decide)) ?_
      refine XS.iconst X1246.here hx rfl (hb hby at_306) ?_
      refine XS.goto X1246.here hx rfl (pc0 := 307) (pc' := 311) rfl (hb hby at_307) (by decide) (by decide) ?_
      show Steps p.tables e below (T1242.setTop (mkF m 311 #[vi p0, vi p1, vi p2, vi p3, vi K, vi (own_F K), vi md, vd (FP.i2d p0), ss, vd (FP.i2d p1), ss, vr a873, vi (1 : Int32), vd (FP.i2d p1), ss, vi (0 : Int32), vd (FP.i2d p1), ss, vd (FP.i2d p1), ss, vd (FP.i2d p1), ss, vd (FP.i2d p1), ss] [(.int (1 : Int32))])) tQ
      refine XS.istore X1246.here hx rfl (hb hby at_311) rfl (l' := #[vi p0, vi p1, vi p2, vi p3, vi K, vi (own_F K), vi md, vd (FP.i2d p0), ss, vd (FP.i2d p1), ss, vr a873, vi (1 : Int32), vd (FP.i2d p1), ss, vi (0 : Int32), vd (FP.i2d p1), ss, vd (FP.i2d p1), ss, vd (FP.i2d p1), ss, vd (FP.i2d p1), ss]) rfl ?_
      refine XS.iload X1246.here hx rfl (hb hby at_313) rfl ?_
      refine XS.ifNo X1246.here hx rfl (hb hby at_315) rfl (own_if_eqN (by decide)) ?_
      refine XS.dload X1246.here hx rfl (hb hby at_318) rfl ?_
      show Steps p.tables e below (T1242.setTop (mkF m 320 #[vi p0, vi p1, vi p2, vi p3, vi K, vi (own_F K), vi md, vd (FP.i2d p0), ss, vd (FP.i2d p1), ss, vr a873, vi (1 : Int32), vd (FP.i2d p1), ss, vi (0 : Int32), vd (FP.i2d p1), ss, vd (FP.i2d p1), ss, vd (FP.i2d p1), ss, vd (FP.i2d p1), ss] [(.double (FP.i2d p1))])) tQ
      refine XS.dload X1246.here hx rfl (hb hby at_320) rfl ?_
      refine XS.dcmpS (v := (0 : Int32)) X1246.here hx rfl (hb hby at_322) rfl (dcmpV_self (Fl.i2d_fin p1).noNaN .l) ?_
      refine XS.ifYes X1246.here hx rfl (pc0 := 323) (pc' := 339) rfl (hb hby at_323) rfl (own_if_eqY (by decide)) (by decide) (by decide) ?_
      refine XS.iconst X1246.here hx rfl (hb hby at_339) ?_
      show Steps p.tables e below (T1242.setTop (mkF m 340 #[vi p0, vi p1, vi p2, vi p3, vi K, vi (own_F K), vi md, vd (FP.i2d p0), ss, vd (FP.i2d p1), ss, vr a873, vi (1 : Int32), vd (FP.i2d p1), ss, vi (0 : Int32), vd (FP.i2d p1), ss, vd (FP.i2d p1), ss, vd (FP.i2d p1), ss, vd (FP.i2d p1), ss] [(.int (1 : Int32))])) tQ
      refine XS.goto X1246.here hx rfl (pc0 := 340) (pc' := 344) rfl (hb hby at_340) (by decide) (by decide) ?_
      refine XS.istore X1246.here hx rfl (hb hby at_344) rfl (l' := #[vi p0, vi p1, vi p2, vi p3, vi K, vi (own_F K), vi md, vd (FP.i2d p0), ss, vd (FP.i2d p1), ss, vr a873, vi (1 : Int32), vd (FP.i2d p1), ss, vi (0 : Int32), vd (FP.i2d p1), ss, vd (FP.i2d p1), ss, vd (FP.i2d p1), ss, vd (FP.i2d p1), ss]) rfl ?_
      refine XS.iload X1246.here hx rfl (hb hby at_346) rfl ?_
      refine XS.ifNo X1246.here hx rfl (hb hby at_348) rfl (own_if_eqN (by decide)) ?_
      show Steps p.tables e below (T1242.setTop (mkF m 351 #[vi p0, vi p1, vi p2, vi p3, vi K, vi (own_F K), vi md, vd (FP.i2d p0), ss, vd (FP.i2d p1), ss, vr a873, vi (1 : Int32), vd (FP.i2d p1), ss, vi (0 : Int32), vd (FP.i2d p1), ss, vd (FP.i2d p1), ss, vd (FP.i2d p1), ss, vd (FP.i2d p1), ss] [])) tQ
      refine XS.aload X1246.here hx rfl (hb hby at_351) rfl rfl ?_
      exact kk
    clear k1257
    obtain ⟨cq1270, kq1271, qa1272, qb1273, qc1274⟩ := isOf hZ e1254 F1229
    obtain ⟨_, _, ⟨T1259, L1260, kc1261, nc1262⟩, -, X1263, ⟨Lc1264, hQ1265, l1266, y1267, z1268⟩, st1269⟩ := X1246.virtualBack hx (y := mn15) (z := mn15) hown (mvT hZ (tw57 hw)) (mvT hZ (tw58 hw)) (notFace_of_selects (args := #[]) (mvT hZ (tw60 hw))) (mvT hZ (tw60 hw)) (mvT hZ (tw59 hw)) (by decide) (backOf (W := 0) (rmVl l Z a0 hw [] a873 (FP.i2d p1) T1202.heap n0 Z1228 F1237) hZ (tw61 hw) (tw7 hw) (by decide) (by decide)) qa1272 qc1274 (g := (mkF m 353 #[vi p0, vi p1, vi p2, vi p3, vi K, vi (own_F K), vi md, vd (FP.i2d p0), ss, vd (FP.i2d p1), ss, vr a873, vi (1 : Int32), vd (FP.i2d p1), ss, vi (0 : Int32), vd (FP.i2d p1), ss, vd (FP.i2d p1), ss, vd (FP.i2d p1), ss, vd (FP.i2d p1), ss] [(.ref a873)])) rfl (by rw [hml]; rfl) (Steps.refl _) (argsL := []) (rest := []) (lenOf pd_20 rfl) rfl (by show 2 * 0 + _ ≤ _; exact Nat.le_of_eq rfl) (hb hby at_353) (fun _ _ => ⟨rfl, e1254, (by decide : 1 + 0 ≤ _), (by decide : 5 + 0 ≤ _)⟩)
    dsimp only [Pt.U, Pt.locs, Pt.cells, Pt.slots] at X1263 l1266 y1267 z1268 st1269 hQ1265
    subst l1266 y1267 z1268
    obtain ⟨rfl, N1275, e1276⟩ := hQ1265
    have N1278 := Fr.app N1256 N1275
    have k1279 : own_G p e below E0 T1259 (mkF m 356 #[vi p0, vi p1, vi p2, vi p3, vi K, vi (own_F K), vi md, vd (FP.i2d p0), ss, vd (FP.i2d p1), ss, vr a873, vi (1 : Int32), vd (FP.i2d p1), ss, vi (0 : Int32), vd (FP.i2d p1), ss, vd (FP.i2d p1), ss, vd (FP.i2d p1), ss, vd (FP.i2d p1), ss] [(.double (FP.i2d p1))]) := fun tQ kk => k1258 tQ (st1269.trans kk)
    clear k1258 st1269
    have k1280 : own_G p e below E0 T1259 (mkF m 376 #[vi p0, vi p1, vi p2, vi p3, vi K, vi (own_F K), vi md, vd (FP.i2d p0), ss, vd (FP.i2d p1), ss, vr a873, vi (1 : Int32), vd (FP.i2d p1), ss, vi (0 : Int32), vd (FP.i2d p1), ss, vd (FP.i2d p1), ss, vd (FP.i2d p1), ss, vd (FP.i2d p1), ss] [(.ref a873)]) := by
      intro tQ kk
      refine k1279 tQ ?_
      refine XS.dload X1263.here hx rfl (hb hby at_356) rfl ?_
      refine XS.dcmpS (v := (0 : Int32)) X1263.here hx rfl (hb hby at_358) rfl (dcmpV_self (Fl.i2d_fin p1).noNaN .l) ?_
      refine XS.ifNo X1263.here hx rfl (hb hby at_359) rfl (own_if_neN (by decide)) ?_
      refine XS.iconst X1263.here hx rfl (hb hby at_362) ?_
      show Steps p.tables e below (T1259.setTop (mkF m 363 #[vi p0, vi p1, vi p2, vi p3, vi K, vi (own_F K), vi md, vd (FP.i2d p0), ss, vd (FP.i2d p1), ss, vr a873, vi (1 : Int32), vd (FP.i2d p1), ss, vi (0 : Int32), vd (FP.i2d p1), ss, vd (FP.i2d p1), ss, vd (FP.i2d p1), ss, vd (FP.i2d p1), ss] [(.int (1 : Int32))])) tQ
      refine XS.goto X1263.here hx rfl (pc0 := 363) (pc' := 367) rfl (hb hby at_363) (by decide) (by decide) ?_
      refine XS.istore X1263.here hx rfl (hb hby at_367) rfl (l' := #[vi p0, vi p1, vi p2, vi p3, vi K, vi (own_F K), vi md, vd (FP.i2d p0), ss, vd (FP.i2d p1), ss, vr a873, vi (1 : Int32), vd (FP.i2d p1), ss, vi (0 : Int32), vd (FP.i2d p1), ss, vd (FP.i2d p1), ss, vd (FP.i2d p1), ss, vd (FP.i2d p1), ss]) rfl ?_
      refine XS.iload X1263.here hx rfl (hb hby at_369) rfl ?_
      refine XS.ifNo X1263.here hx rfl (hb hby at_371) rfl (own_if_eqN (by decide)) ?_
      show Steps p.tables e below (T1259.setTop (mkF m 374 #[vi p0, vi p1, vi p2, vi p3, vi K, vi (own_F K), vi md, vd (FP.i2d p0), ss, vd (FP.i2d p1), ss, vr a873, vi (1 : Int32), vd (FP.i2d p1), ss, vi (0 : Int32), vd (FP.i2d p1), ss, vd (FP.i2d p1), ss, vd (FP.i2d p1), ss, vd (FP.i2d p1), ss] [])) tQ
      refine XS.aload X1263.here hx rfl (hb hby at_374) rfl rfl ?_
      exact kk
    clear k1279
    obtain ⟨cq1292, kq1293, qa1294, qb1295, qc1296⟩ := isOf hZ e1276 F1229
    obtain ⟨_, _, ⟨T1281, L1282, kc1283, nc1284⟩, -, X1285, ⟨Lc1286, hQ1287, l1288, y1289, z1290⟩, st1291⟩ := X1263.virtualBack hx (y := mn14) (z := mn14) hown (mvT hZ (tw52 hw)) (mvT hZ (tw53 hw)) (notFace_of_selects (args := #[]) (mvT hZ (tw55 hw))) (mvT hZ (tw55 hw)) (mvT hZ (tw54 hw)) (by decide) (backOf (W := 0) (rmMv l Z a0 hw [] a873 (0 : Int32) T1202.heap n0 Z1228 F1239) hZ (tw56 hw) (tw7 hw) (by decide) (by decide)) qa1294 qc1296 (g := (mkF m 376 #[vi p0, vi p1, vi p2, vi p3, vi K, vi (own_F K), vi md, vd (FP.i2d p0), ss, vd (FP.i2d p1), ss, vr a873, vi (1 : Int32), vd (FP.i2d p1), ss, vi (0 : Int32), vd (FP.i2d p1), ss, vd (FP.i2d p1), ss, vd (FP.i2d p1), ss, vd (FP.i2d p1), ss] [(.ref a873)])) rfl (by rw [hml]; rfl) (Steps.refl _) (argsL := []) (rest := []) (lenOf pd_22 rfl) rfl (by show 2 * 0 + _ ≤ _; exact Nat.le_of_eq rfl) (hb hby at_376) (fun _ _ => ⟨rfl, e1276, (by decide : 1 + 0 ≤ _), (by decide : 5 + 0 ≤ _)⟩)
    dsimp only [Pt.U, Pt.locs, Pt.cells, Pt.slots] at X1285 l1288 y1289 z1290 st1291 hQ1287
    subst l1288 y1289 z1290
    obtain ⟨rfl, N1297, e1298⟩ := hQ1287
    have N1300 := Fr.app N1278 N1297
    have k1301 : own_G p e below E0 T1281 (mkF m 379 #[vi p0, vi p1, vi p2, vi p3, vi K, vi (own_F K), vi md, vd (FP.i2d p0), ss, vd (FP.i2d p1), ss, vr a873, vi (1 : Int32), vd (FP.i2d p1), ss, vi (0 : Int32), vd (FP.i2d p1), ss, vd (FP.i2d p1), ss, vd (FP.i2d p1), ss, vd (FP.i2d p1), ss] [(.int (own_mv (0 : Int32)))]) := fun tQ kk => k1280 tQ (st1291.trans kk)
    clear k1280 st1291
    have eq1302 : (own_mv (0 : Int32)) = (0 : Int32) := by decide
    rw [eq1302] at k1301
    have k1303 : own_G p e below E0 T1281 (mkF m 391 #[vi p0, vi p1, vi p2, vi p3, vi K, vi (own_F K), vi md, vd (FP.i2d p0), ss, vd (FP.i2d p1), ss, vr a873, vi (1 : Int32), vd (FP.i2d p1), ss, vi (0 : Int32), vd (FP.i2d p1), ss, vd (FP.i2d p1), ss, vd (FP.i2d p1), ss, vd (FP.i2d p1), ss] [(.int (1 : Int32))]) := by
      intro tQ kk
      refine k1301 tQ ?_
      refine XS.ifNo X1285.here hx rfl (hb hby at_379) rfl (own_if_neN (by decide)) ?_
      refine XS.iconst X1285.here hx rfl (hb hby at_382) ?_
      refine XS.goto X1285.here hx rfl (pc0 := 383) (pc' := 387) rfl (hb hby at_383) (by decide) (by decide) ?_
      refine XS.istore X1285.here hx rfl (hb hby at_387) rfl (l' := #[vi p0, vi p1, vi p2, vi p3, vi K, vi (own_F K), vi md, vd (FP.i2d p0), ss, vd (FP.i2d p1), ss, vr a873, vi (1 : Int32), vd (FP.i2d p1), ss, vi (0 : Int32), vd (FP.i2d p1), ss, vd (FP.i2d p1), ss, vd (FP.i2d p1), ss, vd (FP.i2d p1), ss]) rfl ?_
      show Steps p.tables e below (T1281.setTop (mkF m 389 #[vi p0, vi p1, vi p2, vi p3, vi K, vi (own_F K), vi md, vd (FP.i2d p0), ss, vd (FP.i2d p1), ss, vr a873, vi (1 : Int32), vd (FP.i2d p1), ss, vi (0 : Int32), vd (FP.i2d p1), ss, vd (FP.i2d p1), ss, vd (FP.i2d p1), ss, vd (FP.i2d p1), ss] [])) tQ
      refine XS.iload X1285.here hx rfl (hb hby at_389) rfl ?_
      exact kk
    clear k1301
    obtain ⟨fs, hr, hrun, hended, hW, hsame⟩ := X1285.leave (v := some (.int (1 : Int32))) (fun h => by rw [Bd.returns] at h; cases h)
    have hrun0 := k1303 _ (retOut X1285 hx Bd.returns (t := .boolean) rfl (Or.inl ⟨rfl, Or.inr (Or.inl rfl), _, rfl⟩) (hb hby at_391) hr)
    subst hE0
    refine ⟨_, _, hrun0, hrun, hended, _, _, rfl, ?_, ⟨_, rfl⟩, hW, hsame.mono (by decide) (by decide)⟩
    show Qrm0 Z p0 p1 p2 p3 h0 n0 _ T1281.heap _
    rw [e1298]
    exact ⟨rfl, N1300⟩
  · skip
    have k1304 : own_G p e below E0 T884 (mkF m 65 #[vi p0, vi p1, vi p2, vi p3, vi K, vi (own_F K), vi md, vd (FP.i2d p0), ss, vd (FP.i2d p1), ss, vr a873, uu, uu, uu, uu, uu, uu, uu, uu, uu, uu, uu, uu] [(.int (2 : Int32)), (.int md)]) := by
      intro tQ kk
      refine k913 tQ ?_
      refine XS.icmpYes X888.here hx rfl (pc0 := 48) (pc' := 62) rfl (hb hby at_48) rfl (own_ic_neY cm1) (by decide) (by decide) ?_
      refine XS.iload X888.here hx rfl (hb hby at_62) rfl ?_
      refine XS.iconst X888.here hx rfl (hb hby at_64) ?_
      exact kk
    clear k913
    by_cases cm2 : md < (2 : Int32)
    · skip
      have hm0 := own_md0 hmd cm1 cm2
      have k1306 : own_G p e below E0 T884 (mkF m 81 #[vi p0, vi p1, vi p2, vi p3, vi K, vi (own_F K), vi md, vd (FP.i2d p0), ss, vd (FP.i2d p1), ss, vr a873, vi (1 : Int32), uu, uu, uu, uu, uu, uu, uu, uu, uu, uu, uu] [(.ref a873)]) := by
        intro tQ kk
        refine k1304 tQ ?_
        refine XS.icmpYes X888.here hx rfl (pc0 := 65) (pc' := 76) rfl (hb hby at_65) rfl (own_ic_ltY cm2) (by decide) (by decide) ?_
        refine XS.iconst X888.here hx rfl (hb hby at_76) ?_
        refine XS.istore X888.here hx rfl (hb hby at_77) rfl (l' := #[vi p0, vi p1, vi p2, vi p3, vi K, vi (own_F K), vi md, vd (FP.i2d p0), ss, vd (FP.i2d p1), ss, vr a873, vi (1 : Int32), uu, uu, uu, uu, uu, uu, uu, uu, uu, uu, uu]) rfl ?_
        refine XS.aload X888.here hx rfl (hb hby at_79) rfl rfl ?_
        exact kk
      clear k1304
      obtain ⟨cq1318, kq1319, qa1320, qb1321, qc1322⟩ := isOf hZ rfl F906
      obtain ⟨_, _, ⟨T1307, L1308, kc1309, nc1310⟩, -, X1311, ⟨Lc1312, hQ1313, l1314, y1315, z1316⟩, st1317⟩ := X888.virtualBack hx (y := mn13) (z := mn13) hown (mvT hZ (tw43 hw)) (mvT hZ (tw44 hw)) (notFace_of_selects (args := #[]) (mvT hZ (tw46 hw))) (mvT hZ (tw46 hw)) (mvT hZ (tw45 hw)) (by decide) (backOf (W := 0) (rmN l Z a0 hw [] a873 (own_F K) (FP.i2d p0) (FP.i2d p0) (0 : UInt64) (0 : Int32) T884.heap n0 Z905 F906 g899 g900 g901 g902 g903 ge875 (fun z => absurd z (by decide))) hZ (tw47 hw) (tw7 hw) (by decide) (by decide)) qa1320 qc1322 (g := (mkF m 81 #[vi p0, vi p1, vi p2, vi p3, vi K, vi (own_F K), vi md, vd (FP.i2d p0), ss, vd (FP.i2d p1), ss, vr a873, vi (1 : Int32), uu, uu, uu, uu, uu, uu, uu, uu, uu, uu, uu] [(.ref a873)])) rfl (by rw [hml]; rfl) (Steps.refl _) (argsL := []) (rest := []) (lenOf pd_20 rfl) rfl (by show 2 * 0 + _ ≤ _; exact Nat.le_of_eq rfl) (hb hby at_81) (fun _ _ => ⟨rfl, rfl, (by decide : 1 + 0 ≤ _), (by decide : 5 + 0 ≤ _)⟩)
      dsimp only [Pt.U, Pt.locs, Pt.cells, Pt.slots] at X1311 l1314 y1315 z1316 st1317 hQ1313
      subst l1314 y1315 z1316
      obtain ⟨rfl, N1323, K1326, g1327, g1328, g1329, g1330, g1331⟩ := hQ1313
      have N1332 := Fr.app N904 N1323
      have Z1333 : n0 ≤ T1307.heap.size := Nat.le_trans Z905 K1326.1
      have F1334 : xa8 Z T1307.heap a873 := F906.keep K1326
      clear F906
      clear g899
      clear g900
      clear g901
      clear g902
      clear g903
      have k1340 : own_G p e below E0 T1307 (mkF m 84 #[vi p0, vi p1, vi p2, vi p3, vi K, vi (own_F K), vi md, vd (FP.i2d p0), ss, vd (FP.i2d p1), ss, vr a873, vi (1 : Int32), uu, uu, uu, uu, uu, uu, uu, uu, uu, uu, uu] [(.double (own_nv (FP.i2d p0) (FP.i2d p0) (0 : UInt64) (0 : Int32)))]) := fun tQ kk => k1306 tQ (st1317.trans kk)
      clear k1306 st1317
      have eq1341 : (own_nv (FP.i2d p0) (FP.i2d p0) (0 : UInt64) (0 : Int32)) = (FP.i2d p0) := by rw [own_nv, if_neg (by decide)]
      have F1342 : fd4 Z T1307.heap a873 (.double (FP.i2d p0)) := by rw [← eq1341]; exact g1328
      have eq1343 : (own_nr (0 : Int32)) = (0 : Int32) := by decide
      have F1344 : fd7 Z T1307.heap a873 (.int (0 : Int32)) := by rw [← eq1343]; exact g1331
      have eq1345 : (own_nv (FP.i2d p0) (FP.i2d p0) (0 : UInt64) (0 : Int32)) = (FP.i2d p0) := by rw [own_nv, if_neg (by decide)]
      rw [eq1345] at k1340
      have k1346 : own_G p e below E0 T1307 (mkF m 102 #[vi p0, vi p1, vi p2, vi p3, vi K, vi (own_F K), vi md, vd (FP.i2d p0), ss, vd (FP.i2d p1), ss, vr a873, vi (1 : Int32), vd (FP.i2d p0), ss, uu, uu, uu, uu, uu, uu, uu, uu, uu] [(.int (1 : Int32)), (.int md), (.int (own_F K)), (.double (FP.i2d p1)), (.double (FP.i2d p0)), (.double (FP.i2d p0))]) := by
        intro tQ kk
        refine k1340 tQ ?_
        refine XS.dstore X1311.here hx rfl (hb hby at_84) rfl (l' := #[vi p0, vi p1, vi p2, vi p3, vi K, vi (own_F K), vi md, vd (FP.i2d p0), ss, vd (FP.i2d p1), ss, vr a873, vi (1 : Int32), vd (FP.i2d p0), ss, uu, uu, uu, uu, uu, uu, uu, uu, uu]) rfl ?_
        refine XS.iload X1311.here hx rfl (hb hby at_86) rfl ?_
        refine XS.ifNo X1311.here hx rfl (hb hby at_88) rfl (own_if_eqN (by decide)) ?_
        refine XS.dload X1311.here hx rfl (hb hby at_91) rfl ?_
        show Steps p.tables e below (T1307.setTop (mkF m 93 #[vi p0, vi p1, vi p2, vi p3, vi K, vi (own_F K), vi md, vd (FP.i2d p0), ss, vd (FP.i2d p1), ss, vr a873, vi (1 : Int32), vd (FP.i2d p0), ss, uu, uu, uu, uu, uu, uu, uu, uu, uu] [(.double (FP.i2d p0))])) tQ
        refine XS.dload X1311.here hx rfl (hb hby at_93) rfl ?_
        refine XS.dload X1311.here hx rfl (hb hby at_95) rfl ?_
        refine XS.iload X1311.here hx rfl (hb hby at_97) rfl ?_
        refine XS.iload X1311.here hx rfl (hb hby at_99) rfl ?_
        show Steps p.tables e below (T1307.setTop (mkF m 101 #[vi p0, vi p1, vi p2, vi p3, vi K, vi (own_F K), vi md, vd (FP.i2d p0), ss, vd (FP.i2d p1), ss, vr a873, vi (1 : Int32), vd (FP.i2d p0), ss, uu, uu, uu, uu, uu, uu, uu, uu, uu] [(.int md), (.int (own_F K)), (.double (FP.i2d p1)), (.double (FP.i2d p0)), (.double (FP.i2d p0))])) tQ
        refine XS.iconst X1311.here hx rfl (hb hby at_101) ?_
        exact kk
      clear k1340
      obtain ⟨_, _, ⟨T1347, L1348, kc1349, nc1350⟩, -, X1351, ⟨Lc1352, hQ1353, l1354, y1355, z1356⟩, st1357⟩ := Jvm.LawKit.callS X1311 hx (y := mn16) hown (mvT hZ (tw48 hw)) (mvT hZ (tw49 hw)) (mvT hZ (tw50 hw)) (mvT hZ (tw51 hw)) (by decide) (backOf (W := 2) (rmE l Z a0 hw [] (FP.i2d p0) (FP.i2d p1) (own_F K) md (1 : Int32) T1307.heap n0 Z1333 (Fl.i2d_fin p0).noNaN (Fl.i2d_fin p1).noNaN (own_h1 p0 p1) (own_h2 p0 p1 (F := (own_F K)) hFb) (own_q3 p0 p1 (F := (own_F K)) (r := (own_mx 0 ((own_F K) - (1 : Int32)))) hFb (own_mxb hFb (by decide)))) hZ (tw51 hw) (tw50 hw) (by decide) (by decide)) (g := (mkF m 102 #[vi p0, vi p1, vi p2, vi p3, vi K, vi (own_F K), vi md, vd (FP.i2d p0), ss, vd (FP.i2d p1), ss, vr a873, vi (1 : Int32), vd (FP.i2d p0), ss, uu, uu, uu, uu, uu, uu, uu, uu, uu] [(.int (1 : Int32)), (.int md), (.int (own_F K)), (.double (FP.i2d p1)), (.double (FP.i2d p0)), (.double (FP.i2d p0))])) rfl (by rw [hml]; rfl) (argsL := [(.double (FP.i2d p0)), (.double (FP.i2d p1)), (.int (own_F K)), (.int md), (.int (1 : Int32))]) (rest := [(.double (FP.i2d p0))]) (lenOf pd_21 rfl) rfl (by show 2 * 0 + _ ≤ _; exact Nat.le_of_eq rfl) (hb hby at_102) (fun _ _ => ⟨rfl, rfl, (by decide : 1 + 0 ≤ _), (by decide : 5 + 0 ≤ _)⟩)
      dsimp only [Pt.U, Pt.locs, Pt.cells, Pt.slots] at X1351 l1354 y1355 z1356 st1357 hQ1353
      subst l1354 y1355 z1356
      obtain ⟨rfl, N1358, e1359⟩ := hQ1353
      have N1361 := Fr.app N1332 N1358
      have k1362 : own_G p e below E0 T1347 (mkF m 105 #[vi p0, vi p1, vi p2, vi p3, vi K, vi (own_F K), vi md, vd (FP.i2d p0), ss, vd (FP.i2d p1), ss, vr a873, vi (1 : Int32), vd (FP.i2d p0), ss, uu, uu, uu, uu, uu, uu, uu, uu, uu] [(.double (own_exp (FP.i2d p0) (FP.i2d p1) (own_F K) md (1 : Int32))), (.double (FP.i2d p0))]) := fun tQ kk => k1346 tQ (st1357 _ kk)
      clear k1346 st1357
      have k1363 : own_G p e below E0 T1347 (mkF m 118 #[vi p0, vi p1, vi p2, vi p3, vi K, vi (own_F K), vi md, vd (FP.i2d p0), ss, vd (FP.i2d p1), ss, vr a873, vi (1 : Int32), vd (FP.i2d p0), ss, uu, uu, uu, uu, uu, uu, uu, uu, uu] [(.ref a873)]) := by
        intro tQ kk
        refine k1362 tQ ?_
        refine XS.dcmpS (v := (0 : Int32)) X1351.here hx rfl (hb hby at_105) rfl (own_e0 hm0 (Fl.i2d_fin p0).noNaN) ?_
        refine XS.ifNo X1351.here hx rfl (hb hby at_106) rfl (own_if_neN (by decide)) ?_
        refine XS.iconst X1351.here hx rfl (hb hby at_109) ?_
        refine XS.goto X1351.here hx rfl (pc0 := 110) (pc' := 114) rfl (hb hby at_110) (by decide) (by decide) ?_
        show Steps p.tables e below (T1347.setTop (mkF m 114 #[vi p0, vi p1, vi p2, vi p3, vi K, vi (own_F K), vi md, vd (FP.i2d p0), ss, vd (FP.i2d p1), ss, vr a873, vi (1 : Int32), vd (FP.i2d p0), ss, uu, uu, uu, uu, uu, uu, uu, uu, uu] [(.int (1 : Int32))])) tQ
        refine XS.istore X1351.here hx rfl (hb hby at_114) rfl (l' := #[vi p0, vi p1, vi p2, vi p3, vi K, vi (own_F K), vi md, vd (FP.i2d p0), ss, vd (FP.i2d p1), ss, vr a873, vi (1 : Int32), vd (FP.i2d p0), ss, uu, uu, uu, uu, uu, uu, uu, uu, uu]) rfl ?_
        refine XS.aload X1351.here hx rfl (hb hby at_116) rfl rfl ?_
        exact kk
      clear k1362
      obtain ⟨cq1375, kq1376, qa1377, qb1378, qc1379⟩ := isOf hZ e1359 F1334
      obtain ⟨_, _, ⟨T1364, L1365, kc1366, nc1367⟩, -, X1368, ⟨Lc1369, hQ1370, l1371, y1372, z1373⟩, st1374⟩ := X1351.virtualBack hx (y := mn14) (z := mn14) hown (mvT hZ (tw52 hw)) (mvT hZ (tw53 hw)) (notFace_of_selects (args := #[]) (mvT hZ (tw55 hw))) (mvT hZ (tw55 hw)) (mvT hZ (tw54 hw)) (by decide) (backOf (W := 0) (rmMv l Z a0 hw [] a873 (0 : Int32) T1307.heap n0 Z1333 F1344) hZ (tw56 hw) (tw7 hw) (by decide) (by decide)) qa1377 qc1379 (g := (mkF m 118 #[vi p0, vi p1, vi p2, vi p3, vi K, vi (own_F K), vi md, vd (FP.i2d p0), ss, vd (FP.i2d p1), ss, vr a873, vi (1 : Int32), vd (FP.i2d p0), ss, uu, uu, uu, uu, uu, uu, uu, uu, uu] [(.ref a873)])) rfl (by rw [hml]; rfl) (Steps.refl _) (argsL := []) (rest := []) (lenOf pd_22 rfl) rfl (by show 2 * 0 + _ ≤ _; exact Nat.le_of_eq rfl) (hb hby at_118) (fun _ _ => ⟨rfl, e1359, (by decide : 1 + 0 ≤ _), (by decide : 5 + 0 ≤ _)⟩)
      dsimp only [Pt.U, Pt.locs, Pt.cells, Pt.slots] at X1368 l1371 y1372 z1373 st1374 hQ1370
      subst l1371 y1372 z1373
      obtain ⟨rfl, N1380, e1381⟩ := hQ1370
      have N1383 := Fr.app N1361 N1380
      have k1384 : own_G p e below E0 T1364 (mkF m 121 #[vi p0, vi p1, vi p2, vi p3, vi K, vi (own_F K), vi md, vd (FP.i2d p0), ss, vd (FP.i2d p1), ss, vr a873, vi (1 : Int32), vd (FP.i2d p0), ss, uu, uu, uu, uu, uu, uu, uu, uu, uu] [(.int (own_mv (0 : Int32)))]) := fun tQ kk => k1363 tQ (st1374.trans kk)
      clear k1363 st1374
      have eq1385 : (own_mv (0 : Int32)) = (0 : Int32) := by decide
      rw [eq1385] at k1384
      have k1386 : own_G p e below E0 T1364 (mkF m 167 #[vi p0, vi p1, vi p2, vi p3, vi K, vi (own_F K), vi md, vd (FP.i2d p0), ss, vd (FP.i2d p1), ss, vr a873, vi (1 : Int32), vd (FP.i2d p0), ss, vi (0 : Int32), uu, uu, uu, uu, uu, uu, uu, uu] [(.ref a873)]) := by
        intro tQ kk
        refine k1384 tQ ?_
        refine XS.istore X1368.here hx rfl (hb hby at_121) rfl (l' := #[vi p0, vi p1, vi p2, vi p3, vi K, vi (own_F K), vi md, vd (FP.i2d p0), ss, vd (FP.i2d p1), ss, vr a873, vi (1 : Int32), vd (FP.i2d p0), ss, vi (0 : Int32), uu, uu, uu, uu, uu, uu, uu, uu]) rfl ?_
        refine XS.iload X1368.here hx rfl (hb hby at_123) rfl ?_
        refine XS.ifNo X1368.here hx rfl (hb hby at_125) rfl (own_if_eqN (by decide)) ?_
        refine XS.iload X1368.here hx rfl (hb hby at_128) rfl ?_
        show Steps p.tables e below (T1364.setTop (mkF m 130 #[vi p0, vi p1, vi p2, vi p3, vi K, vi (own_F K), vi md, vd (FP.i2d p0), ss, vd (FP.i2d p1), ss, vr a873, vi (1 : Int32), vd (FP.i2d p0), ss, vi (0 : Int32), uu, uu, uu, uu, uu, uu, uu, uu] [(.int (0 : Int32))])) tQ
        refine XS.iload X1368.here hx rfl (hb hby at_130) rfl ?_
        refine XS.iconst X1368.here hx rfl (hb hby at_132) ?_
        refine XS.icmpYes X1368.here hx rfl (pc0 := 133) (pc' := 154) rfl (hb hby at_133) rfl (own_ic_ltY cm2) (by decide) (by decide) ?_
        refine XS.iconst X1368.here hx rfl (hb hby at_154) ?_
        show Steps p.tables e below (T1364.setTop (mkF m 155 #[vi p0, vi p1, vi p2, vi p3, vi K, vi (own_F K), vi md, vd (FP.i2d p0), ss, vd (FP.i2d p1), ss, vr a873, vi (1 : Int32), vd (FP.i2d p0), ss, vi (0 : Int32), uu, uu, uu, uu, uu, uu, uu, uu] [(.int (0 : Int32)), (.int (0 : Int32))])) tQ
        refine XS.icmpNo X1368.here hx rfl (hb hby at_155) rfl (own_ic_neN (by decide)) ?_
        refine XS.iconst X1368.here hx rfl (hb hby at_158) ?_
        refine XS.goto X1368.here hx rfl (pc0 := 159) (pc' := 163) rfl (hb hby at_159) (by decide) (by decide) ?_
        refine XS.istore X1368.here hx rfl (hb hby at_163) rfl (l' := #[vi p0, vi p1, vi p2, vi p3, vi K, vi (own_F K), vi md, vd (FP.i2d p0), ss, vd (FP.i2d p1), ss, vr a873, vi (1 : Int32), vd (FP.i2d p0), ss, vi (0 : Int32), uu, uu, uu, uu, uu, uu, uu, uu]) rfl ?_
        show Steps p.tables e below (T1364.setTop (mkF m 165 #[vi p0, vi p1, vi p2, vi p3, vi K, vi (own_F K), vi md, vd (FP.i2d p0), ss, vd (FP.i2d p1), ss, vr a873, vi (1 : Int32), vd (FP.i2d p0), ss, vi (0 : Int32), uu, uu, uu, uu, uu, uu, uu, uu] [])) tQ
        refine XS.aload X1368.here hx rfl (hb hby at_165) rfl rfl ?_
        exact kk
      clear k1384
      obtain ⟨cq1398, kq1399, qa1400, qb1401, qc1402⟩ := isOf hZ e1381 F1334
      obtain ⟨_, _, ⟨T1387, L1388, kc1389, nc1390⟩, -, X1391, ⟨Lc1392, hQ1393, l1394, y1395, z1396⟩, st1397⟩ := X1368.virtualBack hx (y := mn13) (z := mn13) hown (mvT hZ (tw43 hw)) (mvT hZ (tw44 hw)) (notFace_of_selects (args := #[]) (mvT hZ (tw46 hw))) (mvT hZ (tw46 hw)) (mvT hZ (tw45 hw)) (by decide) (backOf (W := 0) (rmN l Z a0 hw [] a873 (own_F K) (FP.i2d p0) (FP.i2d p0) (0 : UInt64) (0 : Int32) T1307.heap n0 Z1333 F1334 g1327 F1342 g1329 g1330 F1344 ge875 (fun z => absurd z (by decide))) hZ (tw47 hw) (tw7 hw) (by decide) (by decide)) qa1400 qc1402 (g := (mkF m 167 #[vi p0, vi p1, vi p2, vi p3, vi K, vi (own_F K), vi md, vd (FP.i2d p0), ss, vd (FP.i2d p1), ss, vr a873, vi (1 : Int32), vd (FP.i2d p0), ss, vi (0 : Int32), uu, uu, uu, uu, uu, uu, uu, uu] [(.ref a873)])) rfl (by rw [hml]; rfl) (Steps.refl _) (argsL := []) (rest := []) (lenOf pd_20 rfl) rfl (by show 2 * 0 + _ ≤ _; exact Nat.le_of_eq rfl) (hb hby at_167) (fun _ _ => ⟨rfl, e1381, (by decide : 1 + 0 ≤ _), (by decide : 5 + 0 ≤ _)⟩)
      dsimp only [Pt.U, Pt.locs, Pt.cells, Pt.slots] at X1391 l1394 y1395 z1396 st1397 hQ1393
      subst l1394 y1395 z1396
      obtain ⟨rfl, N1403, K1406, g1407, g1408, g1409, g1410, g1411⟩ := hQ1393
      have N1412 := Fr.app N1383 N1403
      have Z1413 : n0 ≤ T1387.heap.size := Nat.le_trans Z1333 K1406.1
      have F1414 : xa8 Z T1387.heap a873 := F1334.keep K1406
      clear F1334
      clear g1327
      clear F1342
      clear g1329
      clear g1330
      clear F1344
      have k1420 : own_G p e below E0 T1387 (mkF m 170 #[vi p0, vi p1, vi p2, vi p3, vi K, vi (own_F K), vi md, vd (FP.i2d p0), ss, vd (FP.i2d p1), ss, vr a873, vi (1 : Int32), vd (FP.i2d p0), ss, vi (0 : Int32), uu, uu, uu, uu, uu, uu, uu, uu] [(.double (own_nv (FP.i2d p0) (FP.i2d p0) (0 : UInt64) (0 : Int32)))]) := fun tQ kk => k1386 tQ (st1397.trans kk)
      clear k1386 st1397
      have eq1421 : (own_nv (FP.i2d p0) (FP.i2d p0) (0 : UInt64) (0 : Int32)) = (FP.i2d p0) := by rw [own_nv, if_neg (by decide)]
      have F1422 : fd4 Z T1387.heap a873 (.double (FP.i2d p0)) := by rw [← eq1421]; exact g1408
      have eq1423 : (own_nr (0 : Int32)) = (0 : Int32) := by decide
      have F1424 : fd7 Z T1387.heap a873 (.int (0 : Int32)) := by rw [← eq1423]; exact g1411
      have eq1425 : (own_nv (FP.i2d p0) (FP.i2d p0) (0 : UInt64) (0 : Int32)) = (FP.i2d p0) := by rw [own_nv, if_neg (by decide)]
      rw [eq1425] at k1420
      have k1426 : own_G p e below E0 T1387 (mkF m 188 #[vi p0, vi p1, vi p2, vi p3, vi K, vi (own_F K), vi md, vd (FP.i2d p0), ss, vd (FP.i2d p1), ss, vr a873, vi (1 : Int32), vd (FP.i2d p0), ss, vi (0 : Int32), vd (FP.i2d p0), ss, uu, uu, uu, uu, uu, uu] [(.int (2 : Int32)), (.int md), (.int (own_F K)), (.double (FP.i2d p1)), (.double (FP.i2d p0)), (.double (FP.i2d p0))]) := by
        intro tQ kk
        refine k1420 tQ ?_
        refine XS.dstore X1391.here hx rfl (hb hby at_170) rfl (l' := #[vi p0, vi p1, vi p2, vi p3, vi K, vi (own_F K), vi md, vd (FP.i2d p0), ss, vd (FP.i2d p1), ss, vr a873, vi (1 : Int32), vd (FP.i2d p0), ss, vi (0 : Int32), vd (FP.i2d p0), ss, uu, uu, uu, uu, uu, uu]) rfl ?_
        refine XS.iload X1391.here hx rfl (hb hby at_172) rfl ?_
        refine XS.ifNo X1391.here hx rfl (hb hby at_174) rfl (own_if_eqN (by decide)) ?_
        refine XS.dload X1391.here hx rfl (hb hby at_177) rfl ?_
        show Steps p.tables e below (T1387.setTop (mkF m 179 #[vi p0, vi p1, vi p2, vi p3, vi K, vi (own_F K), vi md, vd (FP.i2d p0), ss, vd (FP.i2d p1), ss, vr a873, vi (1 : Int32), vd (FP.i2d p0), ss, vi (0 : Int32), vd (FP.i2d p0), ss, uu, uu, uu, uu, uu, uu] [(.double (FP.i2d p0))])) tQ
        refine XS.dload X1391.here hx rfl (hb hby at_179) rfl ?_
        refine XS.dload X1391.here hx rfl (hb hby at_181) rfl ?_
        refine XS.iload X1391.here hx rfl (hb hby at_183) rfl ?_
        refine XS.iload X1391.here hx rfl (hb hby at_185) rfl ?_
        show Steps p.tables e below (T1387.setTop (mkF m 187 #[vi p0, vi p1, vi p2, vi p3, vi K, vi (own_F K), vi md, vd (FP.i2d p0), ss, vd (FP.i2d p1), ss, vr a873, vi (1 : Int32), vd (FP.i2d p0), ss, vi (0 : Int32), vd (FP.i2d p0), ss, uu, uu, uu, uu, uu, uu] [(.int md), (.int (own_F K)), (.double (FP.i2d p1)), (.double (FP.i2d p0)), (.double (FP.i2d p0))])) tQ
        refine XS.iconst X1391.here hx rfl (hb hby at_187) ?_
        exact kk
      clear k1420
      obtain ⟨_, _, ⟨T1427, L1428, kc1429, nc1430⟩, -, X1431, ⟨Lc1432, hQ1433, l1434, y1435, z1436⟩, st1437⟩ := Jvm.LawKit.callS X1391 hx (y := mn16) hown (mvT hZ (tw48 hw)) (mvT hZ (tw49 hw)) (mvT hZ (tw50 hw)) (mvT hZ (tw51 hw)) (by decide) (backOf (W := 2) (rmE l Z a0 hw [] (FP.i2d p0) (FP.i2d p1) (own_F K) md (2 : Int32) T1387.heap n0 Z1413 (Fl.i2d_fin p0).noNaN (Fl.i2d_fin p1).noNaN (own_h1 p0 p1) (own_h2 p0 p1 (F := (own_F K)) hFb) (own_q3 p0 p1 (F := (own_F K)) (r := (own_mx 0 ((own_F K) - (2 : Int32)))) hFb (own_mxb hFb (by decide)))) hZ (tw51 hw) (tw50 hw) (by decide) (by decide)) (g := (mkF m 188 #[vi p0, vi p1, vi p2, vi p3, vi K, vi (own_F K), vi md, vd (FP.i2d p0), ss, vd (FP.i2d p1), ss, vr a873, vi (1 : Int32), vd (FP.i2d p0), ss, vi (0 : Int32), vd (FP.i2d p0), ss, uu, uu, uu, uu, uu, uu] [(.int (2 : Int32)), (.int md), (.int (own_F K)), (.double (FP.i2d p1)), (.double (FP.i2d p0)), (.double (FP.i2d p0))])) rfl (by rw [hml]; rfl) (argsL := [(.double (FP.i2d p0)), (.double (FP.i2d p1)), (.int (own_F K)), (.int md), (.int (2 : Int32))]) (rest := [(.double (FP.i2d p0))]) (lenOf pd_21 rfl) rfl (by show 2 * 0 + _ ≤ _; exact Nat.le_of_eq rfl) (hb hby at_188) (fun _ _ => ⟨rfl, rfl, (by decide : 1 + 0 ≤ _), (by decide : 5 + 0 ≤ _)⟩)
      dsimp only [Pt.U, Pt.locs, Pt.cells, Pt.slots] at X1431 l1434 y1435 z1436 st1437 hQ1433
      subst l1434 y1435 z1436
      obtain ⟨rfl, N1438, e1439⟩ := hQ1433
      have N1441 := Fr.app N1412 N1438
      have k1442 : own_G p e below E0 T1427 (mkF m 191 #[vi p0, vi p1, vi p2, vi p3, vi K, vi (own_F K), vi md, vd (FP.i2d p0), ss, vd (FP.i2d p1), ss, vr a873, vi (1 : Int32), vd (FP.i2d p0), ss, vi (0 : Int32), vd (FP.i2d p0), ss, uu, uu, uu, uu, uu, uu] [(.double (own_exp (FP.i2d p0) (FP.i2d p1) (own_F K) md (2 : Int32))), (.double (FP.i2d p0))]) := fun tQ kk => k1426 tQ (st1437 _ kk)
      clear k1426 st1437
      have k1443 : own_G p e below E0 T1427 (mkF m 204 #[vi p0, vi p1, vi p2, vi p3, vi K, vi (own_F K), vi md, vd (FP.i2d p0), ss, vd (FP.i2d p1), ss, vr a873, vi (1 : Int32), vd (FP.i2d p0), ss, vi (0 : Int32), vd (FP.i2d p0), ss, uu, uu, uu, uu, uu, uu] [(.ref a873)]) := by
        intro tQ kk
        refine k1442 tQ ?_
        refine XS.dcmpS (v := (0 : Int32)) X1431.here hx rfl (hb hby at_191) rfl (own_e0 hm0 (Fl.i2d_fin p0).noNaN) ?_
        refine XS.ifNo X1431.here hx rfl (hb hby at_192) rfl (own_if_neN (by decide)) ?_
        refine XS.iconst X1431.here hx rfl (hb hby at_195) ?_
        refine XS.goto X1431.here hx rfl (pc0 := 196) (pc' := 200) rfl (hb hby at_196) (by decide) (by decide) ?_
        show Steps p.tables e below (T1427.setTop (mkF m 200 #[vi p0, vi p1, vi p2, vi p3, vi K, vi (own_F K), vi md, vd (FP.i2d p0), ss, vd (FP.i2d p1), ss, vr a873, vi (1 : Int32), vd (FP.i2d p0), ss, vi (0 : Int32), vd (FP.i2d p0), ss, uu, uu, uu, uu, uu, uu] [(.int (1 : Int32))])) tQ
        refine XS.istore X1431.here hx rfl (hb hby at_200) rfl (l' := #[vi p0, vi p1, vi p2, vi p3, vi K, vi (own_F K), vi md, vd (FP.i2d p0), ss, vd (FP.i2d p1), ss, vr a873, vi (1 : Int32), vd (FP.i2d p0), ss, vi (0 : Int32), vd (FP.i2d p0), ss, uu, uu, uu, uu, uu, uu]) rfl ?_
        refine XS.aload X1431.here hx rfl (hb hby at_202) rfl rfl ?_
        exact kk
      clear k1442
      obtain ⟨cq1455, kq1456, qa1457, qb1458, qc1459⟩ := isOf hZ e1439 F1414
      obtain ⟨_, _, ⟨T1444, L1445, kc1446, nc1447⟩, -, X1448, ⟨Lc1449, hQ1450, l1451, y1452, z1453⟩, st1454⟩ := X1431.virtualBack hx (y := mn13) (z := mn13) hown (mvT hZ (tw43 hw)) (mvT hZ (tw44 hw)) (notFace_of_selects (args := #[]) (mvT hZ (tw46 hw))) (mvT hZ (tw46 hw)) (mvT hZ (tw45 hw)) (by decide) (backOf (W := 0) (rmN l Z a0 hw [] a873 (own_F K) (FP.i2d p0) (FP.i2d p0) (0 : UInt64) (0 : Int32) T1387.heap n0 Z1413 F1414 g1407 F1422 g1409 g1410 F1424 ge875 (fun z => absurd z (by decide))) hZ (tw47 hw) (tw7 hw) (by decide) (by decide)) qa1457 qc1459 (g := (mkF m 204 #[vi p0, vi p1, vi p2, vi p3, vi K, vi (own_F K), vi md, vd (FP.i2d p0), ss, vd (FP.i2d p1), ss, vr a873, vi (1 : Int32), vd (FP.i2d p0), ss, vi (0 : Int32), vd (FP.i2d p0), ss, uu, uu, uu, uu, uu, uu] [(.ref a873)])) rfl (by rw [hml]; rfl) (Steps.refl _) (argsL := []) (rest := []) (lenOf pd_20 rfl) rfl (by show 2 * 0 + _ ≤ _; exact Nat.le_of_eq rfl) (hb hby at_204) (fun _ _ => ⟨rfl, e1439, (by decide : 1 + 0 ≤ _), (by decide : 5 + 0 ≤ _)⟩)
      dsimp only [Pt.U, Pt.locs, Pt.cells, Pt.slots] at X1448 l1451 y1452 z1453 st1454 hQ1450
      subst l1451 y1452 z1453
      obtain ⟨rfl, N1460, K1463, g1464, g1465, g1466, g1467, g1468⟩ := hQ1450
      have N1469 := Fr.app N1441 N1460
      have Z1470 : n0 ≤ T1444.heap.size := Nat.le_trans Z1413 K1463.1
      have F1471 : xa8 Z T1444.heap a873 := F1414.keep K1463
      clear F1414
      clear g1407
      clear F1422
      clear g1409
      clear g1410
      clear F1424
      have k1477 : own_G p e below E0 T1444 (mkF m 207 #[vi p0, vi p1, vi p2, vi p3, vi K, vi (own_F K), vi md, vd (FP.i2d p0), ss, vd (FP.i2d p1), ss, vr a873, vi (1 : Int32), vd (FP.i2d p0), ss, vi (0 : Int32), vd (FP.i2d p0), ss, uu, uu, uu, uu, uu, uu] [(.double (own_nv (FP.i2d p0) (FP.i2d p0) (0 : UInt64) (0 : Int32)))]) := fun tQ kk => k1443 tQ (st1454.trans kk)
      clear k1443 st1454
      have eq1478 : (own_nv (FP.i2d p0) (FP.i2d p0) (0 : UInt64) (0 : Int32)) = (FP.i2d p0) := by rw [own_nv, if_neg (by decide)]
      have F1479 : fd4 Z T1444.heap a873 (.double (FP.i2d p0)) := by rw [← eq1478]; exact g1465
      have eq1480 : (own_nr (0 : Int32)) = (0 : Int32) := by decide
      have F1481 : fd7 Z T1444.heap a873 (.int (0 : Int32)) := by rw [← eq1480]; exact g1468
      have eq1482 : (own_nv (FP.i2d p0) (FP.i2d p0) (0 : UInt64) (0 : Int32)) = (FP.i2d p0) := by rw [own_nv, if_neg (by decide)]
      rw [eq1482] at k1477
      have k1483 : own_G p e below E0 T1444 (mkF m 225 #[vi p0, vi p1, vi p2, vi p3, vi K, vi (own_F K), vi md, vd (FP.i2d p0), ss, vd (FP.i2d p1), ss, vr a873, vi (1 : Int32), vd (FP.i2d p0), ss, vi (0 : Int32), vd (FP.i2d p0), ss, vd (FP.i2d p0), ss, uu, uu, uu, uu] [(.int (3 : Int32)), (.int md), (.int (own_F K)), (.double (FP.i2d p1)), (.double (FP.i2d p0)), (.double (FP.i2d p0))]) := by
        intro tQ kk
        refine k1477 tQ ?_
        refine XS.dstore X1448.here hx rfl (hb hby at_207) rfl (l' := #[vi p0, vi p1, vi p2, vi p3, vi K, vi (own_F K), vi md, vd (FP.i2d p0), ss, vd (FP.i2d p1), ss, vr a873, vi (1 : Int32), vd (FP.i2d p0), ss, vi (0 : Int32), vd (FP.i2d p0), ss, vd (FP.i2d p0), ss, uu, uu, uu, uu]) rfl ?_
        refine XS.iload X1448.here hx rfl (hb hby at_209) rfl ?_
        refine XS.ifNo X1448.here hx rfl (hb hby at_211) rfl (own_if_eqN (by decide)) ?_
        refine XS.dload X1448.here hx rfl (hb hby at_214) rfl ?_
        show Steps p.tables e below (T1444.setTop (mkF m 216 #[vi p0, vi p1, vi p2, vi p3, vi K, vi (own_F K), vi md, vd (FP.i2d p0), ss, vd (FP.i2d p1), ss, vr a873, vi (1 : Int32), vd (FP.i2d p0), ss, vi (0 : Int32), vd (FP.i2d p0), ss, vd (FP.i2d p0), ss, uu, uu, uu, uu] [(.double (FP.i2d p0))])) tQ
        refine XS.dload X1448.here hx rfl (hb hby at_216) rfl ?_
        refine XS.dload X1448.here hx rfl (hb hby at_218) rfl ?_
        refine XS.iload X1448.here hx rfl (hb hby at_220) rfl ?_
        refine XS.iload X1448.here hx rfl (hb hby at_222) rfl ?_
        show Steps p.tables e below (T1444.setTop (mkF m 224 #[vi p0, vi p1, vi p2, vi p3, vi K, vi (own_F K), vi md, vd (FP.i2d p0), ss, vd (FP.i2d p1), ss, vr a873, vi (1 : Int32), vd (FP.i2d p0), ss, vi (0 : Int32), vd (FP.i2d p0), ss, vd (FP.i2d p0), ss, uu, uu, uu, uu] [(.int md), (.int (own_F K)), (.double (FP.i2d p1)), (.double (FP.i2d p0)), (.double (FP.i2d p0))])) tQ
        refine XS.iconst X1448.here hx rfl (hb hby at_224) ?_
        exact kk
      clear k1477
      obtain ⟨_, _, ⟨T1484, L1485, kc1486, nc1487⟩, -, X1488, ⟨Lc1489, hQ1490, l1491, y1492, z1493⟩, st1494⟩ := Jvm.LawKit.callS X1448 hx (y := mn16) hown (mvT hZ (tw48 hw)) (mvT hZ (tw49 hw)) (mvT hZ (tw50 hw)) (mvT hZ (tw51 hw)) (by decide) (backOf (W := 2) (rmE l Z a0 hw [] (FP.i2d p0) (FP.i2d p1) (own_F K) md (3 : Int32) T1444.heap n0 Z1470 (Fl.i2d_fin p0).noNaN (Fl.i2d_fin p1).noNaN (own_h1 p0 p1) (own_h2 p0 p1 (F := (own_F K)) hFb) (own_q3 p0 p1 (F := (own_F K)) (r := (own_mx 0 ((own_F K) - (3 : Int32)))) hFb (own_mxb hFb (by decide)))) hZ (tw51 hw) (tw50 hw) (by decide) (by decide)) (g := (mkF m 225 #[vi p0, vi p1, vi p2, vi p3, vi K, vi (own_F K), vi md, vd (FP.i2d p0), ss, vd (FP.i2d p1), ss, vr a873, vi (1 : Int32), vd (FP.i2d p0), ss, vi (0 : Int32), vd (FP.i2d p0), ss, vd (FP.i2d p0), ss, uu, uu, uu, uu] [(.int (3 : Int32)), (.int md), (.int (own_F K)), (.double (FP.i2d p1)), (.double (FP.i2d p0)), (.double (FP.i2d p0))])) rfl (by rw [hml]; rfl) (argsL := [(.double (FP.i2d p0)), (.double (FP.i2d p1)), (.int (own_F K)), (.int md), (.int (3 : Int32))]) (rest := [(.double (FP.i2d p0))]) (lenOf pd_21 rfl) rfl (by show 2 * 0 + _ ≤ _; exact Nat.le_of_eq rfl) (hb hby at_225) (fun _ _ => ⟨rfl, rfl, (by decide : 1 + 0 ≤ _), (by decide : 5 + 0 ≤ _)⟩)
      dsimp only [Pt.U, Pt.locs, Pt.cells, Pt.slots] at X1488 l1491 y1492 z1493 st1494 hQ1490
      subst l1491 y1492 z1493
      obtain ⟨rfl, N1495, e1496⟩ := hQ1490
      have N1498 := Fr.app N1469 N1495
      have k1499 : own_G p e below E0 T1484 (mkF m 228 #[vi p0, vi p1, vi p2, vi p3, vi K, vi (own_F K), vi md, vd (FP.i2d p0), ss, vd (FP.i2d p1), ss, vr a873, vi (1 : Int32), vd (FP.i2d p0), ss, vi (0 : Int32), vd (FP.i2d p0), ss, vd (FP.i2d p0), ss, uu, uu, uu, uu] [(.double (own_exp (FP.i2d p0) (FP.i2d p1) (own_F K) md (3 : Int32))), (.double (FP.i2d p0))]) := fun tQ kk => k1483 tQ (st1494 _ kk)
      clear k1483 st1494
      have k1500 : own_G p e below E0 T1484 (mkF m 241 #[vi p0, vi p1, vi p2, vi p3, vi K, vi (own_F K), vi md, vd (FP.i2d p0), ss, vd (FP.i2d p1), ss, vr a873, vi (1 : Int32), vd (FP.i2d p0), ss, vi (0 : Int32), vd (FP.i2d p0), ss, vd (FP.i2d p0), ss, uu, uu, uu, uu] [(.ref a873)]) := by
        intro tQ kk
        refine k1499 tQ ?_
        refine XS.dcmpS (v := (0 : Int32)) X1488.here hx rfl (hb hby at_228) rfl (own_e0 hm0 (Fl.i2d_fin p0).noNaN) ?_
        refine XS.ifNo X1488.here hx rfl (hb hby at_229) rfl (own_if_neN (by decide)) ?_
        refine XS.iconst X1488.here hx rfl (hb hby at_232) ?_
        refine XS.goto X1488.here hx rfl (pc0 := 233) (pc' := 237) rfl (hb hby at_233) (by decide) (by decide) ?_
        show Steps p.tables e below (T1484.setTop (mkF m 237 #[vi p0, vi p1, vi p2, vi p3, vi K, vi (own_F K), vi md, vd (FP.i2d p0), ss, vd (FP.i2d p1), ss, vr a873, vi (1 : Int32), vd (FP.i2d p0), ss, vi (0 : Int32), vd (FP.i2d p0), ss, vd (FP.i2d p0), ss, uu, uu, uu, uu] [(.int (1 : Int32))])) tQ
        refine XS.istore X1488.here hx rfl (hb hby at_237) rfl (l' := #[vi p0, vi p1, vi p2, vi p3, vi K, vi (own_F K), vi md, vd (FP.i2d p0), ss, vd (FP.i2d p1), ss, vr a873, vi (1 : Int32), vd (FP.i2d p0), ss, vi (0 : Int32), vd (FP.i2d p0), ss, vd (FP.i2d p0), ss, uu, uu, uu, uu]) rfl ?_
        refine XS.aload X1488.here hx rfl (hb hby at_239) rfl rfl ?_
        exact kk
      clear k1499
      obtain ⟨cq1512, kq1513, qa1514, qb1515, qc1516⟩ := isOf hZ e1496 F1471
      obtain ⟨_, _, ⟨T1501, L1502, kc1503, nc1504⟩, -, X1505, ⟨Lc1506, hQ1507, l1508, y1509, z1510⟩, st1511⟩ := X1488.virtualBack hx (y := mn13) (z := mn13) hown (mvT hZ (tw43 hw)) (mvT hZ (tw44 hw)) (notFace_of_selects (args := #[]) (mvT hZ (tw46 hw))) (mvT hZ (tw46 hw)) (mvT hZ (tw45 hw)) (by decide) (backOf (W := 0) (rmN l Z a0 hw [] a873 (own_F K) (FP.i2d p0) (FP.i2d p0) (0 : UInt64) (0 : Int32) T1444.heap n0 Z1470 F1471 g1464 F1479 g1466 g1467 F1481 ge875 (fun z => absurd z (by decide))) hZ (tw47 hw) (tw7 hw) (by decide) (by decide)) qa1514 qc1516 (g := (mkF m 241 #[vi p0, vi p1, vi p2, vi p3, vi K, vi (own_F K), vi md, vd (FP.i2d p0), ss, vd (FP.i2d p1), ss, vr a873, vi (1 : Int32), vd (FP.i2d p0), ss, vi (0 : Int32), vd (FP.i2d p0), ss, vd (FP.i2d p0), ss, uu, uu, uu, uu] [(.ref a873)])) rfl (by rw [hml]; rfl) (Steps.refl _) (argsL := []) (rest := []) (lenOf pd_20 rfl) rfl (by show 2 * 0 + _ ≤ _; exact Nat.le_of_eq rfl) (hb hby at_241) (fun _ _ => ⟨rfl, e1496, (by decide : 1 + 0 ≤ _), (by decide : 5 + 0 ≤ _)⟩)
      dsimp only [Pt.U, Pt.locs, Pt.cells, Pt.slots] at X1505 l1508 y1509 z1510 st1511 hQ1507
      subst l1508 y1509 z1510
      obtain ⟨rfl, N1517, K1520, g1521, g1522, g1523, g1524, g1525⟩ := hQ1507
      have N1526 := Fr.app N1498 N1517
      have Z1527 : n0 ≤ T1501.heap.size := Nat.le_trans Z1470 K1520.1
      have F1528 : xa8 Z T1501.heap a873 := F1471.keep K1520
      clear F1471
      clear g1464
      clear F1479
      clear g1466
      clear g1467
      clear F1481
      have k1534 : own_G p e below E0 T1501 (mkF m 244 #[vi p0, vi p1, vi p2, vi p3, vi K, vi (own_F K), vi md, vd (FP.i2d p0), ss, vd (FP.i2d p1), ss, vr a873, vi (1 : Int32), vd (FP.i2d p0), ss, vi (0 : Int32), vd (FP.i2d p0), ss, vd (FP.i2d p0), ss, uu, uu, uu, uu] [(.double (own_nv (FP.i2d p0) (FP.i2d p0) (0 : UInt64) (0 : Int32)))]) := fun tQ kk => k1500 tQ (st1511.trans kk)
      clear k1500 st1511
      have eq1535 : (own_nv (FP.i2d p0) (FP.i2d p0) (0 : UInt64) (0 : Int32)) = (FP.i2d p0) := by rw [own_nv, if_neg (by decide)]
      have F1536 : fd4 Z T1501.heap a873 (.double (FP.i2d p0)) := by rw [← eq1535]; exact g1522
      have eq1537 : (own_nr (0 : Int32)) = (0 : Int32) := by decide
      have F1538 : fd7 Z T1501.heap a873 (.int (0 : Int32)) := by rw [← eq1537]; exact g1525
      have eq1539 : (own_nv (FP.i2d p0) (FP.i2d p0) (0 : UInt64) (0 : Int32)) = (FP.i2d p0) := by rw [own_nv, if_neg (by decide)]
      rw [eq1539] at k1534
      have k1540 : own_G p e below E0 T1501 (mkF m 262 #[vi p0, vi p1, vi p2, vi p3, vi K, vi (own_F K), vi md, vd (FP.i2d p0), ss, vd (FP.i2d p1), ss, vr a873, vi (1 : Int32), vd (FP.i2d p0), ss, vi (0 : Int32), vd (FP.i2d p0), ss, vd (FP.i2d p0), ss, vd (FP.i2d p0), ss, uu, uu] [(.int (4 : Int32)), (.int md), (.int (own_F K)), (.double (FP.i2d p1)), (.double (FP.i2d p0)), (.double (FP.i2d p0))]) := by
        intro tQ kk
        refine k1534 tQ ?_
        refine XS.dstore X1505.here hx rfl (hb hby at_244) rfl (l' := #[vi p0, vi p1, vi p2, vi p3, vi K, vi (own_F K), vi md, vd (FP.i2d p0), ss, vd (FP.i2d p1), ss, vr a873, vi (1 : Int32), vd (FP.i2d p0), ss, vi (0 : Int32), vd (FP.i2d p0), ss, vd (FP.i2d p0), ss, vd (FP.i2d p0), ss, uu, uu]) rfl ?_
        refine XS.iload X1505.here hx rfl (hb hby at_246) rfl ?_
        refine XS.ifNo X1505.here hx rfl (hb hby at_248) rfl (own_if_eqN (by decide)) ?_
        refine XS.dload X1505.here hx rfl (hb hby at_251) rfl ?_
        show Steps p.tables e below (T1501.setTop (mkF m 253 #[vi p0, vi p1, vi p2, vi p3, vi K, vi (own_F K), vi md, vd (FP.i2d p0), ss, vd (FP.i2d p1), ss, vr a873, vi (1 : Int32), vd (FP.i2d p0), ss, vi (0 : Int32), vd (FP.i2d p0), ss, vd (FP.i2d p0), ss, vd (FP.i2d p0), ss, uu, uu] [(.double (FP.i2d p0))])) tQ
        refine XS.dload X1505.here hx rfl (hb hby at_253) rfl ?_
        refine XS.dload X1505.here hx rfl (hb hby at_255) rfl ?_
        refine XS.iload X1505.here hx rfl (hb hby at_257) rfl ?_
        refine XS.iload X1505.here hx rfl (hb hby at_259) rfl ?_
        show Steps p.tables e below (T1501.setTop (mkF m 261 #[vi p0, vi p1, vi p2, vi p3, vi K, vi (own_F K), vi md, vd (FP.i2d p0), ss, vd (FP.i2d p1), ss, vr a873, vi (1 : Int32), vd (FP.i2d p0), ss, vi (0 : Int32), vd (FP.i2d p0), ss, vd (FP.i2d p0), ss, vd (FP.i2d p0), ss, uu, uu] [(.int md), (.int (own_F K)), (.double (FP.i2d p1)), (.double (FP.i2d p0)), (.double (FP.i2d p0))])) tQ
        refine XS.iconst X1505.here hx rfl (hb hby at_261) ?_
        exact kk
      clear k1534
      obtain ⟨_, _, ⟨T1541, L1542, kc1543, nc1544⟩, -, X1545, ⟨Lc1546, hQ1547, l1548, y1549, z1550⟩, st1551⟩ := Jvm.LawKit.callS X1505 hx (y := mn16) hown (mvT hZ (tw48 hw)) (mvT hZ (tw49 hw)) (mvT hZ (tw50 hw)) (mvT hZ (tw51 hw)) (by decide) (backOf (W := 2) (rmE l Z a0 hw [] (FP.i2d p0) (FP.i2d p1) (own_F K) md (4 : Int32) T1501.heap n0 Z1527 (Fl.i2d_fin p0).noNaN (Fl.i2d_fin p1).noNaN (own_h1 p0 p1) (own_h2 p0 p1 (F := (own_F K)) hFb) (own_q3 p0 p1 (F := (own_F K)) (r := (own_mx 0 ((own_F K) - (4 : Int32)))) hFb (own_mxb hFb (by decide)))) hZ (tw51 hw) (tw50 hw) (by decide) (by decide)) (g := (mkF m 262 #[vi p0, vi p1, vi p2, vi p3, vi K, vi (own_F K), vi md, vd (FP.i2d p0), ss, vd (FP.i2d p1), ss, vr a873, vi (1 : Int32), vd (FP.i2d p0), ss, vi (0 : Int32), vd (FP.i2d p0), ss, vd (FP.i2d p0), ss, vd (FP.i2d p0), ss, uu, uu] [(.int (4 : Int32)), (.int md), (.int (own_F K)), (.double (FP.i2d p1)), (.double (FP.i2d p0)), (.double (FP.i2d p0))])) rfl (by rw [hml]; rfl) (argsL := [(.double (FP.i2d p0)), (.double (FP.i2d p1)), (.int (own_F K)), (.int md), (.int (4 : Int32))]) (rest := [(.double (FP.i2d p0))]) (lenOf pd_21 rfl) rfl (by show 2 * 0 + _ ≤ _; exact Nat.le_of_eq rfl) (hb hby at_262) (fun _ _ => ⟨rfl, rfl, (by decide : 1 + 0 ≤ _), (by decide : 5 + 0 ≤ _)⟩)
      dsimp only [Pt.U, Pt.locs, Pt.cells, Pt.slots] at X1545 l1548 y1549 z1550 st1551 hQ1547
      subst l1548 y1549 z1550
      obtain ⟨rfl, N1552, e1553⟩ := hQ1547
      have N1555 := Fr.app N1526 N1552
      have k1556 : own_G p e below E0 T1541 (mkF m 265 #[vi p0, vi p1, vi p2, vi p3, vi K, vi (own_F K), vi md, vd (FP.i2d p0), ss, vd (FP.i2d p1), ss, vr a873, vi (1 : Int32), vd (FP.i2d p0), ss, vi (0 : Int32), vd (FP.i2d p0), ss, vd (FP.i2d p0), ss, vd (FP.i2d p0), ss, uu, uu] [(.double (own_exp (FP.i2d p0) (FP.i2d p1) (own_F K) md (4 : Int32))), (.double (FP.i2d p0))]) := fun tQ kk => k1540 tQ (st1551 _ kk)
      clear k1540 st1551
      have k1557 : own_G p e below E0 T1541 (mkF m 278 #[vi p0, vi p1, vi p2, vi p3, vi K, vi (own_F K), vi md, vd (FP.i2d p0), ss, vd (FP.i2d p1), ss, vr a873, vi (1 : Int32), vd (FP.i2d p0), ss, vi (0 : Int32), vd (FP.i2d p0), ss, vd (FP.i2d p0), ss, vd (FP.i2d p0), ss, uu, uu] [(.ref a873)]) := by
        intro tQ kk
        refine k1556 tQ ?_
        refine XS.dcmpS (v := (0 : Int32)) X1545.here hx rfl (hb hby at_265) rfl (own_e0 hm0 (Fl.i2d_fin p0).noNaN) ?_
        refine XS.ifNo X1545.here hx rfl (hb hby at_266) rfl (own_if_neN (by decide)) ?_
        refine XS.iconst X1545.here hx rfl (hb hby at_269) ?_
        refine XS.goto X1545.here hx rfl (pc0 := 270) (pc' := 274) rfl (hb hby at_270) (by decide) (by decide) ?_
        show Steps p.tables e below (T1541.setTop (mkF m 274 #[vi p0, vi p1, vi p2, vi p3, vi K, vi (own_F K), vi md, vd (FP.i2d p0), ss, vd (FP.i2d p1), ss, vr a873, vi (1 : Int32), vd (FP.i2d p0), ss, vi (0 : Int32), vd (FP.i2d p0), ss, vd (FP.i2d p0), ss, vd (FP.i2d p0), ss, uu, uu] [(.int (1 : Int32))])) tQ
        refine XS.istore X1545.here hx rfl (hb hby at_274) rfl (l' := #[vi p0, vi p1, vi p2, vi p3, vi K, vi (own_F K), vi md, vd (FP.i2d p0), ss, vd (FP.i2d p1), ss, vr a873, vi (1 : Int32), vd (FP.i2d p0), ss, vi (0 : Int32), vd (FP.i2d p0), ss, vd (FP.i2d p0), ss, vd (FP.i2d p0), ss, uu, uu]) rfl ?_
        refine XS.aload X1545.here hx rfl (hb hby at_276) rfl rfl ?_
        exact kk
      clear k1556
      obtain ⟨cq1569, kq1570, qa1571, qb1572, qc1573⟩ := isOf hZ e1553 F1528
      obtain ⟨_, _, ⟨T1558, L1559, kc1560, nc1561⟩, -, X1562, ⟨Lc1563, hQ1564, l1565, y1566, z1567⟩, st1568⟩ := X1545.virtualBack hx (y := mn13) (z := mn13) hown (mvT hZ (tw43 hw)) (mvT hZ (tw44 hw)) (notFace_of_selects (args := #[]) (mvT hZ (tw46 hw))) (mvT hZ (tw46 hw)) (mvT hZ (tw45 hw)) (by decide) (backOf (W := 0) (rmN l Z a0 hw [] a873 (own_F K) (FP.i2d p0) (FP.i2d p0) (0 : UInt64) (0 : Int32) T1501.heap n0 Z1527 F1528 g1521 F1536 g1523 g1524 F1538 ge875 (fun z => absurd z (by decide))) hZ (tw47 hw) (tw7 hw) (by decide) (by decide)) qa1571 qc1573 (g := (mkF m 278 #[vi p0, vi p1, vi p2, vi p3, vi K, vi (own_F K), vi md, vd (FP.i2d p0), ss, vd (FP.i2d p1), ss, vr a873, vi (1 : Int32), vd (FP.i2d p0), ss, vi (0 : Int32), vd (FP.i2d p0), ss, vd (FP.i2d p0), ss, vd (FP.i2d p0), ss, uu, uu] [(.ref a873)])) rfl (by rw [hml]; rfl) (Steps.refl _) (argsL := []) (rest := []) (lenOf pd_20 rfl) rfl (by show 2 * 0 + _ ≤ _; exact Nat.le_of_eq rfl) (hb hby at_278) (fun _ _ => ⟨rfl, e1553, (by decide : 1 + 0 ≤ _), (by decide : 5 + 0 ≤ _)⟩)
      dsimp only [Pt.U, Pt.locs, Pt.cells, Pt.slots] at X1562 l1565 y1566 z1567 st1568 hQ1564
      subst l1565 y1566 z1567
      obtain ⟨rfl, N1574, K1577, g1578, g1579, g1580, g1581, g1582⟩ := hQ1564
      have N1583 := Fr.app N1555 N1574
      have Z1584 : n0 ≤ T1558.heap.size := Nat.le_trans Z1527 K1577.1
      have F1585 : xa8 Z T1558.heap a873 := F1528.keep K1577
      clear F1528
      clear g1521
      clear F1536
      clear g1523
      clear g1524
      clear F1538
      have k1591 : own_G p e below E0 T1558 (mkF m 281 #[vi p0, vi p1, vi p2, vi p3, vi K, vi (own_F K), vi md, vd (FP.i2d p0), ss, vd (FP.i2d p1), ss, vr a873, vi (1 : Int32), vd (FP.i2d p0), ss, vi (0 : Int32), vd (FP.i2d p0), ss, vd (FP.i2d p0), ss, vd (FP.i2d p0), ss, uu, uu] [(.double (own_nv (FP.i2d p0) (FP.i2d p0) (0 : UInt64) (0 : Int32)))]) := fun tQ kk => k1557 tQ (st1568.trans kk)
      clear k1557 st1568
      have eq1592 : (own_nv (FP.i2d p0) (FP.i2d p0) (0 : UInt64) (0 : Int32)) = (FP.i2d p0) := by rw [own_nv, if_neg (by decide)]
      have F1593 : fd4 Z T1558.heap a873 (.double (FP.i2d p0)) := by rw [← eq1592]; exact g1579
      have eq1594 : (own_nr (0 : Int32)) = (0 : Int32) := by decide
      have F1595 : fd7 Z T1558.heap a873 (.int (0 : Int32)) := by rw [← eq1594]; exact g1582
      have eq1596 : (own_nv (FP.i2d p0) (FP.i2d p0) (0 : UInt64) (0 : Int32)) = (FP.i2d p0) := by rw [own_nv, if_neg (by decide)]
      rw [eq1596] at k1591
      have k1597 : own_G p e below E0 T1558 (mkF m 299 #[vi p0, vi p1, vi p2, vi p3, vi K, vi (own_F K), vi md, vd (FP.i2d p0), ss, vd (FP.i2d p1), ss, vr a873, vi (1 : Int32), vd (FP.i2d p0), ss, vi (0 : Int32), vd (FP.i2d p0), ss, vd (FP.i2d p0), ss, vd (FP.i2d p0), ss, vd (FP.i2d p0), ss] [(.int (5 : Int32)), (.int md), (.int (own_F K)), (.double (FP.i2d p1)), (.double (FP.i2d p0)), (.double (FP.i2d p0))]) := by
        intro tQ kk
        refine k1591 tQ ?_
        refine XS.dstore X1562.here hx rfl (hb hby at_281) rfl (l' := #[vi p0, vi p1, vi p2, vi p3, vi K, vi (own_F K), vi md, vd (FP.i2d p0), ss, vd (FP.i2d p1), ss, vr a873, vi (1 : Int32), vd (FP.i2d p0), ss, vi (0 : Int32), vd (FP.i2d p0), ss, vd (FP.i2d p0), ss, vd (FP.i2d p0), ss, vd (FP.i2d p0), ss]) rfl ?_
        refine XS.iload X1562.here hx rfl (hb hby at_283) rfl ?_
        refine XS.ifNo X1562.here hx rfl (hb hby at_285) rfl (own_if_eqN (by decide)) ?_
        refine XS.dload X1562.here hx rfl (hb hby at_288) rfl ?_
        show Steps p.tables e below (T1558.setTop (mkF m 290 #[vi p0, vi p1, vi p2, vi p3, vi K, vi (own_F K), vi md, vd (FP.i2d p0), ss, vd (FP.i2d p1), ss, vr a873, vi (1 : Int32), vd (FP.i2d p0), ss, vi (0 : Int32), vd (FP.i2d p0), ss, vd (FP.i2d p0), ss, vd (FP.i2d p0), ss, vd (FP.i2d p0), ss] [(.double (FP.i2d p0))])) tQ
        refine XS.dload X1562.here hx rfl (hb hby at_290) rfl ?_
        refine XS.dload X1562.here hx rfl (hb hby at_292) rfl ?_
        refine XS.iload X1562.here hx rfl (hb hby at_294) rfl ?_
        refine XS.iload X1562.here hx rfl (hb hby at_296) rfl ?_
        show Steps p.tables e below (T1558.setTop (mkF m 298 #[vi p0, vi p1, vi p2, vi p3, vi K, vi (own_F K), vi md, vd (FP.i2d p0), ss, vd (FP.i2d p1), ss, vr a873, vi (1 : Int32), vd (FP.i2d p0), ss, vi (0 : Int32), vd (FP.i2d p0), ss, vd (FP.i2d p0), ss, vd (FP.i2d p0), ss, vd (FP.i2d p0), ss] [(.int md), (.int (own_F K)), (.double (FP.i2d p1)), (.double (FP.i2d p0)), (.double (FP.i2d p0))])) tQ
        refine XS.iconst X1562.here hx rfl (hb hby at_298) ?_
        exact kk
      clear k1591
      obtain ⟨_, _, ⟨T1598, L1599, kc1600, nc1601⟩, -, X1602, ⟨Lc1603, hQ1604, l1605, y1606, z1607⟩, st1608⟩ := Jvm.LawKit.callS X1562 hx (y := mn16) hown (mvT hZ (tw48 hw)) (mvT hZ (tw49 hw)) (mvT hZ (tw50 hw)) (mvT hZ (tw51 hw)) (by decide) (backOf (W := 2) (rmE l Z a0 hw [] (FP.i2d p0) (FP.i2d p1) (own_F K) md (5 : Int32) T1558.heap n0 Z1584 (Fl.i2d_fin p0).noNaN (Fl.i2d_fin p1).noNaN (own_h1 p0 p1) (own_h2 p0 p1 (F := (own_F K)) hFb) (own_q3 p0 p1 (F := (own_F K)) (r := (own_mx 0 ((own_F K) - (5 : Int32)))) hFb (own_mxb hFb (by decide)))) hZ (tw51 hw) (tw50 hw) (by decide) (by decide)) (g := (mkF m 299 #[vi p0, vi p1, vi p2, vi p3, vi K, vi (own_F K), vi md, vd (FP.i2d p0), ss, vd (FP.i2d p1), ss, vr a873, vi (1 : Int32), vd (FP.i2d p0), ss, vi (0 : Int32), vd (FP.i2d p0), ss, vd (FP.i2d p0), ss, vd (FP.i2d p0), ss, vd (FP.i2d p0), ss] [(.int (5 : Int32)), (.int md), (.int (own_F K)), (.double (FP.i2d p1)), (.double (FP.i2d p0)), (.double (FP.i2d p0))])) rfl (by rw [hml]; rfl) (argsL := [(.double (FP.i2d p0)), (.double (FP.i2d p1)), (.int (own_F K)), (.int md), (.int (5 : Int32))]) (rest := [(.double (FP.i2d p0))]) (lenOf pd_21 rfl) rfl (by show 2 * 0 + _ ≤ _; exact Nat.le_of_eq rfl) (hb hby at_299) (fun _ _ => ⟨rfl, rfl, (by decide : 1 + 0 ≤ _), (by decide : 5 + 0 ≤ _)⟩)
      dsimp only [Pt.U, Pt.locs, Pt.cells, Pt.slots] at X1602 l1605 y1606 z1607 st1608 hQ1604
      subst l1605 y1606 z1607
      obtain ⟨rfl, N1609, e1610⟩ := hQ1604
      have N1612 := Fr.app N1583 N1609
      have k1613 : own_G p e below E0 T1598 (mkF m 302 #[vi p0, vi p1, vi p2, vi p3, vi K, vi (own_F K), vi md, vd (FP.i2d p0), ss, vd (FP.i2d p1), ss, vr a873, vi (1 : Int32), vd (FP.i2d p0), ss, vi (0 : Int32), vd (FP.i2d p0), ss, vd (FP.i2d p0), ss, vd (FP.i2d p0), ss, vd (FP.i2d p0), ss] [(.double (own_exp (FP.i2d p0) (FP.i2d p1) (own_F K) md (5 : Int32))), (.double (FP.i2d p0))]) := fun tQ kk => k1597 tQ (st1608 _ kk)
      clear k1597 st1608
      have k1614 : own_G p e below E0 T1598 (mkF m 323 #[vi p0, vi p1, vi p2, vi p3, vi K, vi (own_F K), vi md, vd (FP.i2d p0), ss, vd (FP.i2d p1), ss, vr a873, vi (1 : Int32), vd (FP.i2d p0), ss, vi (0 : Int32), vd (FP.i2d p0), ss, vd (FP.i2d p0), ss, vd (FP.i2d p0), ss, vd (FP.i2d p0), ss] [(.int (own_c (own_z (FP.i2d p0)) (own_z (FP.i2d p1))))]) := by
        intro tQ kk
        refine k1613 tQ ?_
        refine XS.dcmpS (v := (0 : Int32)) X1602.here hx rfl (hb hby at_302) rfl (own_e0 hm0 (Fl.i2d_fin p0).noNaN) ?_
        refine XS.ifNo X1602.here hx rfl (hb hby at_303) rfl (own_if_neN (by decide)) ?_
        refine XS.iconst X1602.here hx rfl (hb hby at_306) ?_
        refine XS.goto X1602.here hx rfl (pc0 := 307) (pc' := 311) rfl (hb hby at_307) (by decide) (by decide) ?_
        show Steps p.tables e below (T1598.setTop (mkF m 311 #[vi p0, vi p1, vi p2, vi p3, vi K, vi (own_F K), vi md, vd (FP.i2d p0), ss, vd (FP.i2d p1), ss, vr a873, vi (1 : Int32), vd (FP.i2d p0), ss, vi (0 : Int32), vd (FP.i2d p0), ss, vd (FP.i2d p0), ss, vd (FP.i2d p0), ss, vd (FP.i2d p0), ss] [(.int (1 : Int32))])) tQ
        refine XS.istore X1602.here hx rfl (hb hby at_311) rfl (l' := #[vi p0, vi p1, vi p2, vi p3, vi K, vi (own_F K), vi md, vd (FP.i2d p0), ss, vd (FP.i2d p1), ss, vr a873, vi (1 : Int32), vd (FP.i2d p0), ss, vi (0 : Int32), vd (FP.i2d p0), ss, vd (FP.i2d p0), ss, vd (FP.i2d p0), ss, vd (FP.i2d p0), ss]) rfl ?_
        refine XS.iload X1602.here hx rfl (hb hby at_313) rfl ?_
        refine XS.ifNo X1602.here hx rfl (hb hby at_315) rfl (own_if_eqN (by decide)) ?_
        refine XS.dload X1602.here hx rfl (hb hby at_318) rfl ?_
        show Steps p.tables e below (T1598.setTop (mkF m 320 #[vi p0, vi p1, vi p2, vi p3, vi K, vi (own_F K), vi md, vd (FP.i2d p0), ss, vd (FP.i2d p1), ss, vr a873, vi (1 : Int32), vd (FP.i2d p0), ss, vi (0 : Int32), vd (FP.i2d p0), ss, vd (FP.i2d p0), ss, vd (FP.i2d p0), ss, vd (FP.i2d p0), ss] [(.double (FP.i2d p0))])) tQ
        refine XS.dload X1602.here hx rfl (hb hby at_320) rfl ?_
        refine XS.dcmpS (v := (own_c (own_z (FP.i2d p0)) (own_z (FP.i2d p1)))) X1602.here hx rfl (hb hby at_322) rfl (own_cE .l (own_cmpz (Fl.i2d_fin p0).noNaN (Fl.i2d_fin p1).noNaN)) ?_
        exact kk
      clear k1613
      by_cases c1615 : (own_z (FP.i2d p0)) = (own_z (FP.i2d p1))
      · skip
        have k1616 : own_G p e below E0 T1598 (mkF m 353 #[vi p0, vi p1, vi p2, vi p3, vi K, vi (own_F K), vi md, vd (FP.i2d p0), ss, vd (FP.i2d p1), ss, vr a873, vi (1 : Int32), vd (FP.i2d p0), ss, vi (0 : Int32), vd (FP.i2d p0), ss, vd (FP.i2d p0), ss, vd (FP.i2d p0), ss, vd (FP.i2d p0), ss] [(.ref a873)]) := by
          intro tQ kk
          refine k1614 tQ ?_
          refine XS.ifYes X1602.here hx rfl (pc0 := 323) (pc' := 339) rfl (hb hby at_323) rfl (own_c_eqY c1615) (by decide) (by decide) ?_
          refine XS.iconst X1602.here hx rfl (hb hby at_339) ?_
          refine XS.goto X1602.here hx rfl (pc0 := 340) (pc' := 344) rfl (hb hby at_340) (by decide) (by decide) ?_
          refine XS.istore X1602.here hx rfl (hb hby at_344) rfl (l' := #[vi p0, vi p1, vi p2, vi p3, vi K, vi (own_F K), vi md, vd (FP.i2d p0), ss, vd (FP.i2d p1), ss, vr a873, vi (1 : Int32), vd (FP.i2d p0), ss, vi (0 : Int32), vd (FP.i2d p0), ss, vd (FP.i2d p0), ss, vd (FP.i2d p0), ss, vd (FP.i2d p0), ss]) rfl ?_
          show Steps p.tables e below (T1598.setTop (mkF m 346 #[vi p0, vi p1, vi p2, vi p3, vi K, vi (own_F K), vi md, vd (FP.i2d p0), ss, vd (FP.i2d p1), ss, vr a873, vi (1 : Int32), vd (FP.i2d p0), ss, vi (0 : Int32), vd (FP.i2d p0), ss, vd (FP.i2d p0), ss, vd (FP.i2d p0), ss, vd (FP.i2d p0), ss] [])) tQ
          refine XS.iload X1602.here hx rfl (hb hby at_346) rfl ?_
          refine XS.ifNo X1602.here hx rfl (hb hby at_348) rfl (own_if_eqN (by decide)) ?_
          refine XS.aload X1602.here hx rfl (hb hby at_351) rfl rfl ?_
          exact kk
        clear k1614
        obtain ⟨cq1628, kq1629, qa1630, qb1631, qc1632⟩ := isOf hZ e1610 F1585
        obtain ⟨_, _, ⟨T1617, L1618, kc1619, nc1620⟩, -, X1621, ⟨Lc1622, hQ1623, l1624, y1625, z1626⟩, st1627⟩ := X1602.virtualBack hx (y := mn15) (z := mn15) hown (mvT hZ (tw57 hw)) (mvT hZ (tw58 hw)) (notFace_of_selects (args := #[]) (mvT hZ (tw60 hw))) (mvT hZ (tw60 hw)) (mvT hZ (tw59 hw)) (by decide) (backOf (W := 0) (rmVl l Z a0 hw [] a873 (FP.i2d p0) T1558.heap n0 Z1584 F1593) hZ (tw61 hw) (tw7 hw) (by decide) (by decide)) qa1630 qc1632 (g := (mkF m 353 #[vi p0, vi p1, vi p2, vi p3, vi K, vi (own_F K), vi md, vd (FP.i2d p0), ss, vd (FP.i2d p1), ss, vr a873, vi (1 : Int32), vd (FP.i2d p0), ss, vi (0 : Int32), vd (FP.i2d p0), ss, vd (FP.i2d p0), ss, vd (FP.i2d p0), ss, vd (FP.i2d p0), ss] [(.ref a873)])) rfl (by rw [hml]; rfl) (Steps.refl _) (argsL := []) (rest := []) (lenOf pd_20 rfl) rfl (by show 2 * 0 + _ ≤ _; exact Nat.le_of_eq rfl) (hb hby at_353) (fun _ _ => ⟨rfl, e1610, (by decide : 1 + 0 ≤ _), (by decide : 5 + 0 ≤ _)⟩)
        dsimp only [Pt.U, Pt.locs, Pt.cells, Pt.slots] at X1621 l1624 y1625 z1626 st1627 hQ1623
        subst l1624 y1625 z1626
        obtain ⟨rfl, N1633, e1634⟩ := hQ1623
        have N1636 := Fr.app N1612 N1633
        have k1637 : own_G p e below E0 T1617 (mkF m 356 #[vi p0, vi p1, vi p2, vi p3, vi K, vi (own_F K), vi md, vd (FP.i2d p0), ss, vd (FP.i2d p1), ss, vr a873, vi (1 : Int32), vd (FP.i2d p0), ss, vi (0 : Int32), vd (FP.i2d p0), ss, vd (FP.i2d p0), ss, vd (FP.i2d p0), ss, vd (FP.i2d p0), ss] [(.double (FP.i2d p0))]) := fun tQ kk => k1616 tQ (st1627.trans kk)
        clear k1616 st1627
        have k1638 : own_G p e below E0 T1617 (mkF m 376 #[vi p0, vi p1, vi p2, vi p3, vi K, vi (own_F K), vi md, vd (FP.i2d p0), ss, vd (FP.i2d p1), ss, vr a873, vi (1 : Int32), vd (FP.i2d p0), ss, vi (0 : Int32), vd (FP.i2d p0), ss, vd (FP.i2d p0), ss, vd (FP.i2d p0), ss, vd (FP.i2d p0), ss] [(.ref a873)]) := by
          intro tQ kk
          refine k1637 tQ ?_
          refine XS.dload X1621.here hx rfl (hb hby at_356) rfl ?_
          refine XS.dcmpS (v := (0 : Int32)) X1621.here hx rfl (hb hby at_358) rfl (dcmpV_self (Fl.i2d_fin p0).noNaN .l) ?_
          refine XS.ifNo X1621.here hx rfl (hb hby at_359) rfl (own_if_neN (by decide)) ?_
          refine XS.iconst X1621.here hx rfl (hb hby at_362) ?_
          show Steps p.tables e below (T1617.setTop (mkF m 363 #[vi p0, vi p1, vi p2, vi p3, vi K, vi (own_F K), vi md, vd (FP.i2d p0), ss, vd (FP.i2d p1), ss, vr a873, vi (1 : Int32), vd (FP.i2d p0), ss, vi (0 : Int32), vd (FP.i2d p0), ss, vd (FP.i2d p0), ss, vd (FP.i2d p0), ss, vd (FP.i2d p0), ss] [(.int (1 : Int32))])) tQ
          refine XS.goto X1621.here hx rfl (pc0 := 363) (pc' := 367) rfl (hb hby at_363) (by decide) (by decide) ?_
          refine XS.istore X1621.here hx rfl (hb hby at_367) rfl (l' := #[vi p0, vi p1, vi p2, vi p3, vi K, vi (own_F K), vi md, vd (FP.i2d p0), ss, vd (FP.i2d p1), ss, vr a873, vi (1 : Int32), vd (FP.i2d p0), ss, vi (0 : Int32), vd (FP.i2d p0), ss, vd (FP.i2d p0), ss, vd (FP.i2d p0), ss, vd (FP.i2d p0), ss]) rfl ?_
          refine XS.iload X1621.here hx rfl (hb hby at_369) rfl ?_
          refine XS.ifNo X1621.here hx rfl (hb hby at_371) rfl (own_if_eqN (by decide)) ?_
          show Steps p.tables e below (T1617.setTop (mkF m 374 #[vi p0, vi p1, vi p2, vi p3, vi K, vi (own_F K), vi md, vd (FP.i2d p0), ss, vd (FP.i2d p1), ss, vr a873, vi (1 : Int32), vd (FP.i2d p0), ss, vi (0 : Int32), vd (FP.i2d p0), ss, vd (FP.i2d p0), ss, vd (FP.i2d p0), ss, vd (FP.i2d p0), ss] [])) tQ
          refine XS.aload X1621.here hx rfl (hb hby at_374) rfl rfl ?_
          exact kk
        clear k1637
        obtain ⟨cq1650, kq1651, qa1652, qb1653, qc1654⟩ := isOf hZ e1634 F1585
        obtain ⟨_, _, ⟨T1639, L1640, kc1641, nc1642⟩, -, X1643, ⟨Lc1644, hQ1645, l1646, y1647, z1648⟩, st1649⟩ := X1621.virtualBack hx (y := mn14) (z := mn14) hown (mvT hZ (tw52 hw)) (mvT hZ (tw53 hw)) (notFace_of_selects (args := #[]) (mvT hZ (tw55 hw))) (mvT hZ (tw55 hw)) (mvT hZ (tw54 hw)) (by decide) (backOf (W := 0) (rmMv l Z a0 hw [] a873 (0 : Int32) T1558.heap n0 Z1584 F1595) hZ (tw56 hw) (tw7 hw) (by decide) (by decide)) qa1652 qc1654 (g := (mkF m 376 #[vi p0, vi p1, vi p2, vi p3, vi K, vi (own_F K), vi md, vd (FP.i2d p0), ss, vd (FP.i2d p1), ss, vr a873, vi (1 : Int32), vd (FP.i2d p0), ss, vi (0 : Int32), vd (FP.i2d p0), ss, vd (FP.i2d p0), ss, vd (FP.i2d p0), ss, vd (FP.i2d p0), ss] [(.ref a873)])) rfl (by rw [hml]; rfl) (Steps.refl _) (argsL := []) (rest := []) (lenOf pd_22 rfl) rfl (by show 2 * 0 + _ ≤ _; exact Nat.le_of_eq rfl) (hb hby at_376) (fun _ _ => ⟨rfl, e1634, (by decide : 1 + 0 ≤ _), (by decide : 5 + 0 ≤ _)⟩)
        dsimp only [Pt.U, Pt.locs, Pt.cells, Pt.slots] at X1643 l1646 y1647 z1648 st1649 hQ1645
        subst l1646 y1647 z1648
        obtain ⟨rfl, N1655, e1656⟩ := hQ1645
        have N1658 := Fr.app N1636 N1655
        have k1659 : own_G p e below E0 T1639 (mkF m 379 #[vi p0, vi p1, vi p2, vi p3, vi K, vi (own_F K), vi md, vd (FP.i2d p0), ss, vd (FP.i2d p1), ss, vr a873, vi (1 : Int32), vd (FP.i2d p0), ss, vi (0 : Int32), vd (FP.i2d p0), ss, vd (FP.i2d p0), ss, vd (FP.i2d p0), ss, vd (FP.i2d p0), ss] [(.int (own_mv (0 : Int32)))]) := fun tQ kk => k1638 tQ (st1649.trans kk)
        clear k1638 st1649
        have eq1660 : (own_mv (0 : Int32)) = (0 : Int32) := by decide
        rw [eq1660] at k1659
        have k1661 : own_G p e below E0 T1639 (mkF m 391 #[vi p0, vi p1, vi p2, vi p3, vi K, vi (own_F K), vi md, vd (FP.i2d p0), ss, vd (FP.i2d p1), ss, vr a873, vi (1 : Int32), vd (FP.i2d p0), ss, vi (0 : Int32), vd (FP.i2d p0), ss, vd (FP.i2d p0), ss, vd (FP.i2d p0), ss, vd (FP.i2d p0), ss] [(.int (1 : Int32))]) := by
          intro tQ kk
          refine k1659 tQ ?_
          refine XS.ifNo X1643.here hx rfl (hb hby at_379) rfl (own_if_neN (by decide)) ?_
          refine XS.iconst X1643.here hx rfl (hb hby at_382) ?_
          refine XS.goto X1643.here hx rfl (pc0 := 383) (pc' := 387) rfl (hb hby at_383) (by decide) (by decide) ?_
          refine XS.istore X1643.here hx rfl (hb hby at_387) rfl (l' := #[vi p0, vi p1, vi p2, vi p3, vi K, vi (own_F K), vi md, vd (FP.i2d p0), ss, vd (FP.i2d p1), ss, vr a873, vi (1 : Int32), vd (FP.i2d p0), ss, vi (0 : Int32), vd (FP.i2d p0), ss, vd (FP.i2d p0), ss, vd (FP.i2d p0), ss, vd (FP.i2d p0), ss]) rfl ?_
          show Steps p.tables e below (T1639.setTop (mkF m 389 #[vi p0, vi p1, vi p2, vi p3, vi K, vi (own_F K), vi md, vd (FP.i2d p0), ss, vd (FP.i2d p1), ss, vr a873, vi (1 : Int32), vd (FP.i2d p0), ss, vi (0 : Int32), vd (FP.i2d p0), ss, vd (FP.i2d p0), ss, vd (FP.i2d p0), ss, vd (FP.i2d p0), ss] [])) tQ
          refine XS.iload X1643.here hx rfl (hb hby at_389) rfl ?_
          exact kk
        clear k1659
        obtain ⟨fs, hr, hrun, hended, hW, hsame⟩ := X1643.leave (v := some (.int (1 : Int32))) (fun h => by rw [Bd.returns] at h; cases h)
        have hrun0 := k1661 _ (retOut X1643 hx Bd.returns (t := .boolean) rfl (Or.inl ⟨rfl, Or.inr (Or.inl rfl), _, rfl⟩) (hb hby at_391) hr)
        subst hE0
        refine ⟨_, _, hrun0, hrun, hended, _, _, rfl, ?_, ⟨_, rfl⟩, hW, hsame.mono (by decide) (by decide)⟩
        show Qrm0 Z p0 p1 p2 p3 h0 n0 _ T1639.heap _
        rw [e1656]
        exact ⟨rfl, N1658⟩
      · skip
        have k1662 : own_G p e below E0 T1598 (mkF m 353 #[vi p0, vi p1, vi p2, vi p3, vi K, vi (own_F K), vi md, vd (FP.i2d p0), ss, vd (FP.i2d p1), ss, vr a873, vi (1 : Int32), vd (FP.i2d p0), ss, vi (0 : Int32), vd (FP.i2d p0), ss, vd (FP.i2d p0), ss, vd (FP.i2d p0), ss, vd (FP.i2d p0), ss] [(.ref a873)]) := by
          intro tQ kk
          refine k1614 tQ ?_
          refine XS.ifNo X1602.here hx rfl (hb hby at_323) rfl (own_c_eqN c1615) ?_
          refine XS.iload X1602.here hx rfl (hb hby at_326) rfl ?_
          refine XS.ifNo X1602.here hx rfl (hb hby at_328) rfl (own_if_neN hm0) ?_
          refine XS.dload X1602.here hx rfl (hb hby at_331) rfl ?_
          show Steps p.tables e below (T1598.setTop (mkF m 333 #[vi p0, vi p1, vi p2, vi p3, vi K, vi (own_F K), vi md, vd (FP.i2d p0), ss, vd (FP.i2d p1), ss, vr a873, vi (1 : Int32), vd (FP.i2d p0), ss, vi (0 : Int32), vd (FP.i2d p0), ss, vd (FP.i2d p0), ss, vd (FP.i2d p0), ss, vd (FP.i2d p0), ss] [(.double (FP.i2d p0))])) tQ
          refine XS.dload X1602.here hx rfl (hb hby at_333) rfl ?_
          refine XS.dcmpS (v := (0 : Int32)) X1602.here hx rfl (hb hby at_335) rfl (dcmpV_self (Fl.i2d_fin p0).noNaN .l) ?_
          refine XS.ifNo X1602.here hx rfl (hb hby at_336) rfl (own_if_neN (by decide)) ?_
          refine XS.iconst X1602.here hx rfl (hb hby at_339) ?_
          show Steps p.tables e below (T1598.setTop (mkF m 340 #[vi p0, vi p1, vi p2, vi p3, vi K, vi (own_F K), vi md, vd (FP.i2d p0), ss, vd (FP.i2d p1), ss, vr a873, vi (1 : Int32), vd (FP.i2d p0), ss, vi (0 : Int32), vd (FP.i2d p0), ss, vd (FP.i2d p0), ss, vd (FP.i2d p0), ss, vd (FP.i2d p0), ss] [(.int (1 : Int32))])) tQ
          refine XS.goto X1602.here hx rfl (pc0 := 340) (pc' := 344) rfl (hb hby at_340) (by decide) (by decide) ?_
          refine XS.istore X1602.here hx rfl (hb hby at_344) rfl (l' := #[vi p0, vi p1, vi p2, vi p3, vi K, vi (own_F K), vi md, vd (FP.i2d p0), ss, vd (FP.i2d p1), ss, vr a873, vi (1 : Int32), vd (FP.i2d p0), ss, vi (0 : Int32), vd (FP.i2d p0), ss, vd (FP.i2d p0), ss, vd (FP.i2d p0), ss, vd (FP.i2d p0), ss]) rfl ?_
          refine XS.iload X1602.here hx rfl (hb hby at_346) rfl ?_
          refine XS.ifNo X1602.here hx rfl (hb hby at_348) rfl (own_if_eqN (by decide)) ?_
          show Steps p.tables e below (T1598.setTop (mkF m 351 #[vi p0, vi p1, vi p2, vi p3, vi K, vi (own_F K), vi md, vd (FP.i2d p0), ss, vd (FP.i2d p1), ss, vr a873, vi (1 : Int32), vd (FP.i2d p0), ss, vi (0 : Int32), vd (FP.i2d p0), ss, vd (FP.i2d p0), ss, vd (FP.i2d p0), ss, vd (FP.i2d p0), ss] [])) tQ
          refine XS.aload X1602.here hx rfl (hb hby at_351) rfl rfl ?_
          exact kk
        clear k1614
        obtain ⟨cq1674, kq1675, qa1676, qb1677, qc1678⟩ := isOf hZ e1610 F1585
        obtain ⟨_, _, ⟨T1663, L1664, kc1665, nc1666⟩, -, X1667, ⟨Lc1668, hQ1669, l1670, y1671, z1672⟩, st1673⟩ := X1602.virtualBack hx (y := mn15) (z := mn15) hown (mvT hZ (tw57 hw)) (mvT hZ (tw58 hw)) (notFace_of_selects (args := #[]) (mvT hZ (tw60 hw))) (mvT hZ (tw60 hw)) (mvT hZ (tw59 hw)) (by decide) (backOf (W := 0) (rmVl l Z a0 hw [] a873 (FP.i2d p0) T1558.heap n0 Z1584 F1593) hZ (tw61 hw) (tw7 hw) (by decide) (by decide)) qa1676 qc1678 (g := (mkF m 353 #[vi p0, vi p1, vi p2, vi p3, vi K, vi (own_F K), vi md, vd (FP.i2d p0), ss, vd (FP.i2d p1), ss, vr a873, vi (1 : Int32), vd (FP.i2d p0), ss, vi (0 : Int32), vd (FP.i2d p0), ss, vd (FP.i2d p0), ss, vd (FP.i2d p0), ss, vd (FP.i2d p0), ss] [(.ref a873)])) rfl (by rw [hml]; rfl) (Steps.refl _) (argsL := []) (rest := []) (lenOf pd_20 rfl) rfl (by show 2 * 0 + _ ≤ _; exact Nat.le_of_eq rfl) (hb hby at_353) (fun _ _ => ⟨rfl, e1610, (by decide : 1 + 0 ≤ _), (by decide : 5 + 0 ≤ _)⟩)
        dsimp only [Pt.U, Pt.locs, Pt.cells, Pt.slots] at X1667 l1670 y1671 z1672 st1673 hQ1669
        subst l1670 y1671 z1672
        obtain ⟨rfl, N1679, e1680⟩ := hQ1669
        have N1682 := Fr.app N1612 N1679
        have k1683 : own_G p e below E0 T1663 (mkF m 356 #[vi p0, vi p1, vi p2, vi p3, vi K, vi (own_F K), vi md, vd (FP.i2d p0), ss, vd (FP.i2d p1), ss, vr a873, vi (1 : Int32), vd (FP.i2d p0), ss, vi (0 : Int32), vd (FP.i2d p0), ss, vd (FP.i2d p0), ss, vd (FP.i2d p0), ss, vd (FP.i2d p0), ss] [(.double (FP.i2d p0))]) := fun tQ kk => k1662 tQ (st1673.trans kk)
        clear k1662 st1673
        have k1684 : own_G p e below E0 T1663 (mkF m 376 #[vi p0, vi p1, vi p2, vi p3, vi K, vi (own_F K), vi md, vd (FP.i2d p0), ss, vd (FP.i2d p1), ss, vr a873, vi (1 : Int32), vd (FP.i2d p0), ss, vi (0 : Int32), vd (FP.i2d p0), ss, vd (FP.i2d p0), ss, vd (FP.i2d p0), ss, vd (FP.i2d p0), ss] [(.ref a873)]) := by
          intro tQ kk
          refine k1683 tQ ?_
          refine XS.dload X1667.here hx rfl (hb hby at_356) rfl ?_
          refine XS.dcmpS (v := (0 : Int32)) X1667.here hx rfl (hb hby at_358) rfl (dcmpV_self (Fl.i2d_fin p0).noNaN .l) ?_
          refine XS.ifNo X1667.here hx rfl (hb hby at_359) rfl (own_if_neN (by decide)) ?_
          refine XS.iconst X1667.here hx rfl (hb hby at_362) ?_
          show Steps p.tables e below (T1663.setTop (mkF m 363 #[vi p0, vi p1, vi p2, vi p3, vi K, vi (own_F K), vi md, vd (FP.i2d p0), ss, vd (FP.i2d p1), ss, vr a873, vi (1 : Int32), vd (FP.i2d p0), ss, vi (0 : Int32), vd (FP.i2d p0), ss, vd (FP.i2d p0), ss, vd (FP.i2d p0), ss, vd (FP.i2d p0), ss] [(.int (1 : Int32))])) tQ
          refine XS.goto X1667.here hx rfl (pc0 := 363) (pc' := 367) rfl (hb hby at_363) (by decide) (by decide) ?_
          refine XS.istore X1667.here hx rfl (hb hby at_367) rfl (l' := #[vi p0, vi p1, vi p2, vi p3, vi K, vi (own_F K), vi md, vd (FP.i2d p0), ss, vd (FP.i2d p1), ss, vr a873, vi (1 : Int32), vd (FP.i2d p0), ss, vi (0 : Int32), vd (FP.i2d p0), ss, vd (FP.i2d p0), ss, vd (FP.i2d p0), ss, vd (FP.i2d p0), ss]) rfl ?_
          refine XS.iload X1667.here hx rfl (hb hby at_369) rfl ?_
          refine XS.ifNo X1667.here hx rfl (hb hby at_371) rfl (own_if_eqN (by decide)) ?_
          show Steps p.tables e below (T1663.setTop (mkF m 374 #[vi p0, vi p1, vi p2, vi p3, vi K, vi (own_F K), vi md, vd (FP.i2d p0), ss, vd (FP.i2d p1), ss, vr a873, vi (1 : Int32), vd (FP.i2d p0), ss, vi (0 : Int32), vd (FP.i2d p0), ss, vd (FP.i2d p0), ss, vd (FP.i2d p0), ss, vd (FP.i2d p0), ss] [])) tQ
          refine XS.aload X1667.here hx rfl (hb hby at_374) rfl rfl ?_
          exact kk
        clear k1683
        obtain ⟨cq1696, kq1697, qa1698, qb1699, qc1700⟩ := isOf hZ e1680 F1585
        obtain ⟨_, _, ⟨T1685, L1686, kc1687, nc1688⟩, -, X1689, ⟨Lc1690, hQ1691, l1692, y1693, z1694⟩, st1695⟩ := X1667.virtualBack hx (y := mn14) (z := mn14) hown (mvT hZ (tw52 hw)) (mvT hZ (tw53 hw)) (notFace_of_selects (args := #[]) (mvT hZ (tw55 hw))) (mvT hZ (tw55 hw)) (mvT hZ (tw54 hw)) (by decide) (backOf (W := 0) (rmMv l Z a0 hw [] a873 (0 : Int32) T1558.heap n0 Z1584 F1595) hZ (tw56 hw) (tw7 hw) (by decide) (by decide)) qa1698 qc1700 (g := (mkF m 376 #[vi p0, vi p1, vi p2, vi p3, vi K, vi (own_F K), vi md, vd (FP.i2d p0), ss, vd (FP.i2d p1), ss, vr a873, vi (1 : Int32), vd (FP.i2d p0), ss, vi (0 : Int32), vd (FP.i2d p0), ss, vd (FP.i2d p0), ss, vd (FP.i2d p0), ss, vd (FP.i2d p0), ss] [(.ref a873)])) rfl (by rw [hml]; rfl) (Steps.refl _) (argsL := []) (rest := []) (lenOf pd_22 rfl) rfl (by show 2 * 0 + _ ≤ _; exact Nat.le_of_eq rfl) (hb hby at_376) (fun _ _ => ⟨rfl, e1680, (by decide : 1 + 0 ≤ _), (by decide : 5 + 0 ≤ _)⟩)
        dsimp only [Pt.U, Pt.locs, Pt.cells, Pt.slots] at X1689 l1692 y1693 z1694 st1695 hQ1691
        subst l1692 y1693 z1694
        obtain ⟨rfl, N1701, e1702⟩ := hQ1691
        have N1704 := Fr.app N1682 N1701
        have k1705 : own_G p e below E0 T1685 (mkF m 379 #[vi p0, vi p1, vi p2, vi p3, vi K, vi (own_F K), vi md, vd (FP.i2d p0), ss, vd (FP.i2d p1), ss, vr a873, vi (1 : Int32), vd (FP.i2d p0), ss, vi (0 : Int32), vd (FP.i2d p0), ss, vd (FP.i2d p0), ss, vd (FP.i2d p0), ss, vd (FP.i2d p0), ss] [(.int (own_mv (0 : Int32)))]) := fun tQ kk => k1684 tQ (st1695.trans kk)
        clear k1684 st1695
        have eq1706 : (own_mv (0 : Int32)) = (0 : Int32) := by decide
        rw [eq1706] at k1705
        have k1707 : own_G p e below E0 T1685 (mkF m 391 #[vi p0, vi p1, vi p2, vi p3, vi K, vi (own_F K), vi md, vd (FP.i2d p0), ss, vd (FP.i2d p1), ss, vr a873, vi (1 : Int32), vd (FP.i2d p0), ss, vi (0 : Int32), vd (FP.i2d p0), ss, vd (FP.i2d p0), ss, vd (FP.i2d p0), ss, vd (FP.i2d p0), ss] [(.int (1 : Int32))]) := by
          intro tQ kk
          refine k1705 tQ ?_
          refine XS.ifNo X1689.here hx rfl (hb hby at_379) rfl (own_if_neN (by decide)) ?_
          refine XS.iconst X1689.here hx rfl (hb hby at_382) ?_
          refine XS.goto X1689.here hx rfl (pc0 := 383) (pc' := 387) rfl (hb hby at_383) (by decide) (by decide) ?_
          refine XS.istore X1689.here hx rfl (hb hby at_387) rfl (l' := #[vi p0, vi p1, vi p2, vi p3, vi K, vi (own_F K), vi md, vd (FP.i2d p0), ss, vd (FP.i2d p1), ss, vr a873, vi (1 : Int32), vd (FP.i2d p0), ss, vi (0 : Int32), vd (FP.i2d p0), ss, vd (FP.i2d p0), ss, vd (FP.i2d p0), ss, vd (FP.i2d p0), ss]) rfl ?_
          show Steps p.tables e below (T1685.setTop (mkF m 389 #[vi p0, vi p1, vi p2, vi p3, vi K, vi (own_F K), vi md, vd (FP.i2d p0), ss, vd (FP.i2d p1), ss, vr a873, vi (1 : Int32), vd (FP.i2d p0), ss, vi (0 : Int32), vd (FP.i2d p0), ss, vd (FP.i2d p0), ss, vd (FP.i2d p0), ss, vd (FP.i2d p0), ss] [])) tQ
          refine XS.iload X1689.here hx rfl (hb hby at_389) rfl ?_
          exact kk
        clear k1705
        obtain ⟨fs, hr, hrun, hended, hW, hsame⟩ := X1689.leave (v := some (.int (1 : Int32))) (fun h => by rw [Bd.returns] at h; cases h)
        have hrun0 := k1707 _ (retOut X1689 hx Bd.returns (t := .boolean) rfl (Or.inl ⟨rfl, Or.inr (Or.inl rfl), _, rfl⟩) (hb hby at_391) hr)
        subst hE0
        refine ⟨_, _, hrun0, hrun, hended, _, _, rfl, ?_, ⟨_, rfl⟩, hW, hsame.mono (by decide) (by decide)⟩
        show Qrm0 Z p0 p1 p2 p3 h0 n0 _ T1685.heap _
        rw [e1702]
        exact ⟨rfl, N1704⟩
    · skip
      have k1708 : own_G p e below E0 T884 (mkF m 73 #[vi p0, vi p1, vi p2, vi p3, vi K, vi (own_F K), vi md, vd (FP.i2d p0), ss, vd (FP.i2d p1), ss, vr a873, uu, uu, uu, uu, uu, uu, uu, uu, uu, uu, uu, uu] [(.int (1 : Int32)), (.double (FP.i2d p1)), (.ref a873)]) := by
        intro tQ kk
        refine k1304 tQ ?_
        refine XS.icmpNo X888.here hx rfl (hb hby at_65) rfl (own_ic_ltN cm2) ?_
        refine XS.aload X888.here hx rfl (hb hby at_68) rfl rfl ?_
        refine XS.dload X888.here hx rfl (hb hby at_70) rfl ?_
        refine XS.iconst X888.here hx rfl (hb hby at_72) ?_
        exact kk
      clear k1304
      obtain ⟨cq1720, kq1721, qa1722, qb1723, qc1724⟩ := isOf hZ rfl F906
      obtain ⟨_, _, ⟨T1709, L1710, kc1711, nc1712⟩, -, X1713, ⟨Lc1714, hQ1715, l1716, y1717, z1718⟩, st1719⟩ := X888.virtualBack hx (y := mn12) (z := mn12) hown (mvT hZ (tw36 hw)) (mvT hZ (tw37 hw)) (notFace_of_selects (args := #[]) (mvT hZ (tw39 hw))) (mvT hZ (tw39 hw)) (mvT hZ (tw38 hw)) (by decide) (backOf (W := 0) (rmS1 l Z a0 hw [] a873 (FP.i2d p1) (own_F K) (FP.i2d p0) (FP.i2d p0) (0 : UInt64) (0 : Int32) T884.heap n0 Z905 F906 g899 g900 g901 g902 g903 ge875 (Fl.i2d_fin p1).noNaN (Fl.i2d_fin p0).noNaN (fun _ => ⟨own_h1 p0 p1, own_h2 p0 p1 hFb⟩)) hZ (tw40 hw) (tw7 hw) (by decide) (by decide)) qa1722 qc1724 (g := (mkF m 73 #[vi p0, vi p1, vi p2, vi p3, vi K, vi (own_F K), vi md, vd (FP.i2d p0), ss, vd (FP.i2d p1), ss, vr a873, uu, uu, uu, uu, uu, uu, uu, uu, uu, uu, uu, uu] [(.int (1 : Int32)), (.double (FP.i2d p1)), (.ref a873)])) rfl (by rw [hml]; rfl) (Steps.refl _) (argsL := [(.double (FP.i2d p1)), (.int (1 : Int32))]) (rest := []) (lenOf pd_19 rfl) rfl (by show 2 * 0 + _ ≤ _; exact Nat.le_of_eq rfl) (hb hby at_73) (fun _ _ => ⟨rfl, rfl, (by decide : 1 + 0 ≤ _), (by decide : 5 + 0 ≤ _)⟩)
      dsimp only [Pt.U, Pt.locs, Pt.cells, Pt.slots] at X1713 l1716 y1717 z1718 st1719 hQ1715
      subst l1716 y1717 z1718
      obtain ⟨rfl, N1725, K1728, g1729, g1730, g1731, g1732, g1733⟩ := hQ1715
      have N1734 := Fr.app N904 N1725
      have Z1735 : n0 ≤ T1709.heap.size := Nat.le_trans Z905 K1728.1
      have F1736 : xa8 Z T1709.heap a873 := F906.keep K1728
      clear F906
      clear g899
      clear g900
      clear g901
      clear g902
      clear g903
      have k1742 : own_G p e below E0 T1709 (mkF m 76 #[vi p0, vi p1, vi p2, vi p3, vi K, vi (own_F K), vi md, vd (FP.i2d p0), ss, vd (FP.i2d p1), ss, vr a873, uu, uu, uu, uu, uu, uu, uu, uu, uu, uu, uu, uu] []) := fun tQ kk => k1708 tQ (st1719.trans kk)
      clear k1708 st1719
      rcases (Decidable.em (own_z (FP.i2d p1) = own_z (FP.i2d p0))) with cE | cE
      · skip
        have eq1743 : (own_tg (FP.i2d p1) (FP.i2d p0)) = (FP.i2d p0) := by rw [own_tg, if_pos cE]
        have F1744 : fd5 Z T1709.heap a873 (.double (FP.i2d p0)) := by rw [← eq1743]; exact g1731
        have eq1745 : (own_sp (FP.i2d p1) (FP.i2d p0) (FP.i2d p0) (0 : UInt64) (own_F K)) = (0 : UInt64) := by rw [own_sp, if_pos cE]
        have F1746 : fd6 Z T1709.heap a873 (.double (0 : UInt64)) := by rw [← eq1745]; exact g1732
        have eq1747 : (own_rm (FP.i2d p1) (FP.i2d p0) (0 : Int32) (own_F K)) = (0 : Int32) := by rw [own_rm, if_pos cE]
        have F1748 : fd7 Z T1709.heap a873 (.int (0 : Int32)) := by rw [← eq1747]; exact g1733
        have k1749 : own_G p e below E0 T1709 (mkF m 81 #[vi p0, vi p1, vi p2, vi p3, vi K, vi (own_F K), vi md, vd (FP.i2d p0), ss, vd (FP.i2d p1), ss, vr a873, vi (1 : Int32), uu, uu, uu, uu, uu, uu, uu, uu, uu, uu, uu] [(.ref a873)]) := by
          intro tQ kk
          refine k1742 tQ ?_
          refine XS.iconst X1713.here hx rfl (hb hby at_76) ?_
          refine XS.istore X1713.here hx rfl (hb hby at_77) rfl (l' := #[vi p0, vi p1, vi p2, vi p3, vi K, vi (own_F K), vi md, vd (FP.i2d p0), ss, vd (FP.i2d p1), ss, vr a873, vi (1 : Int32), uu, uu, uu, uu, uu, uu, uu, uu, uu, uu, uu]) rfl ?_
          refine XS.aload X1713.here hx rfl (hb hby at_79) rfl rfl ?_
          exact kk
        clear k1742
        obtain ⟨cq1761, kq1762, qa1763, qb1764, qc1765⟩ := isOf hZ rfl F1736
        obtain ⟨_, _, ⟨T1750, L1751, kc1752, nc1753⟩, -, X1754, ⟨Lc1755, hQ1756, l1757, y1758, z1759⟩, st1760⟩ := X1713.virtualBack hx (y := mn13) (z := mn13) hown (mvT hZ (tw43 hw)) (mvT hZ (tw44 hw)) (notFace_of_selects (args := #[]) (mvT hZ (tw46 hw))) (mvT hZ (tw46 hw)) (mvT hZ (tw45 hw)) (by decide) (backOf (W := 0) (rmN l Z a0 hw [] a873 (own_F K) (FP.i2d p0) (FP.i2d p0) (0 : UInt64) (0 : Int32) T1709.heap n0 Z1735 F1736 g1729 g1730 F1744 F1746 F1748 ge875 (fun z => absurd z (by decide))) hZ (tw47 hw) (tw7 hw) (by decide) (by decide)) qa1763 qc1765 (g := (mkF m 81 #[vi p0, vi p1, vi p2, vi p3, vi K, vi (own_F K), vi md, vd (FP.i2d p0), ss, vd (FP.i2d p1), ss, vr a873, vi (1 : Int32), uu, uu, uu, uu, uu, uu, uu, uu, uu, uu, uu] [(.ref a873)])) rfl (by rw [hml]; rfl) (Steps.refl _) (argsL := []) (rest := []) (lenOf pd_20 rfl) rfl (by show 2 * 0 + _ ≤ _; exact Nat.le_of_eq rfl) (hb hby at_81) (fun _ _ => ⟨rfl, rfl, (by decide : 1 + 0 ≤ _), (by decide : 5 + 0 ≤ _)⟩)
        dsimp only [Pt.U, Pt.locs, Pt.cells, Pt.slots] at X1754 l1757 y1758 z1759 st1760 hQ1756
        subst l1757 y1758 z1759
        obtain ⟨rfl, N1766, K1769, g1770, g1771, g1772, g1773, g1774⟩ := hQ1756
        have N1775 := Fr.app N1734 N1766
        have Z1776 : n0 ≤ T1750.heap.size := Nat.le_trans Z1735 K1769.1
        have F1777 : xa8 Z T1750.heap a873 := F1736.keep K1769
        clear F1736
        clear g1729
        clear g1730
        clear F1744
        clear F1746
        clear F1748
        have k1783 : own_G p e below E0 T1750 (mkF m 84 #[vi p0, vi p1, vi p2, vi p3, vi K, vi (own_F K), vi md, vd (FP.i2d p0), ss, vd (FP.i2d p1), ss, vr a873, vi (1 : Int32), uu, uu, uu, uu, uu, uu, uu, uu, uu, uu, uu] [(.double (own_nv (FP.i2d p0) (FP.i2d p0) (0 : UInt64) (0 : Int32)))]) := fun tQ kk => k1749 tQ (st1760.trans kk)
        clear k1749 st1760
        have eq1784 : (own_nv (FP.i2d p0) (FP.i2d p0) (0 : UInt64) (0 : Int32)) = (FP.i2d p0) := by rw [own_nv, if_neg (by decide)]
        have F1785 : fd4 Z T1750.heap a873 (.double (FP.i2d p0)) := by rw [← eq1784]; exact g1771
        have eq1786 : (own_nr (0 : Int32)) = (0 : Int32) := by decide
        have F1787 : fd7 Z T1750.heap a873 (.int (0 : Int32)) := by rw [← eq1786]; exact g1774
        have eq1788 : (own_nv (FP.i2d p0) (FP.i2d p0) (0 : UInt64) (0 : Int32)) = (FP.i2d p0) := by rw [own_nv, if_neg (by decide)]
        rw [eq1788] at k1783
        have k1789 : own_G p e below E0 T1750 (mkF m 102 #[vi p0, vi p1, vi p2, vi p3, vi K, vi (own_F K), vi md, vd (FP.i2d p0), ss, vd (FP.i2d p1), ss, vr a873, vi (1 : Int32), vd (FP.i2d p0), ss, uu, uu, uu, uu, uu, uu, uu, uu, uu] [(.int (1 : Int32)), (.int md), (.int (own_F K)), (.double (FP.i2d p1)), (.double (FP.i2d p0)), (.double (FP.i2d p0))]) := by
          intro tQ kk
          refine k1783 tQ ?_
          refine XS.dstore X1754.here hx rfl (hb hby at_84) rfl (l' := #[vi p0, vi p1, vi p2, vi p3, vi K, vi (own_F K), vi md, vd (FP.i2d p0), ss, vd (FP.i2d p1), ss, vr a873, vi (1 : Int32), vd (FP.i2d p0), ss, uu, uu, uu, uu, uu, uu, uu, uu, uu]) rfl ?_
          refine XS.iload X1754.here hx rfl (hb hby at_86) rfl ?_
          refine XS.ifNo X1754.here hx rfl (hb hby at_88) rfl (own_if_eqN (by decide)) ?_
          refine XS.dload X1754.here hx rfl (hb hby at_91) rfl ?_
          show Steps p.tables e below (T1750.setTop (mkF m 93 #[vi p0, vi p1, vi p2, vi p3, vi K, vi (own_F K), vi md, vd (FP.i2d p0), ss, vd (FP.i2d p1), ss, vr a873, vi (1 : Int32), vd (FP.i2d p0), ss, uu, uu, uu, uu, uu, uu, uu, uu, uu] [(.double (FP.i2d p0))])) tQ
          refine XS.dload X1754.here hx rfl (hb hby at_93) rfl ?_
          refine XS.dload X1754.here hx rfl (hb hby at_95) rfl ?_
          refine XS.iload X1754.here hx rfl (hb hby at_97) rfl ?_
          refine XS.iload X1754.here hx rfl (hb hby at_99) rfl ?_
          show Steps p.tables e below (T1750.setTop (mkF m 101 #[vi p0, vi p1, vi p2, vi p3, vi K, vi (own_F K), vi md, vd (FP.i2d p0), ss, vd (FP.i2d p1), ss, vr a873, vi (1 : Int32), vd (FP.i2d p0), ss, uu, uu, uu, uu, uu, uu, uu, uu, uu] [(.int md), (.int (own_F K)), (.double (FP.i2d p1)), (.double (FP.i2d p0)), (.double (FP.i2d p0))])) tQ
          refine XS.iconst X1754.here hx rfl (hb hby at_101) ?_
          exact kk
        clear k1783
        obtain ⟨_, _, ⟨T1790, L1791, kc1792, nc1793⟩, -, X1794, ⟨Lc1795, hQ1796, l1797, y1798, z1799⟩, st1800⟩ := Jvm.LawKit.callS X1754 hx (y := mn16) hown (mvT hZ (tw48 hw)) (mvT hZ (tw49 hw)) (mvT hZ (tw50 hw)) (mvT hZ (tw51 hw)) (by decide) (backOf (W := 2) (rmE l Z a0 hw [] (FP.i2d p0) (FP.i2d p1) (own_F K) md (1 : Int32) T1750.heap n0 Z1776 (Fl.i2d_fin p0).noNaN (Fl.i2d_fin p1).noNaN (own_h1 p0 p1) (own_h2 p0 p1 (F := (own_F K)) hFb) (own_q3 p0 p1 (F := (own_F K)) (r := (own_mx 0 ((own_F K) - (1 : Int32)))) hFb (own_mxb hFb (by decide)))) hZ (tw51 hw) (tw50 hw) (by decide) (by decide)) (g := (mkF m 102 #[vi p0, vi p1, vi p2, vi p3, vi K, vi (own_F K), vi md, vd (FP.i2d p0), ss, vd (FP.i2d p1), ss, vr a873, vi (1 : Int32), vd (FP.i2d p0), ss, uu, uu, uu, uu, uu, uu, uu, uu, uu] [(.int (1 : Int32)), (.int md), (.int (own_F K)), (.double (FP.i2d p1)), (.double (FP.i2d p0)), (.double (FP.i2d p0))])) rfl (by rw [hml]; rfl) (argsL := [(.double (FP.i2d p0)), (.double (FP.i2d p1)), (.int (own_F K)), (.int md), (.int (1 : Int32))]) (rest := [(.double (FP.i2d p0))]) (lenOf pd_21 rfl) rfl (by show 2 * 0 + _ ≤ _; exact Nat.le_of_eq rfl) (hb hby at_102) (fun _ _ => ⟨rfl, rfl, (by decide : 1 + 0 ≤ _), (by decide : 5 + 0 ≤ _)⟩)
        dsimp only [Pt.U, Pt.locs, Pt.cells, Pt.slots] at X1794 l1797 y1798 z1799 st1800 hQ1796
        subst l1797 y1798 z1799
        obtain ⟨rfl, N1801, e1802⟩ := hQ1796
        have N1804 := Fr.app N1775 N1801
        have k1805 : own_G p e below E0 T1790 (mkF m 105 #[vi p0, vi p1, vi p2, vi p3, vi K, vi (own_F K), vi md, vd (FP.i2d p0), ss, vd (FP.i2d p1), ss, vr a873, vi (1 : Int32), vd (FP.i2d p0), ss, uu, uu, uu, uu, uu, uu, uu, uu, uu] [(.double (own_exp (FP.i2d p0) (FP.i2d p1) (own_F K) md (1 : Int32))), (.double (FP.i2d p0))]) := fun tQ kk => k1789 tQ (st1800 _ kk)
        clear k1789 st1800
        have k1806 : own_G p e below E0 T1790 (mkF m 118 #[vi p0, vi p1, vi p2, vi p3, vi K, vi (own_F K), vi md, vd (FP.i2d p0), ss, vd (FP.i2d p1), ss, vr a873, vi (1 : Int32), vd (FP.i2d p0), ss, uu, uu, uu, uu, uu, uu, uu, uu, uu] [(.ref a873)]) := by
          intro tQ kk
          refine k1805 tQ ?_
          refine XS.dcmpS (v := (0 : Int32)) X1794.here hx rfl (hb hby at_105) rfl (own_eE cm1 cm2 cE (Fl.i2d_fin p0).noNaN) ?_
          refine XS.ifNo X1794.here hx rfl (hb hby at_106) rfl (own_if_neN (by decide)) ?_
          refine XS.iconst X1794.here hx rfl (hb hby at_109) ?_
          refine XS.goto X1794.here hx rfl (pc0 := 110) (pc' := 114) rfl (hb hby at_110) (by decide) (by decide) ?_
          show Steps p.tables e below (T1790.setTop (mkF m 114 #[vi p0, vi p1, vi p2, vi p3, vi K, vi (own_F K), vi md, vd (FP.i2d p0), ss, vd (FP.i2d p1), ss, vr a873, vi (1 : Int32), vd (FP.i2d p0), ss, uu, uu, uu, uu, uu, uu, uu, uu, uu] [(.int (1 : Int32))])) tQ
          refine XS.istore X1794.here hx rfl (hb hby at_114) rfl (l' := #[vi p0, vi p1, vi p2, vi p3, vi K, vi (own_F K), vi md, vd (FP.i2d p0), ss, vd (FP.i2d p1), ss, vr a873, vi (1 : Int32), vd (FP.i2d p0), ss, uu, uu, uu, uu, uu, uu, uu, uu, uu]) rfl ?_
          refine XS.aload X1794.here hx rfl (hb hby at_116) rfl rfl ?_
          exact kk
        clear k1805
        obtain ⟨cq1818, kq1819, qa1820, qb1821, qc1822⟩ := isOf hZ e1802 F1777
        obtain ⟨_, _, ⟨T1807, L1808, kc1809, nc1810⟩, -, X1811, ⟨Lc1812, hQ1813, l1814, y1815, z1816⟩, st1817⟩ := X1794.virtualBack hx (y := mn14) (z := mn14) hown (mvT hZ (tw52 hw)) (mvT hZ (tw53 hw)) (notFace_of_selects (args := #[]) (mvT hZ (tw55 hw))) (mvT hZ (tw55 hw)) (mvT hZ (tw54 hw)) (by decide) (backOf (W := 0) (rmMv l Z a0 hw [] a873 (0 : Int32) T1750.heap n0 Z1776 F1787) hZ (tw56 hw) (tw7 hw) (by decide) (by decide)) qa1820 qc1822 (g := (mkF m 118 #[vi p0, vi p1, vi p2, vi p3, vi K, vi (own_F K), vi md, vd (FP.i2d p0), ss, vd (FP.i2d p1), ss, vr a873, vi (1 : Int32), vd (FP.i2d p0), ss, uu, uu, uu, uu, uu, uu, uu, uu, uu] [(.ref a873)])) rfl (by rw [hml]; rfl) (Steps.refl _) (argsL := []) (rest := []) (lenOf pd_22 rfl) rfl (by show 2 * 0 + _ ≤ _; exact Nat.le_of_eq rfl) (hb hby at_118) (fun _ _ => ⟨rfl, e1802, (by decide : 1 + 0 ≤ _), (by decide : 5 + 0 ≤ _)⟩)
        dsimp only [Pt.U, Pt.locs, Pt.cells, Pt.slots] at X1811 l1814 y1815 z1816 st1817 hQ1813
        subst l1814 y1815 z1816
        obtain ⟨rfl, N1823, e1824⟩ := hQ1813
        have N1826 := Fr.app N1804 N1823
        have k1827 : own_G p e below E0 T1807 (mkF m 121 #[vi p0, vi p1, vi p2, vi p3, vi K, vi (own_F K), vi md, vd (FP.i2d p0), ss, vd (FP.i2d p1), ss, vr a873, vi (1 : Int32), vd (FP.i2d p0), ss, uu, uu, uu, uu, uu, uu, uu, uu, uu] [(.int (own_mv (0 : Int32)))]) := fun tQ kk => k1806 tQ (st1817.trans kk)
        clear k1806 st1817
        have eq1828 : (own_mv (0 : Int32)) = (0 : Int32) := by decide
        rw [eq1828] at k1827
        have k1829 : own_G p e below E0 T1807 (mkF m 167 #[vi p0, vi p1, vi p2, vi p3, vi K, vi (own_F K), vi md, vd (FP.i2d p0), ss, vd (FP.i2d p1), ss, vr a873, vi (1 : Int32), vd (FP.i2d p0), ss, vi (0 : Int32), uu, uu, uu, uu, uu, uu, uu, uu] [(.ref a873)]) := by
          intro tQ kk
          refine k1827 tQ ?_
          refine XS.istore X1811.here hx rfl (hb hby at_121) rfl (l' := #[vi p0, vi p1, vi p2, vi p3, vi K, vi (own_F K), vi md, vd (FP.i2d p0), ss, vd (FP.i2d p1), ss, vr a873, vi (1 : Int32), vd (FP.i2d p0), ss, vi (0 : Int32), uu, uu, uu, uu, uu, uu, uu, uu]) rfl ?_
          refine XS.iload X1811.here hx rfl (hb hby at_123) rfl ?_
          refine XS.ifNo X1811.here hx rfl (hb hby at_125) rfl (own_if_eqN (by decide)) ?_
          refine XS.iload X1811.here hx rfl (hb hby at_128) rfl ?_
          show Steps p.tables e below (T1807.setTop (mkF m 130 #[vi p0, vi p1, vi p2, vi p3, vi K, vi (own_F K), vi md, vd (FP.i2d p0), ss, vd (FP.i2d p1), ss, vr a873, vi (1 : Int32), vd (FP.i2d p0), ss, vi (0 : Int32), uu, uu, uu, uu, uu, uu, uu, uu] [(.int (0 : Int32))])) tQ
          refine XS.iload X1811.here hx rfl (hb hby at_130) rfl ?_
          refine XS.iconst X1811.here hx rfl (hb hby at_132) ?_
          refine XS.icmpNo X1811.here hx rfl (hb hby at_133) rfl (own_ic_ltN cm2) ?_
          refine XS.dload X1811.here hx rfl (hb hby at_136) rfl ?_
          show Steps p.tables e below (T1807.setTop (mkF m 138 #[vi p0, vi p1, vi p2, vi p3, vi K, vi (own_F K), vi md, vd (FP.i2d p0), ss, vd (FP.i2d p1), ss, vr a873, vi (1 : Int32), vd (FP.i2d p0), ss, vi (0 : Int32), uu, uu, uu, uu, uu, uu, uu, uu] [(.double (FP.i2d p1)), (.int (0 : Int32))])) tQ
          refine XS.dload X1811.here hx rfl (hb hby at_138) rfl ?_
          refine XS.dcmpS (v := (own_c (own_z (FP.i2d p1)) (own_z (FP.i2d p0)))) X1811.here hx rfl (hb hby at_140) rfl (own_cE .l (own_cmpz (Fl.i2d_fin p1).noNaN (Fl.i2d_fin p0).noNaN)) ?_
          refine XS.ifYes X1811.here hx rfl (pc0 := 141) (pc' := 154) rfl (hb hby at_141) rfl (own_c_eqY cE) (by decide) (by decide) ?_
          refine XS.iconst X1811.here hx rfl (hb hby at_154) ?_
          show Steps p.tables e below (T1807.setTop (mkF m 155 #[vi p0, vi p1, vi p2, vi p3, vi K, vi (own_F K), vi md, vd (FP.i2d p0), ss, vd (FP.i2d p1), ss, vr a873, vi (1 : Int32), vd (FP.i2d p0), ss, vi (0 : Int32), uu, uu, uu, uu, uu, uu, uu, uu] [(.int (0 : Int32)), (.int (0 : Int32))])) tQ
          refine XS.icmpNo X1811.here hx rfl (hb hby at_155) rfl (own_ic_neN (by decide)) ?_
          refine XS.iconst X1811.here hx rfl (hb hby at_158) ?_
          refine XS.goto X1811.here hx rfl (pc0 := 159) (pc' := 163) rfl (hb hby at_159) (by decide) (by decide) ?_
          refine XS.istore X1811.here hx rfl (hb hby at_163) rfl (l' := #[vi p0, vi p1, vi p2, vi p3, vi K, vi (own_F K), vi md, vd (FP.i2d p0), ss, vd (FP.i2d p1), ss, vr a873, vi (1 : Int32), vd (FP.i2d p0), ss, vi (0 : Int32), uu, uu, uu, uu, uu, uu, uu, uu]) rfl ?_
          show Steps p.tables e below (T1807.setTop (mkF m 165 #[vi p0, vi p1, vi p2, vi p3, vi K, vi (own_F K), vi md, vd (FP.i2d p0), ss, vd (FP.i2d p1), ss, vr a873, vi (1 : Int32), vd (FP.i2d p0), ss, vi (0 : Int32), uu, uu, uu, uu, uu, uu, uu, uu] [])) tQ
          refine XS.aload X1811.here hx rfl (hb hby at_165) rfl rfl ?_
          exact kk
        clear k1827
        obtain ⟨cq1841, kq1842, qa1843, qb1844, qc1845⟩ := isOf hZ e1824 F1777
        obtain ⟨_, _, ⟨T1830, L1831, kc1832, nc1833⟩, -, X1834, ⟨Lc1835, hQ1836, l1837, y1838, z1839⟩, st1840⟩ := X1811.virtualBack hx (y := mn13) (z := mn13) hown (mvT hZ (tw43 hw)) (mvT hZ (tw44 hw)) (notFace_of_selects (args := #[]) (mvT hZ (tw46 hw))) (mvT hZ (tw46 hw)) (mvT hZ (tw45 hw)) (by decide) (backOf (W := 0) (rmN l Z a0 hw [] a873 (own_F K) (FP.i2d p0) (FP.i2d p0) (0 : UInt64) (0 : Int32) T1750.heap n0 Z1776 F1777 g1770 F1785 g1772 g1773 F1787 ge875 (fun z => absurd z (by decide))) hZ (tw47 hw) (tw7 hw) (by decide) (by decide)) qa1843 qc1845 (g := (mkF m 167 #[vi p0, vi p1, vi p2, vi p3, vi K, vi (own_F K), vi md, vd (FP.i2d p0), ss, vd (FP.i2d p1), ss, vr a873, vi (1 : Int32), vd (FP.i2d p0), ss, vi (0 : Int32), uu, uu, uu, uu, uu, uu, uu, uu] [(.ref a873)])) rfl (by rw [hml]; rfl) (Steps.refl _) (argsL := []) (rest := []) (lenOf pd_20 rfl) rfl (by show 2 * 0 + _ ≤ _; exact Nat.le_of_eq rfl) (hb hby at_167) (fun _ _ => ⟨rfl, e1824, (by decide : 1 + 0 ≤ _), (by decide : 5 + 0 ≤ _)⟩)
        dsimp only [Pt.U, Pt.locs, Pt.cells, Pt.slots] at X1834 l1837 y1838 z1839 st1840 hQ1836
        subst l1837 y1838 z1839
        obtain ⟨rfl, N1846, K1849, g1850, g1851, g1852, g1853, g1854⟩ := hQ1836
        have N1855 := Fr.app N1826 N1846
        have Z1856 : n0 ≤ T1830.heap.size := Nat.le_trans Z1776 K1849.1
        have F1857 : xa8 Z T1830.heap a873 := F1777.keep K1849
        clear F1777
        clear g1770
        clear F1785
        clear g1772
        clear g1773
        clear F1787
        have k1863 : own_G p e below E0 T1830 (mkF m 170 #[vi p0, vi p1, vi p2, vi p3, vi K, vi (own_F K), vi md, vd (FP.i2d p0), ss, vd (FP.i2d p1), ss, vr a873, vi (1 : Int32), vd (FP.i2d p0), ss, vi (0 : Int32), uu, uu, uu, uu, uu, uu, uu, uu] [(.double (own_nv (FP.i2d p0) (FP.i2d p0) (0 : UInt64) (0 : Int32)))]) := fun tQ kk => k1829 tQ (st1840.trans kk)
        clear k1829 st1840
        have eq1864 : (own_nv (FP.i2d p0) (FP.i2d p0) (0 : UInt64) (0 : Int32)) = (FP.i2d p0) := by rw [own_nv, if_neg (by decide)]
        have F1865 : fd4 Z T1830.heap a873 (.double (FP.i2d p0)) := by rw [← eq1864]; exact g1851
        have eq1866 : (own_nr (0 : Int32)) = (0 : Int32) := by decide
        have F1867 : fd7 Z T1830.heap a873 (.int (0 : Int32)) := by rw [← eq1866]; exact g1854
        have eq1868 : (own_nv (FP.i2d p0) (FP.i2d p0) (0 : UInt64) (0 : Int32)) = (FP.i2d p0) := by rw [own_nv, if_neg (by decide)]
        rw [eq1868] at k1863
        have k1869 : own_G p e below E0 T1830 (mkF m 188 #[vi p0, vi p1, vi p2, vi p3, vi K, vi (own_F K), vi md, vd (FP.i2d p0), ss, vd (FP.i2d p1), ss, vr a873, vi (1 : Int32), vd (FP.i2d p0), ss, vi (0 : Int32), vd (FP.i2d p0), ss, uu, uu, uu, uu, uu, uu] [(.int (2 : Int32)), (.int md), (.int (own_F K)), (.double (FP.i2d p1)), (.double (FP.i2d p0)), (.double (FP.i2d p0))]) := by
          intro tQ kk
          refine k1863 tQ ?_
          refine XS.dstore X1834.here hx rfl (hb hby at_170) rfl (l' := #[vi p0, vi p1, vi p2, vi p3, vi K, vi (own_F K), vi md, vd (FP.i2d p0), ss, vd (FP.i2d p1), ss, vr a873, vi (1 : Int32), vd (FP.i2d p0), ss, vi (0 : Int32), vd (FP.i2d p0), ss, uu, uu, uu, uu, uu, uu]) rfl ?_
          refine XS.iload X1834.here hx rfl (hb hby at_172) rfl ?_
          refine XS.ifNo X1834.here hx rfl (hb hby at_174) rfl (own_if_eqN (by decide)) ?_
          refine XS.dload X1834.here hx rfl (hb hby at_177) rfl ?_
          show Steps p.tables e below (T1830.setTop (mkF m 179 #[vi p0, vi p1, vi p2, vi p3, vi K, vi (own_F K), vi md, vd (FP.i2d p0), ss, vd (FP.i2d p1), ss, vr a873, vi (1 : Int32), vd (FP.i2d p0), ss, vi (0 : Int32), vd (FP.i2d p0), ss, uu, uu, uu, uu, uu, uu] [(.double (FP.i2d p0))])) tQ
          refine XS.dload X1834.here hx rfl (hb hby at_179) rfl ?_
          refine XS.dload X1834.here hx rfl (hb hby at_181) rfl ?_
          refine XS.iload X1834.here hx rfl (hb hby at_183) rfl ?_
          refine XS.iload X1834.here hx rfl (hb hby at_185) rfl ?_
          show Steps p.tables e below (T1830.setTop (mkF m 187 #[vi p0, vi p1, vi p2, vi p3, vi K, vi (own_F K), vi md, vd (FP.i2d p0), ss, vd (FP.i2d p1), ss, vr a873, vi (1 : Int32), vd (FP.i2d p0), ss, vi (0 : Int32), vd (FP.i2d p0), ss, uu, uu, uu, uu, uu, uu] [(.int md), (.int (own_F K)), (.double (FP.i2d p1)), (.double (FP.i2d p0)), (.double (FP.i2d p0))])) tQ
          refine XS.iconst X1834.here hx rfl (hb hby at_187) ?_
          exact kk
        clear k1863
        obtain ⟨_, _, ⟨T1870, L1871, kc1872, nc1873⟩, -, X1874, ⟨Lc1875, hQ1876, l1877, y1878, z1879⟩, st1880⟩ := Jvm.LawKit.callS X1834 hx (y := mn16) hown (mvT hZ (tw48 hw)) (mvT hZ (tw49 hw)) (mvT hZ (tw50 hw)) (mvT hZ (tw51 hw)) (by decide) (backOf (W := 2) (rmE l Z a0 hw [] (FP.i2d p0) (FP.i2d p1) (own_F K) md (2 : Int32) T1830.heap n0 Z1856 (Fl.i2d_fin p0).noNaN (Fl.i2d_fin p1).noNaN (own_h1 p0 p1) (own_h2 p0 p1 (F := (own_F K)) hFb) (own_q3 p0 p1 (F := (own_F K)) (r := (own_mx 0 ((own_F K) - (2 : Int32)))) hFb (own_mxb hFb (by decide)))) hZ (tw51 hw) (tw50 hw) (by decide) (by decide)) (g := (mkF m 188 #[vi p0, vi p1, vi p2, vi p3, vi K, vi (own_F K), vi md, vd (FP.i2d p0), ss, vd (FP.i2d p1), ss, vr a873, vi (1 : Int32), vd (FP.i2d p0), ss, vi (0 : Int32), vd (FP.i2d p0), ss, uu, uu, uu, uu, uu, uu] [(.int (2 : Int32)), (.int md), (.int (own_F K)), (.double (FP.i2d p1)), (.double (FP.i2d p0)), (.double (FP.i2d p0))])) rfl (by rw [hml]; rfl) (argsL := [(.double (FP.i2d p0)), (.double (FP.i2d p1)), (.int (own_F K)), (.int md), (.int (2 : Int32))]) (rest := [(.double (FP.i2d p0))]) (lenOf pd_21 rfl) rfl (by show 2 * 0 + _ ≤ _; exact Nat.le_of_eq rfl) (hb hby at_188) (fun _ _ => ⟨rfl, rfl, (by decide : 1 + 0 ≤ _), (by decide : 5 + 0 ≤ _)⟩)
        dsimp only [Pt.U, Pt.locs, Pt.cells, Pt.slots] at X1874 l1877 y1878 z1879 st1880 hQ1876
        subst l1877 y1878 z1879
        obtain ⟨rfl, N1881, e1882⟩ := hQ1876
        have N1884 := Fr.app N1855 N1881
        have k1885 : own_G p e below E0 T1870 (mkF m 191 #[vi p0, vi p1, vi p2, vi p3, vi K, vi (own_F K), vi md, vd (FP.i2d p0), ss, vd (FP.i2d p1), ss, vr a873, vi (1 : Int32), vd (FP.i2d p0), ss, vi (0 : Int32), vd (FP.i2d p0), ss, uu, uu, uu, uu, uu, uu] [(.double (own_exp (FP.i2d p0) (FP.i2d p1) (own_F K) md (2 : Int32))), (.double (FP.i2d p0))]) := fun tQ kk => k1869 tQ (st1880 _ kk)
        clear k1869 st1880
        have k1886 : own_G p e below E0 T1870 (mkF m 204 #[vi p0, vi p1, vi p2, vi p3, vi K, vi (own_F K), vi md, vd (FP.i2d p0), ss, vd (FP.i2d p1), ss, vr a873, vi (1 : Int32), vd (FP.i2d p0), ss, vi (0 : Int32), vd (FP.i2d p0), ss, uu, uu, uu, uu, uu, uu] [(.ref a873)]) := by
          intro tQ kk
          refine k1885 tQ ?_
          refine XS.dcmpS (v := (0 : Int32)) X1874.here hx rfl (hb hby at_191) rfl (own_eE cm1 cm2 cE (Fl.i2d_fin p0).noNaN) ?_
          refine XS.ifNo X1874.here hx rfl (hb hby at_192) rfl (own_if_neN (by decide)) ?_
          refine XS.iconst X1874.here hx rfl (hb hby at_195) ?_
          refine XS.goto X1874.here hx rfl (pc0 := 196) (pc' := 200) rfl (hb hby at_196) (by decide) (by decide) ?_
          show Steps p.tables e below (T1870.setTop (mkF m 200 #[vi p0, vi p1, vi p2, vi p3, vi K, vi (own_F K), vi md, vd (FP.i2d p0), ss, vd (FP.i2d p1), ss, vr a873, vi (1 : Int32), vd (FP.i2d p0), ss, vi (0 : Int32), vd (FP.i2d p0), ss, uu, uu, uu, uu, uu, uu] [(.int (1 : Int32))])) tQ
          refine XS.istore X1874.here hx rfl (hb hby at_200) rfl (l' := #[vi p0, vi p1, vi p2, vi p3, vi K, vi (own_F K), vi md, vd (FP.i2d p0), ss, vd (FP.i2d p1), ss, vr a873, vi (1 : Int32), vd (FP.i2d p0), ss, vi (0 : Int32), vd (FP.i2d p0), ss, uu, uu, uu, uu, uu, uu]) rfl ?_
          refine XS.aload X1874.here hx rfl (hb hby at_202) rfl rfl ?_
          exact kk
        clear k1885
        obtain ⟨cq1898, kq1899, qa1900, qb1901, qc1902⟩ := isOf hZ e1882 F1857
        obtain ⟨_, _, ⟨T1887, L1888, kc1889, nc1890⟩, -, X1891, ⟨Lc1892, hQ1893, l1894, y1895, z1896⟩, st1897⟩ := X1874.virtualBack hx (y := mn13) (z := mn13) hown (mvT hZ (tw43 hw)) (mvT hZ (tw44 hw)) (notFace_of_selects (args := #[]) (mvT hZ (tw46 hw))) (mvT hZ (tw46 hw)) (mvT hZ (tw45 hw)) (by decide) (backOf (W := 0) (rmN l Z a0 hw [] a873 (own_F K) (FP.i2d p0) (FP.i2d p0) (0 : UInt64) (0 : Int32) T1830.heap n0 Z1856 F1857 g1850 F1865 g1852 g1853 F1867 ge875 (fun z => absurd z (by decide))) hZ (tw47 hw) (tw7 hw) (by decide) (by decide)) qa1900 qc1902 (g := (mkF m 204 #[vi p0, vi p1, vi p2, vi p3, vi K, vi (own_F K), vi md, vd (FP.i2d p0), ss, vd (FP.i2d p1), ss, vr a873, vi (1 : Int32), vd (FP.i2d p0), ss, vi (0 : Int32), vd (FP.i2d p0), ss, uu, uu, uu, uu, uu, uu] [(.ref a873)])) rfl (by rw [hml]; rfl) (Steps.refl _) (argsL := []) (rest := []) (lenOf pd_20 rfl) rfl (by show 2 * 0 + _ ≤ _; exact Nat.le_of_eq rfl) (hb hby at_204) (fun _ _ => ⟨rfl, e1882, (by decide : 1 + 0 ≤ _), (by decide : 5 + 0 ≤ _)⟩)
        dsimp only [Pt.U, Pt.locs, Pt.cells, Pt.slots] at X1891 l1894 y1895 z1896 st1897 hQ1893
        subst l1894 y1895 z1896
        obtain ⟨rfl, N1903, K1906, g1907, g1908, g1909, g1910, g1911⟩ := hQ1893
        have N1912 := Fr.app N1884 N1903
        have Z1913 : n0 ≤ T1887.heap.size := Nat.le_trans Z1856 K1906.1
        have F1914 : xa8 Z T1887.heap a873 := F1857.keep K1906
        clear F1857
        clear g1850
        clear F1865
        clear g1852
        clear g1853
        clear F1867
        have k1920 : own_G p e below E0 T1887 (mkF m 207 #[vi p0, vi p1, vi p2, vi p3, vi K, vi (own_F K), vi md, vd (FP.i2d p0), ss, vd (FP.i2d p1), ss, vr a873, vi (1 : Int32), vd (FP.i2d p0), ss, vi (0 : Int32), vd (FP.i2d p0), ss, uu, uu, uu, uu, uu, uu] [(.double (own_nv (FP.i2d p0) (FP.i2d p0) (0 : UInt64) (0 : Int32)))]) := fun tQ kk => k1886 tQ (st1897.trans kk)
        clear k1886 st1897
        have eq1921 : (own_nv (FP.i2d p0) (FP.i2d p0) (0 : UInt64) (0 : Int32)) = (FP.i2d p0) := by rw [own_nv, if_neg (by decide)]
        have F1922 : fd4 Z T1887.heap a873 (.double (FP.i2d p0)) := by rw [← eq1921]; exact g1908
        have eq1923 : (own_nr (0 : Int32)) = (0 : Int32) := by decide
        have F1924 : fd7 Z T1887.heap a873 (.int (0 : Int32)) := by rw [← eq1923]; exact g1911
        have eq1925 : (own_nv (FP.i2d p0) (FP.i2d p0) (0 : UInt64) (0 : Int32)) = (FP.i2d p0) := by rw [own_nv, if_neg (by decide)]
        rw [eq1925] at k1920
        have k1926 : own_G p e below E0 T1887 (mkF m 225 #[vi p0, vi p1, vi p2, vi p3, vi K, vi (own_F K), vi md, vd (FP.i2d p0), ss, vd (FP.i2d p1), ss, vr a873, vi (1 : Int32), vd (FP.i2d p0), ss, vi (0 : Int32), vd (FP.i2d p0), ss, vd (FP.i2d p0), ss, uu, uu, uu, uu] [(.int (3 : Int32)), (.int md), (.int (own_F K)), (.double (FP.i2d p1)), (.double (FP.i2d p0)), (.double (FP.i2d p0))]) := by
          intro tQ kk
          refine k1920 tQ ?_
          refine XS.dstore X1891.here hx rfl (hb hby at_207) rfl (l' := #[vi p0, vi p1, vi p2, vi p3, vi K, vi (own_F K), vi md, vd (FP.i2d p0), ss, vd (FP.i2d p1), ss, vr a873, vi (1 : Int32), vd (FP.i2d p0), ss, vi (0 : Int32), vd (FP.i2d p0), ss, vd (FP.i2d p0), ss, uu, uu, uu, uu]) rfl ?_
          refine XS.iload X1891.here hx rfl (hb hby at_209) rfl ?_
          refine XS.ifNo X1891.here hx rfl (hb hby at_211) rfl (own_if_eqN (by decide)) ?_
          refine XS.dload X1891.here hx rfl (hb hby at_214) rfl ?_
          show Steps p.tables e below (T1887.setTop (mkF m 216 #[vi p0, vi p1, vi p2, vi p3, vi K, vi (own_F K), vi md, vd (FP.i2d p0), ss, vd (FP.i2d p1), ss, vr a873, vi (1 : Int32), vd (FP.i2d p0), ss, vi (0 : Int32), vd (FP.i2d p0), ss, vd (FP.i2d p0), ss, uu, uu, uu, uu] [(.double (FP.i2d p0))])) tQ
          refine XS.dload X1891.here hx rfl (hb hby at_216) rfl ?_
          refine XS.dload X1891.here hx rfl (hb hby at_218) rfl ?_
          refine XS.iload X1891.here hx rfl (hb hby at_220) rfl ?_
          refine XS.iload X1891.here hx rfl (hb hby at_222) rfl ?_
          show Steps p.tables e below (T1887.setTop (mkF m 224 #[vi p0, vi p1, vi p2, vi p3, vi K, vi (own_F K), vi md, vd (FP.i2d p0), ss, vd (FP.i2d p1), ss, vr a873, vi (1 : Int32), vd (FP.i2d p0), ss, vi (0 : Int32), vd (FP.i2d p0), ss, vd (FP.i2d p0), ss, uu, uu, uu, uu] [(.int md), (.int (own_F K)), (.double (FP.i2d p1)), (.double (FP.i2d p0)), (.double (FP.i2d p0))])) tQ
          refine XS.iconst X1891.here hx rfl (hb hby at_224) ?_
          exact kk
        clear k1920
        obtain ⟨_, _, ⟨T1927, L1928, kc1929, nc1930⟩, -, X1931, ⟨Lc1932, hQ1933, l1934, y1935, z1936⟩, st1937⟩ := Jvm.LawKit.callS X1891 hx (y := mn16) hown (mvT hZ (tw48 hw)) (mvT hZ (tw49 hw)) (mvT hZ (tw50 hw)) (mvT hZ (tw51 hw)) (by decide) (backOf (W := 2) (rmE l Z a0 hw [] (FP.i2d p0) (FP.i2d p1) (own_F K) md (3 : Int32) T1887.heap n0 Z1913 (Fl.i2d_fin p0).noNaN (Fl.i2d_fin p1).noNaN (own_h1 p0 p1) (own_h2 p0 p1 (F := (own_F K)) hFb) (own_q3 p0 p1 (F := (own_F K)) (r := (own_mx 0 ((own_F K) - (3 : Int32)))) hFb (own_mxb hFb (by decide)))) hZ (tw51 hw) (tw50 hw) (by decide) (by decide)) (g := (mkF m 225 #[vi p0, vi p1, vi p2, vi p3, vi K, vi (own_F K), vi md, vd (FP.i2d p0), ss, vd (FP.i2d p1), ss, vr a873, vi (1 : Int32), vd (FP.i2d p0), ss, vi (0 : Int32), vd (FP.i2d p0), ss, vd (FP.i2d p0), ss, uu, uu, uu, uu] [(.int (3 : Int32)), (.int md), (.int (own_F K)), (.double (FP.i2d p1)), (.double (FP.i2d p0)), (.double (FP.i2d p0))])) rfl (by rw [hml]; rfl) (argsL := [(.double (FP.i2d p0)), (.double (FP.i2d p1)), (.int (own_F K)), (.int md), (.int (3 : Int32))]) (rest := [(.double (FP.i2d p0))]) (lenOf pd_21 rfl) rfl (by show 2 * 0 + _ ≤ _; exact Nat.le_of_eq rfl) (hb hby at_225) (fun _ _ => ⟨rfl, rfl, (by decide : 1 + 0 ≤ _), (by decide : 5 + 0 ≤ _)⟩)
        dsimp only [Pt.U, Pt.locs, Pt.cells, Pt.slots] at X1931 l1934 y1935 z1936 st1937 hQ1933
        subst l1934 y1935 z1936
        obtain ⟨rfl, N1938, e1939⟩ := hQ1933
        have N1941 := Fr.app N1912 N1938
        have k1942 : own_G p e below E0 T1927 (mkF m 228 #[vi p0, vi p1, vi p2, vi p3, vi K, vi (own_F K), vi md, vd (FP.i2d p0), ss, vd (FP.i2d p1), ss, vr a873, vi (1 : Int32), vd (FP.i2d p0), ss, vi (0 : Int32), vd (FP.i2d p0), ss, vd (FP.i2d p0), ss, uu, uu, uu, uu] [(.double (own_exp (FP.i2d p0) (FP.i2d p1) (own_F K) md (3 : Int32))), (.double (FP.i2d p0))]) := fun tQ kk => k1926 tQ (st1937 _ kk)
        clear k1926 st1937
        have k1943 : own_G p e below E0 T1927 (mkF m 241 #[vi p0, vi p1, vi p2, vi p3, vi K, vi (own_F K), vi md, vd (FP.i2d p0), ss, vd (FP.i2d p1), ss, vr a873, vi (1 : Int32), vd (FP.i2d p0), ss, vi (0 : Int32), vd (FP.i2d p0), ss, vd (FP.i2d p0), ss, uu, uu, uu, uu] [(.ref a873)]) := by
          intro tQ kk
          refine k1942 tQ ?_
          refine XS.dcmpS (v := (0 : Int32)) X1931.here hx rfl (hb hby at_228) rfl (own_eE cm1 cm2 cE (Fl.i2d_fin p0).noNaN) ?_
          refine XS.ifNo X1931.here hx rfl (hb hby at_229) rfl (own_if_neN (by decide)) ?_
          refine XS.iconst X1931.here hx rfl (hb hby at_232) ?_
          refine XS.goto X1931.here hx rfl (pc0 := 233) (pc' := 237) rfl (hb hby at_233) (by decide) (by decide) ?_
          show Steps p.tables e below (T1927.setTop (mkF m 237 #[vi p0, vi p1, vi p2, vi p3, vi K, vi (own_F K), vi md, vd (FP.i2d p0), ss, vd (FP.i2d p1), ss, vr a873, vi (1 : Int32), vd (FP.i2d p0), ss, vi (0 : Int32), vd (FP.i2d p0), ss, vd (FP.i2d p0), ss, uu, uu, uu, uu] [(.int (1 : Int32))])) tQ
          refine XS.istore X1931.here hx rfl (hb hby at_237) rfl (l' := #[vi p0, vi p1, vi p2, vi p3, vi K, vi (own_F K), vi md, vd (FP.i2d p0), ss, vd (FP.i2d p1), ss, vr a873, vi (1 : Int32), vd (FP.i2d p0), ss, vi (0 : Int32), vd (FP.i2d p0), ss, vd (FP.i2d p0), ss, uu, uu, uu, uu]) rfl ?_
          refine XS.aload X1931.here hx rfl (hb hby at_239) rfl rfl ?_
          exact kk
        clear k1942
        obtain ⟨cq1955, kq1956, qa1957, qb1958, qc1959⟩ := isOf hZ e1939 F1914
        obtain ⟨_, _, ⟨T1944, L1945, kc1946, nc1947⟩, -, X1948, ⟨Lc1949, hQ1950, l1951, y1952, z1953⟩, st1954⟩ := X1931.virtualBack hx (y := mn13) (z := mn13) hown (mvT hZ (tw43 hw)) (mvT hZ (tw44 hw)) (notFace_of_selects (args := #[]) (mvT hZ (tw46 hw))) (mvT hZ (tw46 hw)) (mvT hZ (tw45 hw)) (by decide) (backOf (W := 0) (rmN l Z a0 hw [] a873 (own_F K) (FP.i2d p0) (FP.i2d p0) (0 : UInt64) (0 : Int32) T1887.heap n0 Z1913 F1914 g1907 F1922 g1909 g1910 F1924 ge875 (fun z => absurd z (by decide))) hZ (tw47 hw) (tw7 hw) (by decide) (by decide)) qa1957 qc1959 (g := (mkF m 241 #[vi p0, vi p1, vi p2, vi p3, vi K, vi (own_F K), vi md, vd (FP.i2d p0), ss, vd (FP.i2d p1), ss, vr a873, vi (1 : Int32), vd (FP.i2d p0), ss, vi (0 : Int32), vd (FP.i2d p0), ss, vd (FP.i2d p0), ss, uu, uu, uu, uu] [(.ref a873)])) rfl (by rw [hml]; rfl) (Steps.refl _) (argsL := []) (rest := []) (lenOf pd_20 rfl) rfl (by show 2 * 0 + _ ≤ _; exact Nat.le_of_eq rfl) (hb hby at_241) (fun _ _ => ⟨rfl, e1939, (by decide : 1 + 0 ≤ _), (by decide : 5 + 0 ≤ _)⟩)
        dsimp only [Pt.U, Pt.locs, Pt.cells, Pt.slots] at X1948 l1951 y1952 z1953 st1954 hQ1950
        subst l1951 y1952 z1953
        obtain ⟨rfl, N1960, K1963, g1964, g1965, g1966, g1967, g1968⟩ := hQ1950
        have N1969 := Fr.app N1941 N1960
        have Z1970 : n0 ≤ T1944.heap.size := Nat.le_trans Z1913 K1963.1
        have F1971 : xa8 Z T1944.heap a873 := F1914.keep K1963
        clear F1914
        clear g1907
        clear F1922
        clear g1909
        clear g1910
        clear F1924
        have k1977 : own_G p e below E0 T1944 (mkF m 244 #[vi p0, vi p1, vi p2, vi p3, vi K, vi (own_F K), vi md, vd (FP.i2d p0), ss, vd (FP.i2d p1), ss, vr a873, vi (1 : Int32), vd (FP.i2d p0), ss, vi (0 : Int32), vd (FP.i2d p0), ss, vd (FP.i2d p0), ss, uu, uu, uu, uu] [(.double (own_nv (FP.i2d p0) (FP.i2d p0) (0 : UInt64) (0 : Int32)))]) := fun tQ kk => k1943 tQ (st1954.trans kk)
        clear k1943 st1954
        have eq1978 : (own_nv (FP.i2d p0) (FP.i2d p0) (0 : UInt64) (0 : Int32)) = (FP.i2d p0) := by rw [own_nv, if_neg (by decide)]
        have F1979 : fd4 Z T1944.heap a873 (.double (FP.i2d p0)) := by rw [← eq1978]; exact g1965
        have eq1980 : (own_nr (0 : Int32)) = (0 : Int32) := by decide
        have F1981 : fd7 Z T1944.heap a873 (.int (0 : Int32)) := by rw [← eq1980]; exact g1968
        have eq1982 : (own_nv (FP.i2d p0) (FP.i2d p0) (0 : UInt64) (0 : Int32)) = (FP.i2d p0) := by rw [own_nv, if_neg (by decide)]
        rw [eq1982] at k1977
        have k1983 : own_G p e below E0 T1944 (mkF m 262 #[vi p0, vi p1, vi p2, vi p3, vi K, vi (own_F K), vi md, vd (FP.i2d p0), ss, vd (FP.i2d p1), ss, vr a873, vi (1 : Int32), vd (FP.i2d p0), ss, vi (0 : Int32), vd (FP.i2d p0), ss, vd (FP.i2d p0), ss, vd (FP.i2d p0), ss, uu, uu] [(.int (4 : Int32)), (.int md), (.int (own_F K)), (.double (FP.i2d p1)), (.double (FP.i2d p0)), (.double (FP.i2d p0))]) := by
          intro tQ kk
          refine k1977 tQ ?_
          refine XS.dstore X1948.here hx rfl (hb hby at_244) rfl (l' := #[vi p0, vi p1, vi p2, vi p3, vi K, vi (own_F K), vi md, vd (FP.i2d p0), ss, vd (FP.i2d p1), ss, vr a873, vi (1 : Int32), vd (FP.i2d p0), ss, vi (0 : Int32), vd (FP.i2d p0), ss, vd (FP.i2d p0), ss, vd (FP.i2d p0), ss, uu, uu]) rfl ?_
          refine XS.iload X1948.here hx rfl (hb hby at_246) rfl ?_
          refine XS.ifNo X1948.here hx rfl (hb hby at_248) rfl (own_if_eqN (by decide)) ?_
          refine XS.dload X1948.here hx rfl (hb hby at_251) rfl ?_
          show Steps p.tables e below (T1944.setTop (mkF m 253 #[vi p0, vi p1, vi p2, vi p3, vi K, vi (own_F K), vi md, vd (FP.i2d p0), ss, vd (FP.i2d p1), ss, vr a873, vi (1 : Int32), vd (FP.i2d p0), ss, vi (0 : Int32), vd (FP.i2d p0), ss, vd (FP.i2d p0), ss, vd (FP.i2d p0), ss, uu, uu] [(.double (FP.i2d p0))])) tQ
          refine XS.dload X1948.here hx rfl (hb hby at_253) rfl ?_
          refine XS.dload X1948.here hx rfl (hb hby at_255) rfl ?_
          refine XS.iload X1948.here hx rfl (hb hby at_257) rfl ?_
          refine XS.iload X1948.here hx rfl (hb hby at_259) rfl ?_
          show Steps p.tables e below (T1944.setTop (mkF m 261 #[vi p0, vi p1, vi p2, vi p3, vi K, vi (own_F K), vi md, vd (FP.i2d p0), ss, vd (FP.i2d p1), ss, vr a873, vi (1 : Int32), vd (FP.i2d p0), ss, vi (0 : Int32), vd (FP.i2d p0), ss, vd (FP.i2d p0), ss, vd (FP.i2d p0), ss, uu, uu] [(.int md), (.int (own_F K)), (.double (FP.i2d p1)), (.double (FP.i2d p0)), (.double (FP.i2d p0))])) tQ
          refine XS.iconst X1948.here hx rfl (hb hby at_261) ?_
          exact kk
        clear k1977
        obtain ⟨_, _, ⟨T1984, L1985, kc1986, nc1987⟩, -, X1988, ⟨Lc1989, hQ1990, l1991, y1992, z1993⟩, st1994⟩ := Jvm.LawKit.callS X1948 hx (y := mn16) hown (mvT hZ (tw48 hw)) (mvT hZ (tw49 hw)) (mvT hZ (tw50 hw)) (mvT hZ (tw51 hw)) (by decide) (backOf (W := 2) (rmE l Z a0 hw [] (FP.i2d p0) (FP.i2d p1) (own_F K) md (4 : Int32) T1944.heap n0 Z1970 (Fl.i2d_fin p0).noNaN (Fl.i2d_fin p1).noNaN (own_h1 p0 p1) (own_h2 p0 p1 (F := (own_F K)) hFb) (own_q3 p0 p1 (F := (own_F K)) (r := (own_mx 0 ((own_F K) - (4 : Int32)))) hFb (own_mxb hFb (by decide)))) hZ (tw51 hw) (tw50 hw) (by decide) (by decide)) (g := (mkF m 262 #[vi p0, vi p1, vi p2, vi p3, vi K, vi (own_F K), vi md, vd (FP.i2d p0), ss, vd (FP.i2d p1), ss, vr a873, vi (1 : Int32), vd (FP.i2d p0), ss, vi (0 : Int32), vd (FP.i2d p0), ss, vd (FP.i2d p0), ss, vd (FP.i2d p0), ss, uu, uu] [(.int (4 : Int32)), (.int md), (.int (own_F K)), (.double (FP.i2d p1)), (.double (FP.i2d p0)), (.double (FP.i2d p0))])) rfl (by rw [hml]; rfl) (argsL := [(.double (FP.i2d p0)), (.double (FP.i2d p1)), (.int (own_F K)), (.int md), (.int (4 : Int32))]) (rest := [(.double (FP.i2d p0))]) (lenOf pd_21 rfl) rfl (by show 2 * 0 + _ ≤ _; exact Nat.le_of_eq rfl) (hb hby at_262) (fun _ _ => ⟨rfl, rfl, (by decide : 1 + 0 ≤ _), (by decide : 5 + 0 ≤ _)⟩)
        dsimp only [Pt.U, Pt.locs, Pt.cells, Pt.slots] at X1988 l1991 y1992 z1993 st1994 hQ1990
        subst l1991 y1992 z1993
        obtain ⟨rfl, N1995, e1996⟩ := hQ1990
        have N1998 := Fr.app N1969 N1995
        have k1999 : own_G p e below E0 T1984 (mkF m 265 #[vi p0, vi p1, vi p2, vi p3, vi K, vi (own_F K), vi md, vd (FP.i2d p0), ss, vd (FP.i2d p1), ss, vr a873, vi (1 : Int32), vd (FP.i2d p0), ss, vi (0 : Int32), vd (FP.i2d p0), ss, vd (FP.i2d p0), ss, vd (FP.i2d p0), ss, uu, uu] [(.double (own_exp (FP.i2d p0) (FP.i2d p1) (own_F K) md (4 : Int32))), (.double (FP.i2d p0))]) := fun tQ kk => k1983 tQ (st1994 _ kk)
        clear k1983 st1994
        have k2000 : own_G p e below E0 T1984 (mkF m 278 #[vi p0, vi p1, vi p2, vi p3, vi K, vi (own_F K), vi md, vd (FP.i2d p0), ss, vd (FP.i2d p1), ss, vr a873, vi (1 : Int32), vd (FP.i2d p0), ss, vi (0 : Int32), vd (FP.i2d p0), ss, vd (FP.i2d p0), ss, vd (FP.i2d p0), ss, uu, uu] [(.ref a873)]) := by
          intro tQ kk
          refine k1999 tQ ?_
          refine XS.dcmpS (v := (0 : Int32)) X1988.here hx rfl (hb hby at_265) rfl (own_eE cm1 cm2 cE (Fl.i2d_fin p0).noNaN) ?_
          refine XS.ifNo X1988.here hx rfl (hb hby at_266) rfl (own_if_neN (by decide)) ?_
          refine XS.iconst X1988.here hx rfl (hb hby at_269) ?_
          refine XS.goto X1988.here hx rfl (pc0 := 270) (pc' := 274) rfl (hb hby at_270) (by decide) (by decide) ?_
          show Steps p.tables e below (T1984.setTop (mkF m 274 #[vi p0, vi p1, vi p2, vi p3, vi K, vi (own_F K), vi md, vd (FP.i2d p0), ss, vd (FP.i2d p1), ss, vr a873, vi (1 : Int32), vd (FP.i2d p0), ss, vi (0 : Int32), vd (FP.i2d p0), ss, vd (FP.i2d p0), ss, vd (FP.i2d p0), ss, uu, uu] [(.int (1 : Int32))])) tQ
          refine XS.istore X1988.here hx rfl (hb hby at_274) rfl (l' := #[vi p0, vi p1, vi p2, vi p3, vi K, vi (own_F K), vi md, vd (FP.i2d p0), ss, vd (FP.i2d p1), ss, vr a873, vi (1 : Int32), vd (FP.i2d p0), ss, vi (0 : Int32), vd (FP.i2d p0), ss, vd (FP.i2d p0), ss, vd (FP.i2d p0), ss, uu, uu]) rfl ?_
          refine XS.aload X1988.here hx rfl (hb hby at_276) rfl rfl ?_
          exact kk
        clear k1999
        obtain ⟨cq2012, kq2013, qa2014, qb2015, qc2016⟩ := isOf hZ e1996 F1971
        obtain ⟨_, _, ⟨T2001, L2002, kc2003, nc2004⟩, -, X2005, ⟨Lc2006, hQ2007, l2008, y2009, z2010⟩, st2011⟩ := X1988.virtualBack hx (y := mn13) (z := mn13) hown (mvT hZ (tw43 hw)) (mvT hZ (tw44 hw)) (notFace_of_selects (args := #[]) (mvT hZ (tw46 hw))) (mvT hZ (tw46 hw)) (mvT hZ (tw45 hw)) (by decide) (backOf (W := 0) (rmN l Z a0 hw [] a873 (own_F K) (FP.i2d p0) (FP.i2d p0) (0 : UInt64) (0 : Int32) T1944.heap n0 Z1970 F1971 g1964 F1979 g1966 g1967 F1981 ge875 (fun z => absurd z (by decide))) hZ (tw47 hw) (tw7 hw) (by decide) (by decide)) qa2014 qc2016 (g := (mkF m 278 #[vi p0, vi p1, vi p2, vi p3, vi K, vi (own_F K), vi md, vd (FP.i2d p0), ss, vd (FP.i2d p1), ss, vr a873, vi (1 : Int32), vd (FP.i2d p0), ss, vi (0 : Int32), vd (FP.i2d p0), ss, vd (FP.i2d p0), ss, vd (FP.i2d p0), ss, uu, uu] [(.ref a873)])) rfl (by rw [hml]; rfl) (Steps.refl _) (argsL := []) (rest := []) (lenOf pd_20 rfl) rfl (by show 2 * 0 + _ ≤ _; exact Nat.le_of_eq rfl) (hb hby at_278) (fun _ _ => ⟨rfl, e1996, (by decide : 1 + 0 ≤ _), (by decide : 5 + 0 ≤ _)⟩)
        dsimp only [Pt.U, Pt.locs, Pt.cells, Pt.slots] at X2005 l2008 y2009 z2010 st2011 hQ2007
        subst l2008 y2009 z2010
        obtain ⟨rfl, N2017, K2020, g2021, g2022, g2023, g2024, g2025⟩ := hQ2007
        have N2026 := Fr.app N1998 N2017
        have Z2027 : n0 ≤ T2001.heap.size := Nat.le_trans Z1970 K2020.1
        have F2028 : xa8 Z T2001.heap a873 := F1971.keep K2020
        clear F1971
        clear g1964
        clear F1979
        clear g1966
        clear g1967
        clear F1981
        have k2034 : own_G p e below E0 T2001 (mkF m 281 #[vi p0, vi p1, vi p2, vi p3, vi K, vi (own_F K), vi md, vd (FP.i2d p0), ss, vd (FP.i2d p1), ss, vr a873, vi (1 : Int32), vd (FP.i2d p0), ss, vi (0 : Int32), vd (FP.i2d p0), ss, vd (FP.i2d p0), ss, vd (FP.i2d p0), ss, uu, uu] [(.double (own_nv (FP.i2d p0) (FP.i2d p0) (0 : UInt64) (0 : Int32)))]) := fun tQ kk => k2000 tQ (st2011.trans kk)
        clear k2000 st2011
        have eq2035 : (own_nv (FP.i2d p0) (FP.i2d p0) (0 : UInt64) (0 : Int32)) = (FP.i2d p0) := by rw [own_nv, if_neg (by decide)]
        have F2036 : fd4 Z T2001.heap a873 (.double (FP.i2d p0)) := by rw [← eq2035]; exact g2022
        have eq2037 : (own_nr (0 : Int32)) = (0 : Int32) := by decide
        have F2038 : fd7 Z T2001.heap a873 (.int (0 : Int32)) := by rw [← eq2037]; exact g2025
        have eq2039 : (own_nv (FP.i2d p0) (FP.i2d p0) (0 : UInt64) (0 : Int32)) = (FP.i2d p0) := by rw [own_nv, if_neg (by decide)]
        rw [eq2039] at k2034
        have k2040 : own_G p e below E0 T2001 (mkF m 299 #[vi p0, vi p1, vi p2, vi p3, vi K, vi (own_F K), vi md, vd (FP.i2d p0), ss, vd (FP.i2d p1), ss, vr a873, vi (1 : Int32), vd (FP.i2d p0), ss, vi (0 : Int32), vd (FP.i2d p0), ss, vd (FP.i2d p0), ss, vd (FP.i2d p0), ss, vd (FP.i2d p0), ss] [(.int (5 : Int32)), (.int md), (.int (own_F K)), (.double (FP.i2d p1)), (.double (FP.i2d p0)), (.double (FP.i2d p0))]) := by
          intro tQ kk
          refine k2034 tQ ?_
          refine XS.dstore X2005.here hx rfl (hb hby at_281) rfl (l' := #[vi p0, vi p1, vi p2, vi p3, vi K, vi (own_F K), vi md, vd (FP.i2d p0), ss, vd (FP.i2d p1), ss, vr a873, vi (1 : Int32), vd (FP.i2d p0), ss, vi (0 : Int32), vd (FP.i2d p0), ss, vd (FP.i2d p0), ss, vd (FP.i2d p0), ss, vd (FP.i2d p0), ss]) rfl ?_
          refine XS.iload X2005.here hx rfl (hb hby at_283) rfl ?_
          refine XS.ifNo X2005.here hx rfl (hb hby at_285) rfl (own_if_eqN (by decide)) ?_
          refine XS.dload X2005.here hx rfl (hb hby at_288) rfl ?_
          show Steps p.tables e below (T2001.setTop (mkF m 290 #[vi p0, vi p1, vi p2, vi p3, vi K, vi (own_F K), vi md, vd (FP.i2d p0), ss, vd (FP.i2d p1), ss, vr a873, vi (1 : Int32), vd (FP.i2d p0), ss, vi (0 : Int32), vd (FP.i2d p0), ss, vd (FP.i2d p0), ss, vd (FP.i2d p0), ss, vd (FP.i2d p0), ss] [(.double (FP.i2d p0))])) tQ
          refine XS.dload X2005.here hx rfl (hb hby at_290) rfl ?_
          refine XS.dload X2005.here hx rfl (hb hby at_292) rfl ?_
          refine XS.iload X2005.here hx rfl (hb hby at_294) rfl ?_
          refine XS.iload X2005.here hx rfl (hb hby at_296) rfl ?_
          show Steps p.tables e below (T2001.setTop (mkF m 298 #[vi p0, vi p1, vi p2, vi p3, vi K, vi (own_F K), vi md, vd (FP.i2d p0), ss, vd (FP.i2d p1), ss, vr a873, vi (1 : Int32), vd (FP.i2d p0), ss, vi (0 : Int32), vd (FP.i2d p0), ss, vd (FP.i2d p0), ss, vd (FP.i2d p0), ss, vd (FP.i2d p0), ss] [(.int md), (.int (own_F K)), (.double (FP.i2d p1)), (.double (FP.i2d p0)), (.double (FP.i2d p0))])) tQ
          refine XS.iconst X2005.here hx rfl (hb hby at_298) ?_
          exact kk
        clear k2034
        obtain ⟨_, _, ⟨T2041, L2042, kc2043, nc2044⟩, -, X2045, ⟨Lc2046, hQ2047, l2048, y2049, z2050⟩, st2051⟩ := Jvm.LawKit.callS X2005 hx (y := mn16) hown (mvT hZ (tw48 hw)) (mvT hZ (tw49 hw)) (mvT hZ (tw50 hw)) (mvT hZ (tw51 hw)) (by decide) (backOf (W := 2) (rmE l Z a0 hw [] (FP.i2d p0) (FP.i2d p1) (own_F K) md (5 : Int32) T2001.heap n0 Z2027 (Fl.i2d_fin p0).noNaN (Fl.i2d_fin p1).noNaN (own_h1 p0 p1) (own_h2 p0 p1 (F := (own_F K)) hFb) (own_q3 p0 p1 (F := (own_F K)) (r := (own_mx 0 ((own_F K) - (5 : Int32)))) hFb (own_mxb hFb (by decide)))) hZ (tw51 hw) (tw50 hw) (by decide) (by decide)) (g := (mkF m 299 #[vi p0, vi p1, vi p2, vi p3, vi K, vi (own_F K), vi md, vd (FP.i2d p0), ss, vd (FP.i2d p1), ss, vr a873, vi (1 : Int32), vd (FP.i2d p0), ss, vi (0 : Int32), vd (FP.i2d p0), ss, vd (FP.i2d p0), ss, vd (FP.i2d p0), ss, vd (FP.i2d p0), ss] [(.int (5 : Int32)), (.int md), (.int (own_F K)), (.double (FP.i2d p1)), (.double (FP.i2d p0)), (.double (FP.i2d p0))])) rfl (by rw [hml]; rfl) (argsL := [(.double (FP.i2d p0)), (.double (FP.i2d p1)), (.int (own_F K)), (.int md), (.int (5 : Int32))]) (rest := [(.double (FP.i2d p0))]) (lenOf pd_21 rfl) rfl (by show 2 * 0 + _ ≤ _; exact Nat.le_of_eq rfl) (hb hby at_299) (fun _ _ => ⟨rfl, rfl, (by decide : 1 + 0 ≤ _), (by decide : 5 + 0 ≤ _)⟩)
        dsimp only [Pt.U, Pt.locs, Pt.cells, Pt.slots] at X2045 l2048 y2049 z2050 st2051 hQ2047
        subst l2048 y2049 z2050
        obtain ⟨rfl, N2052, e2053⟩ := hQ2047
        have N2055 := Fr.app N2026 N2052
        have k2056 : own_G p e below E0 T2041 (mkF m 302 #[vi p0, vi p1, vi p2, vi p3, vi K, vi (own_F K), vi md, vd (FP.i2d p0), ss, vd (FP.i2d p1), ss, vr a873, vi (1 : Int32), vd (FP.i2d p0), ss, vi (0 : Int32), vd (FP.i2d p0), ss, vd (FP.i2d p0), ss, vd (FP.i2d p0), ss, vd (FP.i2d p0), ss] [(.double (own_exp (FP.i2d p0) (FP.i2d p1) (own_F K) md (5 : Int32))), (.double (FP.i2d p0))]) := fun tQ kk => k2040 tQ (st2051 _ kk)
        clear k2040 st2051
        have k2057 : own_G p e below E0 T2041 (mkF m 353 #[vi p0, vi p1, vi p2, vi p3, vi K, vi (own_F K), vi md, vd (FP.i2d p0), ss, vd (FP.i2d p1), ss, vr a873, vi (1 : Int32), vd (FP.i2d p0), ss, vi (0 : Int32), vd (FP.i2d p0), ss, vd (FP.i2d p0), ss, vd (FP.i2d p0), ss, vd (FP.i2d p0), ss] [(.ref a873)]) := by
          intro tQ kk
          refine k2056 tQ ?_
          refine XS.dcmpS (v := (0 : Int32)) X2045.here hx rfl (hb hby at_302) rfl (own_eE cm1 cm2 cE (Fl.i2d_fin p0).noNaN) ?_
          refine XS.ifNo X2045.here hx rfl (hb hby at_303) rfl (own_if_neN (by decide)) ?_
          refine XS.iconst X2045.here hx rfl (hb hby at_306) ?_
          refine XS.goto X2045.here hx rfl (pc0 := 307) (pc' := 311) rfl (hb hby at_307) (by decide) (by decide) ?_
          show Steps p.tables e below (T2041.setTop (mkF m 311 #[vi p0, vi p1, vi p2, vi p3, vi K, vi (own_F K), vi md, vd (FP.i2d p0), ss, vd (FP.i2d p1), ss, vr a873, vi (1 : Int32), vd (FP.i2d p0), ss, vi (0 : Int32), vd (FP.i2d p0), ss, vd (FP.i2d p0), ss, vd (FP.i2d p0), ss, vd (FP.i2d p0), ss] [(.int (1 : Int32))])) tQ
          refine XS.istore X2045.here hx rfl (hb hby at_311) rfl (l' := #[vi p0, vi p1, vi p2, vi p3, vi K, vi (own_F K), vi md, vd (FP.i2d p0), ss, vd (FP.i2d p1), ss, vr a873, vi (1 : Int32), vd (FP.i2d p0), ss, vi (0 : Int32), vd (FP.i2d p0), ss, vd (FP.i2d p0), ss, vd (FP.i2d p0), ss, vd (FP.i2d p0), ss]) rfl ?_
          refine XS.iload X2045.here hx rfl (hb hby at_313) rfl ?_
          refine XS.ifNo X2045.here hx rfl (hb hby at_315) rfl (own_if_eqN (by decide)) ?_
          refine XS.dload X2045.here hx rfl (hb hby at_318) rfl ?_
          show Steps p.tables e below (T2041.setTop (mkF m 320 #[vi p0, vi p1, vi p2, vi p3, vi K, vi (own_F K), vi md, vd (FP.i2d p0), ss, vd (FP.i2d p1), ss, vr a873, vi (1 : Int32), vd (FP.i2d p0), ss, vi (0 : Int32), vd (FP.i2d p0), ss, vd (FP.i2d p0), ss, vd (FP.i2d p0), ss, vd (FP.i2d p0), ss] [(.double (FP.i2d p0))])) tQ
          refine XS.dload X2045.here hx rfl (hb hby at_320) rfl ?_
          refine XS.dcmpS (v := (0 : Int32)) X2045.here hx rfl (hb hby at_322) rfl (own_eqz .l (Fl.i2d_fin p0).noNaN (Fl.i2d_fin p1).noNaN cE.symm) ?_
          refine XS.ifYes X2045.here hx rfl (pc0 := 323) (pc' := 339) rfl (hb hby at_323) rfl (own_if_eqY (by decide)) (by decide) (by decide) ?_
          refine XS.iconst X2045.here hx rfl (hb hby at_339) ?_
          show Steps p.tables e below (T2041.setTop (mkF m 340 #[vi p0, vi p1, vi p2, vi p3, vi K, vi (own_F K), vi md, vd (FP.i2d p0), ss, vd (FP.i2d p1), ss, vr a873, vi (1 : Int32), vd (FP.i2d p0), ss, vi (0 : Int32), vd (FP.i2d p0), ss, vd (FP.i2d p0), ss, vd (FP.i2d p0), ss, vd (FP.i2d p0), ss] [(.int (1 : Int32))])) tQ
          refine XS.goto X2045.here hx rfl (pc0 := 340) (pc' := 344) rfl (hb hby at_340) (by decide) (by decide) ?_
          refine XS.istore X2045.here hx rfl (hb hby at_344) rfl (l' := #[vi p0, vi p1, vi p2, vi p3, vi K, vi (own_F K), vi md, vd (FP.i2d p0), ss, vd (FP.i2d p1), ss, vr a873, vi (1 : Int32), vd (FP.i2d p0), ss, vi (0 : Int32), vd (FP.i2d p0), ss, vd (FP.i2d p0), ss, vd (FP.i2d p0), ss, vd (FP.i2d p0), ss]) rfl ?_
          refine XS.iload X2045.here hx rfl (hb hby at_346) rfl ?_
          refine XS.ifNo X2045.here hx rfl (hb hby at_348) rfl (own_if_eqN (by decide)) ?_
          show Steps p.tables e below (T2041.setTop (mkF m 351 #[vi p0, vi p1, vi p2, vi p3, vi K, vi (own_F K), vi md, vd (FP.i2d p0), ss, vd (FP.i2d p1), ss, vr a873, vi (1 : Int32), vd (FP.i2d p0), ss, vi (0 : Int32), vd (FP.i2d p0), ss, vd (FP.i2d p0), ss, vd (FP.i2d p0), ss, vd (FP.i2d p0), ss] [])) tQ
          refine XS.aload X2045.here hx rfl (hb hby at_351) rfl rfl ?_
          exact kk
        clear k2056
        obtain ⟨cq2069, kq2070, qa2071, qb2072, qc2073⟩ := isOf hZ e2053 F2028
        obtain ⟨_, _, ⟨T2058, L2059, kc2060, nc2061⟩, -, X2062, ⟨Lc2063, hQ2064, l2065, y2066, z2067⟩, st2068⟩ := X2045.virtualBack hx (y := mn15) (z := mn15) hown (mvT hZ (tw57 hw)) (mvT hZ (tw58 hw)) (notFace_of_selects (args := #[]) (mvT hZ (tw60 hw))) (mvT hZ (tw60 hw)) (mvT hZ (tw59 hw)) (by decide) (backOf (W := 0) (rmVl l Z a0 hw [] a873 (FP.i2d p0) T2001.heap n0 Z2027 F2036) hZ (tw61 hw) (tw7 hw) (by decide) (by decide)) qa2071 qc2073 (g := (mkF m 353 #[vi p0, vi p1, vi p2, vi p3, vi K, vi (own_F K), vi md, vd (FP.i2d p0), ss, vd (FP.i2d p1), ss, vr a873, vi (1 : Int32), vd (FP.i2d p0), ss, vi (0 : Int32), vd (FP.i2d p0), ss, vd (FP.i2d p0), ss, vd (FP.i2d p0), ss, vd (FP.i2d p0), ss] [(.ref a873)])) rfl (by rw [hml]; rfl) (Steps.refl _) (argsL := []) (rest := []) (lenOf pd_20 rfl) rfl (by show 2 * 0 + _ ≤ _; exact Nat.le_of_eq rfl) (hb hby at_353) (fun _ _ => ⟨rfl, e2053, (by decide : 1 + 0 ≤ _), (by decide : 5 + 0 ≤ _)⟩)
        dsimp only [Pt.U, Pt.locs, Pt.cells, Pt.slots] at X2062 l2065 y2066 z2067 st2068 hQ2064
        subst l2065 y2066 z2067
        obtain ⟨rfl, N2074, e2075⟩ := hQ2064
        have N2077 := Fr.app N2055 N2074
        have k2078 : own_G p e below E0 T2058 (mkF m 356 #[vi p0, vi p1, vi p2, vi p3, vi K, vi (own_F K), vi md, vd (FP.i2d p0), ss, vd (FP.i2d p1), ss, vr a873, vi (1 : Int32), vd (FP.i2d p0), ss, vi (0 : Int32), vd (FP.i2d p0), ss, vd (FP.i2d p0), ss, vd (FP.i2d p0), ss, vd (FP.i2d p0), ss] [(.double (FP.i2d p0))]) := fun tQ kk => k2057 tQ (st2068.trans kk)
        clear k2057 st2068
        have k2079 : own_G p e below E0 T2058 (mkF m 376 #[vi p0, vi p1, vi p2, vi p3, vi K, vi (own_F K), vi md, vd (FP.i2d p0), ss, vd (FP.i2d p1), ss, vr a873, vi (1 : Int32), vd (FP.i2d p0), ss, vi (0 : Int32), vd (FP.i2d p0), ss, vd (FP.i2d p0), ss, vd (FP.i2d p0), ss, vd (FP.i2d p0), ss] [(.ref a873)]) := by
          intro tQ kk
          refine k2078 tQ ?_
          refine XS.dload X2062.here hx rfl (hb hby at_356) rfl ?_
          refine XS.dcmpS (v := (0 : Int32)) X2062.here hx rfl (hb hby at_358) rfl (dcmpV_self (Fl.i2d_fin p0).noNaN .l) ?_
          refine XS.ifNo X2062.here hx rfl (hb hby at_359) rfl (own_if_neN (by decide)) ?_
          refine XS.iconst X2062.here hx rfl (hb hby at_362) ?_
          show Steps p.tables e below (T2058.setTop (mkF m 363 #[vi p0, vi p1, vi p2, vi p3, vi K, vi (own_F K), vi md, vd (FP.i2d p0), ss, vd (FP.i2d p1), ss, vr a873, vi (1 : Int32), vd (FP.i2d p0), ss, vi (0 : Int32), vd (FP.i2d p0), ss, vd (FP.i2d p0), ss, vd (FP.i2d p0), ss, vd (FP.i2d p0), ss] [(.int (1 : Int32))])) tQ
          refine XS.goto X2062.here hx rfl (pc0 := 363) (pc' := 367) rfl (hb hby at_363) (by decide) (by decide) ?_
          refine XS.istore X2062.here hx rfl (hb hby at_367) rfl (l' := #[vi p0, vi p1, vi p2, vi p3, vi K, vi (own_F K), vi md, vd (FP.i2d p0), ss, vd (FP.i2d p1), ss, vr a873, vi (1 : Int32), vd (FP.i2d p0), ss, vi (0 : Int32), vd (FP.i2d p0), ss, vd (FP.i2d p0), ss, vd (FP.i2d p0), ss, vd (FP.i2d p0), ss]) rfl ?_
          refine XS.iload X2062.here hx rfl (hb hby at_369) rfl ?_
          refine XS.ifNo X2062.here hx rfl (hb hby at_371) rfl (own_if_eqN (by decide)) ?_
          show Steps p.tables e below (T2058.setTop (mkF m 374 #[vi p0, vi p1, vi p2, vi p3, vi K, vi (own_F K), vi md, vd (FP.i2d p0), ss, vd (FP.i2d p1), ss, vr a873, vi (1 : Int32), vd (FP.i2d p0), ss, vi (0 : Int32), vd (FP.i2d p0), ss, vd (FP.i2d p0), ss, vd (FP.i2d p0), ss, vd (FP.i2d p0), ss] [])) tQ
          refine XS.aload X2062.here hx rfl (hb hby at_374) rfl rfl ?_
          exact kk
        clear k2078
        obtain ⟨cq2091, kq2092, qa2093, qb2094, qc2095⟩ := isOf hZ e2075 F2028
        obtain ⟨_, _, ⟨T2080, L2081, kc2082, nc2083⟩, -, X2084, ⟨Lc2085, hQ2086, l2087, y2088, z2089⟩, st2090⟩ := X2062.virtualBack hx (y := mn14) (z := mn14) hown (mvT hZ (tw52 hw)) (mvT hZ (tw53 hw)) (notFace_of_selects (args := #[]) (mvT hZ (tw55 hw))) (mvT hZ (tw55 hw)) (mvT hZ (tw54 hw)) (by decide) (backOf (W := 0) (rmMv l Z a0 hw [] a873 (0 : Int32) T2001.heap n0 Z2027 F2038) hZ (tw56 hw) (tw7 hw) (by decide) (by decide)) qa2093 qc2095 (g := (mkF m 376 #[vi p0, vi p1, vi p2, vi p3, vi K, vi (own_F K), vi md, vd (FP.i2d p0), ss, vd (FP.i2d p1), ss, vr a873, vi (1 : Int32), vd (FP.i2d p0), ss, vi (0 : Int32), vd (FP.i2d p0), ss, vd (FP.i2d p0), ss, vd (FP.i2d p0), ss, vd (FP.i2d p0), ss] [(.ref a873)])) rfl (by rw [hml]; rfl) (Steps.refl _) (argsL := []) (rest := []) (lenOf pd_22 rfl) rfl (by show 2 * 0 + _ ≤ _; exact Nat.le_of_eq rfl) (hb hby at_376) (fun _ _ => ⟨rfl, e2075, (by decide : 1 + 0 ≤ _), (by decide : 5 + 0 ≤ _)⟩)
        dsimp only [Pt.U, Pt.locs, Pt.cells, Pt.slots] at X2084 l2087 y2088 z2089 st2090 hQ2086
        subst l2087 y2088 z2089
        obtain ⟨rfl, N2096, e2097⟩ := hQ2086
        have N2099 := Fr.app N2077 N2096
        have k2100 : own_G p e below E0 T2080 (mkF m 379 #[vi p0, vi p1, vi p2, vi p3, vi K, vi (own_F K), vi md, vd (FP.i2d p0), ss, vd (FP.i2d p1), ss, vr a873, vi (1 : Int32), vd (FP.i2d p0), ss, vi (0 : Int32), vd (FP.i2d p0), ss, vd (FP.i2d p0), ss, vd (FP.i2d p0), ss, vd (FP.i2d p0), ss] [(.int (own_mv (0 : Int32)))]) := fun tQ kk => k2079 tQ (st2090.trans kk)
        clear k2079 st2090
        have eq2101 : (own_mv (0 : Int32)) = (0 : Int32) := by decide
        rw [eq2101] at k2100
        have k2102 : own_G p e below E0 T2080 (mkF m 391 #[vi p0, vi p1, vi p2, vi p3, vi K, vi (own_F K), vi md, vd (FP.i2d p0), ss, vd (FP.i2d p1), ss, vr a873, vi (1 : Int32), vd (FP.i2d p0), ss, vi (0 : Int32), vd (FP.i2d p0), ss, vd (FP.i2d p0), ss, vd (FP.i2d p0), ss, vd (FP.i2d p0), ss] [(.int (1 : Int32))]) := by
          intro tQ kk
          refine k2100 tQ ?_
          refine XS.ifNo X2084.here hx rfl (hb hby at_379) rfl (own_if_neN (by decide)) ?_
          refine XS.iconst X2084.here hx rfl (hb hby at_382) ?_
          refine XS.goto X2084.here hx rfl (pc0 := 383) (pc' := 387) rfl (hb hby at_383) (by decide) (by decide) ?_
          refine XS.istore X2084.here hx rfl (hb hby at_387) rfl (l' := #[vi p0, vi p1, vi p2, vi p3, vi K, vi (own_F K), vi md, vd (FP.i2d p0), ss, vd (FP.i2d p1), ss, vr a873, vi (1 : Int32), vd (FP.i2d p0), ss, vi (0 : Int32), vd (FP.i2d p0), ss, vd (FP.i2d p0), ss, vd (FP.i2d p0), ss, vd (FP.i2d p0), ss]) rfl ?_
          show Steps p.tables e below (T2080.setTop (mkF m 389 #[vi p0, vi p1, vi p2, vi p3, vi K, vi (own_F K), vi md, vd (FP.i2d p0), ss, vd (FP.i2d p1), ss, vr a873, vi (1 : Int32), vd (FP.i2d p0), ss, vi (0 : Int32), vd (FP.i2d p0), ss, vd (FP.i2d p0), ss, vd (FP.i2d p0), ss, vd (FP.i2d p0), ss] [])) tQ
          refine XS.iload X2084.here hx rfl (hb hby at_389) rfl ?_
          exact kk
        clear k2100
        obtain ⟨fs, hr, hrun, hended, hW, hsame⟩ := X2084.leave (v := some (.int (1 : Int32))) (fun h => by rw [Bd.returns] at h; cases h)
        have hrun0 := k2102 _ (retOut X2084 hx Bd.returns (t := .boolean) rfl (Or.inl ⟨rfl, Or.inr (Or.inl rfl), _, rfl⟩) (hb hby at_391) hr)
        subst hE0
        refine ⟨_, _, hrun0, hrun, hended, _, _, rfl, ?_, ⟨_, rfl⟩, hW, hsame.mono (by decide) (by decide)⟩
        show Qrm0 Z p0 p1 p2 p3 h0 n0 _ T2080.heap _
        rw [e2097]
        exact ⟨rfl, N2099⟩
      · skip
        have eq2103 : (own_tg (FP.i2d p1) (FP.i2d p0)) = (FP.i2d p1) := by rw [own_tg, if_neg cE]
        have F2104 : fd5 Z T1709.heap a873 (.double (FP.i2d p1)) := by rw [← eq2103]; exact g1731
        have eq2105 : (own_sp (FP.i2d p1) (FP.i2d p0) (FP.i2d p0) (0 : UInt64) (own_F K)) = (FP.ddiv (FP.dsub (FP.i2d p1) (FP.i2d p0)) (FP.i2d (own_F K))) := by rw [own_sp, if_neg cE]
        have F2106 : fd6 Z T1709.heap a873 (.double (FP.ddiv (FP.dsub (FP.i2d p1) (FP.i2d p0)) (FP.i2d (own_F K)))) := by rw [← eq2105]; exact g1732
        have eq2107 : (own_rm (FP.i2d p1) (FP.i2d p0) (0 : Int32) (own_F K)) = (own_F K) := by rw [own_rm, if_neg cE]
        have F2108 : fd7 Z T1709.heap a873 (.int (own_F K)) := by rw [← eq2107]; exact g1733
        have k2109 : own_G p e below E0 T1709 (mkF m 77 #[vi p0, vi p1, vi p2, vi p3, vi K, vi (own_F K), vi md, vd (FP.i2d p0), ss, vd (FP.i2d p1), ss, vr a873, uu, uu, uu, uu, uu, uu, uu, uu, uu, uu, uu, uu] [(.int (1 : Int32))]) := by
          intro tQ kk
          refine k1742 tQ ?_
          refine XS.iconst X1713.here hx rfl (hb hby at_76) ?_
          exact kk
        clear k1742
        rcases hK with rfl | rfl | rfl | rfl | rfl
        · skip
          have eq2110 : (own_F (0 : Int32)) = (1 : Int32) := by decide
          rw [eq2110] at k2109
          have eq2111 : (own_F (0 : Int32)) = (1 : Int32) := by decide
          have F2112 : fd7 Z T1709.heap a873 (.int (1 : Int32)) := by rw [← eq2111]; exact F2108
          have eq2113 : (own_F (0 : Int32)) = (1 : Int32) := by decide
          have F2114 : fd3 Z T1709.heap a873 (.int (1 : Int32)) := by rw [← eq2113]; exact g1729
          have eq2115 : (FP.ddiv (FP.dsub (FP.i2d p1) (FP.i2d p0)) (FP.i2d (own_F (0 : Int32)))) = (FP.ddiv (FP.dsub (FP.i2d p1) (FP.i2d p0)) (FP.i2d (1 : Int32))) := by rw [show own_F (0 : Int32) = (1 : Int32) by decide]
          have F2116 : fd6 Z T1709.heap a873 (.double (FP.ddiv (FP.dsub (FP.i2d p1) (FP.i2d p0)) (FP.i2d (1 : Int32)))) := by rw [← eq2115]; exact F2106
          have k2117 : own_G p e below E0 T1709 (mkF m 81 #[vi p0, vi p1, vi p2, vi p3, vi (0 : Int32), vi (1 : Int32), vi md, vd (FP.i2d p0), ss, vd (FP.i2d p1), ss, vr a873, vi (1 : Int32), uu, uu, uu, uu, uu, uu, uu, uu, uu, uu, uu] [(.ref a873)]) := by
            intro tQ kk
            refine k2109 tQ ?_
            refine XS.istore X1713.here hx rfl (hb hby at_77) rfl (l' := #[vi p0, vi p1, vi p2, vi p3, vi (0 : Int32), vi (1 : Int32), vi md, vd (FP.i2d p0), ss, vd (FP.i2d p1), ss, vr a873, vi (1 : Int32), uu, uu, uu, uu, uu, uu, uu, uu, uu, uu, uu]) rfl ?_
            refine XS.aload X1713.here hx rfl (hb hby at_79) rfl rfl ?_
            exact kk
          clear k2109
          obtain ⟨cq2129, kq2130, qa2131, qb2132, qc2133⟩ := isOf hZ rfl F1736
          obtain ⟨_, _, ⟨T2118, L2119, kc2120, nc2121⟩, -, X2122, ⟨Lc2123, hQ2124, l2125, y2126, z2127⟩, st2128⟩ := X1713.virtualBack hx (y := mn13) (z := mn13) hown (mvT hZ (tw43 hw)) (mvT hZ (tw44 hw)) (notFace_of_selects (args := #[]) (mvT hZ (tw46 hw))) (mvT hZ (tw46 hw)) (mvT hZ (tw45 hw)) (by decide) (backOf (W := 0) (rmN l Z a0 hw [] a873 (1 : Int32) (FP.i2d p0) (FP.i2d p1) (FP.ddiv (FP.dsub (FP.i2d p1) (FP.i2d p0)) (FP.i2d (1 : Int32))) (1 : Int32) T1709.heap n0 Z1735 F1736 F2114 g1730 F2104 F2116 F2112 ge875 (fun _ => own_q3 p0 p1 (F := (1 : Int32)) (r := ((1 : Int32) - 1)) (by decide) (by decide))) hZ (tw47 hw) (tw7 hw) (by decide) (by decide)) qa2131 qc2133 (g := (mkF m 81 #[vi p0, vi p1, vi p2, vi p3, vi (0 : Int32), vi (1 : Int32), vi md, vd (FP.i2d p0), ss, vd (FP.i2d p1), ss, vr a873, vi (1 : Int32), uu, uu, uu, uu, uu, uu, uu, uu, uu, uu, uu] [(.ref a873)])) rfl (by rw [hml]; rfl) (Steps.refl _) (argsL := []) (rest := []) (lenOf pd_20 rfl) rfl (by show 2 * 0 + _ ≤ _; exact Nat.le_of_eq rfl) (hb hby at_81) (fun _ _ => ⟨rfl, rfl, (by decide : 1 + 0 ≤ _), (by decide : 5 + 0 ≤ _)⟩)
          dsimp only [Pt.U, Pt.locs, Pt.cells, Pt.slots] at X2122 l2125 y2126 z2127 st2128 hQ2124
          subst l2125 y2126 z2127
          obtain ⟨rfl, N2134, K2137, g2138, g2139, g2140, g2141, g2142⟩ := hQ2124
          have N2143 := Fr.app N1734 N2134
          have Z2144 : n0 ≤ T2118.heap.size := Nat.le_trans Z1735 K2137.1
          have F2145 : xa8 Z T2118.heap a873 := F1736.keep K2137
          clear F1736
          clear F2114
          clear g1730
          clear F2104
          clear F2116
          clear F2112
          have k2151 : own_G p e below E0 T2118 (mkF m 84 #[vi p0, vi p1, vi p2, vi p3, vi (0 : Int32), vi (1 : Int32), vi md, vd (FP.i2d p0), ss, vd (FP.i2d p1), ss, vr a873, vi (1 : Int32), uu, uu, uu, uu, uu, uu, uu, uu, uu, uu, uu] [(.double (own_nv (FP.i2d p0) (FP.i2d p1) (FP.ddiv (FP.dsub (FP.i2d p1) (FP.i2d p0)) (FP.i2d (1 : Int32))) (1 : Int32)))]) := fun tQ kk => k2117 tQ (st2128.trans kk)
          clear k2117 st2128
          have eq2152 : (own_nv (FP.i2d p0) (FP.i2d p1) (FP.ddiv (FP.dsub (FP.i2d p1) (FP.i2d p0)) (FP.i2d (1 : Int32))) (1 : Int32)) = (FP.dsub (FP.i2d p1) (FP.dmul (FP.i2d (0 : Int32)) (FP.ddiv (FP.dsub (FP.i2d p1) (FP.i2d p0)) (FP.i2d (1 : Int32))))) := by rw [own_nv, if_pos (by decide), show (1 : Int32) - 1 = (0 : Int32) by decide]
          have F2153 : fd4 Z T2118.heap a873 (.double (FP.dsub (FP.i2d p1) (FP.dmul (FP.i2d (0 : Int32)) (FP.ddiv (FP.dsub (FP.i2d p1) (FP.i2d p0)) (FP.i2d (1 : Int32)))))) := by rw [← eq2152]; exact g2139
          have eq2154 : (own_nr (1 : Int32)) = (0 : Int32) := by decide
          have F2155 : fd7 Z T2118.heap a873 (.int (0 : Int32)) := by rw [← eq2154]; exact g2142
          have eq2156 : (own_nv (FP.i2d p0) (FP.i2d p1) (FP.ddiv (FP.dsub (FP.i2d p1) (FP.i2d p0)) (FP.i2d (1 : Int32))) (1 : Int32)) = (FP.dsub (FP.i2d p1) (FP.dmul (FP.i2d (0 : Int32)) (FP.ddiv (FP.dsub (FP.i2d p1) (FP.i2d p0)) (FP.i2d (1 : Int32))))) := by rw [own_nv, if_pos (by decide), show (1 : Int32) - 1 = (0 : Int32) by decide]
          rw [eq2156] at k2151
          have k2157 : own_G p e below E0 T2118 (mkF m 102 #[vi p0, vi p1, vi p2, vi p3, vi (0 : Int32), vi (1 : Int32), vi md, vd (FP.i2d p0), ss, vd (FP.i2d p1), ss, vr a873, vi (1 : Int32), vd (FP.dsub (FP.i2d p1) (FP.dmul (FP.i2d (0 : Int32)) (FP.ddiv (FP.dsub (FP.i2d p1) (FP.i2d p0)) (FP.i2d (1 : Int32))))), ss, uu, uu, uu, uu, uu, uu, uu, uu, uu] [(.int (1 : Int32)), (.int md), (.int (1 : Int32)), (.double (FP.i2d p1)), (.double (FP.i2d p0)), (.double (FP.dsub (FP.i2d p1) (FP.dmul (FP.i2d (0 : Int32)) (FP.ddiv (FP.dsub (FP.i2d p1) (FP.i2d p0)) (FP.i2d (1 : Int32))))))]) := by
            intro tQ kk
            refine k2151 tQ ?_
            refine XS.dstore X2122.here hx rfl (hb hby at_84) rfl (l' := #[vi p0, vi p1, vi p2, vi p3, vi (0 : Int32), vi (1 : Int32), vi md, vd (FP.i2d p0), ss, vd (FP.i2d p1), ss, vr a873, vi (1 : Int32), vd (FP.dsub (FP.i2d p1) (FP.dmul (FP.i2d (0 : Int32)) (FP.ddiv (FP.dsub (FP.i2d p1) (FP.i2d p0)) (FP.i2d (1 : Int32))))), ss, uu, uu, uu, uu, uu, uu, uu, uu, uu]) rfl ?_
            refine XS.iload X2122.here hx rfl (hb hby at_86) rfl ?_
            refine XS.ifNo X2122.here hx rfl (hb hby at_88) rfl (own_if_eqN (by decide)) ?_
            refine XS.dload X2122.here hx rfl (hb hby at_91) rfl ?_
            show Steps p.tables e below (T2118.setTop (mkF m 93 #[vi p0, vi p1, vi p2, vi p3, vi (0 : Int32), vi (1 : Int32), vi md, vd (FP.i2d p0), ss, vd (FP.i2d p1), ss, vr a873, vi (1 : Int32), vd (FP.dsub (FP.i2d p1) (FP.dmul (FP.i2d (0 : Int32)) (FP.ddiv (FP.dsub (FP.i2d p1) (FP.i2d p0)) (FP.i2d (1 : Int32))))), ss, uu, uu, uu, uu, uu, uu, uu, uu, uu] [(.double (FP.dsub (FP.i2d p1) (FP.dmul (FP.i2d (0 : Int32)) (FP.ddiv (FP.dsub (FP.i2d p1) (FP.i2d p0)) (FP.i2d (1 : Int32))))))])) tQ
            refine XS.dload X2122.here hx rfl (hb hby at_93) rfl ?_
            refine XS.dload X2122.here hx rfl (hb hby at_95) rfl ?_
            refine XS.iload X2122.here hx rfl (hb hby at_97) rfl ?_
            refine XS.iload X2122.here hx rfl (hb hby at_99) rfl ?_
            show Steps p.tables e below (T2118.setTop (mkF m 101 #[vi p0, vi p1, vi p2, vi p3, vi (0 : Int32), vi (1 : Int32), vi md, vd (FP.i2d p0), ss, vd (FP.i2d p1), ss, vr a873, vi (1 : Int32), vd (FP.dsub (FP.i2d p1) (FP.dmul (FP.i2d (0 : Int32)) (FP.ddiv (FP.dsub (FP.i2d p1) (FP.i2d p0)) (FP.i2d (1 : Int32))))), ss, uu, uu, uu, uu, uu, uu, uu, uu, uu] [(.int md), (.int (1 : Int32)), (.double (FP.i2d p1)), (.double (FP.i2d p0)), (.double (FP.dsub (FP.i2d p1) (FP.dmul (FP.i2d (0 : Int32)) (FP.ddiv (FP.dsub (FP.i2d p1) (FP.i2d p0)) (FP.i2d (1 : Int32))))))])) tQ
            refine XS.iconst X2122.here hx rfl (hb hby at_101) ?_
            exact kk
          clear k2151
          obtain ⟨_, _, ⟨T2158, L2159, kc2160, nc2161⟩, -, X2162, ⟨Lc2163, hQ2164, l2165, y2166, z2167⟩, st2168⟩ := Jvm.LawKit.callS X2122 hx (y := mn16) hown (mvT hZ (tw48 hw)) (mvT hZ (tw49 hw)) (mvT hZ (tw50 hw)) (mvT hZ (tw51 hw)) (by decide) (backOf (W := 2) (rmE l Z a0 hw [] (FP.i2d p0) (FP.i2d p1) (1 : Int32) md (1 : Int32) T2118.heap n0 Z2144 (Fl.i2d_fin p0).noNaN (Fl.i2d_fin p1).noNaN (own_h1 p0 p1) (own_h2 p0 p1 (F := (1 : Int32)) (by decide)) (own_q3 p0 p1 (F := (1 : Int32)) (r := (own_mx 0 ((1 : Int32) - (1 : Int32)))) (by decide) (own_mxb (by decide) (by decide)))) hZ (tw51 hw) (tw50 hw) (by decide) (by decide)) (g := (mkF m 102 #[vi p0, vi p1, vi p2, vi p3, vi (0 : Int32), vi (1 : Int32), vi md, vd (FP.i2d p0), ss, vd (FP.i2d p1), ss, vr a873, vi (1 : Int32), vd (FP.dsub (FP.i2d p1) (FP.dmul (FP.i2d (0 : Int32)) (FP.ddiv (FP.dsub (FP.i2d p1) (FP.i2d p0)) (FP.i2d (1 : Int32))))), ss, uu, uu, uu, uu, uu, uu, uu, uu, uu] [(.int (1 : Int32)), (.int md), (.int (1 : Int32)), (.double (FP.i2d p1)), (.double (FP.i2d p0)), (.double (FP.dsub (FP.i2d p1) (FP.dmul (FP.i2d (0 : Int32)) (FP.ddiv (FP.dsub (FP.i2d p1) (FP.i2d p0)) (FP.i2d (1 : Int32))))))])) rfl (by rw [hml]; rfl) (argsL := [(.double (FP.i2d p0)), (.double (FP.i2d p1)), (.int (1 : Int32)), (.int md), (.int (1 : Int32))]) (rest := [(.double (FP.dsub (FP.i2d p1) (FP.dmul (FP.i2d (0 : Int32)) (FP.ddiv (FP.dsub (FP.i2d p1) (FP.i2d p0)) (FP.i2d (1 : Int32))))))]) (lenOf pd_21 rfl) rfl (by show 2 * 0 + _ ≤ _; exact Nat.le_of_eq rfl) (hb hby at_102) (fun _ _ => ⟨rfl, rfl, (by decide : 1 + 0 ≤ _), (by decide : 5 + 0 ≤ _)⟩)
          dsimp only [Pt.U, Pt.locs, Pt.cells, Pt.slots] at X2162 l2165 y2166 z2167 st2168 hQ2164
          subst l2165 y2166 z2167
          obtain ⟨rfl, N2169, e2170⟩ := hQ2164
          have N2172 := Fr.app N2143 N2169
          have k2173 : own_G p e below E0 T2158 (mkF m 105 #[vi p0, vi p1, vi p2, vi p3, vi (0 : Int32), vi (1 : Int32), vi md, vd (FP.i2d p0), ss, vd (FP.i2d p1), ss, vr a873, vi (1 : Int32), vd (FP.dsub (FP.i2d p1) (FP.dmul (FP.i2d (0 : Int32)) (FP.ddiv (FP.dsub (FP.i2d p1) (FP.i2d p0)) (FP.i2d (1 : Int32))))), ss, uu, uu, uu, uu, uu, uu, uu, uu, uu] [(.double (own_exp (FP.i2d p0) (FP.i2d p1) (1 : Int32) md (1 : Int32))), (.double (FP.dsub (FP.i2d p1) (FP.dmul (FP.i2d (0 : Int32)) (FP.ddiv (FP.dsub (FP.i2d p1) (FP.i2d p0)) (FP.i2d (1 : Int32))))))]) := fun tQ kk => k2157 tQ (st2168 _ kk)
          clear k2157 st2168
          have k2174 : own_G p e below E0 T2158 (mkF m 118 #[vi p0, vi p1, vi p2, vi p3, vi (0 : Int32), vi (1 : Int32), vi md, vd (FP.i2d p0), ss, vd (FP.i2d p1), ss, vr a873, vi (1 : Int32), vd (FP.dsub (FP.i2d p1) (FP.dmul (FP.i2d (0 : Int32)) (FP.ddiv (FP.dsub (FP.i2d p1) (FP.i2d p0)) (FP.i2d (1 : Int32))))), ss, uu, uu, uu, uu, uu, uu, uu, uu, uu] [(.ref a873)]) := by
            intro tQ kk
            refine k2173 tQ ?_
            refine XS.dcmpS (v := (0 : Int32)) X2162.here hx rfl (hb hby at_105) rfl (own_eZ p0 p1 cm1 cm2 cE (show own_mx 0 ((1 : Int32) - (1 : Int32)) = 0 by decide) (by decide)) ?_
            refine XS.ifNo X2162.here hx rfl (hb hby at_106) rfl (own_if_neN (by decide)) ?_
            refine XS.iconst X2162.here hx rfl (hb hby at_109) ?_
            refine XS.goto X2162.here hx rfl (pc0 := 110) (pc' := 114) rfl (hb hby at_110) (by decide) (by decide) ?_
            show Steps p.tables e below (T2158.setTop (mkF m 114 #[vi p0, vi p1, vi p2, vi p3, vi (0 : Int32), vi (1 : Int32), vi md, vd (FP.i2d p0), ss, vd (FP.i2d p1), ss, vr a873, vi (1 : Int32), vd (FP.dsub (FP.i2d p1) (FP.dmul (FP.i2d (0 : Int32)) (FP.ddiv (FP.dsub (FP.i2d p1) (FP.i2d p0)) (FP.i2d (1 : Int32))))), ss, uu, uu, uu, uu, uu, uu, uu, uu, uu] [(.int (1 : Int32))])) tQ
            refine XS.istore X2162.here hx rfl (hb hby at_114) rfl (l' := #[vi p0, vi p1, vi p2, vi p3, vi (0 : Int32), vi (1 : Int32), vi md, vd (FP.i2d p0), ss, vd (FP.i2d p1), ss, vr a873, vi (1 : Int32), vd (FP.dsub (FP.i2d p1) (FP.dmul (FP.i2d (0 : Int32)) (FP.ddiv (FP.dsub (FP.i2d p1) (FP.i2d p0)) (FP.i2d (1 : Int32))))), ss, uu, uu, uu, uu, uu, uu, uu, uu, uu]) rfl ?_
            refine XS.aload X2162.here hx rfl (hb hby at_116) rfl rfl ?_
            exact kk
          clear k2173
          obtain ⟨cq2186, kq2187, qa2188, qb2189, qc2190⟩ := isOf hZ e2170 F2145
          obtain ⟨_, _, ⟨T2175, L2176, kc2177, nc2178⟩, -, X2179, ⟨Lc2180, hQ2181, l2182, y2183, z2184⟩, st2185⟩ := X2162.virtualBack hx (y := mn14) (z := mn14) hown (mvT hZ (tw52 hw)) (mvT hZ (tw53 hw)) (notFace_of_selects (args := #[]) (mvT hZ (tw55 hw))) (mvT hZ (tw55 hw)) (mvT hZ (tw54 hw)) (by decide) (backOf (W := 0) (rmMv l Z a0 hw [] a873 (0 : Int32) T2118.heap n0 Z2144 F2155) hZ (tw56 hw) (tw7 hw) (by decide) (by decide)) qa2188 qc2190 (g := (mkF m 118 #[vi p0, vi p1, vi p2, vi p3, vi (0 : Int32), vi (1 : Int32), vi md, vd (FP.i2d p0), ss, vd (FP.i2d p1), ss, vr a873, vi (1 : Int32), vd (FP.dsub (FP.i2d p1) (FP.dmul (FP.i2d (0 : Int32)) (FP.ddiv (FP.dsub (FP.i2d p1) (FP.i2d p0)) (FP.i2d (1 : Int32))))), ss, uu, uu, uu, uu, uu, uu, uu, uu, uu] [(.ref a873)])) rfl (by rw [hml]; rfl) (Steps.refl _) (argsL := []) (rest := []) (lenOf pd_22 rfl) rfl (by show 2 * 0 + _ ≤ _; exact Nat.le_of_eq rfl) (hb hby at_118) (fun _ _ => ⟨rfl, e2170, (by decide : 1 + 0 ≤ _), (by decide : 5 + 0 ≤ _)⟩)
          dsimp only [Pt.U, Pt.locs, Pt.cells, Pt.slots] at X2179 l2182 y2183 z2184 st2185 hQ2181
          subst l2182 y2183 z2184
          obtain ⟨rfl, N2191, e2192⟩ := hQ2181
          have N2194 := Fr.app N2172 N2191
          have k2195 : own_G p e below E0 T2175 (mkF m 121 #[vi p0, vi p1, vi p2, vi p3, vi (0 : Int32), vi (1 : Int32), vi md, vd (FP.i2d p0), ss, vd (FP.i2d p1), ss, vr a873, vi (1 : Int32), vd (FP.dsub (FP.i2d p1) (FP.dmul (FP.i2d (0 : Int32)) (FP.ddiv (FP.dsub (FP.i2d p1) (FP.i2d p0)) (FP.i2d (1 : Int32))))), ss, uu, uu, uu, uu, uu, uu, uu, uu, uu] [(.int (own_mv (0 : Int32)))]) := fun tQ kk => k2174 tQ (st2185.trans kk)
          clear k2174 st2185
          have eq2196 : (own_mv (0 : Int32)) = (0 : Int32) := by decide
          rw [eq2196] at k2195
          have k2197 : own_G p e below E0 T2175 (mkF m 167 #[vi p0, vi p1, vi p2, vi p3, vi (0 : Int32), vi (1 : Int32), vi md, vd (FP.i2d p0), ss, vd (FP.i2d p1), ss, vr a873, vi (1 : Int32), vd (FP.dsub (FP.i2d p1) (FP.dmul (FP.i2d (0 : Int32)) (FP.ddiv (FP.dsub (FP.i2d p1) (FP.i2d p0)) (FP.i2d (1 : Int32))))), ss, vi (0 : Int32), uu, uu, uu, uu, uu, uu, uu, uu] [(.ref a873)]) := by
            intro tQ kk
            refine k2195 tQ ?_
            refine XS.istore X2179.here hx rfl (hb hby at_121) rfl (l' := #[vi p0, vi p1, vi p2, vi p3, vi (0 : Int32), vi (1 : Int32), vi md, vd (FP.i2d p0), ss, vd (FP.i2d p1), ss, vr a873, vi (1 : Int32), vd (FP.dsub (FP.i2d p1) (FP.dmul (FP.i2d (0 : Int32)) (FP.ddiv (FP.dsub (FP.i2d p1) (FP.i2d p0)) (FP.i2d (1 : Int32))))), ss, vi (0 : Int32), uu, uu, uu, uu, uu, uu, uu, uu]) rfl ?_
            refine XS.iload X2179.here hx rfl (hb hby at_123) rfl ?_
            refine XS.ifNo X2179.here hx rfl (hb hby at_125) rfl (own_if_eqN (by decide)) ?_
            refine XS.iload X2179.here hx rfl (hb hby at_128) rfl ?_
            show Steps p.tables e below (T2175.setTop (mkF m 130 #[vi p0, vi p1, vi p2, vi p3, vi (0 : Int32), vi (1 : Int32), vi md, vd (FP.i2d p0), ss, vd (FP.i2d p1), ss, vr a873, vi (1 : Int32), vd (FP.dsub (FP.i2d p1) (FP.dmul (FP.i2d (0 : Int32)) (FP.ddiv (FP.dsub (FP.i2d p1) (FP.i2d p0)) (FP.i2d (1 : Int32))))), ss, vi (0 : Int32), uu, uu, uu, uu, uu, uu, uu, uu] [(.int (0 : Int32))])) tQ
            refine XS.iload X2179.here hx rfl (hb hby at_130) rfl ?_
            refine XS.iconst X2179.here hx rfl (hb hby at_132) ?_
            refine XS.icmpNo X2179.here hx rfl (hb hby at_133) rfl (own_ic_ltN cm2) ?_
            refine XS.dload X2179.here hx rfl (hb hby at_136) rfl ?_
            show Steps p.tables e below (T2175.setTop (mkF m 138 #[vi p0, vi p1, vi p2, vi p3, vi (0 : Int32), vi (1 : Int32), vi md, vd (FP.i2d p0), ss, vd (FP.i2d p1), ss, vr a873, vi (1 : Int32), vd (FP.dsub (FP.i2d p1) (FP.dmul (FP.i2d (0 : Int32)) (FP.ddiv (FP.dsub (FP.i2d p1) (FP.i2d p0)) (FP.i2d (1 : Int32))))), ss, vi (0 : Int32), uu, uu, uu, uu, uu, uu, uu, uu] [(.double (FP.i2d p1)), (.int (0 : Int32))])) tQ
            refine XS.dload X2179.here hx rfl (hb hby at_138) rfl ?_
            refine XS.dcmpS (v := (own_c (own_z (FP.i2d p1)) (own_z (FP.i2d p0)))) X2179.here hx rfl (hb hby at_140) rfl (own_cE .l (own_cmpz (Fl.i2d_fin p1).noNaN (Fl.i2d_fin p0).noNaN)) ?_
            refine XS.ifNo X2179.here hx rfl (hb hby at_141) rfl (own_c_eqN cE) ?_
            refine XS.iload X2179.here hx rfl (hb hby at_144) rfl ?_
            show Steps p.tables e below (T2175.setTop (mkF m 146 #[vi p0, vi p1, vi p2, vi p3, vi (0 : Int32), vi (1 : Int32), vi md, vd (FP.i2d p0), ss, vd (FP.i2d p1), ss, vr a873, vi (1 : Int32), vd (FP.dsub (FP.i2d p1) (FP.dmul (FP.i2d (0 : Int32)) (FP.ddiv (FP.dsub (FP.i2d p1) (FP.i2d p0)) (FP.i2d (1 : Int32))))), ss, vi (0 : Int32), uu, uu, uu, uu, uu, uu, uu, uu] [(.int (1 : Int32)), (.int (0 : Int32))])) tQ
            refine XS.iconst X2179.here hx rfl (hb hby at_146) ?_
            refine XS.icmpYes X2179.here hx rfl (pc0 := 147) (pc' := 154) rfl (hb hby at_147) rfl (own_ic_leY (by decide)) (by decide) (by decide) ?_
            refine XS.iconst X2179.here hx rfl (hb hby at_154) ?_
            refine XS.icmpNo X2179.here hx rfl (hb hby at_155) rfl (own_ic_neN (by decide)) ?_
            show Steps p.tables e below (T2175.setTop (mkF m 158 #[vi p0, vi p1, vi p2, vi p3, vi (0 : Int32), vi (1 : Int32), vi md, vd (FP.i2d p0), ss, vd (FP.i2d p1), ss, vr a873, vi (1 : Int32), vd (FP.dsub (FP.i2d p1) (FP.dmul (FP.i2d (0 : Int32)) (FP.ddiv (FP.dsub (FP.i2d p1) (FP.i2d p0)) (FP.i2d (1 : Int32))))), ss, vi (0 : Int32), uu, uu, uu, uu, uu, uu, uu, uu] [])) tQ
            refine XS.iconst X2179.here hx rfl (hb hby at_158) ?_
            refine XS.goto X2179.here hx rfl (pc0 := 159) (pc' := 163) rfl (hb hby at_159) (by decide) (by decide) ?_
            refine XS.istore X2179.here hx rfl (hb hby at_163) rfl (l' := #[vi p0, vi p1, vi p2, vi p3, vi (0 : Int32), vi (1 : Int32), vi md, vd (FP.i2d p0), ss, vd (FP.i2d p1), ss, vr a873, vi (1 : Int32), vd (FP.dsub (FP.i2d p1) (FP.dmul (FP.i2d (0 : Int32)) (FP.ddiv (FP.dsub (FP.i2d p1) (FP.i2d p0)) (FP.i2d (1 : Int32))))), ss, vi (0 : Int32), uu, uu, uu, uu, uu, uu, uu, uu]) rfl ?_
            refine XS.aload X2179.here hx rfl (hb hby at_165) rfl rfl ?_
            exact kk
          clear k2195
          obtain ⟨cq2209, kq2210, qa2211, qb2212, qc2213⟩ := isOf hZ e2192 F2145
          obtain ⟨_, _, ⟨T2198, L2199, kc2200, nc2201⟩, -, X2202, ⟨Lc2203, hQ2204, l2205, y2206, z2207⟩, st2208⟩ := X2179.virtualBack hx (y := mn13) (z := mn13) hown (mvT hZ (tw43 hw)) (mvT hZ (tw44 hw)) (notFace_of_selects (args := #[]) (mvT hZ (tw46 hw))) (mvT hZ (tw46 hw)) (mvT hZ (tw45 hw)) (by decide) (backOf (W := 0) (rmN l Z a0 hw [] a873 (1 : Int32) (FP.dsub (FP.i2d p1) (FP.dmul (FP.i2d (0 : Int32)) (FP.ddiv (FP.dsub (FP.i2d p1) (FP.i2d p0)) (FP.i2d (1 : Int32))))) (FP.i2d p1) (FP.ddiv (FP.dsub (FP.i2d p1) (FP.i2d p0)) (FP.i2d (1 : Int32))) (0 : Int32) T2118.heap n0 Z2144 F2145 g2138 F2153 g2140 g2141 F2155 ge875 (fun z => absurd z (by decide))) hZ (tw47 hw) (tw7 hw) (by decide) (by decide)) qa2211 qc2213 (g := (mkF m 167 #[vi p0, vi p1, vi p2, vi p3, vi (0 : Int32), vi (1 : Int32), vi md, vd (FP.i2d p0), ss, vd (FP.i2d p1), ss, vr a873, vi (1 : Int32), vd (FP.dsub (FP.i2d p1) (FP.dmul (FP.i2d (0 : Int32)) (FP.ddiv (FP.dsub (FP.i2d p1) (FP.i2d p0)) (FP.i2d (1 : Int32))))), ss, vi (0 : Int32), uu, uu, uu, uu, uu, uu, uu, uu] [(.ref a873)])) rfl (by rw [hml]; rfl) (Steps.refl _) (argsL := []) (rest := []) (lenOf pd_20 rfl) rfl (by show 2 * 0 + _ ≤ _; exact Nat.le_of_eq rfl) (hb hby at_167) (fun _ _ => ⟨rfl, e2192, (by decide : 1 + 0 ≤ _), (by decide : 5 + 0 ≤ _)⟩)
          dsimp only [Pt.U, Pt.locs, Pt.cells, Pt.slots] at X2202 l2205 y2206 z2207 st2208 hQ2204
          subst l2205 y2206 z2207
          obtain ⟨rfl, N2214, K2217, g2218, g2219, g2220, g2221, g2222⟩ := hQ2204
          have N2223 := Fr.app N2194 N2214
          have Z2224 : n0 ≤ T2198.heap.size := Nat.le_trans Z2144 K2217.1
          have F2225 : xa8 Z T2198.heap a873 := F2145.keep K2217
          clear F2145
          clear g2138
          clear F2153
          clear g2140
          clear g2141
          clear F2155
          have k2231 : own_G p e below E0 T2198 (mkF m 170 #[vi p0, vi p1, vi p2, vi p3, vi (0 : Int32), vi (1 : Int32), vi md, vd (FP.i2d p0), ss, vd (FP.i2d p1), ss, vr a873, vi (1 : Int32), vd (FP.dsub (FP.i2d p1) (FP.dmul (FP.i2d (0 : Int32)) (FP.ddiv (FP.dsub (FP.i2d p1) (FP.i2d p0)) (FP.i2d (1 : Int32))))), ss, vi (0 : Int32), uu, uu, uu, uu, uu, uu, uu, uu] [(.double (own_nv (FP.dsub (FP.i2d p1) (FP.dmul (FP.i2d (0 : Int32)) (FP.ddiv (FP.dsub (FP.i2d p1) (FP.i2d p0)) (FP.i2d (1 : Int32))))) (FP.i2d p1) (FP.ddiv (FP.dsub (FP.i2d p1) (FP.i2d p0)) (FP.i2d (1 : Int32))) (0 : Int32)))]) := fun tQ kk => k2197 tQ (st2208.trans kk)
          clear k2197 st2208
          have eq2232 : (own_nv (FP.dsub (FP.i2d p1) (FP.dmul (FP.i2d (0 : Int32)) (FP.ddiv (FP.dsub (FP.i2d p1) (FP.i2d p0)) (FP.i2d (1 : Int32))))) (FP.i2d p1) (FP.ddiv (FP.dsub (FP.i2d p1) (FP.i2d p0)) (FP.i2d (1 : Int32))) (0 : Int32)) = (FP.dsub (FP.i2d p1) (FP.dmul (FP.i2d (0 : Int32)) (FP.ddiv (FP.dsub (FP.i2d p1) (FP.i2d p0)) (FP.i2d (1 : Int32))))) := by rw [own_nv, if_neg (by decide)]
          have F2233 : fd4 Z T2198.heap a873 (.double (FP.dsub (FP.i2d p1) (FP.dmul (FP.i2d (0 : Int32)) (FP.ddiv (FP.dsub (FP.i2d p1) (FP.i2d p0)) (FP.i2d (1 : Int32)))))) := by rw [← eq2232]; exact g2219
          have eq2234 : (own_nr (0 : Int32)) = (0 : Int32) := by decide
          have F2235 : fd7 Z T2198.heap a873 (.int (0 : Int32)) := by rw [← eq2234]; exact g2222
          have eq2236 : (own_nv (FP.dsub (FP.i2d p1) (FP.dmul (FP.i2d (0 : Int32)) (FP.ddiv (FP.dsub (FP.i2d p1) (FP.i2d p0)) (FP.i2d (1 : Int32))))) (FP.i2d p1) (FP.ddiv (FP.dsub (FP.i2d p1) (FP.i2d p0)) (FP.i2d (1 : Int32))) (0 : Int32)) = (FP.dsub (FP.i2d p1) (FP.dmul (FP.i2d (0 : Int32)) (FP.ddiv (FP.dsub (FP.i2d p1) (FP.i2d p0)) (FP.i2d (1 : Int32))))) := by rw [own_nv, if_neg (by decide)]
          rw [eq2236] at k2231
          have k2237 : own_G p e below E0 T2198 (mkF m 188 #[vi p0, vi p1, vi p2, vi p3, vi (0 : Int32), vi (1 : Int32), vi md, vd (FP.i2d p0), ss, vd (FP.i2d p1), ss, vr a873, vi (1 : Int32), vd (FP.dsub (FP.i2d p1) (FP.dmul (FP.i2d (0 : Int32)) (FP.ddiv (FP.dsub (FP.i2d p1) (FP.i2d p0)) (FP.i2d (1 : Int32))))), ss, vi (0 : Int32), vd (FP.dsub (FP.i2d p1) (FP.dmul (FP.i2d (0 : Int32)) (FP.ddiv (FP.dsub (FP.i2d p1) (FP.i2d p0)) (FP.i2d (1 : Int32))))), ss, uu, uu, uu, uu, uu, uu] [(.int (2 : Int32)), (.int md), (.int (1 : Int32)), (.double (FP.i2d p1)), (.double (FP.i2d p0)), (.double (FP.dsub (FP.i2d p1) (FP.dmul (FP.i2d (0 : Int32)) (FP.ddiv (FP.dsub (FP.i2d p1) (FP.i2d p0)) (FP.i2d (1 : Int32))))))]) := by
            intro tQ kk
            refine k2231 tQ ?_
            refine XS.dstore X2202.here hx rfl (hb hby at_170) rfl (l' := #[vi p0, vi p1, vi p2, vi p3, vi (0 : Int32), vi (1 : Int32), vi md, vd (FP.i2d p0), ss, vd (FP.i2d p1), ss, vr a873, vi (1 : Int32), vd (FP.dsub (FP.i2d p1) (FP.dmul (FP.i2d (0 : Int32)) (FP.ddiv (FP.dsub (FP.i2d p1) (FP.i2d p0)) (FP.i2d (1 : Int32))))), ss, vi (0 : Int32), vd (FP.dsub (FP.i2d p1) (FP.dmul (FP.i2d (0 : Int32)) (FP.ddiv (FP.dsub (FP.i2d p1) (FP.i2d p0)) (FP.i2d (1 : Int32))))), ss, uu, uu, uu, uu, uu, uu]) rfl ?_
            refine XS.iload X2202.here hx rfl (hb hby at_172) rfl ?_
            refine XS.ifNo X2202.here hx rfl (hb hby at_174) rfl (own_if_eqN (by decide)) ?_
            refine XS.dload X2202.here hx rfl (hb hby at_177) rfl ?_
            show Steps p.tables e below (T2198.setTop (mkF m 179 #[vi p0, vi p1, vi p2, vi p3, vi (0 : Int32), vi (1 : Int32), vi md, vd (FP.i2d p0), ss, vd (FP.i2d p1), ss, vr a873, vi (1 : Int32), vd (FP.dsub (FP.i2d p1) (FP.dmul (FP.i2d (0 : Int32)) (FP.ddiv (FP.dsub (FP.i2d p1) (FP.i2d p0)) (FP.i2d (1 : Int32))))), ss, vi (0 : Int32), vd (FP.dsub (FP.i2d p1) (FP.dmul (FP.i2d (0 : Int32)) (FP.ddiv (FP.dsub (FP.i2d p1) (FP.i2d p0)) (FP.i2d (1 : Int32))))), ss, uu, uu, uu, uu, uu, uu] [(.double (FP.dsub (FP.i2d p1) (FP.dmul (FP.i2d (0 : Int32)) (FP.ddiv (FP.dsub (FP.i2d p1) (FP.i2d p0)) (FP.i2d (1 : Int32))))))])) tQ
            refine XS.dload X2202.here hx rfl (hb hby at_179) rfl ?_
            refine XS.dload X2202.here hx rfl (hb hby at_181) rfl ?_
            refine XS.iload X2202.here hx rfl (hb hby at_183) rfl ?_
            refine XS.iload X2202.here hx rfl (hb hby at_185) rfl ?_
            show Steps p.tables e below (T2198.setTop (mkF m 187 #[vi p0, vi p1, vi p2, vi p3, vi (0 : Int32), vi (1 : Int32), vi md, vd (FP.i2d p0), ss, vd (FP.i2d p1), ss, vr a873, vi (1 : Int32), vd (FP.dsub (FP.i2d p1) (FP.dmul (FP.i2d (0 : Int32)) (FP.ddiv (FP.dsub (FP.i2d p1) (FP.i2d p0)) (FP.i2d (1 : Int32))))), ss, vi (0 : Int32), vd (FP.dsub (FP.i2d p1) (FP.dmul (FP.i2d (0 : Int32)) (FP.ddiv (FP.dsub (FP.i2d p1) (FP.i2d p0)) (FP.i2d (1 : Int32))))), ss, uu, uu, uu, uu, uu, uu] [(.int md), (.int (1 : Int32)), (.double (FP.i2d p1)), (.double (FP.i2d p0)), (.double (FP.dsub (FP.i2d p1) (FP.dmul (FP.i2d (0 : Int32)) (FP.ddiv (FP.dsub (FP.i2d p1) (FP.i2d p0)) (FP.i2d (1 : Int32))))))])) tQ
            refine XS.iconst X2202.here hx rfl (hb hby at_187) ?_
            exact kk
          clear k2231
          obtain ⟨_, _, ⟨T2238, L2239, kc2240, nc2241⟩, -, X2242, ⟨Lc2243, hQ2244, l2245, y2246, z2247⟩, st2248⟩ := Jvm.LawKit.callS X2202 hx (y := mn16) hown (mvT hZ (tw48 hw)) (mvT hZ (tw49 hw)) (mvT hZ (tw50 hw)) (mvT hZ (tw51 hw)) (by decide) (backOf (W := 2) (rmE l Z a0 hw [] (FP.i2d p0) (FP.i2d p1) (1 : Int32) md (2 : Int32) T2198.heap n0 Z2224 (Fl.i2d_fin p0).noNaN (Fl.i2d_fin p1).noNaN (own_h1 p0 p1) (own_h2 p0 p1 (F := (1 : Int32)) (by decide)) (own_q3 p0 p1 (F := (1 : Int32)) (r := (own_mx 0 ((1 : Int32) - (2 : Int32)))) (by decide) (own_mxb (by decide) (by decide)))) hZ (tw51 hw) (tw50 hw) (by decide) (by decide)) (g := (mkF m 188 #[vi p0, vi p1, vi p2, vi p3, vi (0 : Int32), vi (1 : Int32), vi md, vd (FP.i2d p0), ss, vd (FP.i2d p1), ss, vr a873, vi (1 : Int32), vd (FP.dsub (FP.i2d p1) (FP.dmul (FP.i2d (0 : Int32)) (FP.ddiv (FP.dsub (FP.i2d p1) (FP.i2d p0)) (FP.i2d (1 : Int32))))), ss, vi (0 : Int32), vd (FP.dsub (FP.i2d p1) (FP.dmul (FP.i2d (0 : Int32)) (FP.ddiv (FP.dsub (FP.i2d p1) (FP.i2d p0)) (FP.i2d (1 : Int32))))), ss, uu, uu, uu, uu, uu, uu] [(.int (2 : Int32)), (.int md), (.int (1 : Int32)), (.double (FP.i2d p1)), (.double (FP.i2d p0)), (.double (FP.dsub (FP.i2d p1) (FP.dmul (FP.i2d (0 : Int32)) (FP.ddiv (FP.dsub (FP.i2d p1) (FP.i2d p0)) (FP.i2d (1 : Int32))))))])) rfl (by rw [hml]; rfl) (argsL := [(.double (FP.i2d p0)), (.double (FP.i2d p1)), (.int (1 : Int32)), (.int md), (.int (2 : Int32))]) (rest := [(.double (FP.dsub (FP.i2d p1) (FP.dmul (FP.i2d (0 : Int32)) (FP.ddiv (FP.dsub (FP.i2d p1) (FP.i2d p0)) (FP.i2d (1 : Int32))))))]) (lenOf pd_21 rfl) rfl (by show 2 * 0 + _ ≤ _; exact Nat.le_of_eq rfl) (hb hby at_188) (fun _ _ => ⟨rfl, rfl, (by decide : 1 + 0 ≤ _), (by decide : 5 + 0 ≤ _)⟩)
          dsimp only [Pt.U, Pt.locs, Pt.cells, Pt.slots] at X2242 l2245 y2246 z2247 st2248 hQ2244
          subst l2245 y2246 z2247
          obtain ⟨rfl, N2249, e2250⟩ := hQ2244
          have N2252 := Fr.app N2223 N2249
          have k2253 : own_G p e below E0 T2238 (mkF m 191 #[vi p0, vi p1, vi p2, vi p3, vi (0 : Int32), vi (1 : Int32), vi md, vd (FP.i2d p0), ss, vd (FP.i2d p1), ss, vr a873, vi (1 : Int32), vd (FP.dsub (FP.i2d p1) (FP.dmul (FP.i2d (0 : Int32)) (FP.ddiv (FP.dsub (FP.i2d p1) (FP.i2d p0)) (FP.i2d (1 : Int32))))), ss, vi (0 : Int32), vd (FP.dsub (FP.i2d p1) (FP.dmul (FP.i2d (0 : Int32)) (FP.ddiv (FP.dsub (FP.i2d p1) (FP.i2d p0)) (FP.i2d (1 : Int32))))), ss, uu, uu, uu, uu, uu, uu] [(.double (own_exp (FP.i2d p0) (FP.i2d p1) (1 : Int32) md (2 : Int32))), (.double (FP.dsub (FP.i2d p1) (FP.dmul (FP.i2d (0 : Int32)) (FP.ddiv (FP.dsub (FP.i2d p1) (FP.i2d p0)) (FP.i2d (1 : Int32))))))]) := fun tQ kk => k2237 tQ (st2248 _ kk)
          clear k2237 st2248
          have k2254 : own_G p e below E0 T2238 (mkF m 204 #[vi p0, vi p1, vi p2, vi p3, vi (0 : Int32), vi (1 : Int32), vi md, vd (FP.i2d p0), ss, vd (FP.i2d p1), ss, vr a873, vi (1 : Int32), vd (FP.dsub (FP.i2d p1) (FP.dmul (FP.i2d (0 : Int32)) (FP.ddiv (FP.dsub (FP.i2d p1) (FP.i2d p0)) (FP.i2d (1 : Int32))))), ss, vi (0 : Int32), vd (FP.dsub (FP.i2d p1) (FP.dmul (FP.i2d (0 : Int32)) (FP.ddiv (FP.dsub (FP.i2d p1) (FP.i2d p0)) (FP.i2d (1 : Int32))))), ss, uu, uu, uu, uu, uu, uu] [(.ref a873)]) := by
            intro tQ kk
            refine k2253 tQ ?_
            refine XS.dcmpS (v := (0 : Int32)) X2242.here hx rfl (hb hby at_191) rfl (own_eZ p0 p1 cm1 cm2 cE (show own_mx 0 ((1 : Int32) - (2 : Int32)) = 0 by decide) (by decide)) ?_
            refine XS.ifNo X2242.here hx rfl (hb hby at_192) rfl (own_if_neN (by decide)) ?_
            refine XS.iconst X2242.here hx rfl (hb hby at_195) ?_
            refine XS.goto X2242.here hx rfl (pc0 := 196) (pc' := 200) rfl (hb hby at_196) (by decide) (by decide) ?_
            show Steps p.tables e below (T2238.setTop (mkF m 200 #[vi p0, vi p1, vi p2, vi p3, vi (0 : Int32), vi (1 : Int32), vi md, vd (FP.i2d p0), ss, vd (FP.i2d p1), ss, vr a873, vi (1 : Int32), vd (FP.dsub (FP.i2d p1) (FP.dmul (FP.i2d (0 : Int32)) (FP.ddiv (FP.dsub (FP.i2d p1) (FP.i2d p0)) (FP.i2d (1 : Int32))))), ss, vi (0 : Int32), vd (FP.dsub (FP.i2d p1) (FP.dmul (FP.i2d (0 : Int32)) (FP.ddiv (FP.dsub (FP.i2d p1) (FP.i2d p0)) (FP.i2d (1 : Int32))))), ss, uu, uu, uu, uu, uu, uu] [(.int (1 : Int32))])) tQ
            refine XS.istore X2242.here hx rfl (hb hby at_200) rfl (l' := #[vi p0, vi p1, vi p2, vi p3, vi (0 : Int32), vi (1 : Int32), vi md, vd (FP.i2d p0), ss, vd (FP.i2d p1), ss, vr a873, vi (1 : Int32), vd (FP.dsub (FP.i2d p1) (FP.dmul (FP.i2d (0 : Int32)) (FP.ddiv (FP.dsub (FP.i2d p1) (FP.i2d p0)) (FP.i2d (1 : Int32))))), ss, vi (0 : Int32), vd (FP.dsub (FP.i2d p1) (FP.dmul (FP.i2d (0 : Int32)) (FP.ddiv (FP.dsub (FP.i2d p1) (FP.i2d p0)) (FP.i2d (1 : Int32))))), ss, uu, uu, uu, uu, uu, uu]) rfl ?_
            refine XS.aload X2242.here hx rfl (hb hby at_202) rfl rfl ?_
            exact kk
          clear k2253
          obtain ⟨cq2266, kq2267, qa2268, qb2269, qc2270⟩ := isOf hZ e2250 F2225
          obtain ⟨_, _, ⟨T2255, L2256, kc2257, nc2258⟩, -, X2259, ⟨Lc2260, hQ2261, l2262, y2263, z2264⟩, st2265⟩ := X2242.virtualBack hx (y := mn13) (z := mn13) hown (mvT hZ (tw43 hw)) (mvT hZ (tw44 hw)) (notFace_of_selects (args := #[]) (mvT hZ (tw46 hw))) (mvT hZ (tw46 hw)) (mvT hZ (tw45 hw)) (by decide) (backOf (W := 0) (rmN l Z a0 hw [] a873 (1 : Int32) (FP.dsub (FP.i2d p1) (FP.dmul (FP.i2d (0 : Int32)) (FP.ddiv (FP.dsub (FP.i2d p1) (FP.i2d p0)) (FP.i2d (1 : Int32))))) (FP.i2d p1) (FP.ddiv (FP.dsub (FP.i2d p1) (FP.i2d p0)) (FP.i2d (1 : Int32))) (0 : Int32) T2198.heap n0 Z2224 F2225 g2218 F2233 g2220 g2221 F2235 ge875 (fun z => absurd z (by decide))) hZ (tw47 hw) (tw7 hw) (by decide) (by decide)) qa2268 qc2270 (g := (mkF m 204 #[vi p0, vi p1, vi p2, vi p3, vi (0 : Int32), vi (1 : Int32), vi md, vd (FP.i2d p0), ss, vd (FP.i2d p1), ss, vr a873, vi (1 : Int32), vd (FP.dsub (FP.i2d p1) (FP.dmul (FP.i2d (0 : Int32)) (FP.ddiv (FP.dsub (FP.i2d p1) (FP.i2d p0)) (FP.i2d (1 : Int32))))), ss, vi (0 : Int32), vd (FP.dsub (FP.i2d p1) (FP.dmul (FP.i2d (0 : Int32)) (FP.ddiv (FP.dsub (FP.i2d p1) (FP.i2d p0)) (FP.i2d (1 : Int32))))), ss, uu, uu, uu, uu, uu, uu] [(.ref a873)])) rfl (by rw [hml]; rfl) (Steps.refl _) (argsL := []) (rest := []) (lenOf pd_20 rfl) rfl (by show 2 * 0 + _ ≤ _; exact Nat.le_of_eq rfl) (hb hby at_204) (fun _ _ => ⟨rfl, e2250, (by decide : 1 + 0 ≤ _), (by decide : 5 + 0 ≤ _)⟩)
          dsimp only [Pt.U, Pt.locs, Pt.cells, Pt.slots] at X2259 l2262 y2263 z2264 st2265 hQ2261
          subst l2262 y2263 z2264
          obtain ⟨rfl, N2271, K2274, g2275, g2276, g2277, g2278, g2279⟩ := hQ2261
          have N2280 := Fr.app N2252 N2271
          have Z2281 : n0 ≤ T2255.heap.size := Nat.le_trans Z2224 K2274.1
          have F2282 : xa8 Z T2255.heap a873 := F2225.keep K2274
          clear F2225
          clear g2218
          clear F2233
          clear g2220
          clear g2221
          clear F2235
          have k2288 : own_G p e below E0 T2255 (mkF m 207 #[vi p0, vi p1, vi p2, vi p3, vi (0 : Int32), vi (1 : Int32), vi md, vd (FP.i2d p0), ss, vd (FP.i2d p1), ss, vr a873, vi (1 : Int32), vd (FP.dsub (FP.i2d p1) (FP.dmul (FP.i2d (0 : Int32)) (FP.ddiv (FP.dsub (FP.i2d p1) (FP.i2d p0)) (FP.i2d (1 : Int32))))), ss, vi (0 : Int32), vd (FP.dsub (FP.i2d p1) (FP.dmul (FP.i2d (0 : Int32)) (FP.ddiv (FP.dsub (FP.i2d p1) (FP.i2d p0)) (FP.i2d (1 : Int32))))), ss, uu, uu, uu, uu, uu, uu] [(.double (own_nv (FP.dsub (FP.i2d p1) (FP.dmul (FP.i2d (0 : Int32)) (FP.ddiv (FP.dsub (FP.i2d p1) (FP.i2d p0)) (FP.i2d (1 : Int32))))) (FP.i2d p1) (FP.ddiv (FP.dsub (FP.i2d p1) (FP.i2d p0)) (FP.i2d (1 : Int32))) (0 : Int32)))]) := fun tQ kk => k2254 tQ (st2265.trans kk)
          clear k2254 st2265
          have eq2289 : (own_nv (FP.dsub (FP.i2d p1) (FP.dmul (FP.i2d (0 : Int32)) (FP.ddiv (FP.dsub (FP.i2d p1) (FP.i2d p0)) (FP.i2d (1 : Int32))))) (FP.i2d p1) (FP.ddiv (FP.dsub (FP.i2d p1) (FP.i2d p0)) (FP.i2d (1 : Int32))) (0 : Int32)) = (FP.dsub (FP.i2d p1) (FP.dmul (FP.i2d (0 : Int32)) (FP.ddiv (FP.dsub (FP.i2d p1) (FP.i2d p0)) (FP.i2d (1 : Int32))))) := by rw [own_nv, if_neg (by decide)]
          have F2290 : fd4 Z T2255.heap a873 (.double (FP.dsub (FP.i2d p1) (FP.dmul (FP.i2d (0 : Int32)) (FP.ddiv (FP.dsub (FP.i2d p1) (FP.i2d p0)) (FP.i2d (1 : Int32)))))) := by rw [← eq2289]; exact g2276
          have eq2291 : (own_nr (0 : Int32)) = (0 : Int32) := by decide
          have F2292 : fd7 Z T2255.heap a873 (.int (0 : Int32)) := by rw [← eq2291]; exact g2279
          have eq2293 : (own_nv (FP.dsub (FP.i2d p1) (FP.dmul (FP.i2d (0 : Int32)) (FP.ddiv (FP.dsub (FP.i2d p1) (FP.i2d p0)) (FP.i2d (1 : Int32))))) (FP.i2d p1) (FP.ddiv (FP.dsub (FP.i2d p1) (FP.i2d p0)) (FP.i2d (1 : Int32))) (0 : Int32)) = (FP.dsub (FP.i2d p1) (FP.dmul (FP.i2d (0 : Int32)) (FP.ddiv (FP.dsub (FP.i2d p1) (FP.i2d p0)) (FP.i2d (1 : Int32))))) := by rw [own_nv, if_neg (by decide)]
          rw [eq2293] at k2288
          have k2294 : own_G p e below E0 T2255 (mkF m 225 #[vi p0, vi p1, vi p2, vi p3, vi (0 : Int32), vi (1 : Int32), vi md, vd (FP.i2d p0), ss, vd (FP.i2d p1), ss, vr a873, vi (1 : Int32), vd (FP.dsub (FP.i2d p1) (FP.dmul (FP.i2d (0 : Int32)) (FP.ddiv (FP.dsub (FP.i2d p1) (FP.i2d p0)) (FP.i2d (1 : Int32))))), ss, vi (0 : Int32), vd (FP.dsub (FP.i2d p1) (FP.dmul (FP.i2d (0 : Int32)) (FP.ddiv (FP.dsub (FP.i2d p1) (FP.i2d p0)) (FP.i2d (1 : Int32))))), ss, vd (FP.dsub (FP.i2d p1) (FP.dmul (FP.i2d (0 : Int32)) (FP.ddiv (FP.dsub (FP.i2d p1) (FP.i2d p0)) (FP.i2d (1 : Int32))))), ss, uu, uu, uu, uu] [(.int (3 : Int32)), (.int md), (.int (1 : Int32)), (.double (FP.i2d p1)), (.double (FP.i2d p0)), (.double (FP.dsub (FP.i2d p1) (FP.dmul (FP.i2d (0 : Int32)) (FP.ddiv (FP.dsub (FP.i2d p1) (FP.i2d p0)) (FP.i2d (1 : Int32))))))]) := by
            intro tQ kk
            refine k2288 tQ ?_
            refine XS.dstore X2259.here hx rfl (hb hby at_207) rfl (l' := #[vi p0, vi p1, vi p2, vi p3, vi (0 : Int32), vi (1 : Int32), vi md, vd (FP.i2d p0), ss, vd (FP.i2d p1), ss, vr a873, vi (1 : Int32), vd (FP.dsub (FP.i2d p1) (FP.dmul (FP.i2d (0 : Int32)) (FP.ddiv (FP.dsub (FP.i2d p1) (FP.i2d p0)) (FP.i2d (1 : Int32))))), ss, vi (0 : Int32), vd (FP.dsub (FP.i2d p1) (FP.dmul (FP.i2d (0 : Int32)) (FP.ddiv (FP.dsub (FP.i2d p1) (FP.i2d p0)) (FP.i2d (1 : Int32))))), ss, vd (FP.dsub (FP.i2d p1) (FP.dmul (FP.i2d (0 : Int32)) (FP.ddiv (FP.dsub (FP.i2d p1) (FP.i2d p0)) (FP.i2d (1 : Int32))))), ss, uu, uu, uu, uu]) rfl ?_
            refine XS.iload X2259.here hx rfl (hb hby at_209) rfl ?_
            refine XS.ifNo X2259.here hx rfl (hb hby at_211) rfl (own_if_eqN (by decide)) ?_
            refine XS.dload X2259.here hx rfl (hb hby at_214) rfl ?_
            show Steps p.tables e below (T2255.setTop (mkF m 216 #[vi p0, vi p1, vi p2, vi p3, vi (0 : Int32), vi (1 : Int32), vi md, vd (FP.i2d p0), ss, vd (FP.i2d p1), ss, vr a873, vi (1 : Int32), vd (FP.dsub (FP.i2d p1) (FP.dmul (FP.i2d (0 : Int32)) (FP.ddiv (FP.dsub (FP.i2d p1) (FP.i2d p0)) (FP.i2d (1 : Int32))))), ss, vi (0 : Int32), vd (FP.dsub (FP.i2d p1) (FP.dmul (FP.i2d (0 : Int32)) (FP.ddiv (FP.dsub (FP.i2d p1) (FP.i2d p0)) (FP.i2d (1 : Int32))))), ss, vd (FP.dsub (FP.i2d p1) (FP.dmul (FP.i2d (0 : Int32)) (FP.ddiv (FP.dsub (FP.i2d p1) (FP.i2d p0)) (FP.i2d (1 : Int32))))), ss, uu, uu, uu, uu] [(.double (FP.dsub (FP.i2d p1) (FP.dmul (FP.i2d (0 : Int32)) (FP.ddiv (FP.dsub (FP.i2d p1) (FP.i2d p0)) (FP.i2d (1 : Int32))))))])) tQ
            refine XS.dload X2259.here hx rfl (hb hby at_216) rfl ?_
            refine XS.dload X2259.here hx rfl (hb hby at_218) rfl ?_
            refine XS.iload X2259.here hx rfl (hb hby at_220) rfl ?_
            refine XS.iload X2259.here hx rfl (hb hby at_222) rfl ?_
            show Steps p.tables e below (T2255.setTop (mkF m 224 #[vi p0, vi p1, vi p2, vi p3, vi (0 : Int32), vi (1 : Int32), vi md, vd (FP.i2d p0), ss, vd (FP.i2d p1), ss, vr a873, vi (1 : Int32), vd (FP.dsub (FP.i2d p1) (FP.dmul (FP.i2d (0 : Int32)) (FP.ddiv (FP.dsub (FP.i2d p1) (FP.i2d p0)) (FP.i2d (1 : Int32))))), ss, vi (0 : Int32), vd (FP.dsub (FP.i2d p1) (FP.dmul (FP.i2d (0 : Int32)) (FP.ddiv (FP.dsub (FP.i2d p1) (FP.i2d p0)) (FP.i2d (1 : Int32))))), ss, vd (FP.dsub (FP.i2d p1) (FP.dmul (FP.i2d (0 : Int32)) (FP.ddiv (FP.dsub (FP.i2d p1) (FP.i2d p0)) (FP.i2d (1 : Int32))))), ss, uu, uu, uu, uu] [(.int md), (.int (1 : Int32)), (.double (FP.i2d p1)), (.double (FP.i2d p0)), (.double (FP.dsub (FP.i2d p1) (FP.dmul (FP.i2d (0 : Int32)) (FP.ddiv (FP.dsub (FP.i2d p1) (FP.i2d p0)) (FP.i2d (1 : Int32))))))])) tQ
            refine XS.iconst X2259.here hx rfl (hb hby at_224) ?_
            exact kk
          clear k2288
          obtain ⟨_, _, ⟨T2295, L2296, kc2297, nc2298⟩, -, X2299, ⟨Lc2300, hQ2301, l2302, y2303, z2304⟩, st2305⟩ := Jvm.LawKit.callS X2259 hx (y := mn16) hown (mvT hZ (tw48 hw)) (mvT hZ (tw49 hw)) (mvT hZ (tw50 hw)) (mvT hZ (tw51 hw)) (by decide) (backOf (W := 2) (rmE l Z a0 hw [] (FP.i2d p0) (FP.i2d p1) (1 : Int32) md (3 : Int32) T2255.heap n0 Z2281 (Fl.i2d_fin p0).noNaN (Fl.i2d_fin p1).noNaN (own_h1 p0 p1) (own_h2 p0 p1 (F := (1 : Int32)) (by decide)) (own_q3 p0 p1 (F := (1 : Int32)) (r := (own_mx 0 ((1 : Int32) - (3 : Int32)))) (by decide) (own_mxb (by decide) (by decide)))) hZ (tw51 hw) (tw50 hw) (by decide) (by decide)) (g := (mkF m 225 #[vi p0, vi p1, vi p2, vi p3, vi (0 : Int32), vi (1 : Int32), vi md, vd (FP.i2d p0), ss, vd (FP.i2d p1), ss, vr a873, vi (1 : Int32), vd (FP.dsub (FP.i2d p1) (FP.dmul (FP.i2d (0 : Int32)) (FP.ddiv (FP.dsub (FP.i2d p1) (FP.i2d p0)) (FP.i2d (1 : Int32))))), ss, vi (0 : Int32), vd (FP.dsub (FP.i2d p1) (FP.dmul (FP.i2d (0 : Int32)) (FP.ddiv (FP.dsub (FP.i2d p1) (FP.i2d p0)) (FP.i2d (1 : Int32))))), ss, vd (FP.dsub (FP.i2d p1) (FP.dmul (FP.i2d (0 : Int32)) (FP.ddiv (FP.dsub (FP.i2d p1) (FP.i2d p0)) (FP.i2d (1 : Int32))))), ss, uu, uu, uu, uu] [(.int (3 : Int32)), (.int md), (.int (1 : Int32)), (.double (FP.i2d p1)), (.double (FP.i2d p0)), (.double (FP.dsub (FP.i2d p1) (FP.dmul (FP.i2d (0 : Int32)) (FP.ddiv (FP.dsub (FP.i2d p1) (FP.i2d p0)) (FP.i2d (1 : Int32))))))])) rfl (by rw [hml]; rfl) (argsL := [(.double (FP.i2d p0)), (.double (FP.i2d p1)), (.int (1 : Int32)), (.int md), (.int (3 : Int32))]) (rest := [(.double (FP.dsub (FP.i2d p1) (FP.dmul (FP.i2d (0 : Int32)) (FP.ddiv (FP.dsub (FP.i2d p1) (FP.i2d p0)) (FP.i2d (1 : Int32))))))]) (lenOf pd_21 rfl) rfl (by show 2 * 0 + _ ≤ _; exact Nat.le_of_eq rfl) (hb hby at_225) (fun _ _ => ⟨rfl, rfl, (by decide : 1 + 0 ≤ _), (by decide : 5 + 0 ≤ _)⟩)
          dsimp only [Pt.U, Pt.locs, Pt.cells, Pt.slots] at X2299 l2302 y2303 z2304 st2305 hQ2301
          subst l2302 y2303 z2304
          obtain ⟨rfl, N2306, e2307⟩ := hQ2301
          have N2309 := Fr.app N2280 N2306
          have k2310 : own_G p e below E0 T2295 (mkF m 228 #[vi p0, vi p1, vi p2, vi p3, vi (0 : Int32), vi (1 : Int32), vi md, vd (FP.i2d p0), ss, vd (FP.i2d p1), ss, vr a873, vi (1 : Int32), vd (FP.dsub (FP.i2d p1) (FP.dmul (FP.i2d (0 : Int32)) (FP.ddiv (FP.dsub (FP.i2d p1) (FP.i2d p0)) (FP.i2d (1 : Int32))))), ss, vi (0 : Int32), vd (FP.dsub (FP.i2d p1) (FP.dmul (FP.i2d (0 : Int32)) (FP.ddiv (FP.dsub (FP.i2d p1) (FP.i2d p0)) (FP.i2d (1 : Int32))))), ss, vd (FP.dsub (FP.i2d p1) (FP.dmul (FP.i2d (0 : Int32)) (FP.ddiv (FP.dsub (FP.i2d p1) (FP.i2d p0)) (FP.i2d (1 : Int32))))), ss, uu, uu, uu, uu] [(.double (own_exp (FP.i2d p0) (FP.i2d p1) (1 : Int32) md (3 : Int32))), (.double (FP.dsub (FP.i2d p1) (FP.dmul (FP.i2d (0 : Int32)) (FP.ddiv (FP.dsub (FP.i2d p1) (FP.i2d p0)) (FP.i2d (1 : Int32))))))]) := fun tQ kk => k2294 tQ (st2305 _ kk)
          clear k2294 st2305
          have k2311 : own_G p e below E0 T2295 (mkF m 241 #[vi p0, vi p1, vi p2, vi p3, vi (0 : Int32), vi (1 : Int32), vi md, vd (FP.i2d p0), ss, vd (FP.i2d p1), ss, vr a873, vi (1 : Int32), vd (FP.dsub (FP.i2d p1) (FP.dmul (FP.i2d (0 : Int32)) (FP.ddiv (FP.dsub (FP.i2d p1) (FP.i2d p0)) (FP.i2d (1 : Int32))))), ss, vi (0 : Int32), vd (FP.dsub (FP.i2d p1) (FP.dmul (FP.i2d (0 : Int32)) (FP.ddiv (FP.dsub (FP.i2d p1) (FP.i2d p0)) (FP.i2d (1 : Int32))))), ss, vd (FP.dsub (FP.i2d p1) (FP.dmul (FP.i2d (0 : Int32)) (FP.ddiv (FP.dsub (FP.i2d p1) (FP.i2d p0)) (FP.i2d (1 : Int32))))), ss, uu, uu, uu, uu] [(.ref a873)]) := by
            intro tQ kk
            refine k2310 tQ ?_
            refine XS.dcmpS (v := (0 : Int32)) X2299.here hx rfl (hb hby at_228) rfl (own_eZ p0 p1 cm1 cm2 cE (show own_mx 0 ((1 : Int32) - (3 : Int32)) = 0 by decide) (by decide)) ?_
            refine XS.ifNo X2299.here hx rfl (hb hby at_229) rfl (own_if_neN (by decide)) ?_
            refine XS.iconst X2299.here hx rfl (hb hby at_232) ?_
            refine XS.goto X2299.here hx rfl (pc0 := 233) (pc' := 237) rfl (hb hby at_233) (by decide) (by decide) ?_
            show Steps p.tables e below (T2295.setTop (mkF m 237 #[vi p0, vi p1, vi p2, vi p3, vi (0 : Int32), vi (1 : Int32), vi md, vd (FP.i2d p0), ss, vd (FP.i2d p1), ss, vr a873, vi (1 : Int32), vd (FP.dsub (FP.i2d p1) (FP.dmul (FP.i2d (0 : Int32)) (FP.ddiv (FP.dsub (FP.i2d p1) (FP.i2d p0)) (FP.i2d (1 : Int32))))), ss, vi (0 : Int32), vd (FP.dsub (FP.i2d p1) (FP.dmul (FP.i2d (0 : Int32)) (FP.ddiv (FP.dsub (FP.i2d p1) (FP.i2d p0)) (FP.i2d (1 : Int32))))), ss, vd (FP.dsub (FP.i2d p1) (FP.dmul (FP.i2d (0 : Int32)) (FP.ddiv (FP.dsub (FP.i2d p1) (FP.i2d p0)) (FP.i2d (1 : Int32))))), ss, uu, uu, uu, uu] [(.int (1 : Int32))])) tQ
            refine XS.istore X2299.here hx rfl (hb hby at_237) rfl (l' := #[vi p0, vi p1, vi p2, vi p3, vi (0 : Int32), vi (1 : Int32), vi md, vd (FP.i2d p0), ss, vd (FP.i2d p1), ss, vr a873, vi (1 : Int32), vd (FP.dsub (FP.i2d p1) (FP.dmul (FP.i2d (0 : Int32)) (FP.ddiv (FP.dsub (FP.i2d p1) (FP.i2d p0)) (FP.i2d (1 : Int32))))), ss, vi (0 : Int32), vd (FP.dsub (FP.i2d p1) (FP.dmul (FP.i2d (0 : Int32)) (FP.ddiv (FP.dsub (FP.i2d p1) (FP.i2d p0)) (FP.i2d (1 : Int32))))), ss, vd (FP.dsub (FP.i2d p1) (FP.dmul (FP.i2d (0 : Int32)) (FP.ddiv (FP.dsub (FP.i2d p1) (FP.i2d p0)) (FP.i2d (1 : Int32))))), ss, uu, uu, uu, uu]) rfl ?_
            refine XS.aload X2299.here hx rfl (hb hby at_239) rfl rfl ?_
            exact kk
          clear k2310
          obtain ⟨cq2323, kq2324, qa2325, qb2326, qc2327⟩ := isOf hZ e2307 F2282
          obtain ⟨_, _, ⟨T2312, L2313, kc2314, nc2315⟩, -, X2316, ⟨Lc2317, hQ2318, l2319, y2320, z2321⟩, st2322⟩ := X2299.virtualBack hx (y := mn13) (z := mn13) hown (mvT hZ (tw43 hw)) (mvT hZ (tw44 hw)) (notFace_of_selects (args := #[]) (mvT hZ (tw46 hw))) (mvT hZ (tw46 hw)) (mvT hZ (tw45 hw)) (by decide) (backOf (W := 0) (rmN l Z a0 hw [] a873 (1 : Int32) (FP.dsub (FP.i2d p1) (FP.dmul (FP.i2d (0 : Int32)) (FP.ddiv (FP.dsub (FP.i2d p1) (FP.i2d p0)) (FP.i2d (1 : Int32))))) (FP.i2d p1) (FP.ddiv (FP.dsub (FP.i2d p1) (FP.i2d p0)) (FP.i2d (1 : Int32))) (0 : Int32) T2255.heap n0 Z2281 F2282 g2275 F2290 g2277 g2278 F2292 ge875 (fun z => absurd z (by decide))) hZ (tw47 hw) (tw7 hw) (by decide) (by decide)) qa2325 qc2327 (g := (mkF m 241 #[vi p0, vi p1, vi p2, vi p3, vi (0 : Int32), vi (1 : Int32), vi md, vd (FP.i2d p0), ss, vd (FP.i2d p1), ss, vr a873, vi (1 : Int32), vd (FP.dsub (FP.i2d p1) (FP.dmul (FP.i2d (0 : Int32)) (FP.ddiv (FP.dsub (FP.i2d p1) (FP.i2d p0)) (FP.i2d (1 : Int32))))), ss, vi (0 : Int32), vd (FP.dsub (FP.i2d p1) (FP.dmul (FP.i2d (0 : Int32)) (FP.ddiv (FP.dsub (FP.i2d p1) (FP.i2d p0)) (FP.i2d (1 : Int32))))), ss, vd (FP.dsub (FP.i2d p1) (FP.dmul (FP.i2d (0 : Int32)) (FP.ddiv (FP.dsub (FP.i2d p1) (FP.i2d p0)) (FP.i2d (1 : Int32))))), ss, uu, uu, uu, uu] [(.ref a873)])) rfl (by rw [hml]; rfl) (Steps.refl _) (argsL := []) (rest := []) (lenOf pd_20 rfl) rfl (by show 2 * 0 + _ ≤ _; exact Nat.le_of_eq rfl) (hb hby at_241) (fun _ _ => ⟨rfl, e2307, (by decide : 1 + 0 ≤ _), (by decide : 5 + 0 ≤ _)⟩)
          dsimp only [Pt.U, Pt.locs, Pt.cells, Pt.slots] at X2316 l2319 y2320 z2321 st2322 hQ2318
          subst l2319 y2320 z2321
          obtain ⟨rfl, N2328, K2331, g2332, g2333, g2334, g2335, g2336⟩ := hQ2318
          have N2337 := Fr.app N2309 N2328
          have Z2338 : n0 ≤ T2312.heap.size := Nat.le_trans Z2281 K2331.1
          have F2339 : xa8 Z T2312.heap a873 := F2282.keep K2331
          clear F2282
          clear g2275
          clear F2290
          clear g2277
          clear g2278
          clear F2292
          have k2345 : own_G p e below E0 T2312 (mkF m 244 #[vi p0, vi p1, vi p2, vi p3, vi (0 : Int32), vi (1 : Int32), vi md, vd (FP.i2d p0), ss, vd (FP.i2d p1), ss, vr a873, vi (1 : Int32), vd (FP.dsub (FP.i2d p1) (FP.dmul (FP.i2d (0 : Int32)) (FP.ddiv (FP.dsub (FP.i2d p1) (FP.i2d p0)) (FP.i2d (1 : Int32))))), ss, vi (0 : Int32), vd (FP.dsub (FP.i2d p1) (FP.dmul (FP.i2d (0 : Int32)) (FP.ddiv (FP.dsub (FP.i2d p1) (FP.i2d p0)) (FP.i2d (1 : Int32))))), ss, vd (FP.dsub (FP.i2d p1) (FP.dmul (FP.i2d (0 : Int32)) (FP.ddiv (FP.dsub (FP.i2d p1) (FP.i2d p0)) (FP.i2d (1 : Int32))))), ss, uu, uu, uu, uu] [(.double (own_nv (FP.dsub (FP.i2d p1) (FP.dmul (FP.i2d (0 : Int32)) (FP.ddiv (FP.dsub (FP.i2d p1) (FP.i2d p0)) (FP.i2d (1 : Int32))))) (FP.i2d p1) (FP.ddiv (FP.dsub (FP.i2d p1) (FP.i2d p0)) (FP.i2d (1 : Int32))) (0 : Int32)))]) := fun tQ kk => k2311 tQ (st2322.trans kk)
          clear k2311 st2322
          have eq2346 : (own_nv (FP.dsub (FP.i2d p1) (FP.dmul (FP.i2d (0 : Int32)) (FP.ddiv (FP.dsub (FP.i2d p1) (FP.i2d p0)) (FP.i2d (1 : Int32))))) (FP.i2d p1) (FP.ddiv (FP.dsub (FP.i2d p1) (FP.i2d p0)) (FP.i2d (1 : Int32))) (0 : Int32)) = (FP.dsub (FP.i2d p1) (FP.dmul (FP.i2d (0 : Int32)) (FP.ddiv (FP.dsub (FP.i2d p1) (FP.i2d p0)) (FP.i2d (1 : Int32))))) := by rw [own_nv, if_neg (by decide)]
          have F2347 : fd4 Z T2312.heap a873 (.double (FP.dsub (FP.i2d p1) (FP.dmul (FP.i2d (0 : Int32)) (FP.ddiv (FP.dsub (FP.i2d p1) (FP.i2d p0)) (FP.i2d (1 : Int32)))))) := by rw [← eq2346]; exact g2333
          have eq2348 : (own_nr (0 : Int32)) = (0 : Int32) := by decide
          have F2349 : fd7 Z T2312.heap a873 (.int (0 : Int32)) := by rw [← eq2348]; exact g2336
          have eq2350 : (own_nv (FP.dsub (FP.i2d p1) (FP.dmul (FP.i2d (0 : Int32)) (FP.ddiv (FP.dsub (FP.i2d p1) (FP.i2d p0)) (FP.i2d (1 : Int32))))) (FP.i2d p1) (FP.ddiv (FP.dsub (FP.i2d p1) (FP.i2d p0)) (FP.i2d (1 : Int32))) (0 : Int32)) = (FP.dsub (FP.i2d p1) (FP.dmul (FP.i2d (0 : Int32)) (FP.ddiv (FP.dsub (FP.i2d p1) (FP.i2d p0)) (FP.i2d (1 : Int32))))) := by rw [own_nv, if_neg (by decide)]
          rw [eq2350] at k2345
          have k2351 : own_G p e below E0 T2312 (mkF m 262 #[vi p0, vi p1, vi p2, vi p3, vi (0 : Int32), vi (1 : Int32), vi md, vd (FP.i2d p0), ss, vd (FP.i2d p1), ss, vr a873, vi (1 : Int32), vd (FP.dsub (FP.i2d p1) (FP.dmul (FP.i2d (0 : Int32)) (FP.ddiv (FP.dsub (FP.i2d p1) (FP.i2d p0)) (FP.i2d (1 : Int32))))), ss, vi (0 : Int32), vd (FP.dsub (FP.i2d p1) (FP.dmul (FP.i2d (0 : Int32)) (FP.ddiv (FP.dsub (FP.i2d p1) (FP.i2d p0)) (FP.i2d (1 : Int32))))), ss, vd (FP.dsub (FP.i2d p1) (FP.dmul (FP.i2d (0 : Int32)) (FP.ddiv (FP.dsub (FP.i2d p1) (FP.i2d p0)) (FP.i2d (1 : Int32))))), ss, vd (FP.dsub (FP.i2d p1) (FP.dmul (FP.i2d (0 : Int32)) (FP.ddiv (FP.dsub (FP.i2d p1) (FP.i2d p0)) (FP.i2d (1 : Int32))))), ss, uu, uu] [(.int (4 : Int32)), (.int md), (.int (1 : Int32)), (.double (FP.i2d p1)), (.double (FP.i2d p0)), (.double (FP.dsub (FP.i2d p1) (FP.dmul (FP.i2d (0 : Int32)) (FP.ddiv (FP.dsub (FP.i2d p1) (FP.i2d p0)) (FP.i2d (1 : Int32))))))]) := by
            intro tQ kk
            refine k2345 tQ ?_
            refine XS.dstore X2316.here hx rfl (hb hby at_244) rfl (l' := #[vi p0, vi p1, vi p2, vi p3, vi (0 : Int32), vi (1 : Int32), vi md, vd (FP.i2d p0), ss, vd (FP.i2d p1), ss, vr a873, vi (1 : Int32), vd (FP.dsub (FP.i2d p1) (FP.dmul (FP.i2d (0 : Int32)) (FP.ddiv (FP.dsub (FP.i2d p1) (FP.i2d p0)) (FP.i2d (1 : Int32))))), ss, vi (0 : Int32), vd (FP.dsub (FP.i2d p1) (FP.dmul (FP.i2d (0 : Int32)) (FP.ddiv (FP.dsub (FP.i2d p1) (FP.i2d p0)) (FP.i2d (1 : Int32))))), ss, vd (FP.dsub (FP.i2d p1) (FP.dmul (FP.i2d (0 : Int32)) (FP.ddiv (FP.dsub (FP.i2d p1) (FP.i2d p0)) (FP.i2d (1 : Int32))))), ss, vd (FP.dsub (FP.i2d p1) (FP.dmul (FP.i2d (0 : Int32)) (FP.ddiv (FP.dsub (FP.i2d p1) (FP.i2d p0)) (FP.i2d (1 : Int32))))), ss, uu, uu]) rfl ?_
            refine XS.iload X2316.here hx rfl (hb hby at_246) rfl ?_
            refine XS.ifNo X2316.here hx rfl (hb hby at_248) rfl (own_if_eqN (by decide)) ?_
            refine XS.dload X2316.here hx rfl (hb hby at_251) rfl ?_
            show Steps p.tables e below (T2312.setTop (mkF m 253 #[vi p0, vi p1, vi p2, vi p3, vi (0 : Int32), vi (1 : Int32), vi md, vd (FP.i2d p0), ss, vd (FP.i2d p1), ss, vr a873, vi (1 : Int32), vd (FP.dsub (FP.i2d p1) (FP.dmul (FP.i2d (0 : Int32)) (FP.ddiv (FP.dsub (FP.i2d p1) (FP.i2d p0)) (FP.i2d (1 : Int32))))), ss, vi (0 : Int32), vd (FP.dsub (FP.i2d p1) (FP.dmul (FP.i2d (0 : Int32)) (FP.ddiv (FP.dsub (FP.i2d p1) (FP.i2d p0)) (FP.i2d (1 : Int32))))), ss, vd (FP.dsub (FP.i2d p1) (FP.dmul (FP.i2d (0 : Int32)) (FP.ddiv (FP.dsub (FP.i2d p1) (FP.i2d p0)) (FP.i2d (1 : Int32))))), ss, vd (FP.dsub (FP.i2d p1) (FP.dmul (FP.i2d (0 : Int32)) (FP.ddiv (FP.dsub (FP.i2d p1) (FP.i2d p0)) (FP.i2d (1 : Int32))))), ss, uu, uu] [(.double (FP.dsub (FP.i2d p1) (FP.dmul (FP.i2d (0 : Int32)) (FP.ddiv (FP.dsub (FP.i2d p1) (FP.i2d p0)) (FP.i2d (1 : Int32))))))])) tQ
            refine XS.dload X2316.here hx rfl (hb hby at_253) rfl ?_
            refine XS.dload X2316.here hx rfl (hb hby at_255) rfl ?_
            refine XS.iload X2316.here hx rfl (hb hby at_257) rfl ?_
            refine XS.iload X2316.here hx rfl (hb hby at_259) rfl ?_
            show Steps p.tables e below (T2312.setTop (mkF m 261 #[vi p0, vi p1, vi p2, vi p3, vi (0 : Int32), vi (1 : Int32), vi md, vd (FP.i2d p0), ss, vd (FP.i2d p1), ss, vr a873, vi (1 : Int32), vd (FP.dsub (FP.i2d p1) (FP.dmul (FP.i2d (0 : Int32)) (FP.ddiv (FP.dsub (FP.i2d p1) (FP.i2d p0)) (FP.i2d (1 : Int32))))), ss, vi (0 : Int32), vd (FP.dsub (FP.i2d p1) (FP.dmul (FP.i2d (0 : Int32)) (FP.ddiv (FP.dsub (FP.i2d p1) (FP.i2d p0)) (FP.i2d (1 : Int32))))), ss, vd (FP.dsub (FP.i2d p1) (FP.dmul (FP.i2d (0 : Int32)) (FP.ddiv (FP.dsub (FP.i2d p1) (FP.i2d p0)) (FP.i2d (1 : Int32))))), ss, vd (FP.dsub (FP.i2d p1) (FP.dmul (FP.i2d (0 : Int32)) (FP.ddiv (FP.dsub (FP.i2d p1) (FP.i2d p0)) (FP.i2d (1 : Int32))))), ss, uu, uu] [(.int md), (.int (1 : Int32)), (.double (FP.i2d p1)), (.double (FP.i2d p0)), (.double (FP.dsub (FP.i2d p1) (FP.dmul (FP.i2d (0 : Int32)) (FP.ddiv (FP.dsub (FP.i2d p1) (FP.i2d p0)) (FP.i2d (1 : Int32))))))])) tQ
            refine XS.iconst X2316.here hx rfl (hb hby at_261) ?_
            exact kk
          clear k2345
          obtain ⟨_, _, ⟨T2352, L2353, kc2354, nc2355⟩, -, X2356, ⟨Lc2357, hQ2358, l2359, y2360, z2361⟩, st2362⟩ := Jvm.LawKit.callS X2316 hx (y := mn16) hown (mvT hZ (tw48 hw)) (mvT hZ (tw49 hw)) (mvT hZ (tw50 hw)) (mvT hZ (tw51 hw)) (by decide) (backOf (W := 2) (rmE l Z a0 hw [] (FP.i2d p0) (FP.i2d p1) (1 : Int32) md (4 : Int32) T2312.heap n0 Z2338 (Fl.i2d_fin p0).noNaN (Fl.i2d_fin p1).noNaN (own_h1 p0 p1) (own_h2 p0 p1 (F := (1 : Int32)) (by decide)) (own_q3 p0 p1 (F := (1 : Int32)) (r := (own_mx 0 ((1 : Int32) - (4 : Int32)))) (by decide) (own_mxb (by decide) (by decide)))) hZ (tw51 hw) (tw50 hw) (by decide) (by decide)) (g := (mkF m 262 #[vi p0, vi p1, vi p2, vi p3, vi (0 : Int32), vi (1 : Int32), vi md, vd (FP.i2d p0), ss, vd (FP.i2d p1), ss, vr a873, vi (1 : Int32), vd (FP.dsub (FP.i2d p1) (FP.dmul (FP.i2d (0 : Int32)) (FP.ddiv (FP.dsub (FP.i2d p1) (FP.i2d p0)) (FP.i2d (1 : Int32))))), ss, vi (0 : Int32), vd (FP.dsub (FP.i2d p1) (FP.dmul (FP.i2d (0 : Int32)) (FP.ddiv (FP.dsub (FP.i2d p1) (FP.i2d p0)) (FP.i2d (1 : Int32))))), ss, vd (FP.dsub (FP.i2d p1) (FP.dmul (FP.i2d (0 : Int32)) (FP.ddiv (FP.dsub (FP.i2d p1) (FP.i2d p0)) (FP.i2d (1 : Int32))))), ss, vd (FP.dsub (FP.i2d p1) (FP.dmul (FP.i2d (0 : Int32)) (FP.ddiv (FP.dsub (FP.i2d p1) (FP.i2d p0)) (FP.i2d (1 : Int32))))), ss, uu, uu] [(.int (4 : Int32)), (.int md), (.int (1 : Int32)), (.double (FP.i2d p1)), (.double (FP.i2d p0)), (.double (FP.dsub (FP.i2d p1) (FP.dmul (FP.i2d (0 : Int32)) (FP.ddiv (FP.dsub (FP.i2d p1) (FP.i2d p0)) (FP.i2d (1 : Int32))))))])) rfl (by rw [hml]; rfl) (argsL := [(.double (FP.i2d p0)), (.double (FP.i2d p1)), (.int (1 : Int32)), (.int md), (.int (4 : Int32))]) (rest := [(.double (FP.dsub (FP.i2d p1) (FP.dmul (FP.i2d (0 : Int32)) (FP.ddiv (FP.dsub (FP.i2d p1) (FP.i2d p0)) (FP.i2d (1 : Int32))))))]) (lenOf pd_21 rfl) rfl (by show 2 * 0 + _ ≤ _; exact Nat.le_of_eq rfl) (hb hby at_262) (fun _ _ => ⟨rfl, rfl, (by decide : 1 + 0 ≤ _), (by decide : 5 + 0 ≤ _)⟩)
          dsimp only [Pt.U, Pt.locs, Pt.cells, Pt.slots] at X2356 l2359 y2360 z2361 st2362 hQ2358
          subst l2359 y2360 z2361
          obtain ⟨rfl, N2363, e2364⟩ := hQ2358
          have N2366 := Fr.app N2337 N2363
          have k2367 : own_G p e below E0 T2352 (mkF m 265 #[vi p0, vi p1, vi p2, vi p3, vi (0 : Int32), vi (1 : Int32), vi md, vd (FP.i2d p0), ss, vd (FP.i2d p1), ss, vr a873, vi (1 : Int32), vd (FP.dsub (FP.i2d p1) (FP.dmul (FP.i2d (0 : Int32)) (FP.ddiv (FP.dsub (FP.i2d p1) (FP.i2d p0)) (FP.i2d (1 : Int32))))), ss, vi (0 : Int32), vd (FP.dsub (FP.i2d p1) (FP.dmul (FP.i2d (0 : Int32)) (FP.ddiv (FP.dsub (FP.i2d p1) (FP.i2d p0)) (FP.i2d (1 : Int32))))), ss, vd (FP.dsub (FP.i2d p1) (FP.dmul (FP.i2d (0 : Int32)) (FP.ddiv (FP.dsub (FP.i2d p1) (FP.i2d p0)) (FP.i2d (1 : Int32))))), ss, vd (FP.dsub (FP.i2d p1) (FP.dmul (FP.i2d (0 : Int32)) (FP.ddiv (FP.dsub (FP.i2d p1) (FP.i2d p0)) (FP.i2d (1 : Int32))))), ss, uu, uu] [(.double (own_exp (FP.i2d p0) (FP.i2d p1) (1 : Int32) md (4 : Int32))), (.double (FP.dsub (FP.i2d p1) (FP.dmul (FP.i2d (0 : Int32)) (FP.ddiv (FP.dsub (FP.i2d p1) (FP.i2d p0)) (FP.i2d (1 : Int32))))))]) := fun tQ kk => k2351 tQ (st2362 _ kk)
          clear k2351 st2362
          have k2368 : own_G p e below E0 T2352 (mkF m 278 #[vi p0, vi p1, vi p2, vi p3, vi (0 : Int32), vi (1 : Int32), vi md, vd (FP.i2d p0), ss, vd (FP.i2d p1), ss, vr a873, vi (1 : Int32), vd (FP.dsub (FP.i2d p1) (FP.dmul (FP.i2d (0 : Int32)) (FP.ddiv (FP.dsub (FP.i2d p1) (FP.i2d p0)) (FP.i2d (1 : Int32))))), ss, vi (0 : Int32), vd (FP.dsub (FP.i2d p1) (FP.dmul (FP.i2d (0 : Int32)) (FP.ddiv (FP.dsub (FP.i2d p1) (FP.i2d p0)) (FP.i2d (1 : Int32))))), ss, vd (FP.dsub (FP.i2d p1) (FP.dmul (FP.i2d (0 : Int32)) (FP.ddiv (FP.dsub (FP.i2d p1) (FP.i2d p0)) (FP.i2d (1 : Int32))))), ss, vd (FP.dsub (FP.i2d p1) (FP.dmul (FP.i2d (0 : Int32)) (FP.ddiv (FP.dsub (FP.i2d p1) (FP.i2d p0)) (FP.i2d (1 : Int32))))), ss, uu, uu] [(.ref a873)]) := by
            intro tQ kk
            refine k2367 tQ ?_
            refine XS.dcmpS (v := (0 : Int32)) X2356.here hx rfl (hb hby at_265) rfl (own_eZ p0 p1 cm1 cm2 cE (show own_mx 0 ((1 : Int32) - (4 : Int32)) = 0 by decide) (by decide)) ?_
            refine XS.ifNo X2356.here hx rfl (hb hby at_266) rfl (own_if_neN (by decide)) ?_
            refine XS.iconst X2356.here hx rfl (hb hby at_269) ?_
            refine XS.goto X2356.here hx rfl (pc0 := 270) (pc' := 274) rfl (hb hby at_270) (by decide) (by decide) ?_
            show Steps p.tables e below (T2352.setTop (mkF m 274 #[vi p0, vi p1, vi p2, vi p3, vi (0 : Int32), vi (1 : Int32), vi md, vd (FP.i2d p0), ss, vd (FP.i2d p1), ss, vr a873, vi (1 : Int32), vd (FP.dsub (FP.i2d p1) (FP.dmul (FP.i2d (0 : Int32)) (FP.ddiv (FP.dsub (FP.i2d p1) (FP.i2d p0)) (FP.i2d (1 : Int32))))), ss, vi (0 : Int32), vd (FP.dsub (FP.i2d p1) (FP.dmul (FP.i2d (0 : Int32)) (FP.ddiv (FP.dsub (FP.i2d p1) (FP.i2d p0)) (FP.i2d (1 : Int32))))), ss, vd (FP.dsub (FP.i2d p1) (FP.dmul (FP.i2d (0 : Int32)) (FP.ddiv (FP.dsub (FP.i2d p1) (FP.i2d p0)) (FP.i2d (1 : Int32))))), ss, vd (FP.dsub (FP.i2d p1) (FP.dmul (FP.i2d (0 : Int32)) (FP.ddiv (FP.dsub (FP.i2d p1) (FP.i2d p0)) (FP.i2d (1 : Int32))))), ss, uu, uu] [(.int (1 : Int32))])) tQ
            refine XS.istore X2356.here hx rfl (hb hby at_274) rfl (l' := #[vi p0, vi p1, vi p2, vi p3, vi (0 : Int32), vi (1 : Int32), vi md, vd (FP.i2d p0), ss, vd (FP.i2d p1), ss, vr a873, vi (1 : Int32), vd (FP.dsub (FP.i2d p1) (FP.dmul (FP.i2d (0 : Int32)) (FP.ddiv (FP.dsub (FP.i2d p1) (FP.i2d p0)) (FP.i2d (1 : Int32))))), ss, vi (0 : Int32), vd (FP.dsub (FP.i2d p1) (FP.dmul (FP.i2d (0 : Int32)) (FP.ddiv (FP.dsub (FP.i2d p1) (FP.i2d p0)) (FP.i2d (1 : Int32))))), ss, vd (FP.dsub (FP.i2d p1) (FP.dmul (FP.i2d (0 : Int32)) (FP.ddiv (FP.dsub (FP.i2d p1) (FP.i2d p0)) (FP.i2d (1 : Int32))))), ss, vd (FP.dsub (FP.i2d p1) (FP.dmul (FP.i2d (0 : Int32)) (FP.ddiv (FP.dsub (FP.i2d p1) (FP.i2d p0)) (FP.i2d (1 : Int32))))), ss, uu, uu]) rfl ?_
            refine XS.aload X2356.here hx rfl (hb hby at_276) rfl rfl ?_
            exact kk
          clear k2367
          obtain ⟨cq2380, kq2381, qa2382, qb2383, qc2384⟩ := isOf hZ e2364 F2339
          obtain ⟨_, _, ⟨T2369, L2370, kc2371, nc2372⟩, -, X2373, ⟨Lc2374, hQ2375, l2376, y2377, z2378⟩, st2379⟩ := X2356.virtualBack hx (y := mn13) (z := mn13) hown (mvT hZ (tw43 hw)) (mvT hZ (tw44 hw)) (notFace_of_selects (args := #[]) (mvT hZ (tw46 hw))) (mvT hZ (tw46 hw)) (mvT hZ (tw45 hw)) (by decide) (backOf (W := 0) (rmN l Z a0 hw [] a873 (1 : Int32) (FP.dsub (FP.i2d p1) (FP.dmul (FP.i2d (0 : Int32)) (FP.ddiv (FP.dsub (FP.i2d p1) (FP.i2d p0)) (FP.i2d (1 : Int32))))) (FP.i2d p1) (FP.ddiv (FP.dsub (FP.i2d p1) (FP.i2d p0)) (FP.i2d (1 : Int32))) (0 : Int32) T2312.heap n0 Z2338 F2339 g2332 F2347 g2334 g2335 F2349 ge875 (fun z => absurd z (by decide))) hZ (tw47 hw) (tw7 hw) (by decide) (by decide)) qa2382 qc2384 (g := (mkF m 278 #[vi p0, vi p1, vi p2, vi p3, vi (0 : Int32), vi (1 : Int32), vi md, vd (FP.i2d p0), ss, vd (FP.i2d p1), ss, vr a873, vi (1 : Int32), vd (FP.dsub (FP.i2d p1) (FP.dmul (FP.i2d (0 : Int32)) (FP.ddiv (FP.dsub (FP.i2d p1) (FP.i2d p0)) (FP.i2d (1 : Int32))))), ss, vi (0 : Int32), vd (FP.dsub (FP.i2d p1) (FP.dmul (FP.i2d (0 : Int32)) (FP.ddiv (FP.dsub (FP.i2d p1) (FP.i2d p0)) (FP.i2d (1 : Int32))))), ss, vd (FP.dsub (FP.i2d p1) (FP.dmul (FP.i2d (0 : Int32)) (FP.ddiv (FP.dsub (FP.i2d p1) (FP.i2d p0)) (FP.i2d (1 : Int32))))), ss, vd (FP.dsub (FP.i2d p1) (FP.dmul (FP.i2d (0 : Int32)) (FP.ddiv (FP.dsub (FP.i2d p1) (FP.i2d p0)) (FP.i2d (1 : Int32))))), ss, uu, uu] [(.ref a873)])) rfl (by rw [hml]; rfl) (Steps.refl _) (argsL := []) (rest := []) (lenOf pd_20 rfl) rfl (by show 2 * 0 + _ ≤ _; exact Nat.le_of_eq rfl) (hb hby at_278) (fun _ _ => ⟨rfl, e2364, (by decide : 1 + 0 ≤ _), (by decide : 5 + 0 ≤ _)⟩)
          dsimp only [Pt.U, Pt.locs, Pt.cells, Pt.slots] at X2373 l2376 y2377 z2378 st2379 hQ2375
          subst l2376 y2377 z2378
          obtain ⟨rfl, N2385, K2388, g2389, g2390, g2391, g2392, g2393⟩ := hQ2375
          have N2394 := Fr.app N2366 N2385
          have Z2395 : n0 ≤ T2369.heap.size := Nat.le_trans Z2338 K2388.1
          have F2396 : xa8 Z T2369.heap a873 := F2339.keep K2388
          clear F2339
          clear g2332
          clear F2347
          clear g2334
          clear g2335
          clear F2349
          have k2402 : own_G p e below E0 T2369 (mkF m 281 #[vi p0, vi p1, vi p2, vi p3, vi (0 : Int32), vi (1 : Int32), vi md, vd (FP.i2d p0), ss, vd (FP.i2d p1), ss, vr a873, vi (1 : Int32), vd (FP.dsub (FP.i2d p1) (FP.dmul (FP.i2d (0 : Int32)) (FP.ddiv (FP.dsub (FP.i2d p1) (FP.i2d p0)) (FP.i2d (1 : Int32))))), ss, vi (0 : Int32), vd (FP.dsub (FP.i2d p1) (FP.dmul (FP.i2d (0 : Int32)) (FP.ddiv (FP.dsub (FP.i2d p1) (FP.i2d p0)) (FP.i2d (1 : Int32))))), ss, vd (FP.dsub (FP.i2d p1) (FP.dmul (FP.i2d (0 : Int32)) (FP.ddiv (FP.dsub (FP.i2d p1) (FP.i2d p0)) (FP.i2d (1 : Int32))))), ss, vd (FP.dsub (FP.i2d p1) (FP.dmul (FP.i2d (0 : Int32)) (FP.ddiv (FP.dsub (FP.i2d p1) (FP.i2d p0)) (FP.i2d (1 : Int32))))), ss, uu, uu] [(.double (own_nv (FP.dsub (FP.i2d p1) (FP.dmul (FP.i2d (0 : Int32)) (FP.ddiv (FP.dsub (FP.i2d p1) (FP.i2d p0)) (FP.i2d (1 : Int32))))) (FP.i2d p1) (FP.ddiv (FP.dsub (FP.i2d p1) (FP.i2d p0)) (FP.i2d (1 : Int32))) (0 : Int32)))]) := fun tQ kk => k2368 tQ (st2379.trans kk)
          clear k2368 st2379
          have eq2403 : (own_nv (FP.dsub (FP.i2d p1) (FP.dmul (FP.i2d (0 : Int32)) (FP.ddiv (FP.dsub (FP.i2d p1) (FP.i2d p0)) (FP.i2d (1 : Int32))))) (FP.i2d p1) (FP.ddiv (FP.dsub (FP.i2d p1) (FP.i2d p0)) (FP.i2d (1 : Int32))) (0 : Int32)) = (FP.dsub (FP.i2d p1) (FP.dmul (FP.i2d (0 : Int32)) (FP.ddiv (FP.dsub (FP.i2d p1) (FP.i2d p0)) (FP.i2d (1 : Int32))))) := by rw [own_nv, if_neg (by decide)]
          have F2404 : fd4 Z T2369.heap a873 (.double (FP.dsub (FP.i2d p1) (FP.dmul (FP.i2d (0 : Int32)) (FP.ddiv (FP.dsub (FP.i2d p1) (FP.i2d p0)) (FP.i2d (1 : Int32)))))) := by rw [← eq2403]; exact g2390
          have eq2405 : (own_nr (0 : Int32)) = (0 : Int32) := by decide
          have F2406 : fd7 Z T2369.heap a873 (.int (0 : Int32)) := by rw [← eq2405]; exact g2393
          have eq2407 : (own_nv (FP.dsub (FP.i2d p1) (FP.dmul (FP.i2d (0 : Int32)) (FP.ddiv (FP.dsub (FP.i2d p1) (FP.i2d p0)) (FP.i2d (1 : Int32))))) (FP.i2d p1) (FP.ddiv (FP.dsub (FP.i2d p1) (FP.i2d p0)) (FP.i2d (1 : Int32))) (0 : Int32)) = (FP.dsub (FP.i2d p1) (FP.dmul (FP.i2d (0 : Int32)) (FP.ddiv (FP.dsub (FP.i2d p1) (FP.i2d p0)) (FP.i2d (1 : Int32))))) := by rw [own_nv, if_neg (by decide)]
          rw [eq2407] at k2402
          have k2408 : own_G p e below E0 T2369 (mkF m 299 #[vi p0, vi p1, vi p2, vi p3, vi (0 : Int32), vi (1 : Int32), vi md, vd (FP.i2d p0), ss, vd (FP.i2d p1), ss, vr a873, vi (1 : Int32), vd (FP.dsub (FP.i2d p1) (FP.dmul (FP.i2d (0 : Int32)) (FP.ddiv (FP.dsub (FP.i2d p1) (FP.i2d p0)) (FP.i2d (1 : Int32))))), ss, vi (0 : Int32), vd (FP.dsub (FP.i2d p1) (FP.dmul (FP.i2d (0 : Int32)) (FP.ddiv (FP.dsub (FP.i2d p1) (FP.i2d p0)) (FP.i2d (1 : Int32))))), ss, vd (FP.dsub (FP.i2d p1) (FP.dmul (FP.i2d (0 : Int32)) (FP.ddiv (FP.dsub (FP.i2d p1) (FP.i2d p0)) (FP.i2d (1 : Int32))))), ss, vd (FP.dsub (FP.i2d p1) (FP.dmul (FP.i2d (0 : Int32)) (FP.ddiv (FP.dsub (FP.i2d p1) (FP.i2d p0)) (FP.i2d (1 : Int32))))), ss, vd (FP.dsub (FP.i2d p1) (FP.dmul (FP.i2d (0 : Int32)) (FP.ddiv (FP.dsub (FP.i2d p1) (FP.i2d p0)) (FP.i2d (1 : Int32))))), ss] [(.int (5 : Int32)), (.int md), (.int (1 : Int32)), (.double (FP.i2d p1)), (.double (FP.i2d p0)), (.double (FP.dsub (FP.i2d p1) (FP.dmul (FP.i2d (0 : Int32)) (FP.ddiv (FP.dsub (FP.i2d p1) (FP.i2d p0)) (FP.i2d (1 : Int32))))))]) := by
            intro tQ kk
            refine k2402 tQ ?_
            refine XS.dstore X2373.here hx rfl (hb hby at_281) rfl (l' := #[vi p0, vi p1, vi p2, vi p3, vi (0 : Int32), vi (1 : Int32), vi md, vd (FP.i2d p0), ss, vd (FP.i2d p1), ss, vr a873, vi (1 : Int32), vd (FP.dsub (FP.i2d p1) (FP.dmul (FP.i2d (0 : Int32)) (FP.ddiv (FP.dsub (FP.i2d p1) (FP.i2d p0)) (FP.i2d (1 : Int32))))), ss, vi (0 : Int32), vd (FP.dsub (FP.i2d p1) (FP.dmul (FP.i2d (0 : Int32)) (FP.ddiv (FP.dsub (FP.i2d p1) (FP.i2d p0)) (FP.i2d (1 : Int32))))), ss, vd (FP.dsub (FP.i2d p1) (FP.dmul (FP.i2d (0 : Int32)) (FP.ddiv (FP.dsub (FP.i2d p1) (FP.i2d p0)) (FP.i2d (1 : Int32))))), ss, vd (FP.dsub (FP.i2d p1) (FP.dmul (FP.i2d (0 : Int32)) (FP.ddiv (FP.dsub (FP.i2d p1) (FP.i2d p0)) (FP.i2d (1 : Int32))))), ss, vd (FP.dsub (FP.i2d p1) (FP.dmul (FP.i2d (0 : Int32)) (FP.ddiv (FP.dsub (FP.i2d p1) (FP.i2d p0)) (FP.i2d (1 : Int32))))), ss]) rfl ?_
            refine XS.iload X2373.here hx rfl (hb hby at_283) rfl ?_
            refine XS.ifNo X2373.here hx rfl (hb hby at_285) rfl (own_if_eqN (by decide)) ?_
            refine XS.dload X2373.here hx rfl (hb hby at_288) rfl ?_
            show Steps p.tables e below (T2369.setTop (mkF m 290 #[vi p0, vi p1, vi p2, vi p3, vi (0 : Int32), vi (1 : Int32), vi md, vd (FP.i2d p0), ss, vd (FP.i2d p1), ss, vr a873, vi (1 : Int32), vd (FP.dsub (FP.i2d p1) (FP.dmul (FP.i2d (0 : Int32)) (FP.ddiv (FP.dsub (FP.i2d p1) (FP.i2d p0)) (FP.i2d (1 : Int32))))), ss, vi (0 : Int32), vd (FP.dsub (FP.i2d p1) (FP.dmul (FP.i2d (0 : Int32)) (FP.ddiv (FP.dsub (FP.i2d p1) (FP.i2d p0)) (FP.i2d (1 : Int32))))), ss, vd (FP.dsub (FP.i2d p1) (FP.dmul (FP.i2d (0 : Int32)) (FP.ddiv (FP.dsub (FP.i2d p1) (FP.i2d p0)) (FP.i2d (1 : Int32))))), ss, vd (FP.dsub (FP.i2d p1) (FP.dmul (FP.i2d (0 : Int32)) (FP.ddiv (FP.dsub (FP.i2d p1) (FP.i2d p0)) (FP.i2d (1 : Int32))))), ss, vd (FP.dsub (FP.i2d p1) (FP.dmul (FP.i2d (0 : Int32)) (FP.ddiv (FP.dsub (FP.i2d p1) (FP.i2d p0)) (FP.i2d (1 : Int32))))), ss] [(.double (FP.dsub (FP.i2d p1) (FP.dmul (FP.i2d (0 : Int32)) (FP.ddiv (FP.dsub (FP.i2d p1) (FP.i2d p0)) (FP.i2d (1 : Int32))))))])) tQ
            refine XS.dload X2373.here hx rfl (hb hby at_290) rfl ?_
            refine XS.dload X2373.here hx rfl (hb hby at_292) rfl ?_
            refine XS.iload X2373.here hx rfl (hb hby at_294) rfl ?_
            refine XS.iload X2373.here hx rfl (hb hby at_296) rfl ?_
            show Steps p.tables e below (T2369.setTop (mkF m 298 #[vi p0, vi p1, vi p2, vi p3, vi (0 : Int32), vi (1 : Int32), vi md, vd (FP.i2d p0), ss, vd (FP.i2d p1), ss, vr a873, vi (1 : Int32), vd (FP.dsub (FP.i2d p1) (FP.dmul (FP.i2d (0 : Int32)) (FP.ddiv (FP.dsub (FP.i2d p1) (FP.i2d p0)) (FP.i2d (1 : Int32))))), ss, vi (0 : Int32), vd (FP.dsub (FP.i2d p1) (FP.dmul (FP.i2d (0 : Int32)) (FP.ddiv (FP.dsub (FP.i2d p1) (FP.i2d p0)) (FP.i2d (1 : Int32))))), ss, vd (FP.dsub (FP.i2d p1) (FP.dmul (FP.i2d (0 : Int32)) (FP.ddiv (FP.dsub (FP.i2d p1) (FP.i2d p0)) (FP.i2d (1 : Int32))))), ss, vd (FP.dsub (FP.i2d p1) (FP.dmul (FP.i2d (0 : Int32)) (FP.ddiv (FP.dsub (FP.i2d p1) (FP.i2d p0)) (FP.i2d (1 : Int32))))), ss, vd (FP.dsub (FP.i2d p1) (FP.dmul (FP.i2d (0 : Int32)) (FP.ddiv (FP.dsub (FP.i2d p1) (FP.i2d p0)) (FP.i2d (1 : Int32))))), ss] [(.int md), (.int (1 : Int32)), (.double (FP.i2d p1)), (.double (FP.i2d p0)), (.double (FP.dsub (FP.i2d p1) (FP.dmul (FP.i2d (0 : Int32)) (FP.ddiv (FP.dsub (FP.i2d p1) (FP.i2d p0)) (FP.i2d (1 : Int32))))))])) tQ
            refine XS.iconst X2373.here hx rfl (hb hby at_298) ?_
            exact kk
          clear k2402
          obtain ⟨_, _, ⟨T2409, L2410, kc2411, nc2412⟩, -, X2413, ⟨Lc2414, hQ2415, l2416, y2417, z2418⟩, st2419⟩ := Jvm.LawKit.callS X2373 hx (y := mn16) hown (mvT hZ (tw48 hw)) (mvT hZ (tw49 hw)) (mvT hZ (tw50 hw)) (mvT hZ (tw51 hw)) (by decide) (backOf (W := 2) (rmE l Z a0 hw [] (FP.i2d p0) (FP.i2d p1) (1 : Int32) md (5 : Int32) T2369.heap n0 Z2395 (Fl.i2d_fin p0).noNaN (Fl.i2d_fin p1).noNaN (own_h1 p0 p1) (own_h2 p0 p1 (F := (1 : Int32)) (by decide)) (own_q3 p0 p1 (F := (1 : Int32)) (r := (own_mx 0 ((1 : Int32) - (5 : Int32)))) (by decide) (own_mxb (by decide) (by decide)))) hZ (tw51 hw) (tw50 hw) (by decide) (by decide)) (g := (mkF m 299 #[vi p0, vi p1, vi p2, vi p3, vi (0 : Int32), vi (1 : Int32), vi md, vd (FP.i2d p0), ss, vd (FP.i2d p1), ss, vr a873, vi (1 : Int32), vd (FP.dsub (FP.i2d p1) (FP.dmul (FP.i2d (0 : Int32)) (FP.ddiv (FP.dsub (FP.i2d p1) (FP.i2d p0)) (FP.i2d (1 : Int32))))), ss, vi (0 : Int32), vd (FP.dsub (FP.i2d p1) (FP.dmul (FP.i2d (0 : Int32)) (FP.ddiv (FP.dsub (FP.i2d p1) (FP.i2d p0)) (FP.i2d (1 : Int32))))), ss, vd (FP.dsub (FP.i2d p1) (FP.dmul (FP.i2d (0 : Int32)) (FP.ddiv (FP.dsub (FP.i2d p1) (FP.i2d p0)) (FP.i2d (1 : Int32))))), ss, vd (FP.dsub (FP.i2d p1) (FP.dmul (FP.i2d (0 : Int32)) (FP.ddiv (FP.dsub (FP.i2d p1) (FP.i2d p0)) (FP.i2d (1 : Int32))))), ss, vd (FP.dsub (FP.i2d p1) (FP.dmul (FP.i2d (0 : Int32)) (FP.ddiv (FP.dsub (FP.i2d p1) (FP.i2d p0)) (FP.i2d (1 : Int32))))), ss] [(.int (5 : Int32)), (.int md), (.int (1 : Int32)), (.double (FP.i2d p1)), (.double (FP.i2d p0)), (.double (FP.dsub (FP.i2d p1) (FP.dmul (FP.i2d (0 : Int32)) (FP.ddiv (FP.dsub (FP.i2d p1) (FP.i2d p0)) (FP.i2d (1 : Int32))))))])) rfl (by rw [hml]; rfl) (argsL := [(.double (FP.i2d p0)), (.double (FP.i2d p1)), (.int (1 : Int32)), (.int md), (.int (5 : Int32))]) (rest := [(.double (FP.dsub (FP.i2d p1) (FP.dmul (FP.i2d (0 : Int32)) (FP.ddiv (FP.dsub (FP.i2d p1) (FP.i2d p0)) (FP.i2d (1 : Int32))))))]) (lenOf pd_21 rfl) rfl (by show 2 * 0 + _ ≤ _; exact Nat.le_of_eq rfl) (hb hby at_299) (fun _ _ => ⟨rfl, rfl, (by decide : 1 + 0 ≤ _), (by decide : 5 + 0 ≤ _)⟩)
          dsimp only [Pt.U, Pt.locs, Pt.cells, Pt.slots] at X2413 l2416 y2417 z2418 st2419 hQ2415
          subst l2416 y2417 z2418
          obtain ⟨rfl, N2420, e2421⟩ := hQ2415
          have N2423 := Fr.app N2394 N2420
          have k2424 : own_G p e below E0 T2409 (mkF m 302 #[vi p0, vi p1, vi p2, vi p3, vi (0 : Int32), vi (1 : Int32), vi md, vd (FP.i2d p0), ss, vd (FP.i2d p1), ss, vr a873, vi (1 : Int32), vd (FP.dsub (FP.i2d p1) (FP.dmul (FP.i2d (0 : Int32)) (FP.ddiv (FP.dsub (FP.i2d p1) (FP.i2d p0)) (FP.i2d (1 : Int32))))), ss, vi (0 : Int32), vd (FP.dsub (FP.i2d p1) (FP.dmul (FP.i2d (0 : Int32)) (FP.ddiv (FP.dsub (FP.i2d p1) (FP.i2d p0)) (FP.i2d (1 : Int32))))), ss, vd (FP.dsub (FP.i2d p1) (FP.dmul (FP.i2d (0 : Int32)) (FP.ddiv (FP.dsub (FP.i2d p1) (FP.i2d p0)) (FP.i2d (1 : Int32))))), ss, vd (FP.dsub (FP.i2d p1) (FP.dmul (FP.i2d (0 : Int32)) (FP.ddiv (FP.dsub (FP.i2d p1) (FP.i2d p0)) (FP.i2d (1 : Int32))))), ss, vd (FP.dsub (FP.i2d p1) (FP.dmul (FP.i2d (0 : Int32)) (FP.ddiv (FP.dsub (FP.i2d p1) (FP.i2d p0)) (FP.i2d (1 : Int32))))), ss] [(.double (own_exp (FP.i2d p0) (FP.i2d p1) (1 : Int32) md (5 : Int32))), (.double (FP.dsub (FP.i2d p1) (FP.dmul (FP.i2d (0 : Int32)) (FP.ddiv (FP.dsub (FP.i2d p1) (FP.i2d p0)) (FP.i2d (1 : Int32))))))]) := fun tQ kk => k2408 tQ (st2419 _ kk)
          clear k2408 st2419
          have k2425 : own_G p e below E0 T2409 (mkF m 353 #[vi p0, vi p1, vi p2, vi p3, vi (0 : Int32), vi (1 : Int32), vi md, vd (FP.i2d p0), ss, vd (FP.i2d p1), ss, vr a873, vi (1 : Int32), vd (FP.dsub (FP.i2d p1) (FP.dmul (FP.i2d (0 : Int32)) (FP.ddiv (FP.dsub (FP.i2d p1) (FP.i2d p0)) (FP.i2d (1 : Int32))))), ss, vi (0 : Int32), vd (FP.dsub (FP.i2d p1) (FP.dmul (FP.i2d (0 : Int32)) (FP.ddiv (FP.dsub (FP.i2d p1) (FP.i2d p0)) (FP.i2d (1 : Int32))))), ss, vd (FP.dsub (FP.i2d p1) (FP.dmul (FP.i2d (0 : Int32)) (FP.ddiv (FP.dsub (FP.i2d p1) (FP.i2d p0)) (FP.i2d (1 : Int32))))), ss, vd (FP.dsub (FP.i2d p1) (FP.dmul (FP.i2d (0 : Int32)) (FP.ddiv (FP.dsub (FP.i2d p1) (FP.i2d p0)) (FP.i2d (1 : Int32))))), ss, vd (FP.dsub (FP.i2d p1) (FP.dmul (FP.i2d (0 : Int32)) (FP.ddiv (FP.dsub (FP.i2d p1) (FP.i2d p0)) (FP.i2d (1 : Int32))))), ss] [(.ref a873)]) := by
            intro tQ kk
            refine k2424 tQ ?_
            refine XS.dcmpS (v := (0 : Int32)) X2413.here hx rfl (hb hby at_302) rfl (own_eZ p0 p1 cm1 cm2 cE (show own_mx 0 ((1 : Int32) - (5 : Int32)) = 0 by decide) (by decide)) ?_
            refine XS.ifNo X2413.here hx rfl (hb hby at_303) rfl (own_if_neN (by decide)) ?_
            refine XS.iconst X2413.here hx rfl (hb hby at_306) ?_
            refine XS.goto X2413.here hx rfl (pc0 := 307) (pc' := 311) rfl (hb hby at_307) (by decide) (by decide) ?_
            show Steps p.tables e below (T2409.setTop (mkF m 311 #[vi p0, vi p1, vi p2, vi p3, vi (0 : Int32), vi (1 : Int32), vi md, vd (FP.i2d p0), ss, vd (FP.i2d p1), ss, vr a873, vi (1 : Int32), vd (FP.dsub (FP.i2d p1) (FP.dmul (FP.i2d (0 : Int32)) (FP.ddiv (FP.dsub (FP.i2d p1) (FP.i2d p0)) (FP.i2d (1 : Int32))))), ss, vi (0 : Int32), vd (FP.dsub (FP.i2d p1) (FP.dmul (FP.i2d (0 : Int32)) (FP.ddiv (FP.dsub (FP.i2d p1) (FP.i2d p0)) (FP.i2d (1 : Int32))))), ss, vd (FP.dsub (FP.i2d p1) (FP.dmul (FP.i2d (0 : Int32)) (FP.ddiv (FP.dsub (FP.i2d p1) (FP.i2d p0)) (FP.i2d (1 : Int32))))), ss, vd (FP.dsub (FP.i2d p1) (FP.dmul (FP.i2d (0 : Int32)) (FP.ddiv (FP.dsub (FP.i2d p1) (FP.i2d p0)) (FP.i2d (1 : Int32))))), ss, vd (FP.dsub (FP.i2d p1) (FP.dmul (FP.i2d (0 : Int32)) (FP.ddiv (FP.dsub (FP.i2d p1) (FP.i2d p0)) (FP.i2d (1 : Int32))))), ss] [(.int (1 : Int32))])) tQ
            refine XS.istore X2413.here hx rfl (hb hby at_311) rfl (l' := #[vi p0, vi p1, vi p2, vi p3, vi (0 : Int32), vi (1 : Int32), vi md, vd (FP.i2d p0), ss, vd (FP.i2d p1), ss, vr a873, vi (1 : Int32), vd (FP.dsub (FP.i2d p1) (FP.dmul (FP.i2d (0 : Int32)) (FP.ddiv (FP.dsub (FP.i2d p1) (FP.i2d p0)) (FP.i2d (1 : Int32))))), ss, vi (0 : Int32), vd (FP.dsub (FP.i2d p1) (FP.dmul (FP.i2d (0 : Int32)) (FP.ddiv (FP.dsub (FP.i2d p1) (FP.i2d p0)) (FP.i2d (1 : Int32))))), ss, vd (FP.dsub (FP.i2d p1) (FP.dmul (FP.i2d (0 : Int32)) (FP.ddiv (FP.dsub (FP.i2d p1) (FP.i2d p0)) (FP.i2d (1 : Int32))))), ss, vd (FP.dsub (FP.i2d p1) (FP.dmul (FP.i2d (0 : Int32)) (FP.ddiv (FP.dsub (FP.i2d p1) (FP.i2d p0)) (FP.i2d (1 : Int32))))), ss, vd (FP.dsub (FP.i2d p1) (FP.dmul (FP.i2d (0 : Int32)) (FP.ddiv (FP.dsub (FP.i2d p1) (FP.i2d p0)) (FP.i2d (1 : Int32))))), ss]) rfl ?_
            refine XS.iload X2413.here hx rfl (hb hby at_313) rfl ?_
            refine XS.ifNo X2413.here hx rfl (hb hby at_315) rfl (own_if_eqN (by decide)) ?_
            refine XS.dload X2413.here hx rfl (hb hby at_318) rfl ?_
            show Steps p.tables e below (T2409.setTop (mkF m 320 #[vi p0, vi p1, vi p2, vi p3, vi (0 : Int32), vi (1 : Int32), vi md, vd (FP.i2d p0), ss, vd (FP.i2d p1), ss, vr a873, vi (1 : Int32), vd (FP.dsub (FP.i2d p1) (FP.dmul (FP.i2d (0 : Int32)) (FP.ddiv (FP.dsub (FP.i2d p1) (FP.i2d p0)) (FP.i2d (1 : Int32))))), ss, vi (0 : Int32), vd (FP.dsub (FP.i2d p1) (FP.dmul (FP.i2d (0 : Int32)) (FP.ddiv (FP.dsub (FP.i2d p1) (FP.i2d p0)) (FP.i2d (1 : Int32))))), ss, vd (FP.dsub (FP.i2d p1) (FP.dmul (FP.i2d (0 : Int32)) (FP.ddiv (FP.dsub (FP.i2d p1) (FP.i2d p0)) (FP.i2d (1 : Int32))))), ss, vd (FP.dsub (FP.i2d p1) (FP.dmul (FP.i2d (0 : Int32)) (FP.ddiv (FP.dsub (FP.i2d p1) (FP.i2d p0)) (FP.i2d (1 : Int32))))), ss, vd (FP.dsub (FP.i2d p1) (FP.dmul (FP.i2d (0 : Int32)) (FP.ddiv (FP.dsub (FP.i2d p1) (FP.i2d p0)) (FP.i2d (1 : Int32))))), ss] [(.double (FP.dsub (FP.i2d p1) (FP.dmul (FP.i2d (0 : Int32)) (FP.ddiv (FP.dsub (FP.i2d p1) (FP.i2d p0)) (FP.i2d (1 : Int32))))))])) tQ
            refine XS.dload X2413.here hx rfl (hb hby at_320) rfl ?_
            refine XS.dcmpS (v := (0 : Int32)) X2413.here hx rfl (hb hby at_322) rfl (own_tz p0 p1 (F := (1 : Int32)) (by decide)) ?_
            refine XS.ifYes X2413.here hx rfl (pc0 := 323) (pc' := 339) rfl (hb hby at_323) rfl (own_if_eqY (by decide)) (by decide) (by decide) ?_
            refine XS.iconst X2413.here hx rfl (hb hby at_339) ?_
            show Steps p.tables e below (T2409.setTop (mkF m 340 #[vi p0, vi p1, vi p2, vi p3, vi (0 : Int32), vi (1 : Int32), vi md, vd (FP.i2d p0), ss, vd (FP.i2d p1), ss, vr a873, vi (1 : Int32), vd (FP.dsub (FP.i2d p1) (FP.dmul (FP.i2d (0 : Int32)) (FP.ddiv (FP.dsub (FP.i2d p1) (FP.i2d p0)) (FP.i2d (1 : Int32))))), ss, vi (0 : Int32), vd (FP.dsub (FP.i2d p1) (FP.dmul (FP.i2d (0 : Int32)) (FP.ddiv (FP.dsub (FP.i2d p1) (FP.i2d p0)) (FP.i2d (1 : Int32))))), ss, vd (FP.dsub (FP.i2d p1) (FP.dmul (FP.i2d (0 : Int32)) (FP.ddiv (FP.dsub (FP.i2d p1) (FP.i2d p0)) (FP.i2d (1 : Int32))))), ss, vd (FP.dsub (FP.i2d p1) (FP.dmul (FP.i2d (0 : Int32)) (FP.ddiv (FP.dsub (FP.i2d p1) (FP.i2d p0)) (FP.i2d (1 : Int32))))), ss, vd (FP.dsub (FP.i2d p1) (FP.dmul (FP.i2d (0 : Int32)) (FP.ddiv (FP.dsub (FP.i2d p1) (FP.i2d p0)) (FP.i2d (1 : Int32))))), ss] [(.int (1 : Int32))])) tQ
            refine XS.goto X2413.here hx rfl (pc0 := 340) (pc' := 344) rfl (hb hby at_340) (by decide) (by decide) ?_
            refine XS.istore X2413.here hx rfl (hb hby at_344) rfl (l' := #[vi p0, vi p1, vi p2, vi p3, vi (0 : Int32), vi (1 : Int32), vi md, vd (FP.i2d p0), ss, vd (FP.i2d p1), ss, vr a873, vi (1 : Int32), vd (FP.dsub (FP.i2d p1) (FP.dmul (FP.i2d (0 : Int32)) (FP.ddiv (FP.dsub (FP.i2d p1) (FP.i2d p0)) (FP.i2d (1 : Int32))))), ss, vi (0 : Int32), vd (FP.dsub (FP.i2d p1) (FP.dmul (FP.i2d (0 : Int32)) (FP.ddiv (FP.dsub (FP.i2d p1) (FP.i2d p0)) (FP.i2d (1 : Int32))))), ss, vd (FP.dsub (FP.i2d p1) (FP.dmul (FP.i2d (0 : Int32)) (FP.ddiv (FP.dsub (FP.i2d p1) (FP.i2d p0)) (FP.i2d (1 : Int32))))), ss, vd (FP.dsub (FP.i2d p1) (FP.dmul (FP.i2d (0 : Int32)) (FP.ddiv (FP.dsub (FP.i2d p1) (FP.i2d p0)) (FP.i2d (1 : Int32))))), ss, vd (FP.dsub (FP.i2d p1) (FP.dmul (FP.i2d (0 : Int32)) (FP.ddiv (FP.dsub (FP.i2d p1) (FP.i2d p0)) (FP.i2d (1 : Int32))))), ss]) rfl ?_
            refine XS.iload X2413.here hx rfl (hb hby at_346) rfl ?_
            refine XS.ifNo X2413.here hx rfl (hb hby at_348) rfl (own_if_eqN (by decide)) ?_
            show Steps p.tables e below (T2409.setTop (mkF m 351 #[vi p0, vi p1, vi p2, vi p3, vi (0 : Int32), vi (1 : Int32), vi md, vd (FP.i2d p0), ss, vd (FP.i2d p1), ss, vr a873, vi (1 : Int32), vd (FP.dsub (FP.i2d p1) (FP.dmul (FP.i2d (0 : Int32)) (FP.ddiv (FP.dsub (FP.i2d p1) (FP.i2d p0)) (FP.i2d (1 : Int32))))), ss, vi (0 : Int32), vd (FP.dsub (FP.i2d p1) (FP.dmul (FP.i2d (0 : Int32)) (FP.ddiv (FP.dsub (FP.i2d p1) (FP.i2d p0)) (FP.i2d (1 : Int32))))), ss, vd (FP.dsub (FP.i2d p1) (FP.dmul (FP.i2d (0 : Int32)) (FP.ddiv (FP.dsub (FP.i2d p1) (FP.i2d p0)) (FP.i2d (1 : Int32))))), ss, vd (FP.dsub (FP.i2d p1) (FP.dmul (FP.i2d (0 : Int32)) (FP.ddiv (FP.dsub (FP.i2d p1) (FP.i2d p0)) (FP.i2d (1 : Int32))))), ss, vd (FP.dsub (FP.i2d p1) (FP.dmul (FP.i2d (0 : Int32)) (FP.ddiv (FP.dsub (FP.i2d p1) (FP.i2d p0)) (FP.i2d (1 : Int32))))), ss] [])) tQ
            refine XS.aload X2413.here hx rfl (hb hby at_351) rfl rfl ?_
            exact kk
          clear k2424
          obtain ⟨cq2437, kq2438, qa2439, qb2440, qc2441⟩ := isOf hZ e2421 F2396
          obtain ⟨_, _, ⟨T2426, L2427, kc2428, nc2429⟩, -, X2430, ⟨Lc2431, hQ2432, l2433, y2434, z2435⟩, st2436⟩ := X2413.virtualBack hx (y := mn15) (z := mn15) hown (mvT hZ (tw57 hw)) (mvT hZ (tw58 hw)) (notFace_of_selects (args := #[]) (mvT hZ (tw60 hw))) (mvT hZ (tw60 hw)) (mvT hZ (tw59 hw)) (by decide) (backOf (W := 0) (rmVl l Z a0 hw [] a873 (FP.dsub (FP.i2d p1) (FP.dmul (FP.i2d (0 : Int32)) (FP.ddiv (FP.dsub (FP.i2d p1) (FP.i2d p0)) (FP.i2d (1 : Int32))))) T2369.heap n0 Z2395 F2404) hZ (tw61 hw) (tw7 hw) (by decide) (by decide)) qa2439 qc2441 (g := (mkF m 353 #[vi p0, vi p1, vi p2, vi p3, vi (0 : Int32), vi (1 : Int32), vi md, vd (FP.i2d p0), ss, vd (FP.i2d p1), ss, vr a873, vi (1 : Int32), vd (FP.dsub (FP.i2d p1) (FP.dmul (FP.i2d (0 : Int32)) (FP.ddiv (FP.dsub (FP.i2d p1) (FP.i2d p0)) (FP.i2d (1 : Int32))))), ss, vi (0 : Int32), vd (FP.dsub (FP.i2d p1) (FP.dmul (FP.i2d (0 : Int32)) (FP.ddiv (FP.dsub (FP.i2d p1) (FP.i2d p0)) (FP.i2d (1 : Int32))))), ss, vd (FP.dsub (FP.i2d p1) (FP.dmul (FP.i2d (0 : Int32)) (FP.ddiv (FP.dsub (FP.i2d p1) (FP.i2d p0)) (FP.i2d (1 : Int32))))), ss, vd (FP.dsub (FP.i2d p1) (FP.dmul (FP.i2d (0 : Int32)) (FP.ddiv (FP.dsub (FP.i2d p1) (FP.i2d p0)) (FP.i2d (1 : Int32))))), ss, vd (FP.dsub (FP.i2d p1) (FP.dmul (FP.i2d (0 : Int32)) (FP.ddiv (FP.dsub (FP.i2d p1) (FP.i2d p0)) (FP.i2d (1 : Int32))))), ss] [(.ref a873)])) rfl (by rw [hml]; rfl) (Steps.refl _) (argsL := []) (rest := []) (lenOf pd_20 rfl) rfl (by show 2 * 0 + _ ≤ _; exact Nat.le_of_eq rfl) (hb hby at_353) (fun _ _ => ⟨rfl, e2421, (by decide : 1 + 0 ≤ _), (by decide : 5 + 0 ≤ _)⟩)
          dsimp only [Pt.U, Pt.locs, Pt.cells, Pt.slots] at X2430 l2433 y2434 z2435 st2436 hQ2432
          subst l2433 y2434 z2435
          obtain ⟨rfl, N2442, e2443⟩ := hQ2432
          have N2445 := Fr.app N2423 N2442
          have k2446 : own_G p e below E0 T2426 (mkF m 356 #[vi p0, vi p1, vi p2, vi p3, vi (0 : Int32), vi (1 : Int32), vi md, vd (FP.i2d p0), ss, vd (FP.i2d p1), ss, vr a873, vi (1 : Int32), vd (FP.dsub (FP.i2d p1) (FP.dmul (FP.i2d (0 : Int32)) (FP.ddiv (FP.dsub (FP.i2d p1) (FP.i2d p0)) (FP.i2d (1 : Int32))))), ss, vi (0 : Int32), vd (FP.dsub (FP.i2d p1) (FP.dmul (FP.i2d (0 : Int32)) (FP.ddiv (FP.dsub (FP.i2d p1) (FP.i2d p0)) (FP.i2d (1 : Int32))))), ss, vd (FP.dsub (FP.i2d p1) (FP.dmul (FP.i2d (0 : Int32)) (FP.ddiv (FP.dsub (FP.i2d p1) (FP.i2d p0)) (FP.i2d (1 : Int32))))), ss, vd (FP.dsub (FP.i2d p1) (FP.dmul (FP.i2d (0 : Int32)) (FP.ddiv (FP.dsub (FP.i2d p1) (FP.i2d p0)) (FP.i2d (1 : Int32))))), ss, vd (FP.dsub (FP.i2d p1) (FP.dmul (FP.i2d (0 : Int32)) (FP.ddiv (FP.dsub (FP.i2d p1) (FP.i2d p0)) (FP.i2d (1 : Int32))))), ss] [(.double (FP.dsub (FP.i2d p1) (FP.dmul (FP.i2d (0 : Int32)) (FP.ddiv (FP.dsub (FP.i2d p1) (FP.i2d p0)) (FP.i2d (1 : Int32))))))]) := fun tQ kk => k2425 tQ (st2436.trans kk)
          clear k2425 st2436
          have k2447 : own_G p e below E0 T2426 (mkF m 376 #[vi p0, vi p1, vi p2, vi p3, vi (0 : Int32), vi (1 : Int32), vi md, vd (FP.i2d p0), ss, vd (FP.i2d p1), ss, vr a873, vi (1 : Int32), vd (FP.dsub (FP.i2d p1) (FP.dmul (FP.i2d (0 : Int32)) (FP.ddiv (FP.dsub (FP.i2d p1) (FP.i2d p0)) (FP.i2d (1 : Int32))))), ss, vi (0 : Int32), vd (FP.dsub (FP.i2d p1) (FP.dmul (FP.i2d (0 : Int32)) (FP.ddiv (FP.dsub (FP.i2d p1) (FP.i2d p0)) (FP.i2d (1 : Int32))))), ss, vd (FP.dsub (FP.i2d p1) (FP.dmul (FP.i2d (0 : Int32)) (FP.ddiv (FP.dsub (FP.i2d p1) (FP.i2d p0)) (FP.i2d (1 : Int32))))), ss, vd (FP.dsub (FP.i2d p1) (FP.dmul (FP.i2d (0 : Int32)) (FP.ddiv (FP.dsub (FP.i2d p1) (FP.i2d p0)) (FP.i2d (1 : Int32))))), ss, vd (FP.dsub (FP.i2d p1) (FP.dmul (FP.i2d (0 : Int32)) (FP.ddiv (FP.dsub (FP.i2d p1) (FP.i2d p0)) (FP.i2d (1 : Int32))))), ss] [(.ref a873)]) := by
            intro tQ kk
            refine k2446 tQ ?_
            refine XS.dload X2430.here hx rfl (hb hby at_356) rfl ?_
            refine XS.dcmpS (v := (0 : Int32)) X2430.here hx rfl (hb hby at_358) rfl (dcmpV_self (own_q3 p0 p1 (by decide) (by decide)).2 .l) ?_
            refine XS.ifNo X2430.here hx rfl (hb hby at_359) rfl (own_if_neN (by decide)) ?_
            refine XS.iconst X2430.here hx rfl (hb hby at_362) ?_
            show Steps p.tables e below (T2426.setTop (mkF m 363 #[vi p0, vi p1, vi p2, vi p3, vi (0 : Int32), vi (1 : Int32), vi md, vd (FP.i2d p0), ss, vd (FP.i2d p1), ss, vr a873, vi (1 : Int32), vd (FP.dsub (FP.i2d p1) (FP.dmul (FP.i2d (0 : Int32)) (FP.ddiv (FP.dsub (FP.i2d p1) (FP.i2d p0)) (FP.i2d (1 : Int32))))), ss, vi (0 : Int32), vd (FP.dsub (FP.i2d p1) (FP.dmul (FP.i2d (0 : Int32)) (FP.ddiv (FP.dsub (FP.i2d p1) (FP.i2d p0)) (FP.i2d (1 : Int32))))), ss, vd (FP.dsub (FP.i2d p1) (FP.dmul (FP.i2d (0 : Int32)) (FP.ddiv (FP.dsub (FP.i2d p1) (FP.i2d p0)) (FP.i2d (1 : Int32))))), ss, vd (FP.dsub (FP.i2d p1) (FP.dmul (FP.i2d (0 : Int32)) (FP.ddiv (FP.dsub (FP.i2d p1) (FP.i2d p0)) (FP.i2d (1 : Int32))))), ss, vd (FP.dsub (FP.i2d p1) (FP.dmul (FP.i2d (0 : Int32)) (FP.ddiv (FP.dsub (FP.i2d p1) (FP.i2d p0)) (FP.i2d (1 : Int32))))), ss] [(.int (1 : Int32))])) tQ
            refine XS.goto X2430.here hx rfl (pc0 := 363) (pc' := 367) rfl (hb hby at_363) (by decide) (by decide) ?_
            refine XS.istore X2430.here hx rfl (hb hby at_367) rfl (l' := #[vi p0, vi p1, vi p2, vi p3, vi (0 : Int32), vi (1 : Int32), vi md, vd (FP.i2d p0), ss, vd (FP.i2d p1), ss, vr a873, vi (1 : Int32), vd (FP.dsub (FP.i2d p1) (FP.dmul (FP.i2d (0 : Int32)) (FP.ddiv (FP.dsub (FP.i2d p1) (FP.i2d p0)) (FP.i2d (1 : Int32))))), ss, vi (0 : Int32), vd (FP.dsub (FP.i2d p1) (FP.dmul (FP.i2d (0 : Int32)) (FP.ddiv (FP.dsub (FP.i2d p1) (FP.i2d p0)) (FP.i2d (1 : Int32))))), ss, vd (FP.dsub (FP.i2d p1) (FP.dmul (FP.i2d (0 : Int32)) (FP.ddiv (FP.dsub (FP.i2d p1) (FP.i2d p0)) (FP.i2d (1 : Int32))))), ss, vd (FP.dsub (FP.i2d p1) (FP.dmul (FP.i2d (0 : Int32)) (FP.ddiv (FP.dsub (FP.i2d p1) (FP.i2d p0)) (FP.i2d (1 : Int32))))), ss, vd (FP.dsub (FP.i2d p1) (FP.dmul (FP.i2d (0 : Int32)) (FP.ddiv (FP.dsub (FP.i2d p1) (FP.i2d p0)) (FP.i2d (1 : Int32))))), ss]) rfl ?_
            refine XS.iload X2430.here hx rfl (hb hby at_369) rfl ?_
            refine XS.ifNo X2430.here hx rfl (hb hby at_371) rfl (own_if_eqN (by decide)) ?_
            show Steps p.tables e below (T2426.setTop (mkF m 374 #[vi p0, vi p1, vi p2, vi p3, vi (0 : Int32), vi (1 : Int32), vi md, vd (FP.i2d p0), ss, vd (FP.i2d p1), ss, vr a873, vi (1 : Int32), vd (FP.dsub (FP.i2d p1) (FP.dmul (FP.i2d (0 : Int32)) (FP.ddiv (FP.dsub (FP.i2d p1) (FP.i2d p0)) (FP.i2d (1 : Int32))))), ss, vi (0 : Int32), vd (FP.dsub (FP.i2d p1) (FP.dmul (FP.i2d (0 : Int32)) (FP.ddiv (FP.dsub (FP.i2d p1) (FP.i2d p0)) (FP.i2d (1 : Int32))))), ss, vd (FP.dsub (FP.i2d p1) (FP.dmul (FP.i2d (0 : Int32)) (FP.ddiv (FP.dsub (FP.i2d p1) (FP.i2d p0)) (FP.i2d (1 : Int32))))), ss, vd (FP.dsub (FP.i2d p1) (FP.dmul (FP.i2d (0 : Int32)) (FP.ddiv (FP.dsub (FP.i2d p1) (FP.i2d p0)) (FP.i2d (1 : Int32))))), ss, vd (FP.dsub (FP.i2d p1) (FP.dmul (FP.i2d (0 : Int32)) (FP.ddiv (FP.dsub (FP.i2d p1) (FP.i2d p0)) (FP.i2d (1 : Int32))))), ss] [])) tQ
            refine XS.aload X2430.here hx rfl (hb hby at_374) rfl rfl ?_
            exact kk
          clear k2446
          obtain ⟨cq2459, kq2460, qa2461, qb2462, qc2463⟩ := isOf hZ e2443 F2396
          obtain ⟨_, _, ⟨T2448, L2449, kc2450, nc2451⟩, -, X2452, ⟨Lc2453, hQ2454, l2455, y2456, z2457⟩, st2458⟩ := X2430.virtualBack hx (y := mn14) (z := mn14) hown (mvT hZ (tw52 hw)) (mvT hZ (tw53 hw)) (notFace_of_selects (args := #[]) (mvT hZ (tw55 hw))) (mvT hZ (tw55 hw)) (mvT hZ (tw54 hw)) (by decide) (backOf (W := 0) (rmMv l Z a0 hw [] a873 (0 : Int32) T2369.heap n0 Z2395 F2406) hZ (tw56 hw) (tw7 hw) (by decide) (by decide)) qa2461 qc2463 (g := (mkF m 376 #[vi p0, vi p1, vi p2, vi p3, vi (0 : Int32), vi (1 : Int32), vi md, vd (FP.i2d p0), ss, vd (FP.i2d p1), ss, vr a873, vi (1 : Int32), vd (FP.dsub (FP.i2d p1) (FP.dmul (FP.i2d (0 : Int32)) (FP.ddiv (FP.dsub (FP.i2d p1) (FP.i2d p0)) (FP.i2d (1 : Int32))))), ss, vi (0 : Int32), vd (FP.dsub (FP.i2d p1) (FP.dmul (FP.i2d (0 : Int32)) (FP.ddiv (FP.dsub (FP.i2d p1) (FP.i2d p0)) (FP.i2d (1 : Int32))))), ss, vd (FP.dsub (FP.i2d p1) (FP.dmul (FP.i2d (0 : Int32)) (FP.ddiv (FP.dsub (FP.i2d p1) (FP.i2d p0)) (FP.i2d (1 : Int32))))), ss, vd (FP.dsub (FP.i2d p1) (FP.dmul (FP.i2d (0 : Int32)) (FP.ddiv (FP.dsub (FP.i2d p1) (FP.i2d p0)) (FP.i2d (1 : Int32))))), ss, vd (FP.dsub (FP.i2d p1) (FP.dmul (FP.i2d (0 : Int32)) (FP.ddiv (FP.dsub (FP.i2d p1) (FP.i2d p0)) (FP.i2d (1 : Int32))))), ss] [(.ref a873)])) rfl (by rw [hml]; rfl) (Steps.refl _) (argsL := []) (rest := []) (lenOf pd_22 rfl) rfl (by show 2 * 0 + _ ≤ _; exact Nat.le_of_eq rfl) (hb hby at_376) (fun _ _ => ⟨rfl, e2443, (by decide : 1 + 0 ≤ _), (by decide : 5 + 0 ≤ _)⟩)
          dsimp only [Pt.U, Pt.locs, Pt.cells, Pt.slots] at X2452 l2455 y2456 z2457 st2458 hQ2454
          subst l2455 y2456 z2457
          obtain ⟨rfl, N2464, e2465⟩ := hQ2454
          have N2467 := Fr.app N2445 N2464
          have k2468 : own_G p e below E0 T2448 (mkF m 379 #[vi p0, vi p1, vi p2, vi p3, vi (0 : Int32), vi (1 : Int32), vi md, vd (FP.i2d p0), ss, vd (FP.i2d p1), ss, vr a873, vi (1 : Int32), vd (FP.dsub (FP.i2d p1) (FP.dmul (FP.i2d (0 : Int32)) (FP.ddiv (FP.dsub (FP.i2d p1) (FP.i2d p0)) (FP.i2d (1 : Int32))))), ss, vi (0 : Int32), vd (FP.dsub (FP.i2d p1) (FP.dmul (FP.i2d (0 : Int32)) (FP.ddiv (FP.dsub (FP.i2d p1) (FP.i2d p0)) (FP.i2d (1 : Int32))))), ss, vd (FP.dsub (FP.i2d p1) (FP.dmul (FP.i2d (0 : Int32)) (FP.ddiv (FP.dsub (FP.i2d p1) (FP.i2d p0)) (FP.i2d (1 : Int32))))), ss, vd (FP.dsub (FP.i2d p1) (FP.dmul (FP.i2d (0 : Int32)) (FP.ddiv (FP.dsub (FP.i2d p1) (FP.i2d p0)) (FP.i2d (1 : Int32))))), ss, vd (FP.dsub (FP.i2d p1) (FP.dmul (FP.i2d (0 : Int32)) (FP.ddiv (FP.dsub (FP.i2d p1) (FP.i2d p0)) (FP.i2d (1 : Int32))))), ss] [(.int (own_mv (0 : Int32)))]) := fun tQ kk => k2447 tQ (st2458.trans kk)
          clear k2447 st2458
          have eq2469 : (own_mv (0 : Int32)) = (0 : Int32) := by decide
          rw [eq2469] at k2468
          have k2470 : own_G p e below E0 T2448 (mkF m 391 #[vi p0, vi p1, vi p2, vi p3, vi (0 : Int32), vi (1 : Int32), vi md, vd (FP.i2d p0), ss, vd (FP.i2d p1), ss, vr a873, vi (1 : Int32), vd (FP.dsub (FP.i2d p1) (FP.dmul (FP.i2d (0 : Int32)) (FP.ddiv (FP.dsub (FP.i2d p1) (FP.i2d p0)) (FP.i2d (1 : Int32))))), ss, vi (0 : Int32), vd (FP.dsub (FP.i2d p1) (FP.dmul (FP.i2d (0 : Int32)) (FP.ddiv (FP.dsub (FP.i2d p1) (FP.i2d p0)) (FP.i2d (1 : Int32))))), ss, vd (FP.dsub (FP.i2d p1) (FP.dmul (FP.i2d (0 : Int32)) (FP.ddiv (FP.dsub (FP.i2d p1) (FP.i2d p0)) (FP.i2d (1 : Int32))))), ss, vd (FP.dsub (FP.i2d p1) (FP.dmul (FP.i2d (0 : Int32)) (FP.ddiv (FP.dsub (FP.i2d p1) (FP.i2d p0)) (FP.i2d (1 : Int32))))), ss, vd (FP.dsub (FP.i2d p1) (FP.dmul (FP.i2d (0 : Int32)) (FP.ddiv (FP.dsub (FP.i2d p1) (FP.i2d p0)) (FP.i2d (1 : Int32))))), ss] [(.int (1 : Int32))]) := by
            intro tQ kk
            refine k2468 tQ ?_
            refine XS.ifNo X2452.here hx rfl (hb hby at_379) rfl (own_if_neN (by decide)) ?_
            refine XS.iconst X2452.here hx rfl (hb hby at_382) ?_
            refine XS.goto X2452.here hx rfl (pc0 := 383) (pc' := 387) rfl (hb hby at_383) (by decide) (by decide) ?_
            refine XS.istore X2452.here hx rfl (hb hby at_387) rfl (l' := #[vi p0, vi p1, vi p2, vi p3, vi (0 : Int32), vi (1 : Int32), vi md, vd (FP.i2d p0), ss, vd (FP.i2d p1), ss, vr a873, vi (1 : Int32), vd (FP.dsub (FP.i2d p1) (FP.dmul (FP.i2d (0 : Int32)) (FP.ddiv (FP.dsub (FP.i2d p1) (FP.i2d p0)) (FP.i2d (1 : Int32))))), ss, vi (0 : Int32), vd (FP.dsub (FP.i2d p1) (FP.dmul (FP.i2d (0 : Int32)) (FP.ddiv (FP.dsub (FP.i2d p1) (FP.i2d p0)) (FP.i2d (1 : Int32))))), ss, vd (FP.dsub (FP.i2d p1) (FP.dmul (FP.i2d (0 : Int32)) (FP.ddiv (FP.dsub (FP.i2d p1) (FP.i2d p0)) (FP.i2d (1 : Int32))))), ss, vd (FP.dsub (FP.i2d p1) (FP.dmul (FP.i2d (0 : Int32)) (FP.ddiv (FP.dsub (FP.i2d p1) (FP.i2d p0)) (FP.i2d (1 : Int32))))), ss, vd (FP.dsub (FP.i2d p1) (FP.dmul (FP.i2d (0 : Int32)) (FP.ddiv (FP.dsub (FP.i2d p1) (FP.i2d p0)) (FP.i2d (1 : Int32))))), ss]) rfl ?_
            show Steps p.tables e below (T2448.setTop (mkF m 389 #[vi p0, vi p1, vi p2, vi p3, vi (0 : Int32), vi (1 : Int32), vi md, vd (FP.i2d p0), ss, vd (FP.i2d p1), ss, vr a873, vi (1 : Int32), vd (FP.dsub (FP.i2d p1) (FP.dmul (FP.i2d (0 : Int32)) (FP.ddiv (FP.dsub (FP.i2d p1) (FP.i2d p0)) (FP.i2d (1 : Int32))))), ss, vi (0 : Int32), vd (FP.dsub (FP.i2d p1) (FP.dmul (FP.i2d (0 : Int32)) (FP.ddiv (FP.dsub (FP.i2d p1) (FP.i2d p0)) (FP.i2d (1 : Int32))))), ss, vd (FP.dsub (FP.i2d p1) (FP.dmul (FP.i2d (0 : Int32)) (FP.ddiv (FP.dsub (FP.i2d p1) (FP.i2d p0)) (FP.i2d (1 : Int32))))), ss, vd (FP.dsub (FP.i2d p1) (FP.dmul (FP.i2d (0 : Int32)) (FP.ddiv (FP.dsub (FP.i2d p1) (FP.i2d p0)) (FP.i2d (1 : Int32))))), ss, vd (FP.dsub (FP.i2d p1) (FP.dmul (FP.i2d (0 : Int32)) (FP.ddiv (FP.dsub (FP.i2d p1) (FP.i2d p0)) (FP.i2d (1 : Int32))))), ss] [])) tQ
            refine XS.iload X2452.here hx rfl (hb hby at_389) rfl ?_
            exact kk
          clear k2468
          obtain ⟨fs, hr, hrun, hended, hW, hsame⟩ := X2452.leave (v := some (.int (1 : Int32))) (fun h => by rw [Bd.returns] at h; cases h)
          have hrun0 := k2470 _ (retOut X2452 hx Bd.returns (t := .boolean) rfl (Or.inl ⟨rfl, Or.inr (Or.inl rfl), _, rfl⟩) (hb hby at_391) hr)
          subst hE0
          refine ⟨_, _, hrun0, hrun, hended, _, _, rfl, ?_, ⟨_, rfl⟩, hW, hsame.mono (by decide) (by decide)⟩
          show Qrm0 Z p0 p1 p2 p3 h0 n0 _ T2448.heap _
          rw [e2465]
          exact ⟨rfl, N2467⟩
        · skip
          have eq2471 : (own_F (1 : Int32)) = (1 : Int32) := by decide
          rw [eq2471] at k2109
          have eq2472 : (own_F (1 : Int32)) = (1 : Int32) := by decide
          have F2473 : fd7 Z T1709.heap a873 (.int (1 : Int32)) := by rw [← eq2472]; exact F2108
          have eq2474 : (own_F (1 : Int32)) = (1 : Int32) := by decide
          have F2475 : fd3 Z T1709.heap a873 (.int (1 : Int32)) := by rw [← eq2474]; exact g1729
          have eq2476 : (FP.ddiv (FP.dsub (FP.i2d p1) (FP.i2d p0)) (FP.i2d (own_F (1 : Int32)))) = (FP.ddiv (FP.dsub (FP.i2d p1) (FP.i2d p0)) (FP.i2d (1 : Int32))) := by rw [show own_F (1 : Int32) = (1 : Int32) by decide]
          have F2477 : fd6 Z T1709.heap a873 (.double (FP.ddiv (FP.dsub (FP.i2d p1) (FP.i2d p0)) (FP.i2d (1 : Int32)))) := by rw [← eq2476]; exact F2106
          have k2478 : own_G p e below E0 T1709 (mkF m 81 #[vi p0, vi p1, vi p2, vi p3, vi (1 : Int32), vi (1 : Int32), vi md, vd (FP.i2d p0), ss, vd (FP.i2d p1), ss, vr a873, vi (1 : Int32), uu, uu, uu, uu, uu, uu, uu, uu, uu, uu, uu] [(.ref a873)]) := by
            intro tQ kk
            refine k2109 tQ ?_
            refine XS.istore X1713.here hx rfl (hb hby at_77) rfl (l' := #[vi p0, vi p1, vi p2, vi p3, vi (1 : Int32), vi (1 : Int32), vi md, vd (FP.i2d p0), ss, vd (FP.i2d p1), ss, vr a873, vi (1 : Int32), uu, uu, uu, uu, uu, uu, uu, uu, uu, uu, uu]) rfl ?_
            refine XS.aload X1713.here hx rfl (hb hby at_79) rfl rfl ?_
            exact kk
          clear k2109
          obtain ⟨cq2490, kq2491, qa2492, qb2493, qc2494⟩ := isOf hZ rfl F1736
          obtain ⟨_, _, ⟨T2479, L2480, kc2481, nc2482⟩, -, X2483, ⟨Lc2484, hQ2485, l2486, y2487, z2488⟩, st2489⟩ := X1713.virtualBack hx (y := mn13) (z := mn13) hown (mvT hZ (tw43 hw)) (mvT hZ (tw44 hw)) (notFace_of_selects (args := #[]) (mvT hZ (tw46 hw))) (mvT hZ (tw46 hw)) (mvT hZ (tw45 hw)) (by decide) (backOf (W := 0) (rmN l Z a0 hw [] a873 (1 : Int32) (FP.i2d p0) (FP.i2d p1) (FP.ddiv (FP.dsub (FP.i2d p1) (FP.i2d p0)) (FP.i2d (1 : Int32))) (1 : Int32) T1709.heap n0 Z1735 F1736 F2475 g1730 F2104 F2477 F2473 ge875 (fun _ => own_q3 p0 p1 (F := (1 : Int32)) (r := ((1 : Int32) - 1)) (by decide) (by decide))) hZ (tw47 hw) (tw7 hw) (by decide) (by decide)) qa2492 qc2494 (g := (mkF m 81 #[vi p0, vi p1, vi p2, vi p3, vi (1 : Int32), vi (1 : Int32), vi md, vd (FP.i2d p0), ss, vd (FP.i2d p1), ss, vr a873, vi (1 : Int32), uu, uu, uu, uu, uu, uu, uu, uu, uu, uu, uu] [(.ref a873)])) rfl (by rw [hml]; rfl) (Steps.refl _) (argsL := []) (rest := []) (lenOf pd_20 rfl) rfl (by show 2 * 0 + _ ≤ _; exact Nat.le_of_eq rfl) (hb hby at_81) (fun _ _ => ⟨rfl, rfl, (by decide : 1 + 0 ≤ _), (by decide : 5 + 0 ≤ _)⟩)
          dsimp only [Pt.U, Pt.locs, Pt.cells, Pt.slots] at X2483 l2486 y2487 z2488 st2489 hQ2485
          subst l2486 y2487 z2488
          obtain ⟨rfl, N2495, K2498, g2499, g2500, g2501, g2502, g2503⟩ := hQ2485
          have N2504 := Fr.app N1734 N2495
          have Z2505 : n0 ≤ T2479.heap.size := Nat.le_trans Z1735 K2498.1
          have F2506 : xa8 Z T2479.heap a873 := F1736.keep K2498
          clear F1736
          clear F2475
          clear g1730
          clear F2104
          clear F2477
          clear F2473
          have k2512 : own_G p e below E0 T2479 (mkF m 84 #[vi p0, vi p1, vi p2, vi p3, vi (1 : Int32), vi (1 : Int32), vi md, vd (FP.i2d p0), ss, vd (FP.i2d p1), ss, vr a873, vi (1 : Int32), uu, uu, uu, uu, uu, uu, uu, uu, uu, uu, uu] [(.double (own_nv (FP.i2d p0) (FP.i2d p1) (FP.ddiv (FP.dsub (FP.i2d p1) (FP.i2d p0)) (FP.i2d (1 : Int32))) (1 : Int32)))]) := fun tQ kk => k2478 tQ (st2489.trans kk)
          clear k2478 st2489
          have eq2513 : (own_nv (FP.i2d p0) (FP.i2d p1) (FP.ddiv (FP.dsub (FP.i2d p1) (FP.i2d p0)) (FP.i2d (1 : Int32))) (1 : Int32)) = (FP.dsub (FP.i2d p1) (FP.dmul (FP.i2d (0 : Int32)) (FP.ddiv (FP.dsub (FP.i2d p1) (FP.i2d p0)) (FP.i2d (1 : Int32))))) := by rw [own_nv, if_pos (by decide), show (1 : Int32) - 1 = (0 : Int32) by decide]
          have F2514 : fd4 Z T2479.heap a873 (.double (FP.dsub (FP.i2d p1) (FP.dmul (FP.i2d (0 : Int32)) (FP.ddiv (FP.dsub (FP.i2d p1) (FP.i2d p0)) (FP.i2d (1 : Int32)))))) := by rw [← eq2513]; exact g2500
          have eq2515 : (own_nr (1 : Int32)) = (0 : Int32) := by decide
          have F2516 : fd7 Z T2479.heap a873 (.int (0 : Int32)) := by rw [← eq2515]; exact g2503
          have eq2517 : (own_nv (FP.i2d p0) (FP.i2d p1) (FP.ddiv (FP.dsub (FP.i2d p1) (FP.i2d p0)) (FP.i2d (1 : Int32))) (1 : Int32)) = (FP.dsub (FP.i2d p1) (FP.dmul (FP.i2d (0 : Int32)) (FP.ddiv (FP.dsub (FP.i2d p1) (FP.i2d p0)) (FP.i2d (1 : Int32))))) := by rw [own_nv, if_pos (by decide), show (1 : Int32) - 1 = (0 : Int32) by decide]
          rw [eq2517] at k2512
          have k2518 : own_G p e below E0 T2479 (mkF m 102 #[vi p0, vi p1, vi p2, vi p3, vi (1 : Int32), vi (1 : Int32), vi md, vd (FP.i2d p0), ss, vd (FP.i2d p1), ss, vr a873, vi (1 : Int32), vd (FP.dsub (FP.i2d p1) (FP.dmul (FP.i2d (0 : Int32)) (FP.ddiv (FP.dsub (FP.i2d p1) (FP.i2d p0)) (FP.i2d (1 : Int32))))), ss, uu, uu, uu, uu, uu, uu, uu, uu, uu] [(.int (1 : Int32)), (.int md), (.int (1 : Int32)), (.double (FP.i2d p1)), (.double (FP.i2d p0)), (.double (FP.dsub (FP.i2d p1) (FP.dmul (FP.i2d (0 : Int32)) (FP.ddiv (FP.dsub (FP.i2d p1) (FP.i2d p0)) (FP.i2d (1 : Int32))))))]) := by
            intro tQ kk
            refine k2512 tQ ?_
            refine XS.dstore X2483.here hx rfl (hb hby at_84) rfl (l' := #[vi p0, vi p1, vi p2, vi p3, vi (1 : Int32), vi (1 : Int32), vi md, vd (FP.i2d p0), ss, vd (FP.i2d p1), ss, vr a873, vi (1 : Int32), vd (FP.dsub (FP.i2d p1) (FP.dmul (FP.i2d (0 : Int32)) (FP.ddiv (FP.dsub (FP.i2d p1) (FP.i2d p0)) (FP.i2d (1 : Int32))))), ss, uu, uu, uu, uu, uu, uu, uu, uu, uu]) rfl ?_
            refine XS.iload X2483.here hx rfl (hb hby at_86) rfl ?_
            refine XS.ifNo X2483.here hx rfl (hb hby at_88) rfl (own_if_eqN (by decide)) ?_
            refine XS.dload X2483.here hx rfl (hb hby at_91) rfl ?_
            show Steps p.tables e below (T2479.setTop (mkF m 93 #[vi p0, vi p1, vi p2, vi p3, vi (1 : Int32), vi (1 : Int32), vi md, vd (FP.i2d p0), ss, vd (FP.i2d p1), ss, vr a873, vi (1 : Int32), vd (FP.dsub (FP.i2d p1) (FP.dmul (FP.i2d (0 : Int32)) (FP.ddiv (FP.dsub (FP.i2d p1) (FP.i2d p0)) (FP.i2d (1 : Int32))))), ss, uu, uu, uu, uu, uu, uu, uu, uu, uu] [(.double (FP.dsub (FP.i2d p1) (FP.dmul (FP.i2d (0 : Int32)) (FP.ddiv (FP.dsub (FP.i2d p1) (FP.i2d p0)) (FP.i2d (1 : Int32))))))])) tQ
            refine XS.dload X2483.here hx rfl (hb hby at_93) rfl ?_
            refine XS.dload X2483.here hx rfl (hb hby at_95) rfl ?_
            refine XS.iload X2483.here hx rfl (hb hby at_97) rfl ?_
            refine XS.iload X2483.here hx rfl (hb hby at_99) rfl ?_
            show Steps p.tables e below (T2479.setTop (mkF m 101 #[vi p0, vi p1, vi p2, vi p3, vi (1 : Int32), vi (1 : Int32), vi md, vd (FP.i2d p0), ss, vd (FP.i2d p1), ss, vr a873, vi (1 : Int32), vd (FP.dsub (FP.i2d p1) (FP.dmul (FP.i2d (0 : Int32)) (FP.ddiv (FP.dsub (FP.i2d p1) (FP.i2d p0)) (FP.i2d (1 : Int32))))), ss, uu, uu, uu, uu, uu, uu, uu, uu, uu] [(.int md), (.int (1 : Int32)), (.double (FP.i2d p1)), (.double (FP.i2d p0)), (.double (FP.dsub (FP.i2d p1) (FP.dmul (FP.i2d (0 : Int32)) (FP.ddiv (FP.dsub (FP.i2d p1) (FP.i2d p0)) (FP.i2d (1 : Int32))))))])) tQ
            refine XS.iconst X2483.here hx rfl (hb hby at_101) ?_
            exact kk
          clear k2512
          obtain ⟨_, _, ⟨T2519, L2520, kc2521, nc2522⟩, -, X2523, ⟨Lc2524, hQ2525, l2526, y2527, z2528⟩, st2529⟩ := Jvm.LawKit.callS X2483 hx (y := mn16) hown (mvT hZ (tw48 hw)) (mvT hZ (tw49 hw)) (mvT hZ (tw50 hw)) (mvT hZ (tw51 hw)) (by decide) (backOf (W := 2) (rmE l Z a0 hw [] (FP.i2d p0) (FP.i2d p1) (1 : Int32) md (1 : Int32) T2479.heap n0 Z2505 (Fl.i2d_fin p0).noNaN (Fl.i2d_fin p1).noNaN (own_h1 p0 p1) (own_h2 p0 p1 (F := (1 : Int32)) (by decide)) (own_q3 p0 p1 (F := (1 : Int32)) (r := (own_mx 0 ((1 : Int32) - (1 : Int32)))) (by decide) (own_mxb (by decide) (by decide)))) hZ (tw51 hw) (tw50 hw) (by decide) (by decide)) (g := (mkF m 102 #[vi p0, vi p1, vi p2, vi p3, vi (1 : Int32), vi (1 : Int32), vi md, vd (FP.i2d p0), ss, vd (FP.i2d p1), ss, vr a873, vi (1 : Int32), vd (FP.dsub (FP.i2d p1) (FP.dmul (FP.i2d (0 : Int32)) (FP.ddiv (FP.dsub (FP.i2d p1) (FP.i2d p0)) (FP.i2d (1 : Int32))))), ss, uu, uu, uu, uu, uu, uu, uu, uu, uu] [(.int (1 : Int32)), (.int md), (.int (1 : Int32)), (.double (FP.i2d p1)), (.double (FP.i2d p0)), (.double (FP.dsub (FP.i2d p1) (FP.dmul (FP.i2d (0 : Int32)) (FP.ddiv (FP.dsub (FP.i2d p1) (FP.i2d p0)) (FP.i2d (1 : Int32))))))])) rfl (by rw [hml]; rfl) (argsL := [(.double (FP.i2d p0)), (.double (FP.i2d p1)), (.int (1 : Int32)), (.int md), (.int (1 : Int32))]) (rest := [(.double (FP.dsub (FP.i2d p1) (FP.dmul (FP.i2d (0 : Int32)) (FP.ddiv (FP.dsub (FP.i2d p1) (FP.i2d p0)) (FP.i2d (1 : Int32))))))]) (lenOf pd_21 rfl) rfl (by show 2 * 0 + _ ≤ _; exact Nat.le_of_eq rfl) (hb hby at_102) (fun _ _ => ⟨rfl, rfl, (by decide : 1 + 0 ≤ _), (by decide : 5 + 0 ≤ _)⟩)
          dsimp only [Pt.U, Pt.locs, Pt.cells, Pt.slots] at X2523 l2526 y2527 z2528 st2529 hQ2525
          subst l2526 y2527 z2528
          obtain ⟨rfl, N2530, e2531⟩ := hQ2525
          have N2533 := Fr.app N2504 N2530
          have k2534 : own_G p e below E0 T2519 (mkF m 105 #[vi p0, vi p1, vi p2, vi p3, vi (1 : Int32), vi (1 : Int32), vi md, vd (FP.i2d p0), ss, vd (FP.i2d p1), ss, vr a873, vi (1 : Int32), vd (FP.dsub (FP.i2d p1) (FP.dmul (FP.i2d (0 : Int32)) (FP.ddiv (FP.dsub (FP.i2d p1) (FP.i2d p0)) (FP.i2d (1 : Int32))))), ss, uu, uu, uu, uu, uu, uu, uu, uu, uu] [(.double (own_exp (FP.i2d p0) (FP.i2d p1) (1 : Int32) md (1 : Int32))), (.double (FP.dsub (FP.i2d p1) (FP.dmul (FP.i2d (0 : Int32)) (FP.ddiv (FP.dsub (FP.i2d p1) (FP.i2d p0)) (FP.i2d (1 : Int32))))))]) := fun tQ kk => k2518 tQ (st2529 _ kk)
          clear k2518 st2529
          have k2535 : own_G p e below E0 T2519 (mkF m 118 #[vi p0, vi p1, vi p2, vi p3, vi (1 : Int32), vi (1 : Int32), vi md, vd (FP.i2d p0), ss, vd (FP.i2d p1), ss, vr a873, vi (1 : Int32), vd (FP.dsub (FP.i2d p1) (FP.dmul (FP.i2d (0 : Int32)) (FP.ddiv (FP.dsub (FP.i2d p1) (FP.i2d p0)) (FP.i2d (1 : Int32))))), ss, uu, uu, uu, uu, uu, uu, uu, uu, uu] [(.ref a873)]) := by
            intro tQ kk
            refine k2534 tQ ?_
            refine XS.dcmpS (v := (0 : Int32)) X2523.here hx rfl (hb hby at_105) rfl (own_eZ p0 p1 cm1 cm2 cE (show own_mx 0 ((1 : Int32) - (1 : Int32)) = 0 by decide) (by decide)) ?_
            refine XS.ifNo X2523.here hx rfl (hb hby at_106) rfl (own_if_neN (by decide)) ?_
            refine XS.iconst X2523.here hx rfl (hb hby at_109) ?_
            refine XS.goto X2523.here hx rfl (pc0 := 110) (pc' := 114) rfl (hb hby at_110) (by decide) (by decide) ?_
            show Steps p.tables e below (T2519.setTop (mkF m 114 #[vi p0, vi p1, vi p2, vi p3, vi (1 : Int32), vi (1 : Int32), vi md, vd (FP.i2d p0), ss, vd (FP.i2d p1), ss, vr a873, vi (1 : Int32), vd (FP.dsub (FP.i2d p1) (FP.dmul (FP.i2d (0 : Int32)) (FP.ddiv (FP.dsub (FP.i2d p1) (FP.i2d p0)) (FP.i2d (1 : Int32))))), ss, uu, uu, uu, uu, uu, uu, uu, uu, uu] [(.int (1 : Int32))])) tQ
            refine XS.istore X2523.here hx rfl (hb hby at_114) rfl (l' := #[vi p0, vi p1, vi p2, vi p3, vi (1 : Int32), vi (1 : Int32), vi md, vd (FP.i2d p0), ss, vd (FP.i2d p1), ss, vr a873, vi (1 : Int32), vd (FP.dsub (FP.i2d p1) (FP.dmul (FP.i2d (0 : Int32)) (FP.ddiv (FP.dsub (FP.i2d p1) (FP.i2d p0)) (FP.i2d (1 : Int32))))), ss, uu, uu, uu, uu, uu, uu, uu, uu, uu]) rfl ?_
            refine XS.aload X2523.here hx rfl (hb hby at_116) rfl rfl ?_
            exact kk
          clear k2534
          obtain ⟨cq2547, kq2548, qa2549, qb2550, qc2551⟩ := isOf hZ e2531 F2506
          obtain ⟨_, _, ⟨T2536, L2537, kc2538, nc2539⟩, -, X2540, ⟨Lc2541, hQ2542, l2543, y2544, z2545⟩, st2546⟩ := X2523.virtualBack hx (y := mn14) (z := mn14) hown (mvT hZ (tw52 hw)) (mvT hZ (tw53 hw)) (notFace_of_selects (args := #[]) (mvT hZ (tw55 hw))) (mvT hZ (tw55 hw)) (mvT hZ (tw54 hw)) (by decide) (backOf (W := 0) (rmMv l Z a0 hw [] a873 (0 : Int32) T2479.heap n0 Z2505 F2516) hZ (tw56 hw) (tw7 hw) (by decide) (by decide)) qa2549 qc2551 (g := (mkF m 118 #[vi p0, vi p1, vi p2, vi p3, vi (1 : Int32), vi (1 : Int32), vi md, vd (FP.i2d p0), ss, vd (FP.i2d p1), ss, vr a873, vi (1 : Int32), vd (FP.dsub (FP.i2d p1) (FP.dmul (FP.i2d (0 : Int32)) (FP.ddiv (FP.dsub (FP.i2d p1) (FP.i2d p0)) (FP.i2d (1 : Int32))))), ss, uu, uu, uu, uu, uu, uu, uu, uu, uu] [(.ref a873)])) rfl (by rw [hml]; rfl) (Steps.refl _) (argsL := []) (rest := []) (lenOf pd_22 rfl) rfl (by show 2 * 0 + _ ≤ _; exact Nat.le_of_eq rfl) (hb hby at_118) (fun _ _ => ⟨rfl, e2531, (by decide : 1 + 0 ≤ _), (by decide : 5 + 0 ≤ _)⟩)
          dsimp only [Pt.U, Pt.locs, Pt.cells, Pt.slots] at X2540 l2543 y2544 z2545 st2546 hQ2542
          subst l2543 y2544 z2545
          obtain ⟨rfl, N2552, e2553⟩ := hQ2542
          have N2555 := Fr.app N2533 N2552
          have k2556 : own_G p e below E0 T2536 (mkF m 121 #[vi p0, vi p1, vi p2, vi p3, vi (1 : Int32), vi (1 : Int32), vi md, vd (FP.i2d p0), ss, vd (FP.i2d p1), ss, vr a873, vi (1 : Int32), vd (FP.dsub (FP.i2d p1) (FP.dmul (FP.i2d (0 : Int32)) (FP.ddiv (FP.dsub (FP.i2d p1) (FP.i2d p0)) (FP.i2d (1 : Int32))))), ss, uu, uu, uu, uu, uu, uu, uu, uu, uu] [(.int (own_mv (0 : Int32)))]) := fun tQ kk => k2535 tQ (st2546.trans kk)
          clear k2535 st2546
          have eq2557 : (own_mv (0 : Int32)) = (0 : Int32) := by decide
          rw [eq2557] at k2556
          have k2558 : own_G p e below E0 T2536 (mkF m 167 #[vi p0, vi p1, vi p2, vi p3, vi (1 : Int32), vi (1 : Int32), vi md, vd (FP.i2d p0), ss, vd (FP.i2d p1), ss, vr a873, vi (1 : Int32), vd (FP.dsub (FP.i2d p1) (FP.dmul (FP.i2d (0 : Int32)) (FP.ddiv (FP.dsub (FP.i2d p1) (FP.i2d p0)) (FP.i2d (1 : Int32))))), ss, vi (0 : Int32), uu, uu, uu, uu, uu, uu, uu, uu] [(.ref a873)]) := by
            intro tQ kk
            refine k2556 tQ ?_
            refine XS.istore X2540.here hx rfl (hb hby at_121) rfl (l' := #[vi p0, vi p1, vi p2, vi p3, vi (1 : Int32), vi (1 : Int32), vi md, vd (FP.i2d p0), ss, vd (FP.i2d p1), ss, vr a873, vi (1 : Int32), vd (FP.dsub (FP.i2d p1) (FP.dmul (FP.i2d (0 : Int32)) (FP.ddiv (FP.dsub (FP.i2d p1) (FP.i2d p0)) (FP.i2d (1 : Int32))))), ss, vi (0 : Int32), uu, uu, uu, uu, uu, uu, uu, uu]) rfl ?_
            refine XS.iload X2540.here hx rfl (hb hby at_123) rfl ?_
            refine XS.ifNo X2540.here hx rfl (hb hby at_125) rfl (own_if_eqN (by decide)) ?_
            refine XS.iload X2540.here hx rfl (hb hby at_128) rfl ?_
            show Steps p.tables e below (T2536.setTop (mkF m 130 #[vi p0, vi p1, vi p2, vi p3, vi (1 : Int32), vi (1 : Int32), vi md, vd (FP.i2d p0), ss, vd (FP.i2d p1), ss, vr a873, vi (1 : Int32), vd (FP.dsub (FP.i2d p1) (FP.dmul (FP.i2d (0 : Int32)) (FP.ddiv (FP.dsub (FP.i2d p1) (FP.i2d p0)) (FP.i2d (1 : Int32))))), ss, vi (0 : Int32), uu, uu, uu, uu, uu, uu, uu, uu] [(.int (0 : Int32))])) tQ
            refine XS.iload X2540.here hx rfl (hb hby at_130) rfl ?_
            refine XS.iconst X2540.here hx rfl (hb hby at_132) ?_
            refine XS.icmpNo X2540.here hx rfl (hb hby at_133) rfl (own_ic_ltN cm2) ?_
            refine XS.dload X2540.here hx rfl (hb hby at_136) rfl ?_
            show Steps p.tables e below (T2536.setTop (mkF m 138 #[vi p0, vi p1, vi p2, vi p3, vi (1 : Int32), vi (1 : Int32), vi md, vd (FP.i2d p0), ss, vd (FP.i2d p1), ss, vr a873, vi (1 : Int32), vd (FP.dsub (FP.i2d p1) (FP.dmul (FP.i2d (0 : Int32)) (FP.ddiv (FP.dsub (FP.i2d p1) (FP.i2d p0)) (FP.i2d (1 : Int32))))), ss, vi (0 : Int32), uu, uu, uu, uu, uu, uu, uu, uu] [(.double (FP.i2d p1)), (.int (0 : Int32))])) tQ
            refine XS.dload X2540.here hx rfl (hb hby at_138) rfl ?_
            refine XS.dcmpS (v := (own_c (own_z (FP.i2d p1)) (own_z (FP.i2d p0)))) X2540.here hx rfl (hb hby at_140) rfl (own_cE .l (own_cmpz (Fl.i2d_fin p1).noNaN (Fl.i2d_fin p0).noNaN)) ?_
            refine XS.ifNo X2540.here hx rfl (hb hby at_141) rfl (own_c_eqN cE) ?_
            refine XS.iload X2540.here hx rfl (hb hby at_144) rfl ?_
            show Steps p.tables e below (T2536.setTop (mkF m 146 #[vi p0, vi p1, vi p2, vi p3, vi (1 : Int32), vi (1 : Int32), vi md, vd (FP.i2d p0), ss, vd (FP.i2d p1), ss, vr a873, vi (1 : Int32), vd (FP.dsub (FP.i2d p1) (FP.dmul (FP.i2d (0 : Int32)) (FP.ddiv (FP.dsub (FP.i2d p1) (FP.i2d p0)) (FP.i2d (1 : Int32))))), ss, vi (0 : Int32), uu, uu, uu, uu, uu, uu, uu, uu] [(.int (1 : Int32)), (.int (0 : Int32))])) tQ
            refine XS.iconst X2540.here hx rfl (hb hby at_146) ?_
            refine XS.icmpYes X2540.here hx rfl (pc0 := 147) (pc' := 154) rfl (hb hby at_147) rfl (own_ic_leY (by decide)) (by decide) (by decide) ?_
            refine XS.iconst X2540.here hx rfl (hb hby at_154) ?_
            refine XS.icmpNo X2540.here hx rfl (hb hby at_155) rfl (own_ic_neN (by decide)) ?_
            show Steps p.tables e below (T2536.setTop (mkF m 158 #[vi p0, vi p1, vi p2, vi p3, vi (1 : Int32), vi (1 : Int32), vi md, vd (FP.i2d p0), ss, vd (FP.i2d p1), ss, vr a873, vi (1 : Int32), vd (FP.dsub (FP.i2d p1) (FP.dmul (FP.i2d (0 : Int32)) (FP.ddiv (FP.dsub (FP.i2d p1) (FP.i2d p0)) (FP.i2d (1 : Int32))))), ss, vi (0 : Int32), uu, uu, uu, uu, uu, uu, uu, uu] [])) tQ
            refine XS.iconst X2540.here hx rfl (hb hby at_158) ?_
            refine XS.goto X2540.here hx rfl (pc0 := 159) (pc' := 163) rfl (hb hby at_159) (by decide) (by decide) ?_
            refine XS.istore X2540.here hx rfl (hb hby at_163) rfl (l' := #[vi p0, vi p1, vi p2, vi p3, vi (1 : Int32), vi (1 : Int32), vi md, vd (FP.i2d p0), ss, vd (FP.i2d p1), ss, vr a873, vi (1 : Int32), vd (FP.dsub (FP.i2d p1) (FP.dmul (FP.i2d (0 : Int32)) (FP.ddiv (FP.dsub (FP.i2d p1) (FP.i2d p0)) (FP.i2d (1 : Int32))))), ss, vi (0 : Int32), uu, uu, uu, uu, uu, uu, uu, uu]) rfl ?_
            refine XS.aload X2540.here hx rfl (hb hby at_165) rfl rfl ?_
            exact kk
          clear k2556
          obtain ⟨cq2570, kq2571, qa2572, qb2573, qc2574⟩ := isOf hZ e2553 F2506
          obtain ⟨_, _, ⟨T2559, L2560, kc2561, nc2562⟩, -, X2563, ⟨Lc2564, hQ2565, l2566, y2567, z2568⟩, st2569⟩ := X2540.virtualBack hx (y := mn13) (z := mn13) hown (mvT hZ (tw43 hw)) (mvT hZ (tw44 hw)) (notFace_of_selects (args := #[]) (mvT hZ (tw46 hw))) (mvT hZ (tw46 hw)) (mvT hZ (tw45 hw)) (by decide) (backOf (W := 0) (rmN l Z a0 hw [] a873 (1 : Int32) (FP.dsub (FP.i2d p1) (FP.dmul (FP.i2d (0 : Int32)) (FP.ddiv (FP.dsub (FP.i2d p1) (FP.i2d p0)) (FP.i2d (1 : Int32))))) (FP.i2d p1) (FP.ddiv (FP.dsub (FP.i2d p1) (FP.i2d p0)) (FP.i2d (1 : Int32))) (0 : Int32) T2479.heap n0 Z2505 F2506 g2499 F2514 g2501 g2502 F2516 ge875 (fun z => absurd z (by decide))) hZ (tw47 hw) (tw7 hw) (by decide) (by decide)) qa2572 qc2574 (g := (mkF m 167 #[vi p0, vi p1, vi p2, vi p3, vi (1 : Int32), vi (1 : Int32), vi md, vd (FP.i2d p0), ss, vd (FP.i2d p1), ss, vr a873, vi (1 : Int32), vd (FP.dsub (FP.i2d p1) (FP.dmul (FP.i2d (0 : Int32)) (FP.ddiv (FP.dsub (FP.i2d p1) (FP.i2d p0)) (FP.i2d (1 : Int32))))), ss, vi (0 : Int32), uu, uu, uu, uu, uu, uu, uu, uu] [(.ref a873)])) rfl (by rw [hml]; rfl) (Steps.refl _) (argsL := []) (rest := []) (lenOf pd_20 rfl) rfl (by show 2 * 0 + _ ≤ _; exact Nat.le_of_eq rfl) (hb hby at_167) (fun _ _ => ⟨rfl, e2553, (by decide : 1 + 0 ≤ _), (by decide : 5 + 0 ≤ _)⟩)
          dsimp only [Pt.U, Pt.locs, Pt.cells, Pt.slots] at X2563 l2566 y2567 z2568 st2569 hQ2565
          subst l2566 y2567 z2568
          obtain ⟨rfl, N2575, K2578, g2579, g2580, g2581, g2582, g2583⟩ := hQ2565
          have N2584 := Fr.app N2555 N2575
          have Z2585 : n0 ≤ T2559.heap.size := Nat.le_trans Z2505 K2578.1
          have F2586 : xa8 Z T2559.heap a873 := F2506.keep K2578
          clear F2506
          clear g2499
          clear F2514
          clear g2501
          clear g2502
          clear F2516
          have k2592 : own_G p e below E0 T2559 (mkF m 170 #[vi p0, vi p1, vi p2, vi p3, vi (1 : Int32), vi (1 : Int32), vi md, vd (FP.i2d p0), ss, vd (FP.i2d p1), ss, vr a873, vi (1 : Int32), vd (FP.dsub (FP.i2d p1) (FP.dmul (FP.i2d (0 : Int32)) (FP.ddiv (FP.dsub (FP.i2d p1) (FP.i2d p0)) (FP.i2d (1 : Int32))))), ss, vi (0 : Int32), uu, uu, uu, uu, uu, uu, uu, uu] [(.double (own_nv (FP.dsub (FP.i2d p1) (FP.dmul (FP.i2d (0 : Int32)) (FP.ddiv (FP.dsub (FP.i2d p1) (FP.i2d p0)) (FP.i2d (1 : Int32))))) (FP.i2d p1) (FP.ddiv (FP.dsub (FP.i2d p1) (FP.i2d p0)) (FP.i2d (1 : Int32))) (0 : Int32)))]) := fun tQ kk => k2558 tQ (st2569.trans kk)
          clear k2558 st2569
          have eq2593 : (own_nv (FP.dsub (FP.i2d p1) (FP.dmul (FP.i2d (0 : Int32)) (FP.ddiv (FP.dsub (FP.i2d p1) (FP.i2d p0)) (FP.i2d (1 : Int32))))) (FP.i2d p1) (FP.ddiv (FP.dsub (FP.i2d p1) (FP.i2d p0)) (FP.i2d (1 : Int32))) (0 : Int32)) = (FP.dsub (FP.i2d p1) (FP.dmul (FP.i2d (0 : Int32)) (FP.ddiv (FP.dsub (FP.i2d p1) (FP.i2d p0)) (FP.i2d (1 : Int32))))) := by rw [own_nv, if_neg (by decide)]
          have F2594 : fd4 Z T2559.heap a873 (.double (FP.dsub (FP.i2d p1) (FP.dmul (FP.i2d (0 : Int32)) (FP.ddiv (FP.dsub (FP.i2d p1) (FP.i2d p0)) (FP.i2d (1 : Int32)))))) := by rw [← eq2593]; exact g2580
          have eq2595 : (own_nr (0 : Int32)) = (0 : Int32) := by decide
          have F2596 : fd7 Z T2559.heap a873 (.int (0 : Int32)) := by rw [← eq2595]; exact g2583
          have eq2597 : (own_nv (FP.dsub (FP.i2d p1) (FP.dmul (FP.i2d (0 : Int32)) (FP.ddiv (FP.dsub (FP.i2d p1) (FP.i2d p0)) (FP.i2d (1 : Int32))))) (FP.i2d p1) (FP.ddiv (FP.dsub (FP.i2d p1) (FP.i2d p0)) (FP.i2d (1 : Int32))) (0 : Int32)) = (FP.dsub (FP.i2d p1) (FP.dmul (FP.i2d (0 : Int32)) (FP.ddiv (FP.dsub (FP.i2d p1) (FP.i2d p0)) (FP.i2d (1 : Int32))))) := by rw [own_nv, if_neg (by decide)]
          rw [eq2597] at k2592
          have k2598 : own_G p e below E0 T2559 (mkF m 188 #[vi p0, vi p1, vi p2, vi p3, vi (1 : Int32), vi (1 : Int32), vi md, vd (FP.i2d p0), ss, vd (FP.i2d p1), ss, vr a873, vi (1 : Int32), vd (FP.dsub (FP.i2d p1) (FP.dmul (FP.i2d (0 : Int32)) (FP.ddiv (FP.dsub (FP.i2d p1) (FP.i2d p0)) (FP.i2d (1 : Int32))))), ss, vi (0 : Int32), vd (FP.dsub (FP.i2d p1) (FP.dmul (FP.i2d (0 : Int32)) (FP.ddiv (FP.dsub (FP.i2d p1) (FP.i2d p0)) (FP.i2d (1 : Int32))))), ss, uu, uu, uu, uu, uu, uu] [(.int (2 : Int32)), (.int md), (.int (1 : Int32)), (.double (FP.i2d p1)), (.double (FP.i2d p0)), (.double (FP.dsub (FP.i2d p1) (FP.dmul (FP.i2d (0 : Int32)) (FP.ddiv (FP.dsub (FP.i2d p1) (FP.i2d p0)) (FP.i2d (1 : Int32))))))]) := by
            intro tQ kk
            refine k2592 tQ ?_
            refine XS.dstore X2563.here hx rfl (hb hby at_170) rfl (l' := #[vi p0, vi p1, vi p2, vi p3, vi (1 : Int32), vi (1 : Int32), vi md, vd (FP.i2d p0), ss, vd (FP.i2d p1), ss, vr a873, vi (1 : Int32), vd (FP.dsub (FP.i2d p1) (FP.dmul (FP.i2d (0 : Int32)) (FP.ddiv (FP.dsub (FP.i2d p1) (FP.i2d p0)) (FP.i2d (1 : Int32))))), ss, vi (0 : Int32), vd (FP.dsub (FP.i2d p1) (FP.dmul (FP.i2d (0 : Int32)) (FP.ddiv (FP.dsub (FP.i2d p1) (FP.i2d p0)) (FP.i2d (1 : Int32))))), ss, uu, uu, uu, uu, uu, uu]) rfl ?_
            refine XS.iload X2563.here hx rfl (hb hby at_172) rfl ?_
            refine XS.ifNo X2563.here hx rfl (hb hby at_174) rfl (own_if_eqN (by decide)) ?_
            refine XS.dload X2563.here hx rfl (hb hby at_177) rfl ?_
            show Steps p.tables e below (T2559.setTop (mkF m 179 #[vi p0, vi p1, vi p2, vi p3, vi (1 : Int32), vi (1 : Int32), vi md, vd (FP.i2d p0), ss, vd (FP.i2d p1), ss, vr a873, vi (1 : Int32), vd (FP.dsub (FP.i2d p1) (FP.dmul (FP.i2d (0 : Int32)) (FP.ddiv (FP.dsub (FP.i2d p1) (FP.i2d p0)) (FP.i2d (1 : Int32))))), ss, vi (0 : Int32), vd (FP.dsub (FP.i2d p1) (FP.dmul (FP.i2d (0 : Int32)) (FP.ddiv (FP.dsub (FP.i2d p1) (FP.i2d p0)) (FP.i2d (1 : Int32))))), ss, uu, uu, uu, uu, uu, uu] [(.double (FP.dsub (FP.i2d p1) (FP.dmul (FP.i2d (0 : Int32)) (FP.ddiv (FP.dsub (FP.i2d p1) (FP.i2d p0)) (FP.i2d (1 : Int32))))))])) tQ
            refine XS.dload X2563.here hx rfl (hb hby at_179) rfl ?_
            refine XS.dload X2563.here hx rfl (hb hby at_181) rfl ?_
            refine XS.iload X2563.here hx rfl (hb hby at_183) rfl ?_
            refine XS.iload X2563.here hx rfl (hb hby at_185) rfl ?_
            show Steps p.tables e below (T2559.setTop (mkF m 187 #[vi p0, vi p1, vi p2, vi p3, vi (1 : Int32), vi (1 : Int32), vi md, vd (FP.i2d p0), ss, vd (FP.i2d p1), ss, vr a873, vi (1 : Int32), vd (FP.dsub (FP.i2d p1) (FP.dmul (FP.i2d (0 : Int32)) (FP.ddiv (FP.dsub (FP.i2d p1) (FP.i2d p0)) (FP.i2d (1 : Int32))))), ss, vi (0 : Int32), vd (FP.dsub (FP.i2d p1) (FP.dmul (FP.i2d (0 : Int32)) (FP.ddiv (FP.dsub (FP.i2d p1) (FP.i2d p0)) (FP.i2d (1 : Int32))))), ss, uu, uu, uu, uu, uu, uu] [(.int md), (.int (1 : Int32)), (.double (FP.i2d p1)), (.double (FP.i2d p0)), (.double (FP.dsub (FP.i2d p1) (FP.dmul (FP.i2d (0 : Int32)) (FP.ddiv (FP.dsub (FP.i2d p1) (FP.i2d p0)) (FP.i2d (1 : Int32))))))])) tQ
            refine XS.iconst X2563.here hx rfl (hb hby at_187) ?_
            exact kk
          clear k2592
          obtain ⟨_, _, ⟨T2599, L2600, kc2601, nc2602⟩, -, X2603, ⟨Lc2604, hQ2605, l2606, y2607, z2608⟩, st2609⟩ := Jvm.LawKit.callS X2563 hx (y := mn16) hown (mvT hZ (tw48 hw)) (mvT hZ (tw49 hw)) (mvT hZ (tw50 hw)) (mvT hZ (tw51 hw)) (by decide) (backOf (W := 2) (rmE l Z a0 hw [] (FP.i2d p0) (FP.i2d p1) (1 : Int32) md (2 : Int32) T2559.heap n0 Z2585 (Fl.i2d_fin p0).noNaN (Fl.i2d_fin p1).noNaN (own_h1 p0 p1) (own_h2 p0 p1 (F := (1 : Int32)) (by decide)) (own_q3 p0 p1 (F := (1 : Int32)) (r := (own_mx 0 ((1 : Int32) - (2 : Int32)))) (by decide) (own_mxb (by decide) (by decide)))) hZ (tw51 hw) (tw50 hw) (by decide) (by decide)) (g := (mkF m 188 #[vi p0, vi p1, vi p2, vi p3, vi (1 : Int32), vi (1 : Int32), vi md, vd (FP.i2d p0), ss, vd (FP.i2d p1), ss, vr a873, vi (1 : Int32), vd (FP.dsub (FP.i2d p1) (FP.dmul (FP.i2d (0 : Int32)) (FP.ddiv (FP.dsub (FP.i2d p1) (FP.i2d p0)) (FP.i2d (1 : Int32))))), ss, vi (0 : Int32), vd (FP.dsub (FP.i2d p1) (FP.dmul (FP.i2d (0 : Int32)) (FP.ddiv (FP.dsub (FP.i2d p1) (FP.i2d p0)) (FP.i2d (1 : Int32))))), ss, uu, uu, uu, uu, uu, uu] [(.int (2 : Int32)), (.int md), (.int (1 : Int32)), (.double (FP.i2d p1)), (.double (FP.i2d p0)), (.double (FP.dsub (FP.i2d p1) (FP.dmul (FP.i2d (0 : Int32)) (FP.ddiv (FP.dsub (FP.i2d p1) (FP.i2d p0)) (FP.i2d (1 : Int32))))))])) rfl (by rw [hml]; rfl) (argsL := [(.double (FP.i2d p0)), (.double (FP.i2d p1)), (.int (1 : Int32)), (.int md), (.int (2 : Int32))]) (rest := [(.double (FP.dsub (FP.i2d p1) (FP.dmul (FP.i2d (0 : Int32)) (FP.ddiv (FP.dsub (FP.i2d p1) (FP.i2d p0)) (FP.i2d (1 : Int32))))))]) (lenOf pd_21 rfl) rfl (by show 2 * 0 + _ ≤ _; exact Nat.le_of_eq rfl) (hb hby at_188) (fun _ _ => ⟨rfl, rfl, (by decide : 1 + 0 ≤ _), (by decide : 5 + 0 ≤ _)⟩)
          dsimp only [Pt.U, Pt.locs, Pt.cells, Pt.slots] at X2603 l2606 y2607 z2608 st2609 hQ2605
          subst l2606 y2607 z2608
          obtain ⟨rfl, N2610, e2611⟩ := hQ2605
          have N2613 := Fr.app N2584 N2610
          have k2614 : own_G p e below E0 T2599 (mkF m 191 #[vi p0, vi p1, vi p2, vi p3, vi (1 : Int32), vi (1 : Int32), vi md, vd (FP.i2d p0), ss, vd (FP.i2d p1), ss, vr a873, vi (1 : Int32), vd (FP.dsub (FP.i2d p1) (FP.dmul (FP.i2d (0 : Int32)) (FP.ddiv (FP.dsub (FP.i2d p1) (FP.i2d p0)) (FP.i2d (1 : Int32))))), ss, vi (0 : Int32), vd (FP.dsub (FP.i2d p1) (FP.dmul (FP.i2d (0 : Int32)) (FP.ddiv (FP.dsub (FP.i2d p1) (FP.i2d p0)) (FP.i2d (1 : Int32))))), ss, uu, uu, uu, uu, uu, uu] [(.double (own_exp (FP.i2d p0) (FP.i2d p1) (1 : Int32) md (2 : Int32))), (.double (FP.dsub (FP.i2d p1) (FP.dmul (FP.i2d (0 : Int32)) (FP.ddiv (FP.dsub (FP.i2d p1) (FP.i2d p0)) (FP.i2d (1 : Int32))))))]) := fun tQ kk => k2598 tQ (st2609 _ kk)
          clear k2598 st2609
          have k2615 : own_G p e below E0 T2599 (mkF m 204 #[vi p0, vi p1, vi p2, vi p3, vi (1 : Int32), vi (1 : Int32), vi md, vd (FP.i2d p0), ss, vd (FP.i2d p1), ss, vr a873, vi (1 : Int32), vd (FP.dsub (FP.i2d p1) (FP.dmul (FP.i2d (0 : Int32)) (FP.ddiv (FP.dsub (FP.i2d p1) (FP.i2d p0)) (FP.i2d (1 : Int32))))), ss, vi (0 : Int32), vd (FP.dsub (FP.i2d p1) (FP.dmul (FP.i2d (0 : Int32)) (FP.ddiv (FP.dsub (FP.i2d p1) (FP.i2d p0)) (FP.i2d (1 : Int32))))), ss, uu, uu, uu, uu, uu, uu] [(.ref a873)]) := by
            intro tQ kk
            refine k2614 tQ ?_
            refine XS.dcmpS (v := (0 : Int32)) X2603.here hx rfl (hb hby at_191) rfl (own_eZ p0 p1 cm1 cm2 cE (show own_mx 0 ((1 : Int32) - (2 : Int32)) = 0 by decide) (by decide)) ?_
            refine XS.ifNo X2603.here hx rfl (hb hby at_192) rfl (own_if_neN (by decide)) ?_
            refine XS.iconst X2603.here hx rfl (hb hby at_195) ?_
            refine XS.goto X2603.here hx rfl (pc0 := 196) (pc' := 200) rfl (hb hby at_196) (by decide) (by decide) ?_
            show Steps p.tables e below (T2599.setTop (mkF m 200 #[vi p0, vi p1, vi p2, vi p3, vi (1 : Int32), vi (1 : Int32), vi md, vd (FP.i2d p0), ss, vd (FP.i2d p1), ss, vr a873, vi (1 : Int32), vd (FP.dsub (FP.i2d p1) (FP.dmul (FP.i2d (0 : Int32)) (FP.ddiv (FP.dsub (FP.i2d p1) (FP.i2d p0)) (FP.i2d (1 : Int32))))), ss, vi (0 : Int32), vd (FP.dsub (FP.i2d p1) (FP.dmul (FP.i2d (0 : Int32)) (FP.ddiv (FP.dsub (FP.i2d p1) (FP.i2d p0)) (FP.i2d (1 : Int32))))), ss, uu, uu, uu, uu, uu, uu] [(.int (1 : Int32))])) tQ
            refine XS.istore X2603.here hx rfl (hb hby at_200) rfl (l' := #[vi p0, vi p1, vi p2, vi p3, vi (1 : Int32), vi (1 : Int32), vi md, vd (FP.i2d p0), ss, vd (FP.i2d p1), ss, vr a873, vi (1 : Int32), vd (FP.dsub (FP.i2d p1) (FP.dmul (FP.i2d (0 : Int32)) (FP.ddiv (FP.dsub (FP.i2d p1) (FP.i2d p0)) (FP.i2d (1 : Int32))))), ss, vi (0 : Int32), vd (FP.dsub (FP.i2d p1) (FP.dmul (FP.i2d (0 : Int32)) (FP.ddiv (FP.dsub (FP.i2d p1) (FP.i2d p0)) (FP.i2d (1 : Int32))))), ss, uu, uu, uu, uu, uu, uu]) rfl ?_
            refine XS.aload X2603.here hx rfl (hb hby at_202) rfl rfl ?_
            exact kk
          clear k2614
          obtain ⟨cq2627, kq2628, qa2629, qb2630, qc2631⟩ := isOf hZ e2611 F2586
          obtain ⟨_, _, ⟨T2616, L2617, kc2618, nc2619⟩, -, X2620, ⟨Lc2621, hQ2622, l2623, y2624, z2625⟩, st2626⟩ := X2603.virtualBack hx (y := mn13) (z := mn13) hown (mvT hZ (tw43 hw)) (mvT hZ (tw44 hw)) (notFace_of_selects (args := #[]) (mvT hZ (tw46 hw))) (mvT hZ (tw46 hw)) (mvT hZ (tw45 hw)) (by decide) (backOf (W := 0) (rmN l Z a0 hw [] a873 (1 : Int32) (FP.dsub (FP.i2d p1) (FP.dmul (FP.i2d (0 : Int32)) (FP.ddiv (FP.dsub (FP.i2d p1) (FP.i2d p0)) (FP.i2d (1 : Int32))))) (FP.i2d p1) (FP.ddiv (FP.dsub (FP.i2d p1) (FP.i2d p0)) (FP.i2d (1 : Int32))) (0 : Int32) T2559.heap n0 Z2585 F2586 g2579 F2594 g2581 g2582 F2596 ge875 (fun z => absurd z (by decide))) hZ (tw47 hw) (tw7 hw) (by decide) (by decide)) qa2629 qc2631 (g := (mkF m 204 #[vi p0, vi p1, vi p2, vi p3, vi (1 : Int32), vi (1 : Int32), vi md, vd (FP.i2d p0), ss, vd (FP.i2d p1), ss, vr a873, vi (1 : Int32), vd (FP.dsub (FP.i2d p1) (FP.dmul (FP.i2d (0 : Int32)) (FP.ddiv (FP.dsub (FP.i2d p1) (FP.i2d p0)) (FP.i2d (1 : Int32))))), ss, vi (0 : Int32), vd (FP.dsub (FP.i2d p1) (FP.dmul (FP.i2d (0 : Int32)) (FP.ddiv (FP.dsub (FP.i2d p1) (FP.i2d p0)) (FP.i2d (1 : Int32))))), ss, uu, uu, uu, uu, uu, uu] [(.ref a873)])) rfl (by rw [hml]; rfl) (Steps.refl _) (argsL := []) (rest := []) (lenOf pd_20 rfl) rfl (by show 2 * 0 + _ ≤ _; exact Nat.le_of_eq rfl) (hb hby at_204) (fun _ _ => ⟨rfl, e2611, (by decide : 1 + 0 ≤ _), (by decide : 5 + 0 ≤ _)⟩)
          dsimp only [Pt.U, Pt.locs, Pt.cells, Pt.slots] at X2620 l2623 y2624 z2625 st2626 hQ2622
          subst l2623 y2624 z2625
          obtain ⟨rfl, N2632, K2635, g2636, g2637, g2638, g2639, g2640⟩ := hQ2622
          have N2641 := Fr.app N2613 N2632
          have Z2642 : n0 ≤ T2616.heap.size := Nat.le_trans Z2585 K2635.1
          have F2643 : xa8 Z T2616.heap a873 := F2586.keep K2635
          clear F2586
          clear g2579
          clear F2594
          clear g2581
          clear g2582
          clear F2596
          have k2649 : own_G p e below E0 T2616 (mkF m 207 #[vi p0, vi p1, vi p2, vi p3, vi (1 : Int32), vi (1 : Int32), vi md, vd (FP.i2d p0), ss, vd (FP.i2d p1), ss, vr a873, vi (1 : Int32), vd (FP.dsub (FP.i2d p1) (FP.dmul (FP.i2d (0 : Int32)) (FP.ddiv (FP.dsub (FP.i2d p1) (FP.i2d p0)) (FP.i2d (1 : Int32))))), ss, vi (0 : Int32), vd (FP.dsub (FP.i2d p1) (FP.dmul (FP.i2d (0 : Int32)) (FP.ddiv (FP.dsub (FP.i2d p1) (FP.i2d p0)) (FP.i2d (1 : Int32))))), ss, uu, uu, uu, uu, uu, uu] [(.double (own_nv (FP.dsub (FP.i2d p1) (FP.dmul (FP.i2d (0 : Int32)) (FP.ddiv (FP.dsub (FP.i2d p1) (FP.i2d p0)) (FP.i2d (1 : Int32))))) (FP.i2d p1) (FP.ddiv (FP.dsub (FP.i2d p1) (FP.i2d p0)) (FP.i2d (1 : Int32))) (0 : Int32)))]) := fun tQ kk => k2615 tQ (st2626.trans kk)
          clear k2615 st2626
          have eq2650 : (own_nv (FP.dsub (FP.i2d p1) (FP.dmul (FP.i2d (0 : Int32)) (FP.ddiv (FP.dsub (FP.i2d p1) (FP.i2d p0)) (FP.i2d (1 : Int32))))) (FP.i2d p1) (FP.ddiv (FP.dsub (FP.i2d p1) (FP.i2d p0)) (FP.i2d (1 : Int32))) (0 : Int32)) = (FP.dsub (FP.i2d p1) (FP.dmul (FP.i2d (0 : Int32)) (FP.ddiv (FP.dsub (FP.i2d p1) (FP.i2d p0)) (FP.i2d (1 : Int32))))) := by rw [own_nv, if_neg (by decide)]
          have F2651 : fd4 Z T2616.heap a873 (.double (FP.dsub (FP.i2d p1) (FP.dmul (FP.i2d (0 : Int32)) (FP.ddiv (FP.dsub (FP.i2d p1) (FP.i2d p0)) (FP.i2d (1 : Int32)))))) := by rw [← eq2650]; exact g2637
          have eq2652 : (own_nr (0 : Int32)) = (0 : Int32) := by decide
          have F2653 : fd7 Z T2616.heap a873 (.int (0 : Int32)) := by rw [← eq2652]; exact g2640
          have eq2654 : (own_nv (FP.dsub (FP.i2d p1) (FP.dmul (FP.i2d (0 : Int32)) (FP.ddiv (FP.dsub (FP.i2d p1) (FP.i2d p0)) (FP.i2d (1 : Int32))))) (FP.i2d p1) (FP.ddiv (FP.dsub (FP.i2d p1) (FP.i2d p0)) (FP.i2d (1 : Int32))) (0 : Int32)) = (FP.dsub (FP.i2d p1) (FP.dmul (FP.i2d (0 : Int32)) (FP.ddiv (FP.dsub (FP.i2d p1) (FP.i2d p0)) (FP.i2d (1 : Int32))))) := by rw [own_nv, if_neg (by decide)]
          rw [eq2654] at k2649
          have k2655 : own_G p e below E0 T2616 (mkF m 225 #[vi p0, vi p1, vi p2, vi p3, vi (1 : Int32), vi (1 : Int32), vi md, vd (FP.i2d p0), ss, vd (FP.i2d p1), ss, vr a873, vi (1 : Int32), vd (FP.dsub (FP.i2d p1) (FP.dmul (FP.i2d (0 : Int32)) (FP.ddiv (FP.dsub (FP.i2d p1) (FP.i2d p0)) (FP.i2d (1 : Int32))))), ss, vi (0 : Int32), vd (FP.dsub (FP.i2d p1) (FP.dmul (FP.i2d (0 : Int32)) (FP.ddiv (FP.dsub (FP.i2d p1) (FP.i2d p0)) (FP.i2d (1 : Int32))))), ss, vd (FP.dsub (FP.i2d p1) (FP.dmul (FP.i2d (0 : Int32)) (FP.ddiv (FP.dsub (FP.i2d p1) (FP.i2d p0)) (FP.i2d (1 : Int32))))), ss, uu, uu, uu, uu] [(.int (3 : Int32)), (.int md), (.int (1 : Int32)), (.double (FP.i2d p1)), (.double (FP.i2d p0)), (.double (FP.dsub (FP.i2d p1) (FP.dmul (FP.i2d (0 : Int32)) (FP.ddiv (FP.dsub (FP.i2d p1) (FP.i2d p0)) (FP.i2d (1 : Int32))))))]) := by
            intro tQ kk
            refine k2649 tQ ?_
            refine XS.dstore X2620.here hx rfl (hb hby at_207) rfl (l' := #[vi p0, vi p1, vi p2, vi p3, vi (1 : Int32), vi (1 : Int32), vi md, vd (FP.i2d p0), ss, vd (FP.i2d p1), ss, vr a873, vi (1 : Int32), vd (FP.dsub (FP.i2d p1) (FP.dmul (FP.i2d (0 : Int32)) (FP.ddiv (FP.dsub (FP.i2d p1) (FP.i2d p0)) (FP.i2d (1 : Int32))))), ss, vi (0 : Int32), vd (FP.dsub (FP.i2d p1) (FP.dmul (FP.i2d (0 : Int32)) (FP.ddiv (FP.dsub (FP.i2d p1) (FP.i2d p0)) (FP.i2d (1 : Int32))))), ss, vd (FP.dsub (FP.i2d p1) (FP.dmul (FP.i2d (0 : Int32)) (FP.ddiv (FP.dsub (FP.i2d p1) (FP.i2d p0)) (FP.i2d (1 : Int32))))), ss, uu, uu, uu, uu]) rfl ?_
            refine XS.iload X2620.here hx rfl (hb hby at_209) rfl ?_
            refine XS.ifNo X2620.here hx rfl (hb hby at_211) rfl (own_if_eqN (by decide)) ?_
            refine XS.dload X2620.here hx rfl (hb hby at_214) rfl ?_
            show Steps p.tables e below (T2616.setTop (mkF m 216 #[vi p0, vi p1, vi p2, vi p3, vi (1 : Int32), vi (1 : Int32), vi md, vd (FP.i2d p0), ss, vd (FP.i2d p1), ss, vr a873, vi (1 : Int32), vd (FP.dsub (FP.i2d p1) (FP.dmul (FP.i2d (0 : Int32)) (FP.ddiv (FP.dsub (FP.i2d p1) (FP.i2d p0)) (FP.i2d (1 : Int32))))), ss, vi (0 : Int32), vd (FP.dsub (FP.i2d p1) (FP.dmul (FP.i2d (0 : Int32)) (FP.ddiv (FP.dsub (FP.i2d p1) (FP.i2d p0)) (FP.i2d (1 : Int32))))), ss, vd (FP.dsub (FP.i2d p1) (FP.dmul (FP.i2d (0 : Int32)) (FP.ddiv (FP.dsub (FP.i2d p1) (FP.i2d p0)) (FP.i2d (1 : Int32))))), ss, uu, uu, uu, uu] [(.double (FP.dsub (FP.i2d p1) (FP.dmul (FP.i2d (0 : Int32)) (FP.ddiv (FP.dsub (FP.i2d p1) (FP.i2d p0)) (FP.i2d (1 : Int32))))))])) tQ
            refine XS.dload X2620.here hx rfl (hb hby at_216) rfl ?_
            refine XS.dload X2620.here hx rfl (hb hby at_218) rfl ?_
            refine XS.iload X2620.here hx rfl (hb hby at_220) rfl ?_
            refine XS.iload X2620.here hx rfl (hb hby at_222) rfl ?_
            show Steps p.tables e below (T2616.setTop (mkF m 224 #[vi p0, vi p1, vi p2, vi p3, vi (1 : Int32), vi (1 : Int32), vi md, vd (FP.i2d p0), ss, vd (FP.i2d p1), ss, vr a873, vi (1 : Int32), vd (FP.dsub (FP.i2d p1) (FP.dmul (FP.i2d (0 : Int32)) (FP.ddiv (FP.dsub (FP.i2d p1) (FP.i2d p0)) (FP.i2d (1 : Int32))))), ss, vi (0 : Int32), vd (FP.dsub (FP.i2d p1) (FP.dmul (FP.i2d (0 : Int32)) (FP.ddiv (FP.dsub (FP.i2d p1) (FP.i2d p0)) (FP.i2d (1 : Int32))))), ss, vd (FP.dsub (FP.i2d p1) (FP.dmul (FP.i2d (0 : Int32)) (FP.ddiv (FP.dsub (FP.i2d p1) (FP.i2d p0)) (FP.i2d (1 : Int32))))), ss, uu, uu, uu, uu] [(.int md), (.int (1 : Int32)), (.double (FP.i2d p1)), (.double (FP.i2d p0)), (.double (FP.dsub (FP.i2d p1) (FP.dmul (FP.i2d (0 : Int32)) (FP.ddiv (FP.dsub (FP.i2d p1) (FP.i2d p0)) (FP.i2d (1 : Int32))))))])) tQ
            refine XS.iconst X2620.here hx rfl (hb hby at_224) ?_
            exact kk
          clear k2649
          obtain ⟨_, _, ⟨T2656, L2657, kc2658, nc2659⟩, -, X2660, ⟨Lc2661, hQ2662, l2663, y2664, z2665⟩, st2666⟩ := Jvm.LawKit.callS X2620 hx (y := mn16) hown (mvT hZ (tw48 hw)) (mvT hZ (tw49 hw)) (mvT hZ (tw50 hw)) (mvT hZ (tw51 hw)) (by decide) (backOf (W := 2) (rmE l Z a0 hw [] (FP.i2d p0) (FP.i2d p1) (1 : Int32) md (3 : Int32) T2616.heap n0 Z2642 (Fl.i2d_fin p0).noNaN (Fl.i2d_fin p1).noNaN (own_h1 p0 p1) (own_h2 p0 p1 (F := (1 : Int32)) (by decide)) (own_q3 p0 p1 (F := (1 : Int32)) (r := (own_mx 0 ((1 : Int32) - (3 : Int32)))) (by decide) (own_mxb (by decide) (by decide)))) hZ (tw51 hw) (tw50 hw) (by decide) (by decide)) (g := (mkF m 225 #[vi p0, vi p1, vi p2, vi p3, vi (1 : Int32), vi (1 : Int32), vi md, vd (FP.i2d p0), ss, vd (FP.i2d p1), ss, vr a873, vi (1 : Int32), vd (FP.dsub (FP.i2d p1) (FP.dmul (FP.i2d (0 : Int32)) (FP.ddiv (FP.dsub (FP.i2d p1) (FP.i2d p0)) (FP.i2d (1 : Int32))))), ss, vi (0 : Int32), vd (FP.dsub (FP.i2d p1) (FP.dmul (FP.i2d (0 : Int32)) (FP.ddiv (FP.dsub (FP.i2d p1) (FP.i2d p0)) (FP.i2d (1 : Int32))))), ss, vd (FP.dsub (FP.i2d p1) (FP.dmul (FP.i2d (0 : Int32)) (FP.ddiv (FP.dsub (FP.i2d p1) (FP.i2d p0)) (FP.i2d (1 : Int32))))), ss, uu, uu, uu, uu] [(.int (3 : Int32)), (.int md), (.int (1 : Int32)), (.double (FP.i2d p1)), (.double (FP.i2d p0)), (.double (FP.dsub (FP.i2d p1) (FP.dmul (FP.i2d (0 : Int32)) (FP.ddiv (FP.dsub (FP.i2d p1) (FP.i2d p0)) (FP.i2d (1 : Int32))))))])) rfl (by rw [hml]; rfl) (argsL := [(.double (FP.i2d p0)), (.double (FP.i2d p1)), (.int (1 : Int32)), (.int md), (.int (3 : Int32))]) (rest := [(.double (FP.dsub (FP.i2d p1) (FP.dmul (FP.i2d (0 : Int32)) (FP.ddiv (FP.dsub (FP.i2d p1) (FP.i2d p0)) (FP.i2d (1 : Int32))))))]) (lenOf pd_21 rfl) rfl (by show 2 * 0 + _ ≤ _; exact Nat.le_of_eq rfl) (hb hby at_225) (fun _ _ => ⟨rfl, rfl, (by decide : 1 + 0 ≤ _), (by decide : 5 + 0 ≤ _)⟩)
          dsimp only [Pt.U, Pt.locs, Pt.cells, Pt.slots] at X2660 l2663 y2664 z2665 st2666 hQ2662
          subst l2663 y2664 z2665
          obtain ⟨rfl, N2667, e2668⟩ := hQ2662
          have N2670 := Fr.app N2641 N2667
          have k2671 : own_G p e below E0 T2656 (mkF m 228 #[vi p0, vi p1, vi p2, vi p3, vi (1 : Int32), vi (1 : Int32), vi md, vd (FP.i2d p0), ss, vd (FP.i2d p1), ss, vr a873, vi (1 : Int32), vd (FP.dsub (FP.i2d p1) (FP.dmul (FP.i2d (0 : Int32)) (FP.ddiv (FP.dsub (FP.i2d p1) (FP.i2d p0)) (FP.i2d (1 : Int32))))), ss, vi (0 : Int32), vd (FP.dsub (FP.i2d p1) (FP.dmul (FP.i2d (0 : Int32)) (FP.ddiv (FP.dsub (FP.i2d p1) (FP.i2d p0)) (FP.i2d (1 : Int32))))), ss, vd (FP.dsub (FP.i2d p1) (FP.dmul (FP.i2d (0 : Int32)) (FP.ddiv (FP.dsub (FP.i2d p1) (FP.i2d p0)) (FP.i2d (1 : Int32))))), ss, uu, uu, uu, uu] [(.double (own_exp (FP.i2d p0) (FP.i2d p1) (1 : Int32) md (3 : Int32))), (.double (FP.dsub (FP.i2d p1) (FP.dmul (FP.i2d (0 : Int32)) (FP.ddiv (FP.dsub (FP.i2d p1) (FP.i2d p0)) (FP.i2d (1 : Int32))))))]) := fun tQ kk => k2655 tQ (st2666 _ kk)
          clear k2655 st2666
          have k2672 : own_G p e below E0 T2656 (mkF m 241 #[vi p0, vi p1, vi p2, vi p3, vi (1 : Int32), vi (1 : Int32), vi md, vd (FP.i2d p0), ss, vd (FP.i2d p1), ss, vr a873, vi (1 : Int32), vd (FP.dsub (FP.i2d p1) (FP.dmul (FP.i2d (0 : Int32)) (FP.ddiv (FP.dsub (FP.i2d p1) (FP.i2d p0)) (FP.i2d (1 : Int32))))), ss, vi (0 : Int32), vd (FP.dsub (FP.i2d p1) (FP.dmul (FP.i2d (0 : Int32)) (FP.ddiv (FP.dsub (FP.i2d p1) (FP.i2d p0)) (FP.i2d (1 : Int32))))), ss, vd (FP.dsub (FP.i2d p1) (FP.dmul (FP.i2d (0 : Int32)) (FP.ddiv (FP.dsub (FP.i2d p1) (FP.i2d p0)) (FP.i2d (1 : Int32))))), ss, uu, uu, uu, uu] [(.ref a873)]) := by
            intro tQ kk
            refine k2671 tQ ?_
            refine XS.dcmpS (v := (0 : Int32)) X2660.here hx rfl (hb hby at_228) rfl (own_eZ p0 p1 cm1 cm2 cE (show own_mx 0 ((1 : Int32) - (3 : Int32)) = 0 by decide) (by decide)) ?_
            refine XS.ifNo X2660.here hx rfl (hb hby at_229) rfl (own_if_neN (by decide)) ?_
            refine XS.iconst X2660.here hx rfl (hb hby at_232) ?_
            refine XS.goto X2660.here hx rfl (pc0 := 233) (pc' := 237) rfl (hb hby at_233) (by decide) (by decide) ?_
            show Steps p.tables e below (T2656.setTop (mkF m 237 #[vi p0, vi p1, vi p2, vi p3, vi (1 : Int32), vi (1 : Int32), vi md, vd (FP.i2d p0), ss, vd (FP.i2d p1), ss, vr a873, vi (1 : Int32), vd (FP.dsub (FP.i2d p1) (FP.dmul (FP.i2d (0 : Int32)) (FP.ddiv (FP.dsub (FP.i2d p1) (FP.i2d p0)) (FP.i2d (1 : Int32))))), ss, vi (0 : Int32), vd (FP.dsub (FP.i2d p1) (FP.dmul (FP.i2d (0 : Int32)) (FP.ddiv (FP.dsub (FP.i2d p1) (FP.i2d p0)) (FP.i2d (1 : Int32))))), ss, vd (FP.dsub (FP.i2d p1) (FP.dmul (FP.i2d (0 : Int32)) (FP.ddiv (FP.dsub (FP.i2d p1) (FP.i2d p0)) (FP.i2d (1 : Int32))))), ss, uu, uu, uu, uu] [(.int (1 : Int32))])) tQ
            refine XS.istore X2660.here hx rfl (hb hby at_237) rfl (l' := #[vi p0, vi p1, vi p2, vi p3, vi (1 : Int32), vi (1 : Int32), vi md, vd (FP.i2d p0), ss, vd (FP.i2d p1), ss, vr a873, vi (1 : Int32), vd (FP.dsub (FP.i2d p1) (FP.dmul (FP.i2d (0 : Int32)) (FP.ddiv (FP.dsub (FP.i2d p1) (FP.i2d p0)) (FP.i2d (1 : Int32))))), ss, vi (0 : Int32), vd (FP.dsub (FP.i2d p1) (FP.dmul (FP.i2d (0 : Int32)) (FP.ddiv (FP.dsub (FP.i2d p1) (FP.i2d p0)) (FP.i2d (1 : Int32))))), ss, vd (FP.dsub (FP.i2d p1) (FP.dmul (FP.i2d (0 : Int32)) (FP.ddiv (FP.dsub (FP.i2d p1) (FP.i2d p0)) (FP.i2d (1 : Int32))))), ss, uu, uu, uu, uu]) rfl ?_
            refine XS.aload X2660.here hx rfl (hb hby at_239) rfl rfl ?_
            exact kk
          clear k2671
          obtain ⟨cq2684, kq2685, qa2686, qb2687, qc2688⟩ := isOf hZ e2668 F2643
          obtain ⟨_, _, ⟨T2673, L2674, kc2675, nc2676⟩, -, X2677, ⟨Lc2678, hQ2679, l2680, y2681, z2682⟩, st2683⟩ := X2660.virtualBack hx (y := mn13) (z := mn13) hown (mvT hZ (tw43 hw)) (mvT hZ (tw44 hw)) (notFace_of_selects (args := #[]) (mvT hZ (tw46 hw))) (mvT hZ (tw46 hw)) (mvT hZ (tw45 hw)) (by decide) (backOf (W := 0) (rmN l Z a0 hw [] a873 (1 : Int32) (FP.dsub (FP.i2d p1) (FP.dmul (FP.i2d (0 : Int32)) (FP.ddiv (FP.dsub (FP.i2d p1) (FP.i2d p0)) (FP.i2d (1 : Int32))))) (FP.i2d p1) (FP.ddiv (FP.dsub (FP.i2d p1) (FP.i2d p0)) (FP.i2d (1 : Int32))) (0 : Int32) T2616.heap n0 Z2642 F2643 g2636 F2651 g2638 g2639 F2653 ge875 (fun z => absurd z (by decide))) hZ (tw47 hw) (tw7 hw) (by decide) (by decide)) qa2686 qc2688 (g := (mkF m 241 #[vi p0, vi p1, vi p2, vi p3, vi (1 : Int32), vi (1 : Int32), vi md, vd (FP.i2d p0), ss, vd (FP.i2d p1), ss, vr a873, vi (1 : Int32), vd (FP.dsub (FP.i2d p1) (FP.dmul (FP.i2d (0 : Int32)) (FP.ddiv (FP.dsub (FP.i2d p1) (FP.i2d p0)) (FP.i2d (1 : Int32))))), ss, vi (0 : Int32), vd (FP.dsub (FP.i2d p1) (FP.dmul (FP.i2d (0 : Int32)) (FP.ddiv (FP.dsub (FP.i2d p1) (FP.i2d p0)) (FP.i2d (1 : Int32))))), ss, vd (FP.dsub (FP.i2d p1) (FP.dmul (FP.i2d (0 : Int32)) (FP.ddiv (FP.dsub (FP.i2d p1) (FP.i2d p0)) (FP.i2d (1 : Int32))))), ss, uu, uu, uu, uu] [(.ref a873)])) rfl (by rw [hml]; rfl) (Steps.refl _) (argsL := []) (rest := []) (lenOf pd_20 rfl) rfl (by show 2 * 0 + _ ≤ _; exact Nat.le_of_eq rfl) (hb hby at_241) (fun _ _ => ⟨rfl, e2668, (by decide : 1 + 0 ≤ _), (by decide : 5 + 0 ≤ _)⟩)
          dsimp only [Pt.U, Pt.locs, Pt.cells, Pt.slots] at X2677 l2680 y2681 z2682 st2683 hQ2679
          subst l2680 y2681 z2682
          obtain ⟨rfl, N2689, K2692, g2693, g2694, g2695, g2696, g2697⟩ := hQ2679
          have N2698 := Fr.app N2670 N2689
          have Z2699 : n0 ≤ T2673.heap.size := Nat.le_trans Z2642 K2692.1
          have F2700 : xa8 Z T2673.heap a873 := F2643.keep K2692
          clear F2643
          clear g2636
          clear F2651
          clear g2638
          clear g2639
          clear F2653
          have k2706 : own_G p e below E0 T2673 (mkF m 244 #[vi p0, vi p1, vi p2, vi p3, vi (1 : Int32), vi (1 : Int32), vi md, vd (FP.i2d p0), ss, vd (FP.i2d p1), ss, vr a873, vi (1 : Int32), vd (FP.dsub (FP.i2d p1) (FP.dmul (FP.i2d (0 : Int32)) (FP.ddiv (FP.dsub (FP.i2d p1) (FP.i2d p0)) (FP.i2d (1 : Int32))))), ss, vi (0 : Int32), vd (FP.dsub (FP.i2d p1) (FP.dmul (FP.i2d (0 : Int32)) (FP.ddiv (FP.dsub (FP.i2d p1) (FP.i2d p0)) (FP.i2d (1 : Int32))))), ss, vd (FP.dsub (FP.i2d p1) (FP.dmul (FP.i2d (0 : Int32)) (FP.ddiv (FP.dsub (FP.i2d p1) (FP.i2d p0)) (FP.i2d (1 : Int32))))), ss, uu, uu, uu, uu] [(.double (own_nv (FP.dsub (FP.i2d p1) (FP.dmul (FP.i2d (0 : Int32)) (FP.ddiv (FP.dsub (FP.i2d p1) (FP.i2d p0)) (FP.i2d (1 : Int32))))) (FP.i2d p1) (FP.ddiv (FP.dsub (FP.i2d p1) (FP.i2d p0)) (FP.i2d (1 : Int32))) (0 : Int32)))]) := fun tQ kk => k2672 tQ (st2683.trans kk)
          clear k2672 st2683
          have eq2707 : (own_nv (FP.dsub (FP.i2d p1) (FP.dmul (FP.i2d (0 : Int32)) (FP.ddiv (FP.dsub (FP.i2d p1) (FP.i2d p0)) (FP.i2d (1 : Int32))))) (FP.i2d p1) (FP.ddiv (FP.dsub (FP.i2d p1) (FP.i2d p0)) (FP.i2d (1 : Int32))) (0 : Int32)) = (FP.dsub (FP.i2d p1) (FP.dmul (FP.i2d (0 : Int32)) (FP.ddiv (FP.dsub (FP.i2d p1) (FP.i2d p0)) (FP.i2d (1 : Int32))))) := by rw [own_nv, if_neg (by decide)]
          have F2708 : fd4 Z T2673.heap a873 (.double (FP.dsub (FP.i2d p1) (FP.dmul (FP.i2d (0 : Int32)) (FP.ddiv (FP.dsub (FP.i2d p1) (FP.i2d p0)) (FP.i2d (1 : Int32)))))) := by rw [← eq2707]; exact g2694
          have eq2709 : (own_nr (0 : Int32)) = (0 : Int32) := by decide
          have F2710 : fd7 Z T2673.heap a873 (.int (0 : Int32)) := by rw [← eq2709]; exact g2697
          have eq2711 : (own_nv (FP.dsub (FP.i2d p1) (FP.dmul (FP.i2d (0 : Int32)) (FP.ddiv (FP.dsub (FP.i2d p1) (FP.i2d p0)) (FP.i2d (1 : Int32))))) (FP.i2d p1) (FP.ddiv (FP.dsub (FP.i2d p1) (FP.i2d p0)) (FP.i2d (1 : Int32))) (0 : Int32)) = (FP.dsub (FP.i2d p1) (FP.dmul (FP.i2d (0 : Int32)) (FP.ddiv (FP.dsub (FP.i2d p1) (FP.i2d p0)) (FP.i2d (1 : Int32))))) := by rw [own_nv, if_neg (by decide)]
          rw [eq2711] at k2706
          have k2712 : own_G p e below E0 T2673 (mkF m 262 #[vi p0, vi p1, vi p2, vi p3, vi (1 : Int32), vi (1 : Int32), vi md, vd (FP.i2d p0), ss, vd (FP.i2d p1), ss, vr a873, vi (1 : Int32), vd (FP.dsub (FP.i2d p1) (FP.dmul (FP.i2d (0 : Int32)) (FP.ddiv (FP.dsub (FP.i2d p1) (FP.i2d p0)) (FP.i2d (1 : Int32))))), ss, vi (0 : Int32), vd (FP.dsub (FP.i2d p1) (FP.dmul (FP.i2d (0 : Int32)) (FP.ddiv (FP.dsub (FP.i2d p1) (FP.i2d p0)) (FP.i2d (1 : Int32))))), ss, vd (FP.dsub (FP.i2d p1) (FP.dmul (FP.i2d (0 : Int32)) (FP.ddiv (FP.dsub (FP.i2d p1) (FP.i2d p0)) (FP.i2d (1 : Int32))))), ss, vd (FP.dsub (FP.i2d p1) (FP.dmul (FP.i2d (0 : Int32)) (FP.ddiv (FP.dsub (FP.i2d p1) (FP.i2d p0)) (FP.i2d (1 : Int32))))), ss, uu, uu] [(.int (4 : Int32)), (.int md), (.int (1 : Int32)), (.double (FP.i2d p1)), (.double (FP.i2d p0)), (.double (FP.dsub (FP.i2d p1) (FP.dmul (FP.i2d (0 : Int32)) (FP.ddiv (FP.dsub (FP.i2d p1) (FP.i2d p0)) (FP.i2d (1 : Int32))))))]) := by
            intro tQ kk
            refine k2706 tQ ?_
            refine XS.dstore X2677.here hx rfl (hb hby at_244) rfl (l' := #[vi p0, vi p1, vi p2, vi p3, vi (1 : Int32), vi (1 : Int32), vi md, vd (FP.i2d p0), ss, vd (FP.i2d p1), ss, vr a873, vi (1 : Int32), vd (FP.dsub (FP.i2d p1) (FP.dmul (FP.i2d (0 : Int32)) (FP.ddiv (FP.dsub (FP.i2d p1) (FP.i2d p0)) (FP.i2d (1 : Int32))))), ss, vi (0 : Int32), vd (FP.dsub (FP.i2d p1) (FP.dmul (FP.i2d (0 : Int32)) (FP.ddiv (FP.dsub (FP.i2d p1) (FP.i2d p0)) (FP.i2d (1 : Int32))))), ss, vd (FP.dsub (FP.i2d p1) (FP.dmul (FP.i2d (0 : Int32)) (FP.ddiv (FP.dsub (FP.i2d p1) (FP.i2d p0)) (FP.i2d (1 : Int32))))), ss, vd (FP.dsub (FP.i2d p1) (FP.dmul (FP.i2d (0 : Int32)) (FP.ddiv (FP.dsub (FP.i2d p1) (FP.i2d p0)) (FP.i2d (1 : Int32))))), ss, uu, uu]) rfl ?_
            refine XS.iload X2677.here hx rfl (hb hby at_246) rfl ?_
            refine XS.ifNo X2677.here hx rfl (hb hby at_248) rfl (own_if_eqN (by decide)) ?_
            refine XS.dload X2677.here hx rfl (hb hby at_251) rfl ?_
            show Steps p.tables e below (T2673.setTop (mkF m 253 #[vi p0, vi p1, vi p2, vi p3, vi (1 : Int32), vi (1 : Int32), vi md, vd (FP.i2d p0), ss, vd (FP.i2d p1), ss, vr a873, vi (1 : Int32), vd (FP.dsub (FP.i2d p1) (FP.dmul (FP.i2d (0 : Int32)) (FP.ddiv (FP.dsub (FP.i2d p1) (FP.i2d p0)) (FP.i2d (1 : Int32))))), ss, vi (0 : Int32), vd (FP.dsub (FP.i2d p1) (FP.dmul (FP.i2d (0 : Int32)) (FP.ddiv (FP.dsub (FP.i2d p1) (FP.i2d p0)) (FP.i2d (1 : Int32))))), ss, vd (FP.dsub (FP.i2d p1) (FP.dmul (FP.i2d (0 : Int32)) (FP.ddiv (FP.dsub (FP.i2d p1) (FP.i2d p0)) (FP.i2d (1 : Int32))))), ss, vd (FP.dsub (FP.i2d p1) (FP.dmul (FP.i2d (0 : Int32)) (FP.ddiv (FP.dsub (FP.i2d p1) (FP.i2d p0)) (FP.i2d (1 : Int32))))), ss, uu, uu] [(.double (FP.dsub (FP.i2d p1) (FP.dmul (FP.i2d (0 : Int32)) (FP.ddiv (FP.dsub (FP.i2d p1) (FP.i2d p0)) (FP.i2d (1 : Int32))))))])) tQ
            refine XS.dload X2677.here hx rfl (hb hby at_253) rfl ?_
            refine XS.dload X2677.here hx rfl (hb hby at_255) rfl ?_
            refine XS.iload X2677.here hx rfl (hb hby at_257) rfl ?_
            refine XS.iload X2677.here hx rfl (hb hby at_259) rfl ?_
            show Steps p.tables e below (T2673.setTop (mkF m 261 #[vi p0, vi p1, vi p2, vi p3, vi (1 : Int32), vi (1 : Int32), vi md, vd (FP.i2d p0), ss, vd (FP.i2d p1), ss, vr a873, vi (1 : Int32), vd (FP.dsub (FP.i2d p1) (FP.dmul (FP.i2d (0 : Int32)) (FP.ddiv (FP.dsub (FP.i2d p1) (FP.i2d p0)) (FP.i2d (1 : Int32))))), ss, vi (0 : Int32), vd (FP.dsub (FP.i2d p1) (FP.dmul (FP.i2d (0 : Int32)) (FP.ddiv (FP.dsub (FP.i2d p1) (FP.i2d p0)) (FP.i2d (1 : Int32))))), ss, vd (FP.dsub (FP.i2d p1) (FP.dmul (FP.i2d (0 : Int32)) (FP.ddiv (FP.dsub (FP.i2d p1) (FP.i2d p0)) (FP.i2d (1 : Int32))))), ss, vd (FP.dsub (FP.i2d p1) (FP.dmul (FP.i2d (0 : Int32)) (FP.ddiv (FP.dsub (FP.i2d p1) (FP.i2d p0)) (FP.i2d (1 : Int32))))), ss, uu, uu] [(.int md), (.int (1 : Int32)), (.double (FP.i2d p1)), (.double (FP.i2d p0)), (.double (FP.dsub (FP.i2d p1) (FP.dmul (FP.i2d (0 : Int32)) (FP.ddiv (FP.dsub (FP.i2d p1) (FP.i2d p0)) (FP.i2d (1 : Int32))))))])) tQ
            refine XS.iconst X2677.here hx rfl (hb hby at_261) ?_
            exact kk
          clear k2706
          obtain ⟨_, _, ⟨T2713, L2714, kc2715, nc2716⟩, -, X2717, ⟨Lc2718, hQ2719, l2720, y2721, z2722⟩, st2723⟩ := Jvm.LawKit.callS X2677 hx (y := mn16) hown (mvT hZ (tw48 hw)) (mvT hZ (tw49 hw)) (mvT hZ (tw50 hw)) (mvT hZ (tw51 hw)) (by decide) (backOf (W := 2) (rmE l Z a0 hw [] (FP.i2d p0) (FP.i2d p1) (1 : Int32) md (4 : Int32) T2673.heap n0 Z2699 (Fl.i2d_fin p0).noNaN (Fl.i2d_fin p1).noNaN (own_h1 p0 p1) (own_h2 p0 p1 (F := (1 : Int32)) (by decide)) (own_q3 p0 p1 (F := (1 : Int32)) (r := (own_mx 0 ((1 : Int32) - (4 : Int32)))) (by decide) (own_mxb (by decide) (by decide)))) hZ (tw51 hw) (tw50 hw) (by decide) (by decide)) (g := (mkF m 262 #[vi p0, vi p1, vi p2, vi p3, vi (1 : Int32), vi (1 : Int32), vi md, vd (FP.i2d p0), ss, vd (FP.i2d p1), ss, vr a873, vi (1 : Int32), vd (FP.dsub (FP.i2d p1) (FP.dmul (FP.i2d (0 : Int32)) (FP.ddiv (FP.dsub (FP.i2d p1) (FP.i2d p0)) (FP.i2d (1 : Int32))))), ss, vi (0 : Int32), vd (FP.dsub (FP.i2d p1) (FP.dmul (FP.i2d (0 : Int32)) (FP.ddiv (FP.dsub (FP.i2d p1) (FP.i2d p0)) (FP.i2d (1 : Int32))))), ss, vd (FP.dsub (FP.i2d p1) (FP.dmul (FP.i2d (0 : Int32)) (FP.ddiv (FP.dsub (FP.i2d p1) (FP.i2d p0)) (FP.i2d (1 : Int32))))), ss, vd (FP.dsub (FP.i2d p1) (FP.dmul (FP.i2d (0 : Int32)) (FP.ddiv (FP.dsub (FP.i2d p1) (FP.i2d p0)) (FP.i2d (1 : Int32))))), ss, uu, uu] [(.int (4 : Int32)), (.int md), (.int (1 : Int32)), (.double (FP.i2d p1)), (.double (FP.i2d p0)), (.double (FP.dsub (FP.i2d p1) (FP.dmul (FP.i2d (0 : Int32)) (FP.ddiv (FP.dsub (FP.i2d p1) (FP.i2d p0)) (FP.i2d (1 : Int32))))))])) rfl (by rw [hml]; rfl) (argsL := [(.double (FP.i2d p0)), (.double (FP.i2d p1)), (.int (1 : Int32)), (.int md), (.int (4 : Int32))]) (rest := [(.double (FP.dsub (FP.i2d p1) (FP.dmul (FP.i2d (0 : Int32)) (FP.ddiv (FP.dsub (FP.i2d p1) (FP.i2d p0)) (FP.i2d (1 : Int32))))))]) (lenOf pd_21 rfl) rfl (by show 2 * 0 + _ ≤ _; exact Nat.le_of_eq rfl) (hb hby at_262) (fun _ _ => ⟨rfl, rfl, (by decide : 1 + 0 ≤ _), (by decide : 5 + 0 ≤ _)⟩)
          dsimp only [Pt.U, Pt.locs, Pt.cells, Pt.slots] at X2717 l2720 y2721 z2722 st2723 hQ2719
          subst l2720 y2721 z2722
          obtain ⟨rfl, N2724, e2725⟩ := hQ2719
          have N2727 := Fr.app N2698 N2724
          have k2728 : own_G p e below E0 T2713 (mkF m 265 #[vi p0, vi p1, vi p2, vi p3, vi (1 : Int32), vi (1 : Int32), vi md, vd (FP.i2d p0), ss, vd (FP.i2d p1), ss, vr a873, vi (1 : Int32), vd (FP.dsub (FP.i2d p1) (FP.dmul (FP.i2d (0 : Int32)) (FP.ddiv (FP.dsub (FP.i2d p1) (FP.i2d p0)) (FP.i2d (1 : Int32))))), ss, vi (0 : Int32), vd (FP.dsub (FP.i2d p1) (FP.dmul (FP.i2d (0 : Int32)) (FP.ddiv (FP.dsub (FP.i2d p1) (FP.i2d p0)) (FP.i2d (1 : Int32))))), ss, vd (FP.dsub (FP.i2d p1) (FP.dmul (FP.i2d (0 : Int32)) (FP.ddiv (FP.dsub (FP.i2d p1) (FP.i2d p0)) (FP.i2d (1 : Int32))))), ss, vd (FP.dsub (FP.i2d p1) (FP.dmul (FP.i2d (0 : Int32)) (FP.ddiv (FP.dsub (FP.i2d p1) (FP.i2d p0)) (FP.i2d (1 : Int32))))), ss, uu, uu] [(.double (own_exp (FP.i2d p0) (FP.i2d p1) (1 : Int32) md (4 : Int32))), (.double (FP.dsub (FP.i2d p1) (FP.dmul (FP.i2d (0 : Int32)) (FP.ddiv (FP.dsub (FP.i2d p1) (FP.i2d p0)) (FP.i2d (1 : Int32))))))]) := fun tQ kk => k2712 tQ (st2723 _ kk)
          clear k2712 st2723
          have k2729 : own_G p e below E0 T2713 (mkF m 278 #[vi p0, vi p1, vi p2, vi p3, vi (1 : Int32), vi (1 : Int32), vi md, vd (FP.i2d p0), ss, vd (FP.i2d p1), ss, vr a873, vi (1 : Int32), vd (FP.dsub (FP.i2d p1) (FP.dmul (FP.i2d (0 : Int32)) (FP.ddiv (FP.dsub (FP.i2d p1) (FP.i2d p0)) (FP.i2d (1 : Int32))))), ss, vi (0 : Int32), vd (FP.dsub (FP.i2d p1) (FP.dmul (FP.i2d (0 : Int32)) (FP.ddiv (FP.dsub (FP.i2d p1) (FP.i2d p0)) (FP.i2d (1 : Int32))))), ss, vd (FP.dsub (FP.i2d p1) (FP.dmul (FP.i2d (0 : Int32)) (FP.ddiv (FP.dsub (FP.i2d p1) (FP.i2d p0)) (FP.i2d (1 : Int32))))), ss, vd (FP.dsub (FP.i2d p1) (FP.dmul (FP.i2d (0 : Int32)) (FP.ddiv (FP.dsub (FP.i2d p1) (FP.i2d p0)) (FP.i2d (1 : Int32))))), ss, uu, uu] [(.ref a873)]) := by
            intro tQ kk
            refine k2728 tQ ?_
            refine XS.dcmpS (v := (0 : Int32)) X2717.here hx rfl (hb hby at_265) rfl (own_eZ p0 p1 cm1 cm2 cE (show own_mx 0 ((1 : Int32) - (4 : Int32)) = 0 by decide) (by decide)) ?_
            refine XS.ifNo X2717.here hx rfl (hb hby at_266) rfl (own_if_neN (by decide)) ?_
            refine XS.iconst X2717.here hx rfl (hb hby at_269) ?_
            refine XS.goto X2717.here hx rfl (pc0 := 270) (pc' := 274) rfl (hb hby at_270) (by decide) (by decide) ?_
            show Steps p.tables e below (T2713.setTop (mkF m 274 #[vi p0, vi p1, vi p2, vi p3, vi (1 : Int32), vi (1 : Int32), vi md, vd (FP.i2d p0), ss, vd (FP.i2d p1), ss, vr a873, vi (1 : Int32), vd (FP.dsub (FP.i2d p1) (FP.dmul (FP.i2d (0 : Int32)) (FP.ddiv (FP.dsub (FP.i2d p1) (FP.i2d p0)) (FP.i2d (1 : Int32))))), ss, vi (0 : Int32), vd (FP.dsub (FP.i2d p1) (FP.dmul (FP.i2d (0 : Int32)) (FP.ddiv (FP.dsub (FP.i2d p1) (FP.i2d p0)) (FP.i2d (1 : Int32))))), ss, vd (FP.dsub (FP.i2d p1) (FP.dmul (FP.i2d (0 : Int32)) (FP.ddiv (FP.dsub (FP.i2d p1) (FP.i2d p0)) (FP.i2d (1 : Int32))))), ss, vd (FP.dsub (FP.i2d p1) (FP.dmul (FP.i2d (0 : Int32)) (FP.ddiv (FP.dsub (FP.i2d p1) (FP.i2d p0)) (FP.i2d (1 : Int32))))), ss, uu, uu] [(.int (1 : Int32))])) tQ
            refine XS.istore X2717.here hx rfl (hb hby at_274) rfl (l' := #[vi p0, vi p1, vi p2, vi p3, vi (1 : Int32), vi (1 : Int32), vi md, vd (FP.i2d p0), ss, vd (FP.i2d p1), ss, vr a873, vi (1 : Int32), vd (FP.dsub (FP.i2d p1) (FP.dmul (FP.i2d (0 : Int32)) (FP.ddiv (FP.dsub (FP.i2d p1) (FP.i2d p0)) (FP.i2d (1 : Int32))))), ss, vi (0 : Int32), vd (FP.dsub (FP.i2d p1) (FP.dmul (FP.i2d (0 : Int32)) (FP.ddiv (FP.dsub (FP.i2d p1) (FP.i2d p0)) (FP.i2d (1 : Int32))))), ss, vd (FP.dsub (FP.i2d p1) (FP.dmul (FP.i2d (0 : Int32)) (FP.ddiv (FP.dsub (FP.i2d p1) (FP.i2d p0)) (FP.i2d (1 : Int32))))), ss, vd (FP.dsub (FP.i2d p1) (FP.dmul (FP.i2d (0 : Int32)) (FP.ddiv (FP.dsub (FP.i2d p1) (FP.i2d p0)) (FP.i2d (1 : Int32))))), ss, uu, uu]) rfl ?_
            refine XS.aload X2717.here hx rfl (hb hby at_276) rfl rfl ?_
            exact kk
          clear k2728
          obtain ⟨cq2741, kq2742, qa2743, qb2744, qc2745⟩ := isOf hZ e2725 F2700
          obtain ⟨_, _, ⟨T2730, L2731, kc2732, nc2733⟩, -, X2734, ⟨Lc2735, hQ2736, l2737, y2738, z2739⟩, st2740⟩ := X2717.virtualBack hx (y := mn13) (z := mn13) hown (mvT hZ (tw43 hw)) (mvT hZ (tw44 hw)) (notFace_of_selects (args := #[]) (mvT hZ (tw46 hw))) (mvT hZ (tw46 hw)) (mvT hZ (tw45 hw)) (by decide) (backOf (W := 0) (rmN l Z a0 hw [] a873 (1 : Int32) (FP.dsub (FP.i2d p1) (FP.dmul (FP.i2d (0 : Int32)) (FP.ddiv (FP.dsub (FP.i2d p1) (FP.i2d p0)) (FP.i2d (1 : Int32))))) (FP.i2d p1) (FP.ddiv (FP.dsub (FP.i2d p1) (FP.i2d p0)) (FP.i2d (1 : Int32))) (0 : Int32) T2673.heap n0 Z2699 F2700 g2693 F2708 g2695 g2696 F2710 ge875 (fun z => absurd z (by decide))) hZ (tw47 hw) (tw7 hw) (by decide) (by decide)) qa2743 qc2745 (g := (mkF m 278 #[vi p0, vi p1, vi p2, vi p3, vi (1 : Int32), vi (1 : Int32), vi md, vd (FP.i2d p0), ss, vd (FP.i2d p1), ss, vr a873, vi (1 : Int32), vd (FP.dsub (FP.i2d p1) (FP.dmul (FP.i2d (0 : Int32)) (FP.ddiv (FP.dsub (FP.i2d p1) (FP.i2d p0)) (FP.i2d (1 : Int32))))), ss, vi (0 : Int32), vd (FP.dsub (FP.i2d p1) (FP.dmul (FP.i2d (0 : Int32)) (FP.ddiv (FP.dsub (FP.i2d p1) (FP.i2d p0)) (FP.i2d (1 : Int32))))), ss, vd (FP.dsub (FP.i2d p1) (FP.dmul (FP.i2d (0 : Int32)) (FP.ddiv (FP.dsub (FP.i2d p1) (FP.i2d p0)) (FP.i2d (1 : Int32))))), ss, vd (FP.dsub (FP.i2d p1) (FP.dmul (FP.i2d (0 : Int32)) (FP.ddiv (FP.dsub (FP.i2d p1) (FP.i2d p0)) (FP.i2d (1 : Int32))))), ss, uu, uu] [(.ref a873)])) rfl (by rw [hml]; rfl) (Steps.refl _) (argsL := []) (rest := []) (lenOf pd_20 rfl) rfl (by show 2 * 0 + _ ≤ _; exact Nat.le_of_eq rfl) (hb hby at_278) (fun _ _ => ⟨rfl, e2725, (by decide : 1 + 0 ≤ _), (by decide : 5 + 0 ≤ _)⟩)
          dsimp only [Pt.U, Pt.locs, Pt.cells, Pt.slots] at X2734 l2737 y2738 z2739 st2740 hQ2736
          subst l2737 y2738 z2739
          obtain ⟨rfl, N2746, K2749, g2750, g2751, g2752, g2753, g2754⟩ := hQ2736
          have N2755 := Fr.app N2727 N2746
          have Z2756 : n0 ≤ T2730.heap.size := Nat.le_trans Z2699 K2749.1
          have F2757 : xa8 Z T2730.heap a873 := F2700.keep K2749
          clear F2700
          clear g2693
          clear F2708
          clear g2695
          clear g2696
          clear F2710
          have k2763 : own_G p e below E0 T2730 (mkF m 281 #[vi p0, vi p1, vi p2, vi p3, vi (1 : Int32), vi (1 : Int32), vi md, vd (FP.i2d p0), ss, vd (FP.i2d p1), ss, vr a873, vi (1 : Int32), vd (FP.dsub (FP.i2d p1) (FP.dmul (FP.i2d (0 : Int32)) (FP.ddiv (FP.dsub (FP.i2d p1) (FP.i2d p0)) (FP.i2d (1 : Int32))))), ss, vi (0 : Int32), vd (FP.dsub (FP.i2d p1) (FP.dmul (FP.i2d (0 : Int32)) (FP.ddiv (FP.dsub (FP.i2d p1) (FP.i2d p0)) (FP.i2d (1 : Int32))))), ss, vd (FP.dsub (FP.i2d p1) (FP.dmul (FP.i2d (0 : Int32)) (FP.ddiv (FP.dsub (FP.i2d p1) (FP.i2d p0)) (FP.i2d (1 : Int32))))), ss, vd (FP.dsub (FP.i2d p1) (FP.dmul (FP.i2d (0 : Int32)) (FP.ddiv (FP.dsub (FP.i2d p1) (FP.i2d p0)) (FP.i2d (1 : Int32))))), ss, uu, uu] [(.double (own_nv (FP.dsub (FP.i2d p1) (FP.dmul (FP.i2d (0 : Int32)) (FP.ddiv (FP.dsub (FP.i2d p1) (FP.i2d p0)) (FP.i2d (1 : Int32))))) (FP.i2d p1) (FP.ddiv (FP.dsub (FP.i2d p1) (FP.i2d p0)) (FP.i2d (1 : Int32))) (0 : Int32)))]) := fun tQ kk => k2729 tQ (st2740.trans kk)
          clear k2729 st2740
          have eq2764 : (own_nv (FP.dsub (FP.i2d p1) (FP.dmul (FP.i2d (0 : Int32)) (FP.ddiv (FP.dsub (FP.i2d p1) (FP.i2d p0)) (FP.i2d (1 : Int32))))) (FP.i2d p1) (FP.ddiv (FP.dsub (FP.i2d p1) (FP.i2d p0)) (FP.i2d (1 : Int32))) (0 : Int32)) = (FP.dsub (FP.i2d p1) (FP.dmul (FP.i2d (0 : Int32)) (FP.ddiv (FP.dsub (FP.i2d p1) (FP.i2d p0)) (FP.i2d (1 : Int32))))) := by rw [own_nv, if_neg (by decide)]
          have F2765 : fd4 Z T2730.heap a873 (.double (FP.dsub (FP.i2d p1) (FP.dmul (FP.i2d (0 : Int32)) (FP.ddiv (FP.dsub (FP.i2d p1) (FP.i2d p0)) (FP.i2d (1 : Int32)))))) := by rw [← eq2764]; exact g2751
          have eq2766 : (own_nr (0 : Int32)) = (0 : Int32) := by decide
          have F2767 : fd7 Z T2730.heap a873 (.int (0 : Int32)) := by rw [← eq2766]; exact g2754
          have eq2768 : (own_nv (FP.dsub (FP.i2d p1) (FP.dmul (FP.i2d (0 : Int32)) (FP.ddiv (FP.dsub (FP.i2d p1) (FP.i2d p0)) (FP.i2d (1 : Int32))))) (FP.i2d p1) (FP.ddiv (FP.dsub (FP.i2d p1) (FP.i2d p0)) (FP.i2d (1 : Int32))) (0 : Int32)) = (FP.dsub (FP.i2d p1) (FP.dmul (FP.i2d (0 : Int32)) (FP.ddiv (FP.dsub (FP.i2d p1) (FP.i2d p0)) (FP.i2d (1 : Int32))))) := by rw [own_nv, if_neg (by decide)]
          rw [eq2768] at k2763
          have k2769 : own_G p e below E0 T2730 (mkF m 299 #[vi p0, vi p1, vi p2, vi p3, vi (1 : Int32), vi (1 : Int32), vi md, vd (FP.i2d p0), ss, vd (FP.i2d p1), ss, vr a873, vi (1 : Int32), vd (FP.dsub (FP.i2d p1) (FP.dmul (FP.i2d (0 : Int32)) (FP.ddiv (FP.dsub (FP.i2d p1) (FP.i2d p0)) (FP.i2d (1 : Int32))))), ss, vi (0 : Int32), vd (FP.dsub (FP.i2d p1) (FP.dmul (FP.i2d (0 : Int32)) (FP.ddiv (FP.dsub (FP.i2d p1) (FP.i2d p0)) (FP.i2d (1 : Int32))))), ss, vd (FP.dsub (FP.i2d p1) (FP.dmul (FP.i2d (0 : Int32)) (FP.ddiv (FP.dsub (FP.i2d p1) (FP.i2d p0)) (FP.i2d (1 : Int32))))), ss, vd (FP.dsub (FP.i2d p1) (FP.dmul (FP.i2d (0 : Int32)) (FP.ddiv (FP.dsub (FP.i2d p1) (FP.i2d p0)) (FP.i2d (1 : Int32))))), ss, vd (FP.dsub (FP.i2d p1) (FP.dmul (FP.i2d (0 : Int32)) (FP.ddiv (FP.dsub (FP.i2d p1) (FP.i2d p0)) (FP.i2d (1 : Int32))))), ss] [(.int (5 : Int32)), (.int md), (.int (1 : Int32)), (.double (FP.i2d p1)), (.double (FP.i2d p0)), (.double (FP.dsub (FP.i2d p1) (FP.dmul (FP.i2d (0 : Int32)) (FP.ddiv (FP.dsub (FP.i2d p1) (FP.i2d p0)) (FP.i2d (1 : Int32))))))]) := by
            intro tQ kk
            refine k2763 tQ ?_
            refine XS.dstore X2734.here hx rfl (hb hby at_281) rfl (l' := #[vi p0, vi p1, vi p2, vi p3, vi (1 : Int32), vi (1 : Int32), vi md, vd (FP.i2d p0), ss, vd (FP.i2d p1), ss, vr a873, vi (1 : Int32), vd (FP.dsub (FP.i2d p1) (FP.dmul (FP.i2d (0 : Int32)) (FP.ddiv (FP.dsub (FP.i2d p1) (FP.i2d p0)) (FP.i2d (1 : Int32))))), ss, vi (0 : Int32), vd (FP.dsub (FP.i2d p1) (FP.dmul (FP.i2d (0 : Int32)) (FP.ddiv (FP.dsub (FP.i2d p1) (FP.i2d p0)) (FP.i2d (1 : Int32))))), ss, vd (FP.dsub (FP.i2d p1) (FP.dmul (FP.i2d (0 : Int32)) (FP.ddiv (FP.dsub (FP.i2d p1) (FP.i2d p0)) (FP.i2d (1 : Int32))))), ss, vd (FP.dsub (FP.i2d p1) (FP.dmul (FP.i2d (0 : Int32)) (FP.ddiv (FP.dsub (FP.i2d p1) (FP.i2d p0)) (FP.i2d (1 : Int32))))), ss, vd (FP.dsub (FP.i2d p1) (FP.dmul (FP.i2d (0 : Int32)) (FP.ddiv (FP.dsub (FP.i2d p1) (FP.i2d p0)) (FP.i2d (1 : Int32))))), ss]) rfl ?_
            refine XS.iload X2734.here hx rfl (hb hby at_283) rfl ?_
            refine XS.ifNo X2734.here hx rfl (hb hby at_285) rfl (own_if_eqN (by decide)) ?_
            refine XS.dload X2734.here hx rfl (hb hby at_288) rfl ?_
            show Steps p.tables e below (T2730.setTop (mkF m 290 #[vi p0, vi p1, vi p2, vi p3, vi (1 : Int32), vi (1 : Int32), vi md, vd (FP.i2d p0), ss, vd (FP.i2d p1), ss, vr a873, vi (1 : Int32), vd (FP.dsub (FP.i2d p1) (FP.dmul (FP.i2d (0 : Int32)) (FP.ddiv (FP.dsub (FP.i2d p1) (FP.i2d p0)) (FP.i2d (1 : Int32))))), ss, vi (0 : Int32), vd (FP.dsub (FP.i2d p1) (FP.dmul (FP.i2d (0 : Int32)) (FP.ddiv (FP.dsub (FP.i2d p1) (FP.i2d p0)) (FP.i2d (1 : Int32))))), ss, vd (FP.dsub (FP.i2d p1) (FP.dmul (FP.i2d (0 : Int32)) (FP.ddiv (FP.dsub (FP.i2d p1) (FP.i2d p0)) (FP.i2d (1 : Int32))))), ss, vd (FP.dsub (FP.i2d p1) (FP.dmul (FP.i2d (0 : Int32)) (FP.ddiv (FP.dsub (FP.i2d p1) (FP.i2d p0)) (FP.i2d (1 : Int32))))), ss, vd (FP.dsub (FP.i2d p1) (FP.dmul (FP.i2d (0 : Int32)) (FP.ddiv (FP.dsub (FP.i2d p1) (FP.i2d p0)) (FP.i2d (1 : Int32))))), ss] [(.double (FP.dsub (FP.i2d p1) (FP.dmul (FP.i2d (0 : Int32)) (FP.ddiv (FP.dsub (FP.i2d p1) (FP.i2d p0)) (FP.i2d (1 : Int32))))))])) tQ
            refine XS.dload X2734.here hx rfl (hb hby at_290) rfl ?_
            refine XS.dload X2734.here hx rfl (hb hby at_292) rfl ?_
            refine XS.iload X2734.here hx rfl (hb hby at_294) rfl ?_
            refine XS.iload X2734.here hx rfl (hb hby at_296) rfl ?_
            show Steps p.tables e below (T2730.setTop (mkF m 298 #[vi p0, vi p1, vi p2, vi p3, vi (1 : Int32), vi (1 : Int32), vi md, vd (FP.i2d p0), ss, vd (FP.i2d p1), ss, vr a873, vi (1 : Int32), vd (FP.dsub (FP.i2d p1) (FP.dmul (FP.i2d (0 : Int32)) (FP.ddiv (FP.dsub (FP.i2d p1) (FP.i2d p0)) (FP.i2d (1 : Int32))))), ss, vi (0 : Int32), vd (FP.dsub (FP.i2d p1) (FP.dmul (FP.i2d (0 : Int32)) (FP.ddiv (FP.dsub (FP.i2d p1) (FP.i2d p0)) (FP.i2d (1 : Int32))))), ss, vd (FP.dsub (FP.i2d p1) (FP.dmul (FP.i2d (0 : Int32)) (FP.ddiv (FP.dsub (FP.i2d p1) (FP.i2d p0)) (FP.i2d (1 : Int32))))), ss, vd (FP.dsub (FP.i2d p1) (FP.dmul (FP.i2d (0 : Int32)) (FP.ddiv (FP.dsub (FP.i2d p1) (FP.i2d p0)) (FP.i2d (1 : Int32))))), ss, vd (FP.dsub (FP.i2d p1) (FP.dmul (FP.i2d (0 : Int32)) (FP.ddiv (FP.dsub (FP.i2d p1) (FP.i2d p0)) (FP.i2d (1 : Int32))))), ss] [(.int md), (.int (1 : Int32)), (.double (FP.i2d p1)), (.double (FP.i2d p0)), (.double (FP.dsub (FP.i2d p1) (FP.dmul (FP.i2d (0 : Int32)) (FP.ddiv (FP.dsub (FP.i2d p1) (FP.i2d p0)) (FP.i2d (1 : Int32))))))])) tQ
            refine XS.iconst X2734.here hx rfl (hb hby at_298) ?_
            exact kk
          clear k2763
          obtain ⟨_, _, ⟨T2770, L2771, kc2772, nc2773⟩, -, X2774, ⟨Lc2775, hQ2776, l2777, y2778, z2779⟩, st2780⟩ := Jvm.LawKit.callS X2734 hx (y := mn16) hown (mvT hZ (tw48 hw)) (mvT hZ (tw49 hw)) (mvT hZ (tw50 hw)) (mvT hZ (tw51 hw)) (by decide) (backOf (W := 2) (rmE l Z a0 hw [] (FP.i2d p0) (FP.i2d p1) (1 : Int32) md (5 : Int32) T2730.heap n0 Z2756 (Fl.i2d_fin p0).noNaN (Fl.i2d_fin p1).noNaN (own_h1 p0 p1) (own_h2 p0 p1 (F := (1 : Int32)) (by decide)) (own_q3 p0 p1 (F := (1 : Int32)) (r := (own_mx 0 ((1 : Int32) - (5 : Int32)))) (by decide) (own_mxb (by decide) (by decide)))) hZ (tw51 hw) (tw50 hw) (by decide) (by decide)) (g := (mkF m 299 #[vi p0, vi p1, vi p2, vi p3, vi (1 : Int32), vi (1 : Int32), vi md, vd (FP.i2d p0), ss, vd (FP.i2d p1), ss, vr a873, vi (1 : Int32), vd (FP.dsub (FP.i2d p1) (FP.dmul (FP.i2d (0 : Int32)) (FP.ddiv (FP.dsub (FP.i2d p1) (FP.i2d p0)) (FP.i2d (1 : Int32))))), ss, vi (0 : Int32), vd (FP.dsub (FP.i2d p1) (FP.dmul (FP.i2d (0 : Int32)) (FP.ddiv (FP.dsub (FP.i2d p1) (FP.i2d p0)) (FP.i2d (1 : Int32))))), ss, vd (FP.dsub (FP.i2d p1) (FP.dmul (FP.i2d (0 : Int32)) (FP.ddiv (FP.dsub (FP.i2d p1) (FP.i2d p0)) (FP.i2d (1 : Int32))))), ss, vd (FP.dsub (FP.i2d p1) (FP.dmul (FP.i2d (0 : Int32)) (FP.ddiv (FP.dsub (FP.i2d p1) (FP.i2d p0)) (FP.i2d (1 : Int32))))), ss, vd (FP.dsub (FP.i2d p1) (FP.dmul (FP.i2d (0 : Int32)) (FP.ddiv (FP.dsub (FP.i2d p1) (FP.i2d p0)) (FP.i2d (1 : Int32))))), ss] [(.int (5 : Int32)), (.int md), (.int (1 : Int32)), (.double (FP.i2d p1)), (.double (FP.i2d p0)), (.double (FP.dsub (FP.i2d p1) (FP.dmul (FP.i2d (0 : Int32)) (FP.ddiv (FP.dsub (FP.i2d p1) (FP.i2d p0)) (FP.i2d (1 : Int32))))))])) rfl (by rw [hml]; rfl) (argsL := [(.double (FP.i2d p0)), (.double (FP.i2d p1)), (.int (1 : Int32)), (.int md), (.int (5 : Int32))]) (rest := [(.double (FP.dsub (FP.i2d p1) (FP.dmul (FP.i2d (0 : Int32)) (FP.ddiv (FP.dsub (FP.i2d p1) (FP.i2d p0)) (FP.i2d (1 : Int32))))))]) (lenOf pd_21 rfl) rfl (by show 2 * 0 + _ ≤ _; exact Nat.le_of_eq rfl) (hb hby at_299) (fun _ _ => ⟨rfl, rfl, (by decide : 1 + 0 ≤ _), (by decide : 5 + 0 ≤ _)⟩)
          dsimp only [Pt.U, Pt.locs, Pt.cells, Pt.slots] at X2774 l2777 y2778 z2779 st2780 hQ2776
          subst l2777 y2778 z2779
          obtain ⟨rfl, N2781, e2782⟩ := hQ2776
          have N2784 := Fr.app N2755 N2781
          have k2785 : own_G p e below E0 T2770 (mkF m 302 #[vi p0, vi p1, vi p2, vi p3, vi (1 : Int32), vi (1 : Int32), vi md, vd (FP.i2d p0), ss, vd (FP.i2d p1), ss, vr a873, vi (1 : Int32), vd (FP.dsub (FP.i2d p1) (FP.dmul (FP.i2d (0 : Int32)) (FP.ddiv (FP.dsub (FP.i2d p1) (FP.i2d p0)) (FP.i2d (1 : Int32))))), ss, vi (0 : Int32), vd (FP.dsub (FP.i2d p1) (FP.dmul (FP.i2d (0 : Int32)) (FP.ddiv (FP.dsub (FP.i2d p1) (FP.i2d p0)) (FP.i2d (1 : Int32))))), ss, vd (FP.dsub (FP.i2d p1) (FP.dmul (FP.i2d (0 : Int32)) (FP.ddiv (FP.dsub (FP.i2d p1) (FP.i2d p0)) (FP.i2d (1 : Int32))))), ss, vd (FP.dsub (FP.i2d p1) (FP.dmul (FP.i2d (0 : Int32)) (FP.ddiv (FP.dsub (FP.i2d p1) (FP.i2d p0)) (FP.i2d (1 : Int32))))), ss, vd (FP.dsub (FP.i2d p1) (FP.dmul (FP.i2d (0 : Int32)) (FP.ddiv (FP.dsub (FP.i2d p1) (FP.i2d p0)) (FP.i2d (1 : Int32))))), ss] [(.double (own_exp (FP.i2d p0) (FP.i2d p1) (1 : Int32) md (5 : Int32))), (.double (FP.dsub (FP.i2d p1) (FP.dmul (FP.i2d (0 : Int32)) (FP.ddiv (FP.dsub (FP.i2d p1) (FP.i2d p0)) (FP.i2d (1 : Int32))))))]) := fun tQ kk => k2769 tQ (st2780 _ kk)
          clear k2769 st2780
          have k2786 : own_G p e below E0 T2770 (mkF m 353 #[vi p0, vi p1, vi p2, vi p3, vi (1 : Int32), vi (1 : Int32), vi md, vd (FP.i2d p0), ss, vd (FP.i2d p1), ss, vr a873, vi (1 : Int32), vd (FP.dsub (FP.i2d p1) (FP.dmul (FP.i2d (0 : Int32)) (FP.ddiv (FP.dsub (FP.i2d p1) (FP.i2d p0)) (FP.i2d (1 : Int32))))), ss, vi (0 : Int32), vd (FP.dsub (FP.i2d p1) (FP.dmul (FP.i2d (0 : Int32)) (FP.ddiv (FP.dsub (FP.i2d p1) (FP.i2d p0)) (FP.i2d (1 : Int32))))), ss, vd (FP.dsub (FP.i2d p1) (FP.dmul (FP.i2d (0 : Int32)) (FP.ddiv (FP.dsub (FP.i2d p1) (FP.i2d p0)) (FP.i2d (1 : Int32))))), ss, vd (FP.dsub (FP.i2d p1) (FP.dmul (FP.i2d (0 : Int32)) (FP.ddiv (FP.dsub (FP.i2d p1) (FP.i2d p0)) (FP.i2d (1 : Int32))))), ss, vd (FP.dsub (FP.i2d p1) (FP.dmul (FP.i2d (0 : Int32)) (FP.ddiv (FP.dsub (FP.i2d p1) (FP.i2d p0)) (FP.i2d (1 : Int32))))), ss] [(.ref a873)]) := by
            intro tQ kk
            refine k2785 tQ ?_
            refine XS.dcmpS (v := (0 : Int32)) X2774.here hx rfl (hb hby at_302) rfl (own_eZ p0 p1 cm1 cm2 cE (show own_mx 0 ((1 : Int32) - (5 : Int32)) = 0 by decide) (by decide)) ?_
            refine XS.ifNo X2774.here hx rfl (hb hby at_303) rfl (own_if_neN (by decide)) ?_
            refine XS.iconst X2774.here hx rfl (hb hby at_306) ?_
            refine XS.goto X2774.here hx rfl (pc0 := 307) (pc' := 311) rfl (hb hby at_307) (by decide) (by decide) ?_
            show Steps p.tables e below (T2770.setTop (mkF m 311 #[vi p0, vi p1, vi p2, vi p3, vi (1 : Int32), vi (1 : Int32), vi md, vd (FP.i2d p0), ss, vd (FP.i2d p1), ss, vr a873, vi (1 : Int32), vd (FP.dsub (FP.i2d p1) (FP.dmul (FP.i2d (0 : Int32)) (FP.ddiv (FP.dsub (FP.i2d p1) (FP.i2d p0)) (FP.i2d (1 : Int32))))), ss, vi (0 : Int32), vd (FP.dsub (FP.i2d p1) (FP.dmul (FP.i2d (0 : Int32)) (FP.ddiv (FP.dsub (FP.i2d p1) (FP.i2d p0)) (FP.i2d (1 : Int32))))), ss, vd (FP.dsub (FP.i2d p1) (FP.dmul (FP.i2d (0 : Int32)) (FP.ddiv (FP.dsub (FP.i2d p1) (FP.i2d p0)) (FP.i2d (1 : Int32))))), ss, vd (FP.dsub (FP.i2d p1) (FP.dmul (FP.i2d (0 : Int32)) (FP.ddiv (FP.dsub (FP.i2d p1) (FP.i2d p0)) (FP.i2d (1 : Int32))))), ss, vd (FP.dsub (FP.i2d p1) (FP.dmul (FP.i2d (0 : Int32)) (FP.ddiv (FP.dsub (FP.i2d p1) (FP.i2d p0)) (FP.i2d (1 : Int32))))), ss] [(.int (1 : Int32))])) tQ
            refine XS.istore X2774.here hx rfl (hb hby at_311) rfl (l' := #[vi p0, vi p1, vi p2, vi p3, vi (1 : Int32), vi (1 : Int32), vi md, vd (FP.i2d p0), ss, vd (FP.i2d p1), ss, vr a873, vi (1 : Int32), vd (FP.dsub (FP.i2d p1) (FP.dmul (FP.i2d (0 : Int32)) (FP.ddiv (FP.dsub (FP.i2d p1) (FP.i2d p0)) (FP.i2d (1 : Int32))))), ss, vi (0 : Int32), vd (FP.dsub (FP.i2d p1) (FP.dmul (FP.i2d (0 : Int32)) (FP.ddiv (FP.dsub (FP.i2d p1) (FP.i2d p0)) (FP.i2d (1 : Int32))))), ss, vd (FP.dsub (FP.i2d p1) (FP.dmul (FP.i2d (0 : Int32)) (FP.ddiv (FP.dsub (FP.i2d p1) (FP.i2d p0)) (FP.i2d (1 : Int32))))), ss, vd (FP.dsub (FP.i2d p1) (FP.dmul (FP.i2d (0 : Int32)) (FP.ddiv (FP.dsub (FP.i2d p1) (FP.i2d p0)) (FP.i2d (1 : Int32))))), ss, vd (FP.dsub (FP.i2d p1) (FP.dmul (FP.i2d (0 : Int32)) (FP.ddiv (FP.dsub (FP.i2d p1) (FP.i2d p0)) (FP.i2d (1 : Int32))))), ss]) rfl ?_
            refine XS.iload X2774.here hx rfl (hb hby at_313) rfl ?_
            refine XS.ifNo X2774.here hx rfl (hb hby at_315) rfl (own_if_eqN (by decide)) ?_
            refine XS.dload X2774.here hx rfl (hb hby at_318) rfl ?_
            show Steps p.tables e below (T2770.setTop (mkF m 320 #[vi p0, vi p1, vi p2, vi p3, vi (1 : Int32), vi (1 : Int32), vi md, vd (FP.i2d p0), ss, vd (FP.i2d p1), ss, vr a873, vi (1 : Int32), vd (FP.dsub (FP.i2d p1) (FP.dmul (FP.i2d (0 : Int32)) (FP.ddiv (FP.dsub (FP.i2d p1) (FP.i2d p0)) (FP.i2d (1 : Int32))))), ss, vi (0 : Int32), vd (FP.dsub (FP.i2d p1) (FP.dmul (FP.i2d (0 : Int32)) (FP.ddiv (FP.dsub (FP.i2d p1) (FP.i2d p0)) (FP.i2d (1 : Int32))))), ss, vd (FP.dsub (FP.i2d p1) (FP.dmul (FP.i2d (0 : Int32)) (FP.ddiv (FP.dsub (FP.i2d p1) (FP.i2d p0)) (FP.i2d (1 : Int32))))), ss, vd (FP.dsub (FP.i2d p1) (FP.dmul (FP.i2d (0 : Int32)) (FP.ddiv (FP.dsub (FP.i2d p1) (FP.i2d p0)) (FP.i2d (1 : Int32))))), ss, vd (FP.dsub (FP.i2d p1) (FP.dmul (FP.i2d (0 : Int32)) (FP.ddiv (FP.dsub (FP.i2d p1) (FP.i2d p0)) (FP.i2d (1 : Int32))))), ss] [(.double (FP.dsub (FP.i2d p1) (FP.dmul (FP.i2d (0 : Int32)) (FP.ddiv (FP.dsub (FP.i2d p1) (FP.i2d p0)) (FP.i2d (1 : Int32))))))])) tQ
            refine XS.dload X2774.here hx rfl (hb hby at_320) rfl ?_
            refine XS.dcmpS (v := (0 : Int32)) X2774.here hx rfl (hb hby at_322) rfl (own_tz p0 p1 (F := (1 : Int32)) (by decide)) ?_
            refine XS.ifYes X2774.here hx rfl (pc0 := 323) (pc' := 339) rfl (hb hby at_323) rfl (own_if_eqY (by decide)) (by decide) (by decide) ?_
            refine XS.iconst X2774.here hx rfl (hb hby at_339) ?_
            show Steps p.tables e below (T2770.setTop (mkF m 340 #[vi p0, vi p1, vi p2, vi p3, vi (1 : Int32), vi (1 : Int32), vi md, vd (FP.i2d p0), ss, vd (FP.i2d p1), ss, vr a873, vi (1 : Int32), vd (FP.dsub (FP.i2d p1) (FP.dmul (FP.i2d (0 : Int32)) (FP.ddiv (FP.dsub (FP.i2d p1) (FP.i2d p0)) (FP.i2d (1 : Int32))))), ss, vi (0 : Int32), vd (FP.dsub (FP.i2d p1) (FP.dmul (FP.i2d (0 : Int32)) (FP.ddiv (FP.dsub (FP.i2d p1) (FP.i2d p0)) (FP.i2d (1 : Int32))))), ss, vd (FP.dsub (FP.i2d p1) (FP.dmul (FP.i2d (0 : Int32)) (FP.ddiv (FP.dsub (FP.i2d p1) (FP.i2d p0)) (FP.i2d (1 : Int32))))), ss, vd (FP.dsub (FP.i2d p1) (FP.dmul (FP.i2d (0 : Int32)) (FP.ddiv (FP.dsub (FP.i2d p1) (FP.i2d p0)) (FP.i2d (1 : Int32))))), ss, vd (FP.dsub (FP.i2d p1) (FP.dmul (FP.i2d (0 : Int32)) (FP.ddiv (FP.dsub (FP.i2d p1) (FP.i2d p0)) (FP.i2d (1 : Int32))))), ss] [(.int (1 : Int32))])) tQ
            refine XS.goto X2774.here hx rfl (pc0 := 340) (pc' := 344) rfl (hb hby at_340) (by decide) (by decide) ?_
            refine XS.istore X2774.here hx rfl (hb hby at_344) rfl (l' := #[vi p0, vi p1, vi p2, vi p3, vi (1 : Int32), vi (1 : Int32), vi md, vd (FP.i2d p0), ss, vd (FP.i2d p1), ss, vr a873, vi (1 : Int32), vd (FP.dsub (FP.i2d p1) (FP.dmul (FP.i2d (0 : Int32)) (FP.ddiv (FP.dsub (FP.i2d p1) (FP.i2d p0)) (FP.i2d (1 : Int32))))), ss, vi (0 : Int32), vd (FP.dsub (FP.i2d p1) (FP.dmul (FP.i2d (0 : Int32)) (FP.ddiv (FP.dsub (FP.i2d p1) (FP.i2d p0)) (FP.i2d (1 : Int32))))), ss, vd (FP.dsub (FP.i2d p1) (FP.dmul (FP.i2d (0 : Int32)) (FP.ddiv (FP.dsub (FP.i2d p1) (FP.i2d p0)) (FP.i2d (1 : Int32))))), ss, vd (FP.dsub (FP.i2d p1) (FP.dmul (FP.i2d (0 : Int32)) (FP.ddiv (FP.dsub (FP.i2d p1) (FP.i2d p0)) (FP.i2d (1 : Int32))))), ss, vd (FP.dsub (FP.i2d p1) (FP.dmul (FP.i2d (0 : Int32)) (FP.ddiv (FP.dsub (FP.i2d p1) (FP.i2d p0)) (FP.i2d (1 : Int32))))), ss]) rfl ?_
            refine XS.iload X2774.here hx rfl (hb hby at_346) rfl ?_
            refine XS.ifNo X2774.here hx rfl (hb hby at_348) rfl (own_if_eqN (by decide)) ?_
            show Steps p.tables e below (T2770.setTop (mkF m 351 #[vi p0, vi p1, vi p2, vi p3, vi (1 : Int32), vi (1 : Int32), vi md, vd (FP.i2d p0), ss, vd (FP.i2d p1), ss, vr a873, vi (1 : Int32), vd (FP.dsub (FP.i2d p1) (FP.dmul (FP.i2d (0 : Int32)) (FP.ddiv (FP.dsub (FP.i2d p1) (FP.i2d p0)) (FP.i2d (1 : Int32))))), ss, vi (0 : Int32), vd (FP.dsub (FP.i2d p1) (FP.dmul (FP.i2d (0 : Int32)) (FP.ddiv (FP.dsub (FP.i2d p1) (FP.i2d p0)) (FP.i2d (1 : Int32))))), ss, vd (FP.dsub (FP.i2d p1) (FP.dmul (FP.i2d (0 : Int32)) (FP.ddiv (FP.dsub (FP.i2d p1) (FP.i2d p0)) (FP.i2d (1 : Int32))))), ss, vd (FP.dsub (FP.i2d p1) (FP.dmul (FP.i2d (0 : Int32)) (FP.ddiv (FP.dsub (FP.i2d p1) (FP.i2d p0)) (FP.i2d (1 : Int32))))), ss, vd (FP.dsub (FP.i2d p1) (FP.dmul (FP.i2d (0 : Int32)) (FP.ddiv (FP.dsub (FP.i2d p1) (FP.i2d p0)) (FP.i2d (1 : Int32))))), ss] [])) tQ
            refine XS.aload X2774.here hx rfl (hb hby at_351) rfl rfl ?_
            exact kk
          clear k2785
          obtain ⟨cq2798, kq2799, qa2800, qb2801, qc2802⟩ := isOf hZ e2782 F2757
          obtain ⟨_, _, ⟨T2787, L2788, kc2789, nc2790⟩, -, X2791, ⟨Lc2792, hQ2793, l2794, y2795, z2796⟩, st2797⟩ := X2774.virtualBack hx (y := mn15) (z := mn15) hown (mvT hZ (tw57 hw)) (mvT hZ (tw58 hw)) (notFace_of_selects (args := #[]) (mvT hZ (tw60 hw))) (mvT hZ (tw60 hw)) (mvT hZ (tw59 hw)) (by decide) (backOf (W := 0) (rmVl l Z a0 hw [] a873 (FP.dsub (FP.i2d p1) (FP.dmul (FP.i2d (0 : Int32)) (FP.ddiv (FP.dsub (FP.i2d p1) (FP.i2d p0)) (FP.i2d (1 : Int32))))) T2730.heap n0 Z2756 F2765) hZ (tw61 hw) (tw7 hw) (by decide) (by decide)) qa2800 qc2802 (g := (mkF m 353 #[vi p0, vi p1, vi p2, vi p3, vi (1 : Int32), vi (1 : Int32), vi md, vd (FP.i2d p0), ss, vd (FP.i2d p1), ss, vr a873, vi (1 : Int32), vd (FP.dsub (FP.i2d p1) (FP.dmul (FP.i2d (0 : Int32)) (FP.ddiv (FP.dsub (FP.i2d p1) (FP.i2d p0)) (FP.i2d (1 : Int32))))), ss, vi (0 : Int32), vd (FP.dsub (FP.i2d p1) (FP.dmul (FP.i2d (0 : Int32)) (FP.ddiv (FP.dsub (FP.i2d p1) (FP.i2d p0)) (FP.i2d (1 : Int32))))), ss, vd (FP.dsub (FP.i2d p1) (FP.dmul (FP.i2d (0 : Int32)) (FP.ddiv (FP.dsub (FP.i2d p1) (FP.i2d p0)) (FP.i2d (1 : Int32))))), ss, vd (FP.dsub (FP.i2d p1) (FP.dmul (FP.i2d (0 : Int32)) (FP.ddiv (FP.dsub (FP.i2d p1) (FP.i2d p0)) (FP.i2d (1 : Int32))))), ss, vd (FP.dsub (FP.i2d p1) (FP.dmul (FP.i2d (0 : Int32)) (FP.ddiv (FP.dsub (FP.i2d p1) (FP.i2d p0)) (FP.i2d (1 : Int32))))), ss] [(.ref a873)])) rfl (by rw [hml]; rfl) (Steps.refl _) (argsL := []) (rest := []) (lenOf pd_20 rfl) rfl (by show 2 * 0 + _ ≤ _; exact Nat.le_of_eq rfl) (hb hby at_353) (fun _ _ => ⟨rfl, e2782, (by decide : 1 + 0 ≤ _), (by decide : 5 + 0 ≤ _)⟩)
          dsimp only [Pt.U, Pt.locs, Pt.cells, Pt.slots] at X2791 l2794 y2795 z2796 st2797 hQ2793
          subst l2794 y2795 z2796
          obtain ⟨rfl, N2803, e2804⟩ := hQ2793
          have N2806 := Fr.app N2784 N2803
          have k2807 : own_G p e below E0 T2787 (mkF m 356 #[vi p0, vi p1, vi p2, vi p3, vi (1 : Int32), vi (1 : Int32), vi md, vd (FP.i2d p0), ss, vd (FP.i2d p1), ss, vr a873, vi (1 : Int32), vd (FP.dsub (FP.i2d p1) (FP.dmul (FP.i2d (0 : Int32)) (FP.ddiv (FP.dsub (FP.i2d p1) (FP.i2d p0)) (FP.i2d (1 : Int32))))), ss, vi (0 : Int32), vd (FP.dsub (FP.i2d p1) (FP.dmul (FP.i2d (0 : Int32)) (FP.ddiv (FP.dsub (FP.i2d p1) (FP.i2d p0)) (FP.i2d (1 : Int32))))), ss, vd (FP.dsub (FP.i2d p1) (FP.dmul (FP.i2d (0 : Int32)) (FP.ddiv (FP.dsub (FP.i2d p1) (FP.i2d p0)) (FP.i2d (1 : Int32))))), ss, vd (FP.dsub (FP.i2d p1) (FP.dmul (FP.i2d (0 : Int32)) (FP.ddiv (FP.dsub (FP.i2d p1) (FP.i2d p0)) (FP.i2d (1 : Int32))))), ss, vd (FP.dsub (FP.i2d p1) (FP.dmul (FP.i2d (0 : Int32)) (FP.ddiv (FP.dsub (FP.i2d p1) (FP.i2d p0)) (FP.i2d (1 : Int32))))), ss] [(.double (FP.dsub (FP.i2d p1) (FP.dmul (FP.i2d (0 : Int32)) (FP.ddiv (FP.dsub (FP.i2d p1) (FP.i2d p0)) (FP.i2d (1 : Int32))))))]) := fun tQ kk => k2786 tQ (st2797.trans kk)
          clear k2786 st2797
          have k2808 : own_G p e below E0 T2787 (mkF m 376 #[vi p0, vi p1, vi p2, vi p3, vi (1 : Int32), vi (1 : Int32), vi md, vd (FP.i2d p0), ss, vd (FP.i2d p1), ss, vr a873, vi (1 : Int32), vd (FP.dsub (FP.i2d p1) (FP.dmul (FP.i2d (0 : Int32)) (FP.ddiv (FP.dsub (FP.i2d p1) (FP.i2d p0)) (FP.i2d (1 : Int32))))), ss, vi (0 : Int32), vd (FP.dsub (FP.i2d p1) (FP.dmul (FP.i2d (0 : Int32)) (FP.ddiv (FP.dsub (FP.i2d p1) (FP.i2d p0)) (FP.i2d (1 : Int32))))), ss, vd (FP.dsub (FP.i2d p1) (FP.dmul (FP.i2d (0 : Int32)) (FP.ddiv (FP.dsub (FP.i2d p1) (FP.i2d p0)) (FP.i2d (1 : Int32))))), ss, vd (FP.dsub (FP.i2d p1) (FP.dmul (FP.i2d (0 : Int32)) (FP.ddiv (FP.dsub (FP.i2d p1) (FP.i2d p0)) (FP.i2d (1 : Int32))))), ss, vd (FP.dsub (FP.i2d p1) (FP.dmul (FP.i2d (0 : Int32)) (FP.ddiv (FP.dsub (FP.i2d p1) (FP.i2d p0)) (FP.i2d (1 : Int32))))), ss] [(.ref a873)]) := by
            intro tQ kk
            refine k2807 tQ ?_
            refine XS.dload X2791.here hx rfl (hb hby at_356) rfl ?_
            refine XS.dcmpS (v := (0 : Int32)) X2791.here hx rfl (hb hby at_358) rfl (dcmpV_self (own_q3 p0 p1 (by decide) (by decide)).2 .l) ?_
            refine XS.ifNo X2791.here hx rfl (hb hby at_359) rfl (own_if_neN (by decide)) ?_
            refine XS.iconst X2791.here hx rfl (hb hby at_362) ?_
            show Steps p.tables e below (T2787.setTop (mkF m 363 #[vi p0, vi p1, vi p2, vi p3, vi (1 : Int32), vi (1 : Int32), vi md, vd (FP.i2d p0), ss, vd (FP.i2d p1), ss, vr a873, vi (1 : Int32), vd (FP.dsub (FP.i2d p1) (FP.dmul (FP.i2d (0 : Int32)) (FP.ddiv (FP.dsub (FP.i2d p1) (FP.i2d p0)) (FP.i2d (1 : Int32))))), ss, vi (0 : Int32), vd (FP.dsub (FP.i2d p1) (FP.dmul (FP.i2d (0 : Int32)) (FP.ddiv (FP.dsub (FP.i2d p1) (FP.i2d p0)) (FP.i2d (1 : Int32))))), ss, vd (FP.dsub (FP.i2d p1) (FP.dmul (FP.i2d (0 : Int32)) (FP.ddiv (FP.dsub (FP.i2d p1) (FP.i2d p0)) (FP.i2d (1 : Int32))))), ss, vd (FP.dsub (FP.i2d p1) (FP.dmul (FP.i2d (0 : Int32)) (FP.ddiv (FP.dsub (FP.i2d p1) (FP.i2d p0)) (FP.i2d (1 : Int32))))), ss, vd (FP.dsub (FP.i2d p1) (FP.dmul (FP.i2d (0 : Int32)) (FP.ddiv (FP.dsub (FP.i2d p1) (FP.i2d p0)) (FP.i2d (1 : Int32))))), ss] [(.int (1 : Int32))])) tQ
            refine XS.goto X2791.here hx rfl (pc0 := 363) (pc' := 367) rfl (hb hby at_363) (by decide) (by decide) ?_
            refine XS.istore X2791.here hx rfl (hb hby at_367) rfl (l' := #[vi p0, vi p1, vi p2, vi p3, vi (1 : Int32), vi (1 : Int32), vi md, vd (FP.i2d p0), ss, vd (FP.i2d p1), ss, vr a873, vi (1 : Int32), vd (FP.dsub (FP.i2d p1) (FP.dmul (FP.i2d (0 : Int32)) (FP.ddiv (FP.dsub (FP.i2d p1) (FP.i2d p0)) (FP.i2d (1 : Int32))))), ss, vi (0 : Int32), vd (FP.dsub (FP.i2d p1) (FP.dmul (FP.i2d (0 : Int32)) (FP.ddiv (FP.dsub (FP.i2d p1) (FP.i2d p0)) (FP.i2d (1 : Int32))))), ss, vd (FP.dsub (FP.i2d p1) (FP.dmul (FP.i2d (0 : Int32)) (FP.ddiv (FP.dsub (FP.i2d p1) (FP.i2d p0)) (FP.i2d (1 : Int32))))), ss, vd (FP.dsub (FP.i2d p1) (FP.dmul (FP.i2d (0 : Int32)) (FP.ddiv (FP.dsub (FP.i2d p1) (FP.i2d p0)) (FP.i2d (1 : Int32))))), ss, vd (FP.dsub (FP.i2d p1) (FP.dmul (FP.i2d (0 : Int32)) (FP.ddiv (FP.dsub (FP.i2d p1) (FP.i2d p0)) (FP.i2d (1 : Int32))))), ss]) rfl ?_
            refine XS.iload X2791.here hx rfl (hb hby at_369) rfl ?_
            refine XS.ifNo X2791.here hx rfl (hb hby at_371) rfl (own_if_eqN (by decide)) ?_
            show Steps p.tables e below (T2787.setTop (mkF m 374 #[vi p0, vi p1, vi p2, vi p3, vi (1 : Int32), vi (1 : Int32), vi md, vd (FP.i2d p0), ss, vd (FP.i2d p1), ss, vr a873, vi (1 : Int32), vd (FP.dsub (FP.i2d p1) (FP.dmul (FP.i2d (0 : Int32)) (FP.ddiv (FP.dsub (FP.i2d p1) (FP.i2d p0)) (FP.i2d (1 : Int32))))), ss, vi (0 : Int32), vd (FP.dsub (FP.i2d p1) (FP.dmul (FP.i2d (0 : Int32)) (FP.ddiv (FP.dsub (FP.i2d p1) (FP.i2d p0)) (FP.i2d (1 : Int32))))), ss, vd (FP.dsub (FP.i2d p1) (FP.dmul (FP.i2d (0 : Int32)) (FP.ddiv (FP.dsub (FP.i2d p1) (FP.i2d p0)) (FP.i2d (1 : Int32))))), ss, vd (FP.dsub (FP.i2d p1) (FP.dmul (FP.i2d (0 : Int32)) (FP.ddiv (FP.dsub (FP.i2d p1) (FP.i2d p0)) (FP.i2d (1 : Int32))))), ss, vd (FP.dsub (FP.i2d p1) (FP.dmul (FP.i2d (0 : Int32)) (FP.ddiv (FP.dsub (FP.i2d p1) (FP.i2d p0)) (FP.i2d (1 : Int32))))), ss] [])) tQ
            refine XS.aload X2791.here hx rfl (hb hby at_374) rfl rfl ?_
            exact kk
          clear k2807
          obtain ⟨cq2820, kq2821, qa2822, qb2823, qc2824⟩ := isOf hZ e2804 F2757
          obtain ⟨_, _, ⟨T2809, L2810, kc2811, nc2812⟩, -, X2813, ⟨Lc2814, hQ2815, l2816, y2817, z2818⟩, st2819⟩ := X2791.virtualBack hx (y := mn14) (z := mn14) hown (mvT hZ (tw52 hw)) (mvT hZ (tw53 hw)) (notFace_of_selects (args := #[]) (mvT hZ (tw55 hw))) (mvT hZ (tw55 hw)) (mvT hZ (tw54 hw)) (by decide) (backOf (W := 0) (rmMv l Z a0 hw [] a873 (0 : Int32) T2730.heap n0 Z2756 F2767) hZ (tw56 hw) (tw7 hw) (by decide) (by decide)) qa2822 qc2824 (g := (mkF m 376 #[vi p0, vi p1, vi p2, vi p3, vi (1 : Int32), vi (1 : Int32), vi md, vd (FP.i2d p0), ss, vd (FP.i2d p1), ss, vr a873, vi (1 : Int32), vd (FP.dsub (FP.i2d p1) (FP.dmul (FP.i2d (0 : Int32)) (FP.ddiv (FP.dsub (FP.i2d p1) (FP.i2d p0)) (FP.i2d (1 : Int32))))), ss, vi (0 : Int32), vd (FP.dsub (FP.i2d p1) (FP.dmul (FP.i2d (0 : Int32)) (FP.ddiv (FP.dsub (FP.i2d p1) (FP.i2d p0)) (FP.i2d (1 : Int32))))), ss, vd (FP.dsub (FP.i2d p1) (FP.dmul (FP.i2d (0 : Int32)) (FP.ddiv (FP.dsub (FP.i2d p1) (FP.i2d p0)) (FP.i2d (1 : Int32))))), ss, vd (FP.dsub (FP.i2d p1) (FP.dmul (FP.i2d (0 : Int32)) (FP.ddiv (FP.dsub (FP.i2d p1) (FP.i2d p0)) (FP.i2d (1 : Int32))))), ss, vd (FP.dsub (FP.i2d p1) (FP.dmul (FP.i2d (0 : Int32)) (FP.ddiv (FP.dsub (FP.i2d p1) (FP.i2d p0)) (FP.i2d (1 : Int32))))), ss] [(.ref a873)])) rfl (by rw [hml]; rfl) (Steps.refl _) (argsL := []) (rest := []) (lenOf pd_22 rfl) rfl (by show 2 * 0 + _ ≤ _; exact Nat.le_of_eq rfl) (hb hby at_376) (fun _ _ => ⟨rfl, e2804, (by decide : 1 + 0 ≤ _), (by decide : 5 + 0 ≤ _)⟩)
          dsimp only [Pt.U, Pt.locs, Pt.cells, Pt.slots] at X2813 l2816 y2817 z2818 st2819 hQ2815
          subst l2816 y2817 z2818
          obtain ⟨rfl, N2825, e2826⟩ := hQ2815
          have N2828 := Fr.app N2806 N2825
          have k2829 : own_G p e below E0 T2809 (mkF m 379 #[vi p0, vi p1, vi p2, vi p3, vi (1 : Int32), vi (1 : Int32), vi md, vd (FP.i2d p0), ss, vd (FP.i2d p1), ss, vr a873, vi (1 : Int32), vd (FP.dsub (FP.i2d p1) (FP.dmul (FP.i2d (0 : Int32)) (FP.ddiv (FP.dsub (FP.i2d p1) (FP.i2d p0)) (FP.i2d (1 : Int32))))), ss, vi (0 : Int32), vd (FP.dsub (FP.i2d p1) (FP.dmul (FP.i2d (0 : Int32)) (FP.ddiv (FP.dsub (FP.i2d p1) (FP.i2d p0)) (FP.i2d (1 : Int32))))), ss, vd (FP.dsub (FP.i2d p1) (FP.dmul (FP.i2d (0 : Int32)) (FP.ddiv (FP.dsub (FP.i2d p1) (FP.i2d p0)) (FP.i2d (1 : Int32))))), ss, vd (FP.dsub (FP.i2d p1) (FP.dmul (FP.i2d (0 : Int32)) (FP.ddiv (FP.dsub (FP.i2d p1) (FP.i2d p0)) (FP.i2d (1 : Int32))))), ss, vd (FP.dsub (FP.i2d p1) (FP.dmul (FP.i2d (0 : Int32)) (FP.ddiv (FP.dsub (FP.i2d p1) (FP.i2d p0)) (FP.i2d (1 : Int32))))), ss] [(.int (own_mv (0 : Int32)))]) := fun tQ kk => k2808 tQ (st2819.trans kk)
          clear k2808 st2819
          have eq2830 : (own_mv (0 : Int32)) = (0 : Int32) := by decide
          rw [eq2830] at k2829
          have k2831 : own_G p e below E0 T2809 (mkF m 391 #[vi p0, vi p1, vi p2, vi p3, vi (1 : Int32), vi (1 : Int32), vi md, vd (FP.i2d p0), ss, vd (FP.i2d p1), ss, vr a873, vi (1 : Int32), vd (FP.dsub (FP.i2d p1) (FP.dmul (FP.i2d (0 : Int32)) (FP.ddiv (FP.dsub (FP.i2d p1) (FP.i2d p0)) (FP.i2d (1 : Int32))))), ss, vi (0 : Int32), vd (FP.dsub (FP.i2d p1) (FP.dmul (FP.i2d (0 : Int32)) (FP.ddiv (FP.dsub (FP.i2d p1) (FP.i2d p0)) (FP.i2d (1 : Int32))))), ss, vd (FP.dsub (FP.i2d p1) (FP.dmul (FP.i2d (0 : Int32)) (FP.ddiv (FP.dsub (FP.i2d p1) (FP.i2d p0)) (FP.i2d (1 : Int32))))), ss, vd (FP.dsub (FP.i2d p1) (FP.dmul (FP.i2d (0 : Int32)) (FP.ddiv (FP.dsub (FP.i2d p1) (FP.i2d p0)) (FP.i2d (1 : Int32))))), ss, vd (FP.dsub (FP.i2d p1) (FP.dmul (FP.i2d (0 : Int32)) (FP.ddiv (FP.dsub (FP.i2d p1) (FP.i2d p0)) (FP.i2d (1 : Int32))))), ss] [(.int (1 : Int32))]) := by
            intro tQ kk
            refine k2829 tQ ?_
            refine XS.ifNo X2813.here hx rfl (hb hby at_379) rfl (own_if_neN (by decide)) ?_
            refine XS.iconst X2813.here hx rfl (hb hby at_382) ?_
            refine XS.goto X2813.here hx rfl (pc0 := 383) (pc' := 387) rfl (hb hby at_383) (by decide) (by decide) ?_
            refine XS.istore X2813.here hx rfl (hb hby at_387) rfl (l' := #[vi p0, vi p1, vi p2, vi p3, vi (1 : Int32), vi (1 : Int32), vi md, vd (FP.i2d p0), ss, vd (FP.i2d p1), ss, vr a873, vi (1 : Int32), vd (FP.dsub (FP.i2d p1) (FP.dmul (FP.i2d (0 : Int32)) (FP.ddiv (FP.dsub (FP.i2d p1) (FP.i2d p0)) (FP.i2d (1 : Int32))))), ss, vi (0 : Int32), vd (FP.dsub (FP.i2d p1) (FP.dmul (FP.i2d (0 : Int32)) (FP.ddiv (FP.dsub (FP.i2d p1) (FP.i2d p0)) (FP.i2d (1 : Int32))))), ss, vd (FP.dsub (FP.i2d p1) (FP.dmul (FP.i2d (0 : Int32)) (FP.ddiv (FP.dsub (FP.i2d p1) (FP.i2d p0)) (FP.i2d (1 : Int32))))), ss, vd (FP.dsub (FP.i2d p1) (FP.dmul (FP.i2d (0 : Int32)) (FP.ddiv (FP.dsub (FP.i2d p1) (FP.i2d p0)) (FP.i2d (1 : Int32))))), ss, vd (FP.dsub (FP.i2d p1) (FP.dmul (FP.i2d (0 : Int32)) (FP.ddiv (FP.dsub (FP.i2d p1) (FP.i2d p0)) (FP.i2d (1 : Int32))))), ss]) rfl ?_
            show Steps p.tables e below (T2809.setTop (mkF m 389 #[vi p0, vi p1, vi p2, vi p3, vi (1 : Int32), vi (1 : Int32), vi md, vd (FP.i2d p0), ss, vd (FP.i2d p1), ss, vr a873, vi (1 : Int32), vd (FP.dsub (FP.i2d p1) (FP.dmul (FP.i2d (0 : Int32)) (FP.ddiv (FP.dsub (FP.i2d p1) (FP.i2d p0)) (FP.i2d (1 : Int32))))), ss, vi (0 : Int32), vd (FP.dsub (FP.i2d p1) (FP.dmul (FP.i2d (0 : Int32)) (FP.ddiv (FP.dsub (FP.i2d p1) (FP.i2d p0)) (FP.i2d (1 : Int32))))), ss, vd (FP.dsub (FP.i2d p1) (FP.dmul (FP.i2d (0 : Int32)) (FP.ddiv (FP.dsub (FP.i2d p1) (FP.i2d p0)) (FP.i2d (1 : Int32))))), ss, vd (FP.dsub (FP.i2d p1) (FP.dmul (FP.i2d (0 : Int32)) (FP.ddiv (FP.dsub (FP.i2d p1) (FP.i2d p0)) (FP.i2d (1 : Int32))))), ss, vd (FP.dsub (FP.i2d p1) (FP.dmul (FP.i2d (0 : Int32)) (FP.ddiv (FP.dsub (FP.i2d p1) (FP.i2d p0)) (FP.i2d (1 : Int32))))), ss] [])) tQ
            refine XS.iload X2813.here hx rfl (hb hby at_389) rfl ?_
            exact kk
          clear k2829
          obtain ⟨fs, hr, hrun, hended, hW, hsame⟩ := X2813.leave (v := some (.int (1 : Int32))) (fun h => by rw [Bd.returns] at h; cases h)
          have hrun0 := k2831 _ (retOut X2813 hx Bd.returns (t := .boolean) rfl (Or.inl ⟨rfl, Or.inr (Or.inl rfl), _, rfl⟩) (hb hby at_391) hr)
          subst hE0
          refine ⟨_, _, hrun0, hrun, hended, _, _, rfl, ?_, ⟨_, rfl⟩, hW, hsame.mono (by decide) (by decide)⟩
          show Qrm0 Z p0 p1 p2 p3 h0 n0 _ T2809.heap _
          rw [e2826]
          exact ⟨rfl, N2828⟩
        · skip
          have eq2832 : (own_F (2 : Int32)) = (2 : Int32) := by decide
          rw [eq2832] at k2109
          have eq2833 : (own_F (2 : Int32)) = (2 : Int32) := by decide
          have F2834 : fd7 Z T1709.heap a873 (.int (2 : Int32)) := by rw [← eq2833]; exact F2108
          have eq2835 : (own_F (2 : Int32)) = (2 : Int32) := by decide
          have F2836 : fd3 Z T1709.heap a873 (.int (2 : Int32)) := by rw [← eq2835]; exact g1729
          have eq2837 : (FP.ddiv (FP.dsub (FP.i2d p1) (FP.i2d p0)) (FP.i2d (own_F (2 : Int32)))) = (FP.ddiv (FP.dsub (FP.i2d p1) (FP.i2d p0)) (FP.i2d (2 : Int32))) := by rw [show own_F (2 : Int32) = (2 : Int32) by decide]
          have F2838 : fd6 Z T1709.heap a873 (.double (FP.ddiv (FP.dsub (FP.i2d p1) (FP.i2d p0)) (FP.i2d (2 : Int32)))) := by rw [← eq2837]; exact F2106
          have k2839 : own_G p e below E0 T1709 (mkF m 81 #[vi p0, vi p1, vi p2, vi p3, vi (2 : Int32), vi (2 : Int32), vi md, vd (FP.i2d p0), ss, vd (FP.i2d p1), ss, vr a873, vi (1 : Int32), uu, uu, uu, uu, uu, uu, uu, uu, uu, uu, uu] [(.ref a873)]) := by
            intro tQ kk
            refine k2109 tQ ?_
            refine XS.istore X1713.here hx rfl (hb hby at_77) rfl (l' := #[vi p0, vi p1, vi p2, vi p3, vi (2 : Int32), vi (2 : Int32), vi md, vd (FP.i2d p0), ss, vd (FP.i2d p1), ss, vr a873, vi (1 : Int32), uu, uu, uu, uu, uu, uu, uu, uu, uu, uu, uu]) rfl ?_
            refine XS.aload X1713.here hx rfl (hb hby at_79) rfl rfl ?_
            exact kk
          clear k2109
          obtain ⟨cq2851, kq2852, qa2853, qb2854, qc2855⟩ := isOf hZ rfl F1736
          obtain ⟨_, _, ⟨T2840, L2841, kc2842, nc2843⟩, -, X2844, ⟨Lc2845, hQ2846, l2847, y2848, z2849⟩, st2850⟩ := X1713.virtualBack hx (y := mn13) (z := mn13) hown (mvT hZ (tw43 hw)) (mvT hZ (tw44 hw)) (notFace_of_selects (args := #[]) (mvT hZ (tw46 hw))) (mvT hZ (tw46 hw)) (mvT hZ (tw45 hw)) (by decide) (backOf (W := 0) (rmN l Z a0 hw [] a873 (2 : Int32) (FP.i2d p0) (FP.i2d p1) (FP.ddiv (FP.dsub (FP.i2d p1) (FP.i2d p0)) (FP.i2d (2 : Int32))) (2 : Int32) T1709.heap n0 Z1735 F1736 F2836 g1730 F2104 F2838 F2834 ge875 (fun _ => own_q3 p0 p1 (F := (2 : Int32)) (r := ((2 : Int32) - 1)) (by decide) (by decide))) hZ (tw47 hw) (tw7 hw) (by decide) (by decide)) qa2853 qc2855 (g := (mkF m 81 #[vi p0, vi p1, vi p2, vi p3, vi (2 : Int32), vi (2 : Int32), vi md, vd (FP.i2d p0), ss, vd (FP.i2d p1), ss, vr a873, vi (1 : Int32), uu, uu, uu, uu, uu, uu, uu, uu, uu, uu, uu] [(.ref a873)])) rfl (by rw [hml]; rfl) (Steps.refl _) (argsL := []) (rest := []) (lenOf pd_20 rfl) rfl (by show 2 * 0 + _ ≤ _; exact Nat.le_of_eq rfl) (hb hby at_81) (fun _ _ => ⟨rfl, rfl, (by decide : 1 + 0 ≤ _), (by decide : 5 + 0 ≤ _)⟩)
          dsimp only [Pt.U, Pt.locs, Pt.cells, Pt.slots] at X2844 l2847 y2848 z2849 st2850 hQ2846
          subst l2847 y2848 z2849
          obtain ⟨rfl, N2856, K2859, g2860, g2861, g2862, g2863, g2864⟩ := hQ2846
          have N2865 := Fr.app N1734 N2856
          have Z2866 : n0 ≤ T2840.heap.size := Nat.le_trans Z1735 K2859.1
          have F2867 : xa8 Z T2840.heap a873 := F1736.keep K2859
          clear F1736
          clear F2836
          clear g1730
          clear F2104
          clear F2838
          clear F2834
          have k2873 : own_G p e below E0 T2840 (mkF m 84 #[vi p0, vi p1, vi p2, vi p3, vi (2 : Int32), vi (2 : Int32), vi md, vd (FP.i2d p0), ss, vd (FP.i2d p1), ss, vr a873, vi (1 : Int32), uu, uu, uu, uu, uu, uu, uu, uu, uu, uu, uu] [(.double (own_nv (FP.i2d p0) (FP.i2d p1) (FP.ddiv (FP.dsub (FP.i2d p1) (FP.i2d p0)) (FP.i2d (2 : Int32))) (2 : Int32)))]) := fun tQ kk => k2839 tQ (st2850.trans kk)
          clear k2839 st2850
          have eq2874 : (own_nv (FP.i2d p0) (FP.i2d p1) (FP.ddiv (FP.dsub (FP.i2d p1) (FP.i2d p0)) (FP.i2d (2 : Int32))) (2 : Int32)) = (FP.dsub (FP.i2d p1) (FP.dmul (FP.i2d (1 : Int32)) (FP.ddiv (FP.dsub (FP.i2d p1) (FP.i2d p0)) (FP.i2d (2 : Int32))))) := by rw [own_nv, if_pos (by decide), show (2 : Int32) - 1 = (1 : Int32) by decide]
          have F2875 : fd4 Z T2840.heap a873 (.double (FP.dsub (FP.i2d p1) (FP.dmul (FP.i2d (1 : Int32)) (FP.ddiv (FP.dsub (FP.i2d p1) (FP.i2d p0)) (FP.i2d (2 : Int32)))))) := by rw [← eq2874]; exact g2861
          have eq2876 : (own_nr (2 : Int32)) = (1 : Int32) := by decide
          have F2877 : fd7 Z T2840.heap a873 (.int (1 : Int32)) := by rw [← eq2876]; exact g2864
          have eq2878 : (own_nv (FP.i2d p0) (FP.i2d p1) (FP.ddiv (FP.dsub (FP.i2d p1) (FP.i2d p0)) (FP.i2d (2 : Int32))) (2 : Int32)) = (FP.dsub (FP.i2d p1) (FP.dmul (FP.i2d (1 : Int32)) (FP.ddiv (FP.dsub (FP.i2d p1) (FP.i2d p0)) (FP.i2d (2 : Int32))))) := by rw [own_nv, if_pos (by decide), show (2 : Int32) - 1 = (1 : Int32) by decide]
          rw [eq2878] at k2873
          have k2879 : own_G p e below E0 T2840 (mkF m 102 #[vi p0, vi p1, vi p2, vi p3, vi (2 : Int32), vi (2 : Int32), vi md, vd (FP.i2d p0), ss, vd (FP.i2d p1), ss, vr a873, vi (1 : Int32), vd (FP.dsub (FP.i2d p1) (FP.dmul (FP.i2d (1 : Int32)) (FP.ddiv (FP.dsub (FP.i2d p1) (FP.i2d p0)) (FP.i2d (2 : Int32))))), ss, uu, uu, uu, uu, uu, uu, uu, uu, uu] [(.int (1 : Int32)), (.int md), (.int (2 : Int32)), (.double (FP.i2d p1)), (.double (FP.i2d p0)), (.double (FP.dsub (FP.i2d p1) (FP.dmul (FP.i2d (1 : Int32)) (FP.ddiv (FP.dsub (FP.i2d p1) (FP.i2d p0)) (FP.i2d (2 : Int32))))))]) := by
            intro tQ kk
            refine k2873 tQ ?_
            refine XS.dstore X2844.here hx rfl (hb hby at_84) rfl (l' := #[vi p0, vi p1, vi p2, vi p3, vi (2 : Int32), vi (2 : Int32), vi md, vd (FP.i2d p0), ss, vd (FP.i2d p1), ss, vr a873, vi (1 : Int32), vd (FP.dsub (FP.i2d p1) (FP.dmul (FP.i2d (1 : Int32)) (FP.ddiv (FP.dsub (FP.i2d p1) (FP.i2d p0)) (FP.i2d (2 : Int32))))), ss, uu, uu, uu, uu, uu, uu, uu, uu, uu]) rfl ?_
            refine XS.iload X2844.here hx rfl (hb hby at_86) rfl ?_
            refine XS.ifNo X2844.here hx rfl (hb hby at_88) rfl (own_if_eqN (by decide)) ?_
            refine XS.dload X2844.here hx rfl (hb hby at_91) rfl ?_
            show Steps p.tables e below (T2840.setTop (mkF m 93 #[vi p0, vi p1, vi p2, vi p3, vi (2 : Int32), vi (2 : Int32), vi md, vd (FP.i2d p0), ss, vd (FP.i2d p1), ss, vr a873, vi (1 : Int32), vd (FP.dsub (FP.i2d p1) (FP.dmul (FP.i2d (1 : Int32)) (FP.ddiv (FP.dsub (FP.i2d p1) (FP.i2d p0)) (FP.i2d (2 : Int32))))), ss, uu, uu, uu, uu, uu, uu, uu, uu, uu] [(.double (FP.dsub (FP.i2d p1) (FP.dmul (FP.i2d (1 : Int32)) (FP.ddiv (FP.dsub (FP.i2d p1) (FP.i2d p0)) (FP.i2d (2 : Int32))))))])) tQ
            refine XS.dload X2844.here hx rfl (hb hby at_93) rfl ?_
            refine XS.dload X2844.here hx rfl (hb hby at_95) rfl ?_
            refine XS.iload X2844.here hx rfl (hb hby at_97) rfl ?_
            refine XS.iload X2844.here hx rfl (hb hby at_99) rfl ?_
            show Steps p.tables e below (T2840.setTop (mkF m 101 #[vi p0, vi p1, vi p2, vi p3, vi (2 : Int32), vi (2 : Int32), vi md, vd (FP.i2d p0), ss, vd (FP.i2d p1), ss, vr a873, vi (1 : Int32), vd (FP.dsub (FP.i2d p1) (FP.dmul (FP.i2d (1 : Int32)) (FP.ddiv (FP.dsub (FP.i2d p1) (FP.i2d p0)) (FP.i2d (2 : Int32))))), ss, uu, uu, uu, uu, uu, uu, uu, uu, uu] [(.int md), (.int (2 : Int32)), (.double (FP.i2d p1)), (.double (FP.i2d p0)), (.double (FP.dsub (FP.i2d p1) (FP.dmul (FP.i2d (1 : Int32)) (FP.ddiv (FP.dsub (FP.i2d p1) (FP.i2d p0)) (FP.i2d (2 : Int32))))))])) tQ
            refine XS.iconst X2844.here hx rfl (hb hby at_101) ?_
            exact kk
          clear k2873
          obtain ⟨_, _, ⟨T2880, L2881, kc2882, nc2883⟩, -, X2884, ⟨Lc2885, hQ2886, l2887, y2888, z2889⟩, st2890⟩ := Jvm.LawKit.callS X2844 hx (y := mn16) hown (mvT hZ (tw48 hw)) (mvT hZ (tw49 hw)) (mvT hZ (tw50 hw)) (mvT hZ (tw51 hw)) (by decide) (backOf (W := 2) (rmE l Z a0 hw [] (FP.i2d p0) (FP.i2d p1) (2 : Int32) md (1 : Int32) T2840.heap n0 Z2866 (Fl.i2d_fin p0).noNaN (Fl.i2d_fin p1).noNaN (own_h1 p0 p1) (own_h2 p0 p1 (F := (2 : Int32)) (by decide)) (own_q3 p0 p1 (F := (2 : Int32)) (r := (own_mx 0 ((2 : Int32) - (1 : Int32)))) (by decide) (own_mxb (by decide) (by decide)))) hZ (tw51 hw) (tw50 hw) (by decide) (by decide)) (g := (mkF m 102 #[vi p0, vi p1, vi p2, vi p3, vi (2 : Int32), vi (2 : Int32), vi md, vd (FP.i2d p0), ss, vd (FP.i2d p1), ss, vr a873, vi (1 : Int32), vd (FP.dsub (FP.i2d p1) (FP.dmul (FP.i2d (1 : Int32)) (FP.ddiv (FP.dsub (FP.i2d p1) (FP.i2d p0)) (FP.i2d (2 : Int32))))), ss, uu, uu, uu, uu, uu, uu, uu, uu, uu] [(.int (1 : Int32)), (.int md), (.int (2 : Int32)), (.double (FP.i2d p1)), (.double (FP.i2d p0)), (.double (FP.dsub (FP.i2d p1) (FP.dmul (FP.i2d (1 : Int32)) (FP.ddiv (FP.dsub (FP.i2d p1) (FP.i2d p0)) (FP.i2d (2 : Int32))))))])) rfl (by rw [hml]; rfl) (argsL := [(.double (FP.i2d p0)), (.double (FP.i2d p1)), (.int (2 : Int32)), (.int md), (.int (1 : Int32))]) (rest := [(.double (FP.dsub (FP.i2d p1) (FP.dmul (FP.i2d (1 : Int32)) (FP.ddiv (FP.dsub (FP.i2d p1) (FP.i2d p0)) (FP.i2d (2 : Int32))))))]) (lenOf pd_21 rfl) rfl (by show 2 * 0 + _ ≤ _; exact Nat.le_of_eq rfl) (hb hby at_102) (fun _ _ => ⟨rfl, rfl, (by decide : 1 + 0 ≤ _), (by decide : 5 + 0 ≤ _)⟩)
          dsimp only [Pt.U, Pt.locs, Pt.cells, Pt.slots] at X2884 l2887 y2888 z2889 st2890 hQ2886
          subst l2887 y2888 z2889
          obtain ⟨rfl, N2891, e2892⟩ := hQ2886
          have N2894 := Fr.app N2865 N2891
          have k2895 : own_G p e below E0 T2880 (mkF m 105 #[vi p0, vi p1, vi p2, vi p3, vi (2 : Int32), vi (2 : Int32), vi md, vd (FP.i2d p0), ss, vd (FP.i2d p1), ss, vr a873, vi (1 : Int32), vd (FP.dsub (FP.i2d p1) (FP.dmul (FP.i2d (1 : Int32)) (FP.ddiv (FP.dsub (FP.i2d p1) (FP.i2d p0)) (FP.i2d (2 : Int32))))), ss, uu, uu, uu, uu, uu, uu, uu, uu, uu] [(.double (own_exp (FP.i2d p0) (FP.i2d p1) (2 : Int32) md (1 : Int32))), (.double (FP.dsub (FP.i2d p1) (FP.dmul (FP.i2d (1 : Int32)) (FP.ddiv (FP.dsub (FP.i2d p1) (FP.i2d p0)) (FP.i2d (2 : Int32))))))]) := fun tQ kk => k2879 tQ (st2890 _ kk)
          clear k2879 st2890
          have k2896 : own_G p e below E0 T2880 (mkF m 118 #[vi p0, vi p1, vi p2, vi p3, vi (2 : Int32), vi (2 : Int32), vi md, vd (FP.i2d p0), ss, vd (FP.i2d p1), ss, vr a873, vi (1 : Int32), vd (FP.dsub (FP.i2d p1) (FP.dmul (FP.i2d (1 : Int32)) (FP.ddiv (FP.dsub (FP.i2d p1) (FP.i2d p0)) (FP.i2d (2 : Int32))))), ss, uu, uu, uu, uu, uu, uu, uu, uu, uu] [(.ref a873)]) := by
            intro tQ kk
            refine k2895 tQ ?_
            refine XS.dcmpS (v := (0 : Int32)) X2884.here hx rfl (hb hby at_105) rfl (own_eN cm1 cm2 cE (show own_mx 0 ((2 : Int32) - (1 : Int32)) = (1 : Int32) by decide) (by decide) (own_q3 p0 p1 (by decide) (by decide)).2) ?_
            refine XS.ifNo X2884.here hx rfl (hb hby at_106) rfl (own_if_neN (by decide)) ?_
            refine XS.iconst X2884.here hx rfl (hb hby at_109) ?_
            refine XS.goto X2884.here hx rfl (pc0 := 110) (pc' := 114) rfl (hb hby at_110) (by decide) (by decide) ?_
            show Steps p.tables e below (T2880.setTop (mkF m 114 #[vi p0, vi p1, vi p2, vi p3, vi (2 : Int32), vi (2 : Int32), vi md, vd (FP.i2d p0), ss, vd (FP.i2d p1), ss, vr a873, vi (1 : Int32), vd (FP.dsub (FP.i2d p1) (FP.dmul (FP.i2d (1 : Int32)) (FP.ddiv (FP.dsub (FP.i2d p1) (FP.i2d p0)) (FP.i2d (2 : Int32))))), ss, uu, uu, uu, uu, uu, uu, uu, uu, uu] [(.int (1 : Int32))])) tQ
            refine XS.istore X2884.here hx rfl (hb hby at_114) rfl (l' := #[vi p0, vi p1, vi p2, vi p3, vi (2 : Int32), vi (2 : Int32), vi md, vd (FP.i2d p0), ss, vd (FP.i2d p1), ss, vr a873, vi (1 : Int32), vd (FP.dsub (FP.i2d p1) (FP.dmul (FP.i2d (1 : Int32)) (FP.ddiv (FP.dsub (FP.i2d p1) (FP.i2d p0)) (FP.i2d (2 : Int32))))), ss, uu, uu, uu, uu, uu, uu, uu, uu, uu]) rfl ?_
            refine XS.aload X2884.here hx rfl (hb hby at_116) rfl rfl ?_
            exact kk
          clear k2895
          obtain ⟨cq2908, kq2909, qa2910, qb2911, qc2912⟩ := isOf hZ e2892 F2867
          obtain ⟨_, _, ⟨T2897, L2898, kc2899, nc2900⟩, -, X2901, ⟨Lc2902, hQ2903, l2904, y2905, z2906⟩, st2907⟩ := X2884.virtualBack hx (y := mn14) (z := mn14) hown (mvT hZ (tw52 hw)) (mvT hZ (tw53 hw)) (notFace_of_selects (args := #[]) (mvT hZ (tw55 hw))) (mvT hZ (tw55 hw)) (mvT hZ (tw54 hw)) (by decide) (backOf (W := 0) (rmMv l Z a0 hw [] a873 (1 : Int32) T2840.heap n0 Z2866 F2877) hZ (tw56 hw) (tw7 hw) (by decide) (by decide)) qa2910 qc2912 (g := (mkF m 118 #[vi p0, vi p1, vi p2, vi p3, vi (2 : Int32), vi (2 : Int32), vi md, vd (FP.i2d p0), ss, vd (FP.i2d p1), ss, vr a873, vi (1 : Int32), vd (FP.dsub (FP.i2d p1) (FP.dmul (FP.i2d (1 : Int32)) (FP.ddiv (FP.dsub (FP.i2d p1) (FP.i2d p0)) (FP.i2d (2 : Int32))))), ss, uu, uu, uu, uu, uu, uu, uu, uu, uu] [(.ref a873)])) rfl (by rw [hml]; rfl) (Steps.refl _) (argsL := []) (rest := []) (lenOf pd_22 rfl) rfl (by show 2 * 0 + _ ≤ _; exact Nat.le_of_eq rfl) (hb hby at_118) (fun _ _ => ⟨rfl, e2892, (by decide : 1 + 0 ≤ _), (by decide : 5 + 0 ≤ _)⟩)
          dsimp only [Pt.U, Pt.locs, Pt.cells, Pt.slots] at X2901 l2904 y2905 z2906 st2907 hQ2903
          subst l2904 y2905 z2906
          obtain ⟨rfl, N2913, e2914⟩ := hQ2903
          have N2916 := Fr.app N2894 N2913
          have k2917 : own_G p e below E0 T2897 (mkF m 121 #[vi p0, vi p1, vi p2, vi p3, vi (2 : Int32), vi (2 : Int32), vi md, vd (FP.i2d p0), ss, vd (FP.i2d p1), ss, vr a873, vi (1 : Int32), vd (FP.dsub (FP.i2d p1) (FP.dmul (FP.i2d (1 : Int32)) (FP.ddiv (FP.dsub (FP.i2d p1) (FP.i2d p0)) (FP.i2d (2 : Int32))))), ss, uu, uu, uu, uu, uu, uu, uu, uu, uu] [(.int (own_mv (1 : Int32)))]) := fun tQ kk => k2896 tQ (st2907.trans kk)
          clear k2896 st2907
          have eq2918 : (own_mv (1 : Int32)) = (1 : Int32) := by decide
          rw [eq2918] at k2917
          have k2919 : own_G p e below E0 T2897 (mkF m 167 #[vi p0, vi p1, vi p2, vi p3, vi (2 : Int32), vi (2 : Int32), vi md, vd (FP.i2d p0), ss, vd (FP.i2d p1), ss, vr a873, vi (1 : Int32), vd (FP.dsub (FP.i2d p1) (FP.dmul (FP.i2d (1 : Int32)) (FP.ddiv (FP.dsub (FP.i2d p1) (FP.i2d p0)) (FP.i2d (2 : Int32))))), ss, vi (1 : Int32), uu, uu, uu, uu, uu, uu, uu, uu] [(.ref a873)]) := by
            intro tQ kk
            refine k2917 tQ ?_
            refine XS.istore X2901.here hx rfl (hb hby at_121) rfl (l' := #[vi p0, vi p1, vi p2, vi p3, vi (2 : Int32), vi (2 : Int32), vi md, vd (FP.i2d p0), ss, vd (FP.i2d p1), ss, vr a873, vi (1 : Int32), vd (FP.dsub (FP.i2d p1) (FP.dmul (FP.i2d (1 : Int32)) (FP.ddiv (FP.dsub (FP.i2d p1) (FP.i2d p0)) (FP.i2d (2 : Int32))))), ss, vi (1 : Int32), uu, uu, uu, uu, uu, uu, uu, uu]) rfl ?_
            refine XS.iload X2901.here hx rfl (hb hby at_123) rfl ?_
            refine XS.ifNo X2901.here hx rfl (hb hby at_125) rfl (own_if_eqN (by decide)) ?_
            refine XS.iload X2901.here hx rfl (hb hby at_128) rfl ?_
            show Steps p.tables e below (T2897.setTop (mkF m 130 #[vi p0, vi p1, vi p2, vi p3, vi (2 : Int32), vi (2 : Int32), vi md, vd (FP.i2d p0), ss, vd (FP.i2d p1), ss, vr a873, vi (1 : Int32), vd (FP.dsub (FP.i2d p1) (FP.dmul (FP.i2d (1 : Int32)) (FP.ddiv (FP.dsub (FP.i2d p1) (FP.i2d p0)) (FP.i2d (2 : Int32))))), ss, vi (1 : Int32), uu, uu, uu, uu, uu, uu, uu, uu] [(.int (1 : Int32))])) tQ
            refine XS.iload X2901.here hx rfl (hb hby at_130) rfl ?_
            refine XS.iconst X2901.here hx rfl (hb hby at_132) ?_
            refine XS.icmpNo X2901.here hx rfl (hb hby at_133) rfl (own_ic_ltN cm2) ?_
            refine XS.dload X2901.here hx rfl (hb hby at_136) rfl ?_
            show Steps p.tables e below (T2897.setTop (mkF m 138 #[vi p0, vi p1, vi p2, vi p3, vi (2 : Int32), vi (2 : Int32), vi md, vd (FP.i2d p0), ss, vd (FP.i2d p1), ss, vr a873, vi (1 : Int32), vd (FP.dsub (FP.i2d p1) (FP.dmul (FP.i2d (1 : Int32)) (FP.ddiv (FP.dsub (FP.i2d p1) (FP.i2d p0)) (FP.i2d (2 : Int32))))), ss, vi (1 : Int32), uu, uu, uu, uu, uu, uu, uu, uu] [(.double (FP.i2d p1)), (.int (1 : Int32))])) tQ
            refine XS.dload X2901.here hx rfl (hb hby at_138) rfl ?_
            refine XS.dcmpS (v := (own_c (own_z (FP.i2d p1)) (own_z (FP.i2d p0)))) X2901.here hx rfl (hb hby at_140) rfl (own_cE .l (own_cmpz (Fl.i2d_fin p1).noNaN (Fl.i2d_fin p0).noNaN)) ?_
            refine XS.ifNo X2901.here hx rfl (hb hby at_141) rfl (own_c_eqN cE) ?_
            refine XS.iload X2901.here hx rfl (hb hby at_144) rfl ?_
            show Steps p.tables e below (T2897.setTop (mkF m 146 #[vi p0, vi p1, vi p2, vi p3, vi (2 : Int32), vi (2 : Int32), vi md, vd (FP.i2d p0), ss, vd (FP.i2d p1), ss, vr a873, vi (1 : Int32), vd (FP.dsub (FP.i2d p1) (FP.dmul (FP.i2d (1 : Int32)) (FP.ddiv (FP.dsub (FP.i2d p1) (FP.i2d p0)) (FP.i2d (2 : Int32))))), ss, vi (1 : Int32), uu, uu, uu, uu, uu, uu, uu, uu] [(.int (2 : Int32)), (.int (1 : Int32))])) tQ
            refine XS.iconst X2901.here hx rfl (hb hby at_146) ?_
            refine XS.icmpNo X2901.here hx rfl (hb hby at_147) rfl (own_ic_leN (by decide)) ?_
            refine XS.iconst X2901.here hx rfl (hb hby at_150) ?_
            refine XS.goto X2901.here hx rfl (pc0 := 151) (pc' := 155) rfl (hb hby at_151) (by decide) (by decide) ?_
            show Steps p.tables e below (T2897.setTop (mkF m 155 #[vi p0, vi p1, vi p2, vi p3, vi (2 : Int32), vi (2 : Int32), vi md, vd (FP.i2d p0), ss, vd (FP.i2d p1), ss, vr a873, vi (1 : Int32), vd (FP.dsub (FP.i2d p1) (FP.dmul (FP.i2d (1 : Int32)) (FP.ddiv (FP.dsub (FP.i2d p1) (FP.i2d p0)) (FP.i2d (2 : Int32))))), ss, vi (1 : Int32), uu, uu, uu, uu, uu, uu, uu, uu] [(.int (1 : Int32)), (.int (1 : Int32))])) tQ
            refine XS.icmpNo X2901.here hx rfl (hb hby at_155) rfl (own_ic_neN (by decide)) ?_
            refine XS.iconst X2901.here hx rfl (hb hby at_158) ?_
            refine XS.goto X2901.here hx rfl (pc0 := 159) (pc' := 163) rfl (hb hby at_159) (by decide) (by decide) ?_
            refine XS.istore X2901.here hx rfl (hb hby at_163) rfl (l' := #[vi p0, vi p1, vi p2, vi p3, vi (2 : Int32), vi (2 : Int32), vi md, vd (FP.i2d p0), ss, vd (FP.i2d p1), ss, vr a873, vi (1 : Int32), vd (FP.dsub (FP.i2d p1) (FP.dmul (FP.i2d (1 : Int32)) (FP.ddiv (FP.dsub (FP.i2d p1) (FP.i2d p0)) (FP.i2d (2 : Int32))))), ss, vi (1 : Int32), uu, uu, uu, uu, uu, uu, uu, uu]) rfl ?_
            show Steps p.tables e below (T2897.setTop (mkF m 165 #[vi p0, vi p1, vi p2, vi p3, vi (2 : Int32), vi (2 : Int32), vi md, vd (FP.i2d p0), ss, vd (FP.i2d p1), ss, vr a873, vi (1 : Int32), vd (FP.dsub (FP.i2d p1) (FP.dmul (FP.i2d (1 : Int32)) (FP.ddiv (FP.dsub (FP.i2d p1) (FP.i2d p0)) (FP.i2d (2 : Int32))))), ss, vi (1 : Int32), uu, uu, uu, uu, uu, uu, uu, uu] [])) tQ
            refine XS.aload X2901.here hx rfl (hb hby at_165) rfl rfl ?_
            exact kk
          clear k2917
          obtain ⟨cq2931, kq2932, qa2933, qb2934, qc2935⟩ := isOf hZ e2914 F2867
          obtain ⟨_, _, ⟨T2920, L2921, kc2922, nc2923⟩, -, X2924, ⟨Lc2925, hQ2926, l2927, y2928, z2929⟩, st2930⟩ := X2901.virtualBack hx (y := mn13) (z := mn13) hown (mvT hZ (tw43 hw)) (mvT hZ (tw44 hw)) (notFace_of_selects (args := #[]) (mvT hZ (tw46 hw))) (mvT hZ (tw46 hw)) (mvT hZ (tw45 hw)) (by decide) (backOf (W := 0) (rmN l Z a0 hw [] a873 (2 : Int32) (FP.dsub (FP.i2d p1) (FP.dmul (FP.i2d (1 : Int32)) (FP.ddiv (FP.dsub (FP.i2d p1) (FP.i2d p0)) (FP.i2d (2 : Int32))))) (FP.i2d p1) (FP.ddiv (FP.dsub (FP.i2d p1) (FP.i2d p0)) (FP.i2d (2 : Int32))) (1 : Int32) T2840.heap n0 Z2866 F2867 g2860 F2875 g2862 g2863 F2877 ge875 (fun _ => own_q3 p0 p1 (F := (2 : Int32)) (r := ((1 : Int32) - 1)) (by decide) (by decide))) hZ (tw47 hw) (tw7 hw) (by decide) (by decide)) qa2933 qc2935 (g := (mkF m 167 #[vi p0, vi p1, vi p2, vi p3, vi (2 : Int32), vi (2 : Int32), vi md, vd (FP.i2d p0), ss, vd (FP.i2d p1), ss, vr a873, vi (1 : Int32), vd (FP.dsub (FP.i2d p1) (FP.dmul (FP.i2d (1 : Int32)) (FP.ddiv (FP.dsub (FP.i2d p1) (FP.i2d p0)) (FP.i2d (2 : Int32))))), ss, vi (1 : Int32), uu, uu, uu, uu, uu, uu, uu, uu] [(.ref a873)])) rfl (by rw [hml]; rfl) (Steps.refl _) (argsL := []) (rest := []) (lenOf pd_20 rfl) rfl (by show 2 * 0 + _ ≤ _; exact Nat.le_of_eq rfl) (hb hby at_167) (fun _ _ => ⟨rfl, e2914, (by decide : 1 + 0 ≤ _), (by decide : 5 + 0 ≤ _)⟩)
          dsimp only [Pt.U, Pt.locs, Pt.cells, Pt.slots] at X2924 l2927 y2928 z2929 st2930 hQ2926
          subst l2927 y2928 z2929
          obtain ⟨rfl, N2936, K2939, g2940, g2941, g2942, g2943, g2944⟩ := hQ2926
          have N2945 := Fr.app N2916 N2936
          have Z2946 : n0 ≤ T2920.heap.size := Nat.le_trans Z2866 K2939.1
          have F2947 : xa8 Z T2920.heap a873 := F2867.keep K2939
          clear F2867
          clear g2860
          clear F2875
          clear g2862
          clear g2863
          clear F2877
          have k2953 : own_G p e below E0 T2920 (mkF m 170 #[vi p0, vi p1, vi p2, vi p3, vi (2 : Int32), vi (2 : Int32), vi md, vd (FP.i2d p0), ss, vd (FP.i2d p1), ss, vr a873, vi (1 : Int32), vd (FP.dsub (FP.i2d p1) (FP.dmul (FP.i2d (1 : Int32)) (FP.ddiv (FP.dsub (FP.i2d p1) (FP.i2d p0)) (FP.i2d (2 : Int32))))), ss, vi (1 : Int32), uu, uu, uu, uu, uu, uu, uu, uu] [(.double (own_nv (FP.dsub (FP.i2d p1) (FP.dmul (FP.i2d (1 : Int32)) (FP.ddiv (FP.dsub (FP.i2d p1) (FP.i2d p0)) (FP.i2d (2 : Int32))))) (FP.i2d p1) (FP.ddiv (FP.dsub (FP.i2d p1) (FP.i2d p0)) (FP.i2d (2 : Int32))) (1 : Int32)))]) := fun tQ kk => k2919 tQ (st2930.trans kk)
          clear k2919 st2930
          have eq2954 : (own_nv (FP.dsub (FP.i2d p1) (FP.dmul (FP.i2d (1 : Int32)) (FP.ddiv (FP.dsub (FP.i2d p1) (FP.i2d p0)) (FP.i2d (2 : Int32))))) (FP.i2d p1) (FP.ddiv (FP.dsub (FP.i2d p1) (FP.i2d p0)) (FP.i2d (2 : Int32))) (1 : Int32)) = (FP.dsub (FP.i2d p1) (FP.dmul (FP.i2d (0 : Int32)) (FP.ddiv (FP.dsub (FP.i2d p1) (FP.i2d p0)) (FP.i2d (2 : Int32))))) := by rw [own_nv, if_pos (by decide), show (1 : Int32) - 1 = (0 : Int32) by decide]
          have F2955 : fd4 Z T2920.heap a873 (.double (FP.dsub (FP.i2d p1) (FP.dmul (FP.i2d (0 : Int32)) (FP.ddiv (FP.dsub (FP.i2d p1) (FP.i2d p0)) (FP.i2d (2 : Int32)))))) := by rw [← eq2954]; exact g2941
          have eq2956 : (own_nr (1 : Int32)) = (0 : Int32) := by decide
          have F2957 : fd7 Z T2920.heap a873 (.int (0 : Int32)) := by rw [← eq2956]; exact g2944
          have eq2958 : (own_nv (FP.dsub (FP.i2d p1) (FP.dmul (FP.i2d (1 : Int32)) (FP.ddiv (FP.dsub (FP.i2d p1) (FP.i2d p0)) (FP.i2d (2 : Int32))))) (FP.i2d p1) (FP.ddiv (FP.dsub (FP.i2d p1) (FP.i2d p0)) (FP.i2d (2 : Int32))) (1 : Int32)) = (FP.dsub (FP.i2d p1) (FP.dmul (FP.i2d (0 : Int32)) (FP.ddiv (FP.dsub (FP.i2d p1) (FP.i2d p0)) (FP.i2d (2 : Int32))))) := by rw [own_nv, if_pos (by decide), show (1 : Int32) - 1 = (0 : Int32) by decide]
          rw [eq2958] at k2953
          have k2959 : own_G p e below E0 T2920 (mkF m 188 #[vi p0, vi p1, vi p2, vi p3, vi (2 : Int32), vi (2 : Int32), vi md, vd (FP.i2d p0), ss, vd (FP.i2d p1), ss, vr a873, vi (1 : Int32), vd (FP.dsub (FP.i2d p1) (FP.dmul (FP.i2d (1 : Int32)) (FP.ddiv (FP.dsub (FP.i2d p1) (FP.i2d p0)) (FP.i2d (2 : Int32))))), ss, vi (1 : Int32), vd (FP.dsub (FP.i2d p1) (FP.dmul (FP.i2d (0 : Int32)) (FP.ddiv (FP.dsub (FP.i2d p1) (FP.i2d p0)) (FP.i2d (2 : Int32))))), ss, uu, uu, uu, uu, uu, uu] [(.int (2 : Int32)), (.int md), (.int (2 : Int32)), (.double (FP.i2d p1)), (.double (FP.i2d p0)), (.double (FP.dsub (FP.i2d p1) (FP.dmul (FP.i2d (0 : Int32)) (FP.ddiv (FP.dsub (FP.i2d p1) (FP.i2d p0)) (FP.i2d (2 : Int32))))))]) := by
            intro tQ kk
            refine k2953 tQ ?_
            refine XS.dstore X2924.here hx rfl (hb hby at_170) rfl (l' := #[vi p0, vi p1, vi p2, vi p3, vi (2 : Int32), vi (2 : Int32), vi md, vd (FP.i2d p0), ss, vd (FP.i2d p1), ss, vr a873, vi (1 : Int32), vd (FP.dsub (FP.i2d p1) (FP.dmul (FP.i2d (1 : Int32)) (FP.ddiv (FP.dsub (FP.i2d p1) (FP.i2d p0)) (FP.i2d (2 : Int32))))), ss, vi (1 : Int32), vd (FP.dsub (FP.i2d p1) (FP.dmul (FP.i2d (0 : Int32)) (FP.ddiv (FP.dsub (FP.i2d p1) (FP.i2d p0)) (FP.i2d (2 : Int32))))), ss, uu, uu, uu, uu, uu, uu]) rfl ?_
            refine XS.iload X2924.here hx rfl (hb hby at_172) rfl ?_
            refine XS.ifNo X2924.here hx rfl (hb hby at_174) rfl (own_if_eqN (by decide)) ?_
            refine XS.dload X2924.here hx rfl (hb hby at_177) rfl ?_
            show Steps p.tables e below (T2920.setTop (mkF m 179 #[vi p0, vi p1, vi p2, vi p3, vi (2 : Int32), vi (2 : Int32), vi md, vd (FP.i2d p0), ss, vd (FP.i2d p1), ss, vr a873, vi (1 : Int32), vd (FP.dsub (FP.i2d p1) (FP.dmul (FP.i2d (1 : Int32)) (FP.ddiv (FP.dsub (FP.i2d p1) (FP.i2d p0)) (FP.i2d (2 : Int32))))), ss, vi (1 : Int32), vd (FP.dsub (FP.i2d p1) (FP.dmul (FP.i2d (0 : Int32)) (FP.ddiv (FP.dsub (FP.i2d p1) (FP.i2d p0)) (FP.i2d (2 : Int32))))), ss, uu, uu, uu, uu, uu, uu] [(.double (FP.dsub (FP.i2d p1) (FP.dmul (FP.i2d (0 : Int32)) (FP.ddiv (FP.dsub (FP.i2d p1) (FP.i2d p0)) (FP.i2d (2 : Int32))))))])) tQ
            refine XS.dload X2924.here hx rfl (hb hby at_179) rfl ?_
            refine XS.dload X2924.here hx rfl (hb hby at_181) rfl ?_
            refine XS.iload X2924.here hx rfl (hb hby at_183) rfl ?_
            refine XS.iload X2924.here hx rfl (hb hby at_185) rfl ?_
            show Steps p.tables e below (T2920.setTop (mkF m 187 #[vi p0, vi p1, vi p2, vi p3, vi (2 : Int32), vi (2 : Int32), vi md, vd (FP.i2d p0), ss, vd (FP.i2d p1), ss, vr a873, vi (1 : Int32), vd (FP.dsub (FP.i2d p1) (FP.dmul (FP.i2d (1 : Int32)) (FP.ddiv (FP.dsub (FP.i2d p1) (FP.i2d p0)) (FP.i2d (2 : Int32))))), ss, vi (1 : Int32), vd (FP.dsub (FP.i2d p1) (FP.dmul (FP.i2d (0 : Int32)) (FP.ddiv (FP.dsub (FP.i2d p1) (FP.i2d p0)) (FP.i2d (2 : Int32))))), ss, uu, uu, uu, uu, uu, uu] [(.int md), (.int (2 : Int32)), (.double (FP.i2d p1)), (.double (FP.i2d p0)), (.double (FP.dsub (FP.i2d p1) (FP.dmul (FP.i2d (0 : Int32)) (FP.ddiv (FP.dsub (FP.i2d p1) (FP.i2d p0)) (FP.i2d (2 : Int32))))))])) tQ
            refine XS.iconst X2924.here hx rfl (hb hby at_187) ?_
            exact kk
          clear k2953
          obtain ⟨_, _, ⟨T2960, L2961, kc2962, nc2963⟩, -, X2964, ⟨Lc2965, hQ2966, l2967, y2968, z2969⟩, st2970⟩ := Jvm.LawKit.callS X2924 hx (y := mn16) hown (mvT hZ (tw48 hw)) (mvT hZ (tw49 hw)) (mvT hZ (tw50 hw)) (mvT hZ (tw51 hw)) (by decide) (backOf (W := 2) (rmE l Z a0 hw [] (FP.i2d p0) (FP.i2d p1) (2 : Int32) md (2 : Int32) T2920.heap n0 Z2946 (Fl.i2d_fin p0).noNaN (Fl.i2d_fin p1).noNaN (own_h1 p0 p1) (own_h2 p0 p1 (F := (2 : Int32)) (by decide)) (own_q3 p0 p1 (F := (2 : Int32)) (r := (own_mx 0 ((2 : Int32) - (2 : Int32)))) (by decide) (own_mxb (by decide) (by decide)))) hZ (tw51 hw) (tw50 hw) (by decide) (by decide)) (g := (mkF m 188 #[vi p0, vi p1, vi p2, vi p3, vi (2 : Int32), vi (2 : Int32), vi md, vd (FP.i2d p0), ss, vd (FP.i2d p1), ss, vr a873, vi (1 : Int32), vd (FP.dsub (FP.i2d p1) (FP.dmul (FP.i2d (1 : Int32)) (FP.ddiv (FP.dsub (FP.i2d p1) (FP.i2d p0)) (FP.i2d (2 : Int32))))), ss, vi (1 : Int32), vd (FP.dsub (FP.i2d p1) (FP.dmul (FP.i2d (0 : Int32)) (FP.ddiv (FP.dsub (FP.i2d p1) (FP.i2d p0)) (FP.i2d (2 : Int32))))), ss, uu, uu, uu, uu, uu, uu] [(.int (2 : Int32)), (.int md), (.int (2 : Int32)), (.double (FP.i2d p1)), (.double (FP.i2d p0)), (.double (FP.dsub (FP.i2d p1) (FP.dmul (FP.i2d (0 : Int32)) (FP.ddiv (FP.dsub (FP.i2d p1) (FP.i2d p0)) (FP.i2d (2 : Int32))))))])) rfl (by rw [hml]; rfl) (argsL := [(.double (FP.i2d p0)), (.double (FP.i2d p1)), (.int (2 : Int32)), (.int md), (.int (2 : Int32))]) (rest := [(.double (FP.dsub (FP.i2d p1) (FP.dmul (FP.i2d (0 : Int32)) (FP.ddiv (FP.dsub (FP.i2d p1) (FP.i2d p0)) (FP.i2d (2 : Int32))))))]) (lenOf pd_21 rfl) rfl (by show 2 * 0 + _ ≤ _; exact Nat.le_of_eq rfl) (hb hby at_188) (fun _ _ => ⟨rfl, rfl, (by decide : 1 + 0 ≤ _), (by decide : 5 + 0 ≤ _)⟩)
          dsimp only [Pt.U, Pt.locs, Pt.cells, Pt.slots] at X2964 l2967 y2968 z2969 st2970 hQ2966
          subst l2967 y2968 z2969
          obtain ⟨rfl, N2971, e2972⟩ := hQ2966
          have N2974 := Fr.app N2945 N2971
          have k2975 : own_G p e below E0 T2960 (mkF m 191 #[vi p0, vi p1, vi p2, vi p3, vi (2 : Int32), vi (2 : Int32), vi md, vd (FP.i2d p0), ss, vd (FP.i2d p1), ss, vr a873, vi (1 : Int32), vd (FP.dsub (FP.i2d p1) (FP.dmul (FP.i2d (1 : Int32)) (FP.ddiv (FP.dsub (FP.i2d p1) (FP.i2d p0)) (FP.i2d (2 : Int32))))), ss, vi (1 : Int32), vd (FP.dsub (FP.i2d p1) (FP.dmul (FP.i2d (0 : Int32)) (FP.ddiv (FP.dsub (FP.i2d p1) (FP.i2d p0)) (FP.i2d (2 : Int32))))), ss, uu, uu, uu, uu, uu, uu] [(.double (own_exp (FP.i2d p0) (FP.i2d p1) (2 : Int32) md (2 : Int32))), (.double (FP.dsub (FP.i2d p1) (FP.dmul (FP.i2d (0 : Int32)) (FP.ddiv (FP.dsub (FP.i2d p1) (FP.i2d p0)) (FP.i2d (2 : Int32))))))]) := fun tQ kk => k2959 tQ (st2970 _ kk)
          clear k2959 st2970
          have k2976 : own_G p e below E0 T2960 (mkF m 204 #[vi p0, vi p1, vi p2, vi p3, vi (2 : Int32), vi (2 : Int32), vi md, vd (FP.i2d p0), ss, vd (FP.i2d p1), ss, vr a873, vi (1 : Int32), vd (FP.dsub (FP.i2d p1) (FP.dmul (FP.i2d (1 : Int32)) (FP.ddiv (FP.dsub (FP.i2d p1) (FP.i2d p0)) (FP.i2d (2 : Int32))))), ss, vi (1 : Int32), vd (FP.dsub (FP.i2d p1) (FP.dmul (FP.i2d (0 : Int32)) (FP.ddiv (FP.dsub (FP.i2d p1) (FP.i2d p0)) (FP.i2d (2 : Int32))))), ss, uu, uu, uu, uu, uu, uu] [(.ref a873)]) := by
            intro tQ kk
            refine k2975 tQ ?_
            refine XS.dcmpS (v := (0 : Int32)) X2964.here hx rfl (hb hby at_191) rfl (own_eZ p0 p1 cm1 cm2 cE (show own_mx 0 ((2 : Int32) - (2 : Int32)) = 0 by decide) (by decide)) ?_
            refine XS.ifNo X2964.here hx rfl (hb hby at_192) rfl (own_if_neN (by decide)) ?_
            refine XS.iconst X2964.here hx rfl (hb hby at_195) ?_
            refine XS.goto X2964.here hx rfl (pc0 := 196) (pc' := 200) rfl (hb hby at_196) (by decide) (by decide) ?_
            show Steps p.tables e below (T2960.setTop (mkF m 200 #[vi p0, vi p1, vi p2, vi p3, vi (2 : Int32), vi (2 : Int32), vi md, vd (FP.i2d p0), ss, vd (FP.i2d p1), ss, vr a873, vi (1 : Int32), vd (FP.dsub (FP.i2d p1) (FP.dmul (FP.i2d (1 : Int32)) (FP.ddiv (FP.dsub (FP.i2d p1) (FP.i2d p0)) (FP.i2d (2 : Int32))))), ss, vi (1 : Int32), vd (FP.dsub (FP.i2d p1) (FP.dmul (FP.i2d (0 : Int32)) (FP.ddiv (FP.dsub (FP.i2d p1) (FP.i2d p0)) (FP.i2d (2 : Int32))))), ss, uu, uu, uu, uu, uu, uu] [(.int (1 : Int32))])) tQ
            refine XS.istore X2964.here hx rfl (hb hby at_200) rfl (l' := #[vi p0, vi p1, vi p2, vi p3, vi (2 : Int32), vi (2 : Int32), vi md, vd (FP.i2d p0), ss, vd (FP.i2d p1), ss, vr a873, vi (1 : Int32), vd (FP.dsub (FP.i2d p1) (FP.dmul (FP.i2d (1 : Int32)) (FP.ddiv (FP.dsub (FP.i2d p1) (FP.i2d p0)) (FP.i2d (2 : Int32))))), ss, vi (1 : Int32), vd (FP.dsub (FP.i2d p1) (FP.dmul (FP.i2d (0 : Int32)) (FP.ddiv (FP.dsub (FP.i2d p1) (FP.i2d p0)) (FP.i2d (2 : Int32))))), ss, uu, uu, uu, uu, uu, uu]) rfl ?_
            refine XS.aload X2964.here hx rfl (hb hby at_202) rfl rfl ?_
            exact kk
          clear k2975
          obtain ⟨cq2988, kq2989, qa2990, qb2991, qc2992⟩ := isOf hZ e2972 F2947
          obtain ⟨_, _, ⟨T2977, L2978, kc2979, nc2980⟩, -, X2981, ⟨Lc2982, hQ2983, l2984, y2985, z2986⟩, st2987⟩ := X2964.virtualBack hx (y := mn13) (z := mn13) hown (mvT hZ (tw43 hw)) (mvT hZ (tw44 hw)) (notFace_of_selects (args := #[]) (mvT hZ (tw46 hw))) (mvT hZ (tw46 hw)) (mvT hZ (tw45 hw)) (by decide) (backOf (W := 0) (rmN l Z a0 hw [] a873 (2 : Int32) (FP.dsub (FP.i2d p1) (FP.dmul (FP.i2d (0 : Int32)) (FP.ddiv (FP.dsub (FP.i2d p1) (FP.i2d p0)) (FP.i2d (2 : Int32))))) (FP.i2d p1) (FP.ddiv (FP.dsub (FP.i2d p1) (FP.i2d p0)) (FP.i2d (2 : Int32))) (0 : Int32) T2920.heap n0 Z2946 F2947 g2940 F2955 g2942 g2943 F2957 ge875 (fun z => absurd z (by decide))) hZ (tw47 hw) (tw7 hw) (by decide) (by decide)) qa2990 qc2992 (g := (mkF m 204 #[vi p0, vi p1, vi p2, vi p3, vi (2 : Int32), vi (2 : Int32), vi md, vd (FP.i2d p0), ss, vd (FP.i2d p1), ss, vr a873, vi (1 : Int32), vd (FP.dsub (FP.i2d p1) (FP.dmul (FP.i2d (1 : Int32)) (FP.ddiv (FP.dsub (FP.i2d p1) (FP.i2d p0)) (FP.i2d (2 : Int32))))), ss, vi (1 : Int32), vd (FP.dsub (FP.i2d p1) (FP.dmul (FP.i2d (0 : Int32)) (FP.ddiv (FP.dsub (FP.i2d p1) (FP.i2d p0)) (FP.i2d (2 : Int32))))), ss, uu, uu, uu, uu, uu, uu] [(.ref a873)])) rfl (by rw [hml]; rfl) (Steps.refl _) (argsL := []) (rest := []) (lenOf pd_20 rfl) rfl (by show 2 * 0 + _ ≤ _; exact Nat.le_of_eq rfl) (hb hby at_204) (fun _ _ => ⟨rfl, e2972, (by decide : 1 + 0 ≤ _), (by decide : 5 + 0 ≤ _)⟩)
          dsimp only [Pt.U, Pt.locs, Pt.cells, Pt.slots] at X2981 l2984 y2985 z2986 st2987 hQ2983
          subst l2984 y2985 z2986
          obtain ⟨rfl, N2993, K2996, g2997, g2998, g2999, g3000, g3001⟩ := hQ2983
          have N3002 := Fr.app N2974 N2993
          have Z3003 : n0 ≤ T2977.heap.size := Nat.le_trans Z2946 K2996.1
          have F3004 : xa8 Z T2977.heap a873 := F2947.keep K2996
          clear F2947
          clear g2940
          clear F2955
          clear g2942
          clear g2943
          clear F2957
          have k3010 : own_G p e below E0 T2977 (mkF m 207 #[vi p0, vi p1, vi p2, vi p3, vi (2 : Int32), vi (2 : Int32), vi md, vd (FP.i2d p0), ss, vd (FP.i2d p1), ss, vr a873, vi (1 : Int32), vd (FP.dsub (FP.i2d p1) (FP.dmul (FP.i2d (1 : Int32)) (FP.ddiv (FP.dsub (FP.i2d p1) (FP.i2d p0)) (FP.i2d (2 : Int32))))), ss, vi (1 : Int32), vd (FP.dsub (FP.i2d p1) (FP.dmul (FP.i2d (0 : Int32)) (FP.ddiv (FP.dsub (FP.i2d p1) (FP.i2d p0)) (FP.i2d (2 : Int32))))), ss, uu, uu, uu, uu, uu, uu] [(.double (own_nv (FP.dsub (FP.i2d p1) (FP.dmul (FP.i2d (0 : Int32)) (FP.ddiv (FP.dsub (FP.i2d p1) (FP.i2d p0)) (FP.i2d (2 : Int32))))) (FP.i2d p1) (FP.ddiv (FP.dsub (FP.i2d p1) (FP.i2d p0)) (FP.i2d (2 : Int32))) (0 : Int32)))]) := fun tQ kk => k2976 tQ (st2987.trans kk)
          clear k2976 st2987
          have eq3011 : (own_nv (FP.dsub (FP.i2d p1) (FP.dmul (FP.i2d (0 : Int32)) (FP.ddiv (FP.dsub (FP.i2d p1) (FP.i2d p0)) (FP.i2d (2 : Int32))))) (FP.i2d p1) (FP.ddiv (FP.dsub (FP.i2d p1) (FP.i2d p0)) (FP.i2d (2 : Int32))) (0 : Int32)) = (FP.dsub (FP.i2d p1) (FP.dmul (FP.i2d (0 : Int32)) (FP.ddiv (FP.dsub (FP.i2d p1) (FP.i2d p0)) (FP.i2d (2 : Int32))))) := by rw [own_nv, if_neg (by decide)]
          have F3012 : fd4 Z T2977.heap a873 (.double (FP.dsub (FP.i2d p1) (FP.dmul (FP.i2d (0 : Int32)) (FP.ddiv (FP.dsub (FP.i2d p1) (FP.i2d p0)) (FP.i2d (2 : Int32)))))) := by rw [← eq3011]; exact g2998
          have eq3013 : (own_nr (0 : Int32)) = (0 : Int32) := by decide
          have F3014 : fd7 Z T2977.heap a873 (.int (0 : Int32)) := by rw [← eq3013]; exact g3001
          have eq3015 : (own_nv (FP.dsub (FP.i2d p1) (FP.dmul (FP.i2d (0 : Int32)) (FP.ddiv (FP.dsub (FP.i2d p1) (FP.i2d p0)) (FP.i2d (2 : Int32))))) (FP.i2d p1) (FP.ddiv (FP.dsub (FP.i2d p1) (FP.i2d p0)) (FP.i2d (2 : Int32))) (0 : Int32)) = (FP.dsub (FP.i2d p1) (FP.dmul (FP.i2d (0 : Int32)) (FP.ddiv (FP.dsub (FP.i2d p1) (FP.i2d p0)) (FP.i2d (2 : Int32))))) := by rw [own_nv, if_neg (by decide)]
          rw [eq3015] at k3010
          have k3016 : own_G p e below E0 T2977 (mkF m 225 #[vi p0, vi p1, vi p2, vi p3, vi (2 : Int32), vi (2 : Int32), vi md, vd (FP.i2d p0), ss, vd (FP.i2d p1), ss, vr a873, vi (1 : Int32), vd (FP.dsub (FP.i2d p1) (FP.dmul (FP.i2d (1 : Int32)) (FP.ddiv (FP.dsub (FP.i2d p1) (FP.i2d p0)) (FP.i2d (2 : Int32))))), ss, vi (1 : Int32), vd (FP.dsub (FP.i2d p1) (FP.dmul (FP.i2d (0 : Int32)) (FP.ddiv (FP.dsub (FP.i2d p1) (FP.i2d p0)) (FP.i2d (2 : Int32))))), ss, vd (FP.dsub (FP.i2d p1) (FP.dmul (FP.i2d (0 : Int32)) (FP.ddiv (FP.dsub (FP.i2d p1) (FP.i2d p0)) (FP.i2d (2 : Int32))))), ss, uu, uu, uu, uu] [(.int (3 : Int32)), (.int md), (.int (2 : Int32)), (.double (FP.i2d p1)), (.double (FP.i2d p0)), (.double (FP.dsub (FP.i2d p1) (FP.dmul (FP.i2d (0 : Int32)) (FP.ddiv (FP.dsub (FP.i2d p1) (FP.i2d p0)) (FP.i2d (2 : Int32))))))]) := by
            intro tQ kk
            refine k3010 tQ ?_
            refine XS.dstore X2981.here hx rfl (hb hby at_207) rfl (l' := #[vi p0, vi p1, vi p2, vi p3, vi (2 : Int32), vi (2 : Int32), vi md, vd (FP.i2d p0), ss, vd (FP.i2d p1), ss, vr a873, vi (1 : Int32), vd (FP.dsub (FP.i2d p1) (FP.dmul (FP.i2d (1 : Int32)) (FP.ddiv (FP.dsub (FP.i2d p1) (FP.i2d p0)) (FP.i2d (2 : Int32))))), ss, vi (1 : Int32), vd (FP.dsub (FP.i2d p1) (FP.dmul (FP.i2d (0 : Int32)) (FP.ddiv (FP.dsub (FP.i2d p1) (FP.i2d p0)) (FP.i2d (2 : Int32))))), ss, vd (FP.dsub (FP.i2d p1) (FP.dmul (FP.i2d (0 : Int32)) (FP.ddiv (FP.dsub (FP.i2d p1) (FP.i2d p0)) (FP.i2d (2 : Int32))))), ss, uu, uu, uu, uu]) rfl ?_
            refine XS.iload X2981.here hx rfl (hb hby at_209) rfl ?_
            refine XS.ifNo X2981.here hx rfl (hb hby at_211) rfl (own_if_eqN (by decide)) ?_
            refine XS.dload X2981.here hx rfl (hb hby at_214) rfl ?_
            show Steps p.tables e below (T2977.setTop (mkF m 216 #[vi p0, vi p1, vi p2, vi p3, vi (2 : Int32), vi (2 : Int32), vi md, vd (FP.i2d p0), ss, vd (FP.i2d p1), ss, vr a873, vi (1 : Int32), vd (FP.dsub (FP.i2d p1) (FP.dmul (FP.i2d (1 : Int32)) (FP.ddiv (FP.dsub (FP.i2d p1) (FP.i2d p0)) (FP.i2d (2 : Int32))))), ss, vi (1 : Int32), vd (FP.dsub (FP.i2d p1) (FP.dmul (FP.i2d (0 : Int32)) (FP.ddiv (FP.dsub (FP.i2d p1) (FP.i2d p0)) (FP.i2d (2 : Int32))))), ss, vd (FP.dsub (FP.i2d p1) (FP.dmul (FP.i2d (0 : Int32)) (FP.ddiv (FP.dsub (FP.i2d p1) (FP.i2d p0)) (FP.i2d (2 : Int32))))), ss, uu, uu, uu, uu] [(.double (FP.dsub (FP.i2d p1) (FP.dmul (FP.i2d (0 : Int32)) (FP.ddiv (FP.dsub (FP.i2d p1) (FP.i2d p0)) (FP.i2d (2 : Int32))))))])) tQ
            refine XS.dload X2981.here hx rfl (hb hby at_216) rfl ?_
            refine XS.dload X2981.here hx rfl (hb hby at_218) rfl ?_
            refine XS.iload X2981.here hx rfl (hb hby at_220) rfl ?_
            refine XS.iload X2981.here hx rfl (hb hby at_222) rfl ?_
            show Steps p.tables e below (T2977.setTop (mkF m 224 #[vi p0, vi p1, vi p2, vi p3, vi (2 : Int32), vi (2 : Int32), vi md, vd (FP.i2d p0), ss, vd (FP.i2d p1), ss, vr a873, vi (1 : Int32), vd (FP.dsub (FP.i2d p1) (FP.dmul (FP.i2d (1 : Int32)) (FP.ddiv (FP.dsub (FP.i2d p1) (FP.i2d p0)) (FP.i2d (2 : Int32))))), ss, vi (1 : Int32), vd (FP.dsub (FP.i2d p1) (FP.dmul (FP.i2d (0 : Int32)) (FP.ddiv (FP.dsub (FP.i2d p1) (FP.i2d p0)) (FP.i2d (2 : Int32))))), ss, vd (FP.dsub (FP.i2d p1) (FP.dmul (FP.i2d (0 : Int32)) (FP.ddiv (FP.dsub (FP.i2d p1) (FP.i2d p0)) (FP.i2d (2 : Int32))))), ss, uu, uu, uu, uu] [(.int md), (.int (2 : Int32)), (.double (FP.i2d p1)), (.double (FP.i2d p0)), (.double (FP.dsub (FP.i2d p1) (FP.dmul (FP.i2d (0 : Int32)) (FP.ddiv (FP.dsub (FP.i2d p1) (FP.i2d p0)) (FP.i2d (2 : Int32))))))])) tQ
            refine XS.iconst X2981.here hx rfl (hb hby at_224) ?_
            exact kk
          clear k3010
          obtain ⟨_, _, ⟨T3017, L3018, kc3019, nc3020⟩, -, X3021, ⟨Lc3022, hQ3023, l3024, y3025, z3026⟩, st3027⟩ := Jvm.LawKit.callS X2981 hx (y := mn16) hown (mvT hZ (tw48 hw)) (mvT hZ (tw49 hw)) (mvT hZ (tw50 hw)) (mvT hZ (tw51 hw)) (by decide) (backOf (W := 2) (rmE l Z a0 hw [] (FP.i2d p0) (FP.i2d p1) (2 : Int32) md (3 : Int32) T2977.heap n0 Z3003 (Fl.i2d_fin p0).noNaN (Fl.i2d_fin p1).noNaN (own_h1 p0 p1) (own_h2 p0 p1 (F := (2 : Int32)) (by decide)) (own_q3 p0 p1 (F := (2 : Int32)) (r := (own_mx 0 ((2 : Int32) - (3 : Int32)))) (by decide) (own_mxb (by decide) (by decide)))) hZ (tw51 hw) (tw50 hw) (by decide) (by decide)) (g := (mkF m 225 #[vi p0, vi p1, vi p2, vi p3, vi (2 : Int32), vi (2 : Int32), vi md, vd (FP.i2d p0), ss, vd (FP.i2d p1), ss, vr a873, vi (1 : Int32), vd (FP.dsub (FP.i2d p1) (FP.dmul (FP.i2d (1 : Int32)) (FP.ddiv (FP.dsub (FP.i2d p1) (FP.i2d p0)) (FP.i2d (2 : Int32))))), ss, vi (1 : Int32), vd (FP.dsub (FP.i2d p1) (FP.dmul (FP.i2d (0 : Int32)) (FP.ddiv (FP.dsub (FP.i2d p1) (FP.i2d p0)) (FP.i2d (2 : Int32))))), ss, vd (FP.dsub (FP.i2d p1) (FP.dmul (FP.i2d (0 : Int32)) (FP.ddiv (FP.dsub (FP.i2d p1) (FP.i2d p0)) (FP.i2d (2 : Int32))))), ss, uu, uu, uu, uu] [(.int (3 : Int32)), (.int md), (.int (2 : Int32)), (.double (FP.i2d p1)), (.double (FP.i2d p0)), (.double (FP.dsub (FP.i2d p1) (FP.dmul (FP.i2d (0 : Int32)) (FP.ddiv (FP.dsub (FP.i2d p1) (FP.i2d p0)) (FP.i2d (2 : Int32))))))])) rfl (by rw [hml]; rfl) (argsL := [(.double (FP.i2d p0)), (.double (FP.i2d p1)), (.int (2 : Int32)), (.int md), (.int (3 : Int32))]) (rest := [(.double (FP.dsub (FP.i2d p1) (FP.dmul (FP.i2d (0 : Int32)) (FP.ddiv (FP.dsub (FP.i2d p1) (FP.i2d p0)) (FP.i2d (2 : Int32))))))]) (lenOf pd_21 rfl) rfl (by show 2 * 0 + _ ≤ _; exact Nat.le_of_eq rfl) (hb hby at_225) (fun _ _ => ⟨rfl, rfl, (by decide : 1 + 0 ≤ _), (by decide : 5 + 0 ≤ _)⟩)
          dsimp only [Pt.U, Pt.locs, Pt.cells, Pt.slots] at X3021 l3024 y3025 z3026 st3027 hQ3023
          subst l3024 y3025 z3026
          obtain ⟨rfl, N3028, e3029⟩ := hQ3023
          have N3031 := Fr.app N3002 N3028
          have k3032 : own_G p e below E0 T3017 (mkF m 228 #[vi p0, vi p1, vi p2, vi p3, vi (2 : Int32), vi (2 : Int32), vi md, vd (FP.i2d p0), ss, vd (FP.i2d p1), ss, vr a873, vi (1 : Int32), vd (FP.dsub (FP.i2d p1) (FP.dmul (FP.i2d (1 : Int32)) (FP.ddiv (FP.dsub (FP.i2d p1) (FP.i2d p0)) (FP.i2d (2 : Int32))))), ss, vi (1 : Int32), vd (FP.dsub (FP.i2d p1) (FP.dmul (FP.i2d (0 : Int32)) (FP.ddiv (FP.dsub (FP.i2d p1) (FP.i2d p0)) (FP.i2d (2 : Int32))))), ss, vd (FP.dsub (FP.i2d p1) (FP.dmul (FP.i2d (0 : Int32)) (FP.ddiv (FP.dsub (FP.i2d p1) (FP.i2d p0)) (FP.i2d (2 : Int32))))), ss, uu, uu, uu, uu] [(.double (own_exp (FP.i2d p0) (FP.i2d p1) (2 : Int32) md (3 : Int32))), (.double (FP.dsub (FP.i2d p1) (FP.dmul (FP.i2d (0 : Int32)) (FP.ddiv (FP.dsub (FP.i2d p1) (FP.i2d p0)) (FP.i2d (2 : Int32))))))]) := fun tQ kk => k3016 tQ (st3027 _ kk)
          clear k3016 st3027
          have k3033 : own_G p e below E0 T3017 (mkF m 241 #[vi p0, vi p1, vi p2, vi p3, vi (2 : Int32), vi (2 : Int32), vi md, vd (FP.i2d p0), ss, vd (FP.i2d p1), ss, vr a873, vi (1 : Int32), vd (FP.dsub (FP.i2d p1) (FP.dmul (FP.i2d (1 : Int32)) (FP.ddiv (FP.dsub (FP.i2d p1) (FP.i2d p0)) (FP.i2d (2 : Int32))))), ss, vi (1 : Int32), vd (FP.dsub (FP.i2d p1) (FP.dmul (FP.i2d (0 : Int32)) (FP.ddiv (FP.dsub (FP.i2d p1) (FP.i2d p0)) (FP.i2d (2 : Int32))))), ss, vd (FP.dsub (FP.i2d p1) (FP.dmul (FP.i2d (0 : Int32)) (FP.ddiv (FP.dsub (FP.i2d p1) (FP.i2d p0)) (FP.i2d (2 : Int32))))), ss, uu, uu, uu, uu] [(.ref a873)]) := by
            intro tQ kk
            refine k3032 tQ ?_
            refine XS.dcmpS (v := (0 : Int32)) X3021.here hx rfl (hb hby at_228) rfl (own_eZ p0 p1 cm1 cm2 cE (show own_mx 0 ((2 : Int32) - (3 : Int32)) = 0 by decide) (by decide)) ?_
            refine XS.ifNo X3021.here hx rfl (hb hby at_229) rfl (own_if_neN (by decide)) ?_
            refine XS.iconst X3021.here hx rfl (hb hby at_232) ?_
            refine XS.goto X3021.here hx rfl (pc0 := 233) (pc' := 237) rfl (hb hby at_233) (by decide) (by decide) ?_
            show Steps p.tables e below (T3017.setTop (mkF m 237 #[vi p0, vi p1, vi p2, vi p3, vi (2 : Int32), vi (2 : Int32), vi md, vd (FP.i2d p0), ss, vd (FP.i2d p1), ss, vr a873, vi (1 : Int32), vd (FP.dsub (FP.i2d p1) (FP.dmul (FP.i2d (1 : Int32)) (FP.ddiv (FP.dsub (FP.i2d p1) (FP.i2d p0)) (FP.i2d (2 : Int32))))), ss, vi (1 : Int32), vd (FP.dsub (FP.i2d p1) (FP.dmul (FP.i2d (0 : Int32)) (FP.ddiv (FP.dsub (FP.i2d p1) (FP.i2d p0)) (FP.i2d (2 : Int32))))), ss, vd (FP.dsub (FP.i2d p1) (FP.dmul (FP.i2d (0 : Int32)) (FP.ddiv (FP.dsub (FP.i2d p1) (FP.i2d p0)) (FP.i2d (2 : Int32))))), ss, uu, uu, uu, uu] [(.int (1 : Int32))])) tQ
            refine XS.istore X3021.here hx rfl (hb hby at_237) rfl (l' := #[vi p0, vi p1, vi p2, vi p3, vi (2 : Int32), vi (2 : Int32), vi md, vd (FP.i2d p0), ss, vd (FP.i2d p1), ss, vr a873, vi (1 : Int32), vd (FP.dsub (FP.i2d p1) (FP.dmul (FP.i2d (1 : Int32)) (FP.ddiv (FP.dsub (FP.i2d p1) (FP.i2d p0)) (FP.i2d (2 : Int32))))), ss, vi (1 : Int32), vd (FP.dsub (FP.i2d p1) (FP.dmul (FP.i2d (0 : Int32)) (FP.ddiv (FP.dsub (FP.i2d p1) (FP.i2d p0)) (FP.i2d (2 : Int32))))), ss, vd (FP.dsub (FP.i2d p1) (FP.dmul (FP.i2d (0 : Int32)) (FP.ddiv (FP.dsub (FP.i2d p1) (FP.i2d p0)) (FP.i2d (2 : Int32))))), ss, uu, uu, uu, uu]) rfl ?_
            refine XS.aload X3021.here hx rfl (hb hby at_239) rfl rfl ?_
            exact kk
          clear k3032
          obtain ⟨cq3045, kq3046, qa3047, qb3048, qc3049⟩ := isOf hZ e3029 F3004
          obtain ⟨_, _, ⟨T3034, L3035, kc3036, nc3037⟩, -, X3038, ⟨Lc3039, hQ3040, l3041, y3042, z3043⟩, st3044⟩ := X3021.virtualBack hx (y := mn13) (z := mn13) hown (mvT hZ (tw43 hw)) (mvT hZ (tw44 hw)) (notFace_of_selects (args := #[]) (mvT hZ (tw46 hw))) (mvT hZ (tw46 hw)) (mvT hZ (tw45 hw)) (by decide) (backOf (W := 0) (rmN l Z a0 hw [] a873 (2 : Int32) (FP.dsub (FP.i2d p1) (FP.dmul (FP.i2d (0 : Int32)) (FP.ddiv (FP.dsub (FP.i2d p1) (FP.i2d p0)) (FP.i2d (2 : Int32))))) (FP.i2d p1) (FP.ddiv (FP.dsub (FP.i2d p1) (FP.i2d p0)) (FP.i2d (2 : Int32))) (0 : Int32) T2977.heap n0 Z3003 F3004 g2997 F3012 g2999 g3000 F3014 ge875 (fun z => absurd z (by decide))) hZ (tw47 hw) (tw7 hw) (by decide) (by decide)) qa3047 qc3049 (g := (mkF m 241 #[vi p0, vi p1, vi p2, vi p3, vi (2 : Int32), vi (2 : Int32), vi md, vd (FP.i2d p0), ss, vd (FP.i2d p1), ss, vr a873, vi (1 : Int32), vd (FP.dsub (FP.i2d p1) (FP.dmul (FP.i2d (1 : Int32)) (FP.ddiv (FP.dsub (FP.i2d p1) (FP.i2d p0)) (FP.i2d (2 : Int32))))), ss, vi (1 : Int32), vd (FP.dsub (FP.i2d p1) (FP.dmul (FP.i2d (0 : Int32)) (FP.ddiv (FP.dsub (FP.i2d p1) (FP.i2d p0)) (FP.i2d (2 : Int32))))), ss, vd (FP.dsub (FP.i2d p1) (FP.dmul (FP.i2d (0 : Int32)) (FP.ddiv (FP.dsub (FP.i2d p1) (FP.i2d p0)) (FP.i2d (2 : Int32))))), ss, uu, uu, uu, uu] [(.ref a873)])) rfl (by rw [hml]; rfl) (Steps.refl _) (argsL := []) (rest := []) (lenOf pd_20 rfl) rfl (by show 2 * 0 + _ ≤ _; exact Nat.le_of_eq rfl) (hb hby at_241) (fun _ _ => ⟨rfl, e3029, (by decide : 1 + 0 ≤ _), (by decide : 5 + 0 ≤ _)⟩)
          dsimp only [Pt.U, Pt.locs, Pt.cells, Pt.slots] at X3038 l3041 y3042 z3043 st3044 hQ3040
          subst l3041 y3042 z3043
          obtain ⟨rfl, N3050, K3053, g3054, g3055, g3056, g3057, g3058⟩ := hQ3040
          have N3059 := Fr.app N3031 N3050
          have Z3060 : n0 ≤ T3034.heap.size := Nat.le_trans Z3003 K3053.1
          have F3061 : xa8 Z T3034.heap a873 := F3004.keep K3053
          clear F3004
          clear g2997
          clear F3012
          clear g2999
          clear g3000
          clear F3014
          have k3067 : own_G p e below E0 T3034 (mkF m 244 #[vi p0, vi p1, vi p2, vi p3, vi (2 : Int32), vi (2 : Int32), vi md, vd (FP.i2d p0), ss, vd (FP.i2d p1), ss, vr a873, vi (1 : Int32), vd (FP.dsub (FP.i2d p1) (FP.dmul (FP.i2d (1 : Int32)) (FP.ddiv (FP.dsub (FP.i2d p1) (FP.i2d p0)) (FP.i2d (2 : Int32))))), ss, vi (1 : Int32), vd (FP.dsub (FP.i2d p1) (FP.dmul (FP.i2d (0 : Int32)) (FP.ddiv (FP.dsub (FP.i2d p1) (FP.i2d p0)) (FP.i2d (2 : Int32))))), ss, vd (FP.dsub (FP.i2d p1) (FP.dmul (FP.i2d (0 : Int32)) (FP.ddiv (FP.dsub (FP.i2d p1) (FP.i2d p0)) (FP.i2d (2 : Int32))))), ss, uu, uu, uu, uu] [(.double (own_nv (FP.dsub (FP.i2d p1) (FP.dmul (FP.i2d (0 : Int32)) (FP.ddiv (FP.dsub (FP.i2d p1) (FP.i2d p0)) (FP.i2d (2 : Int32))))) (FP.i2d p1) (FP.ddiv (FP.dsub (FP.i2d p1) (FP.i2d p0)) (FP.i2d (2 : Int32))) (0 : Int32)))]) := fun tQ kk => k3033 tQ (st3044.trans kk)
          clear k3033 st3044
          have eq3068 : (own_nv (FP.dsub (FP.i2d p1) (FP.dmul (FP.i2d (0 : Int32)) (FP.ddiv (FP.dsub (FP.i2d p1) (FP.i2d p0)) (FP.i2d (2 : Int32))))) (FP.i2d p1) (FP.ddiv (FP.dsub (FP.i2d p1) (FP.i2d p0)) (FP.i2d (2 : Int32))) (0 : Int32)) = (FP.dsub (FP.i2d p1) (FP.dmul (FP.i2d (0 : Int32)) (FP.ddiv (FP.dsub (FP.i2d p1) (FP.i2d p0)) (FP.i2d (2 : Int32))))) := by rw [own_nv, if_neg (by decide)]
          have F3069 : fd4 Z T3034.heap a873 (.double (FP.dsub (FP.i2d p1) (FP.dmul (FP.i2d (0 : Int32)) (FP.ddiv (FP.dsub (FP.i2d p1) (FP.i2d p0)) (FP.i2d (2 : Int32)))))) := by rw [← eq3068]; exact g3055
          have eq3070 : (own_nr (0 : Int32)) = (0 : Int32) := by decide
          have F3071 : fd7 Z T3034.heap a873 (.int (0 : Int32)) := by rw [← eq3070]; exact g3058
          have eq3072 : (own_nv (FP.dsub (FP.i2d p1) (FP.dmul (FP.i2d (0 : Int32)) (FP.ddiv (FP.dsub (FP.i2d p1) (FP.i2d p0)) (FP.i2d (2 : Int32))))) (FP.i2d p1) (FP.ddiv (FP.dsub (FP.i2d p1) (FP.i2d p0)) (FP.i2d (2 : Int32))) (0 : Int32)) = (FP.dsub (FP.i2d p1) (FP.dmul (FP.i2d (0 : Int32)) (FP.ddiv (FP.dsub (FP.i2d p1) (FP.i2d p0)) (FP.i2d (2 : Int32))))) := by rw [own_nv, if_neg (by decide)]
          rw [eq3072] at k3067
          have k3073 : own_G p e below E0 T3034 (mkF m 262 #[vi p0, vi p1, vi p2, vi p3, vi (2 : Int32), vi (2 : Int32), vi md, vd (FP.i2d p0), ss, vd (FP.i2d p1), ss, vr a873, vi (1 : Int32), vd (FP.dsub (FP.i2d p1) (FP.dmul (FP.i2d (1 : Int32)) (FP.ddiv (FP.dsub (FP.i2d p1) (FP.i2d p0)) (FP.i2d (2 : Int32))))), ss, vi (1 : Int32), vd (FP.dsub (FP.i2d p1) (FP.dmul (FP.i2d (0 : Int32)) (FP.ddiv (FP.dsub (FP.i2d p1) (FP.i2d p0)) (FP.i2d (2 : Int32))))), ss, vd (FP.dsub (FP.i2d p1) (FP.dmul (FP.i2d (0 : Int32)) (FP.ddiv (FP.dsub (FP.i2d p1) (FP.i2d p0)) (FP.i2d (2 : Int32))))), ss, vd (FP.dsub (FP.i2d p1) (FP.dmul (FP.i2d (0 : Int32)) (FP.ddiv (FP.dsub (FP.i2d p1) (FP.i2d p0)) (FP.i2d (2 : Int32))))), ss, uu, uu] [(.int (4 : Int32)), (.int md), (.int (2 : Int32)), (.double (FP.i2d p1)), (.double (FP.i2d p0)), (.double (FP.dsub (FP.i2d p1) (FP.dmul (FP.i2d (0 : Int32)) (FP.ddiv (FP.dsub (FP.i2d p1) (FP.i2d p0)) (FP.i2d (2 : Int32))))))]) := by
            intro tQ kk
            refine k3067 tQ ?_
            refine XS.dstore X3038.here hx rfl (hb hby at_244) rfl (l' := #[vi p0, vi p1, vi p2, vi p3, vi (2 : Int32), vi (2 : Int32), vi md, vd (FP.i2d p0), ss, vd (FP.i2d p1), ss, vr a873, vi (1 : Int32), vd (FP.dsub (FP.i2d p1) (FP.dmul (FP.i2d (1 : Int32)) (FP.ddiv (FP.dsub (FP.i2d p1) (FP.i2d p0)) (FP.i2d (2 : Int32))))), ss, vi (1 : Int32), vd (FP.dsub (FP.i2d p1) (FP.dmul (FP.i2d (0 : Int32)) (FP.ddiv (FP.dsub (FP.i2d p1) (FP.i2d p0)) (FP.i2d (2 : Int32))))), ss, vd (FP.dsub (FP.i2d p1) (FP.dmul (FP.i2d (0 : Int32)) (FP.ddiv (FP.dsub (FP.i2d p1) (FP.i2d p0)) (FP.i2d (2 : Int32))))), ss, vd (FP.dsub (FP.i2d p1) (FP.dmul (FP.i2d (0 : Int32)) (FP.ddiv (FP.dsub (FP.i2d p1) (FP.i2d p0)) (FP.i2d (2 : Int32))))), ss, uu, uu]) rfl ?_
            refine XS.iload X3038.here hx rfl (hb hby at_246) rfl ?_
            refine XS.ifNo X3038.here hx rfl (hb hby at_248) rfl (own_if_eqN (by decide)) ?_
            refine XS.dload X3038.here hx rfl (hb hby at_251) rfl ?_
            show Steps p.tables e below (T3034.setTop (mkF m 253 #[vi p0, vi p1, vi p2, vi p3, vi (2 : Int32), vi (2 : Int32), vi md, vd (FP.i2d p0), ss, vd (FP.i2d p1), ss, vr a873, vi (1 : Int32), vd (FP.dsub (FP.i2d p1) (FP.dmul (FP.i2d (1 : Int32)) (FP.ddiv (FP.dsub (FP.i2d p1) (FP.i2d p0)) (FP.i2d (2 : Int32))))), ss, vi (1 : Int32), vd (FP.dsub (FP.i2d p1) (FP.dmul (FP.i2d (0 : Int32)) (FP.ddiv (FP.dsub (FP.i2d p1) (FP.i2d p0)) (FP.i2d (2 : Int32))))), ss, vd (FP.dsub (FP.i2d p1) (FP.dmul (FP.i2d (0 : Int32)) (FP.ddiv (FP.dsub (FP.i2d p1) (FP.i2d p0)) (FP.i2d (2 : Int32))))), ss, vd (FP.dsub (FP.i2d p1) (FP.dmul (FP.i2d (0 : Int32)) (FP.ddiv (FP.dsub (FP.i2d p1) (FP.i2d p0)) (FP.i2d (2 : Int32))))), ss, uu, uu] [(.double (FP.dsub (FP.i2d p1) (FP.dmul (FP.i2d (0 : Int32)) (FP.ddiv (FP.dsub (FP.i2d p1) (FP.i2d p0)) (FP.i2d (2 : Int32))))))])) tQ
            refine XS.dload X3038.here hx rfl (hb hby at_253) rfl ?_
            refine XS.dload X3038.here hx rfl (hb hby at_255) rfl ?_
            refine XS.iload X3038.here hx rfl (hb hby at_257) rfl ?_
            refine XS.iload X3038.here hx rfl (hb hby at_259) rfl ?_
            show Steps p.tables e below (T3034.setTop (mkF m 261 #[vi p0, vi p1, vi p2, vi p3, vi (2 : Int32), vi (2 : Int32), vi md, vd (FP.i2d p0), ss, vd (FP.i2d p1), ss, vr a873, vi (1 : Int32), vd (FP.dsub (FP.i2d p1) (FP.dmul (FP.i2d (1 : Int32)) (FP.ddiv (FP.dsub (FP.i2d p1) (FP.i2d p0)) (FP.i2d (2 : Int32))))), ss, vi (1 : Int32), vd (FP.dsub (FP.i2d p1) (FP.dmul (FP.i2d (0 : Int32)) (FP.ddiv (FP.dsub (FP.i2d p1) (FP.i2d p0)) (FP.i2d (2 : Int32))))), ss, vd (FP.dsub (FP.i2d p1) (FP.dmul (FP.i2d (0 : Int32)) (FP.ddiv (FP.dsub (FP.i2d p1) (FP.i2d p0)) (FP.i2d (2 : Int32))))), ss, vd (FP.dsub (FP.i2d p1) (FP.dmul (FP.i2d (0 : Int32)) (FP.ddiv (FP.dsub (FP.i2d p1) (FP.i2d p0)) (FP.i2d (2 : Int32))))), ss, uu, uu] [(.int md), (.int (2 : Int32)), (.double (FP.i2d p1)), (.double (FP.i2d p0)), (.double (FP.dsub (FP.i2d p1) (FP.dmul (FP.i2d (0 : Int32)) (FP.ddiv (FP.dsub (FP.i2d p1) (FP.i2d p0)) (FP.i2d (2 : Int32))))))])) tQ
            refine XS.iconst X3038.here hx rfl (hb hby at_261) ?_
            exact kk
          clear k3067
          obtain ⟨_, _, ⟨T3074, L3075, kc3076, nc3077⟩, -, X3078, ⟨Lc3079, hQ3080, l3081, y3082, z3083⟩, st3084⟩ := Jvm.LawKit.callS X3038 hx (y := mn16) hown (mvT hZ (tw48 hw)) (mvT hZ (tw49 hw)) (mvT hZ (tw50 hw)) (mvT hZ (tw51 hw)) (by decide) (backOf (W := 2) (rmE l Z a0 hw [] (FP.i2d p0) (FP.i2d p1) (2 : Int32) md (4 : Int32) T3034.heap n0 Z3060 (Fl.i2d_fin p0).noNaN (Fl.i2d_fin p1).noNaN (own_h1 p0 p1) (own_h2 p0 p1 (F := (2 : Int32)) (by decide)) (own_q3 p0 p1 (F := (2 : Int32)) (r := (own_mx 0 ((2 : Int32) - (4 : Int32)))) (by decide) (own_mxb (by decide) (by decide)))) hZ (tw51 hw) (tw50 hw) (by decide) (by decide)) (g := (mkF m 262 #[vi p0, vi p1, vi p2, vi p3, vi (2 : Int32), vi (2 : Int32), vi md, vd (FP.i2d p0), ss, vd (FP.i2d p1), ss, vr a873, vi (1 : Int32), vd (FP.dsub (FP.i2d p1) (FP.dmul (FP.i2d (1 : Int32)) (FP.ddiv (FP.dsub (FP.i2d p1) (FP.i2d p0)) (FP.i2d (2 : Int32))))), ss, vi (1 : Int32), vd (FP.dsub (FP.i2d p1) (FP.dmul (FP.i2d (0 : Int32)) (FP.ddiv (FP.dsub (FP.i2d p1) (FP.i2d p0)) (FP.i2d (2 : Int32))))), ss, vd (FP.dsub (FP.i2d p1) (FP.dmul (FP.i2d (0 : Int32)) (FP.ddiv (FP.dsub (FP.i2d p1) (FP.i2d p0)) (FP.i2d (2 : Int32))))), ss, vd (FP.dsub (FP.i2d p1) (FP.dmul (FP.i2d (0 : Int32)) (FP.ddiv (FP.dsub (FP.i2d p1) (FP.i2d p0)) (FP.i2d (2 : Int32))))), ss, uu, uu] [(.int (4 : Int32)), (.int md), (.int (2 : Int32)), (.double (FP.i2d p1)), (.double (FP.i2d p0)), (.double (FP.dsub (FP.i2d p1) (FP.dmul (FP.i2d (0 : Int32)) (FP.ddiv (FP.dsub (FP.i2d p1) (FP.i2d p0)) (FP.i2d (2 : Int32))))))])) rfl (by rw [hml]; rfl) (argsL := [(.double (FP.i2d p0)), (.double (FP.i2d p1)), (.int (2 : Int32)), (.int md), (.int (4 : Int32))]) (rest := [(.double (FP.dsub (FP.i2d p1) (FP.dmul (FP.i2d (0 : Int32)) (FP.ddiv (FP.dsub (FP.i2d p1) (FP.i2d p0)) (FP.i2d (2 : Int32))))))]) (lenOf pd_21 rfl) rfl (by show 2 * 0 + _ ≤ _; exact Nat.le_of_eq rfl) (hb hby at_262) (fun _ _ => ⟨rfl, rfl, (by decide : 1 + 0 ≤ _), (by decide : 5 + 0 ≤ _)⟩)
          dsimp only [Pt.U, Pt.locs, Pt.cells, Pt.slots] at X3078 l3081 y3082 z3083 st3084 hQ3080
          subst l3081 y3082 z3083
          obtain ⟨rfl, N3085, e3086⟩ := hQ3080
          have N3088 := Fr.app N3059 N3085
          have k3089 : own_G p e below E0 T3074 (mkF m 265 #[vi p0, vi p1, vi p2, vi p3, vi (2 : Int32), vi (2 : Int32), vi md, vd (FP.i2d p0), ss, vd (FP.i2d p1), ss, vr a873, vi (1 : Int32), vd (FP.dsub (FP.i2d p1) (FP.dmul (FP.i2d (1 : Int32)) (FP.ddiv (FP.dsub (FP.i2d p1) (FP.i2d p0)) (FP.i2d (2 : Int32))))), ss, vi (1 : Int32), vd (FP.dsub (FP.i2d p1) (FP.dmul (FP.i2d (0 : Int32)) (FP.ddiv (FP.dsub (FP.i2d p1) (FP.i2d p0)) (FP.i2d (2 : Int32))))), ss, vd (FP.dsub (FP.i2d p1) (FP.dmul (FP.i2d (0 : Int32)) (FP.ddiv (FP.dsub (FP.i2d p1) (FP.i2d p0)) (FP.i2d (2 : Int32))))), ss, vd (FP.dsub (FP.i2d p1) (FP.dmul (FP.i2d (0 : Int32)) (FP.ddiv (FP.dsub (FP.i2d p1) (FP.i2d p0)) (FP.i2d (2 : Int32))))), ss, uu, uu] [(.double (own_exp (FP.i2d p0) (FP.i2d p1) (2 : Int32) md (4 : Int32))), (.double (FP.dsub (FP.i2d p1) (FP.dmul (FP.i2d (0 : Int32)) (FP.ddiv (FP.dsub (FP.i2d p1) (FP.i2d p0)) (FP.i2d (2 : Int32))))))]) := fun tQ kk => k3073 tQ (st3084 _ kk)
          clear k3073 st3084
          have k3090 : own_G p e below E0 T3074 (mkF m 278 #[vi p0, vi p1, vi p2, vi p3, vi (2 : Int32), vi (2 : Int32), vi md, vd (FP.i2d p0), ss, vd (FP.i2d p1), ss, vr a873, vi (1 : Int32), vd (FP.dsub (FP.i2d p1) (FP.dmul (FP.i2d (1 : Int32)) (FP.ddiv (FP.dsub (FP.i2d p1) (FP.i2d p0)) (FP.i2d (2 : Int32))))), ss, vi (1 : Int32), vd (FP.dsub (FP.i2d p1) (FP.dmul (FP.i2d (0 : Int32)) (FP.ddiv (FP.dsub (FP.i2d p1) (FP.i2d p0)) (FP.i2d (2 : Int32))))), ss, vd (FP.dsub (FP.i2d p1) (FP.dmul (FP.i2d (0 : Int32)) (FP.ddiv (FP.dsub (FP.i2d p1) (FP.i2d p0)) (FP.i2d (2 : Int32))))), ss, vd (FP.dsub (FP.i2d p1) (FP.dmul (FP.i2d (0 : Int32)) (FP.ddiv (FP.dsub (FP.i2d p1) (FP.i2d p0)) (FP.i2d (2 : Int32))))), ss, uu, uu] [(.ref a873)]) := by
            intro tQ kk
            refine k3089 tQ ?_
            refine XS.dcmpS (v := (0 : Int32)) X3078.here hx rfl (hb hby at_265) rfl (own_eZ p0 p1 cm1 cm2 cE (show own_mx 0 ((2 : Int32) - (4 : Int32)) = 0 by decide) (by decide)) ?_
            refine XS.ifNo X3078.here hx rfl (hb hby at_266) rfl (own_if_neN (by decide)) ?_
            refine XS.iconst X3078.here hx rfl (hb hby at_269) ?_
            refine XS.goto X3078.here hx rfl (pc0 := 270) (pc' := 274) rfl (hb hby at_270) (by decide) (by decide) ?_
            show Steps p.tables e below (T3074.setTop (mkF m 274 #[vi p0, vi p1, vi p2, vi p3, vi (2 : Int32), vi (2 : Int32), vi md, vd (FP.i2d p0), ss, vd (FP.i2d p1), ss, vr a873, vi (1 : Int32), vd (FP.dsub (FP.i2d p1) (FP.dmul (FP.i2d (1 : Int32)) (FP.ddiv (FP.dsub (FP.i2d p1) (FP.i2d p0)) (FP.i2d (2 : Int32))))), ss, vi (1 : Int32), vd (FP.dsub (FP.i2d p1) (FP.dmul (FP.i2d (0 : Int32)) (FP.ddiv (FP.dsub (FP.i2d p1) (FP.i2d p0)) (FP.i2d (2 : Int32))))), ss, vd (FP.dsub (FP.i2d p1) (FP.dmul (FP.i2d (0 : Int32)) (FP.ddiv (FP.dsub (FP.i2d p1) (FP.i2d p0)) (FP.i2d (2 : Int32))))), ss, vd (FP.dsub (FP.i2d p1) (FP.dmul (FP.i2d (0 : Int32)) (FP.ddiv (FP.dsub (FP.i2d p1) (FP.i2d p0)) (FP.i2d (2 : Int32))))), ss, uu, uu] [(.int (1 : Int32))])) tQ
            refine XS.istore X3078.here hx rfl (hb hby at_274) rfl (l' := #[vi p0, vi p1, vi p2, vi p3, vi (2 : Int32), vi (2 : Int32), vi md, vd (FP.i2d p0), ss, vd (FP.i2d p1), ss, vr a873, vi (1 : Int32), vd (FP.dsub (FP.i2d p1) (FP.dmul (FP.i2d (1 : Int32)) (FP.ddiv (FP.dsub (FP.i2d p1) (FP.i2d p0)) (FP.i2d (2 : Int32))))), ss, vi (1 : Int32), vd (FP.dsub (FP.i2d p1) (FP.dmul (FP.i2d (0 : Int32)) (FP.ddiv (FP.dsub (FP.i2d p1) (FP.i2d p0)) (FP.i2d (2 : Int32))))), ss, vd (FP.dsub (FP.i2d p1) (FP.dmul (FP.i2d (0 : Int32)) (FP.ddiv (FP.dsub (FP.i2d p1) (FP.i2d p0)) (FP.i2d (2 : Int32))))), ss, vd (FP.dsub (FP.i2d p1) (FP.dmul (FP.i2d (0 : Int32)) (FP.ddiv (FP.dsub (FP.i2d p1) (FP.i2d p0)) (FP.i2d (2 : Int32))))), ss, uu, uu]) rfl ?_
            refine XS.aload X3078.here hx rfl (hb hby at_276) rfl rfl ?_
            exact kk
          clear k3089
          obtain ⟨cq3102, kq3103, qa3104, qb3105, qc3106⟩ := isOf hZ e3086 F3061
          obtain ⟨_, _, ⟨T3091, L3092, kc3093, nc3094⟩, -, X3095, ⟨Lc3096, hQ3097, l3098, y3099, z3100⟩, st3101⟩ := X3078.virtualBack hx (y := mn13) (z := mn13) hown (mvT hZ (tw43 hw)) (mvT hZ (tw44 hw)) (notFace_of_selects (args := #[]) (mvT hZ (tw46 hw))) (mvT hZ (tw46 hw)) (mvT hZ (tw45 hw)) (by decide) (backOf (W := 0) (rmN l Z a0 hw [] a873 (2 : Int32) (FP.dsub (FP.i2d p1) (FP.dmul (FP.i2d (0 : Int32)) (FP.ddiv (FP.dsub (FP.i2d p1) (FP.i2d p0)) (FP.i2d (2 : Int32))))) (FP.i2d p1) (FP.ddiv (FP.dsub (FP.i2d p1) (FP.i2d p0)) (FP.i2d (2 : Int32))) (0 : Int32) T3034.heap n0 Z3060 F3061 g3054 F3069 g3056 g3057 F3071 ge875 (fun z => absurd z (by decide))) hZ (tw47 hw) (tw7 hw) (by decide) (by decide)) qa3104 qc3106 (g := (mkF m 278 #[vi p0, vi p1, vi p2, vi p3, vi (2 : Int32), vi (2 : Int32), vi md, vd (FP.i2d p0), ss, vd (FP.i2d p1), ss, vr a873, vi (1 : Int32), vd (FP.dsub (FP.i2d p1) (FP.dmul (FP.i2d (1 : Int32)) (FP.ddiv (FP.dsub (FP.i2d p1) (FP.i2d p0)) (FP.i2d (2 : Int32))))), ss, vi (1 : Int32), vd (FP.dsub (FP.i2d p1) (FP.dmul (FP.i2d (0 : Int32)) (FP.ddiv (FP.dsub (FP.i2d p1) (FP.i2d p0)) (FP.i2d (2 : Int32))))), ss, vd (FP.dsub (FP.i2d p1) (FP.dmul (FP.i2d (0 : Int32)) (FP.ddiv (FP.dsub (FP.i2d p1) (FP.i2d p0)) (FP.i2d (2 : Int32))))), ss, vd (FP.dsub (FP.i2d p1) (FP.dmul (FP.i2d (0 : Int32)) (FP.ddiv (FP.dsub (FP.i2d p1) (FP.i2d p0)) (FP.i2d (2 : Int32))))), ss, uu, uu] [(.ref a873)])) rfl (by rw [hml]; rfl) (Steps.refl _) (argsL := []) (rest := []) (lenOf pd_20 rfl) rfl (by show 2 * 0 + _ ≤ _; exact Nat.le_of_eq rfl) (hb hby at_278) (fun _ _ => ⟨rfl, e3086, (by decide : 1 + 0 ≤ _), (by decide : 5 + 0 ≤ _)⟩)
          dsimp only [Pt.U, Pt.locs, Pt.cells, Pt.slots] at X3095 l3098 y3099 z3100 st3101 hQ3097
          subst l3098 y3099 z3100
          obtain ⟨rfl, N3107, K3110, g3111, g3112, g3113, g3114, g3115⟩ := hQ3097
          have N3116 := Fr.app N3088 N3107
          have Z3117 : n0 ≤ T3091.heap.size := Nat.le_trans Z3060 K3110.1
          have F3118 : xa8 Z T3091.heap a873 := F3061.keep K3110
          clear F3061
          clear g3054
          clear F3069
          clear g3056
          clear g3057
          clear F3071
          have k3124 : own_G p e below E0 T3091 (mkF m 281 #[vi p0, vi p1, vi p2, vi p3, vi (2 : Int32), vi (2 : Int32), vi md, vd (FP.i2d p0), ss, vd (FP.i2d p1), ss, vr a873, vi (1 : Int32), vd (FP.dsub (FP.i2d p1) (FP.dmul (FP.i2d (1 : Int32)) (FP.ddiv (FP.dsub (FP.i2d p1) (FP.i2d p0)) (FP.i2d (2 : Int32))))), ss, vi (1 : Int32), vd (FP.dsub (FP.i2d p1) (FP.dmul (FP.i2d (0 : Int32)) (FP.ddiv (FP.dsub (FP.i2d p1) (FP.i2d p0)) (FP.i2d (2 : Int32))))), ss, vd (FP.dsub (FP.i2d p1) (FP.dmul (FP.i2d (0 : Int32)) (FP.ddiv (FP.dsub (FP.i2d p1) (FP.i2d p0)) (FP.i2d (2 : Int32))))), ss, vd (FP.dsub (FP.i2d p1) (FP.dmul (FP.i2d (0 : Int32)) (FP.ddiv (FP.dsub (FP.i2d p1) (FP.i2d p0)) (FP.i2d (2 : Int32))))), ss, uu, uu] [(.double (own_nv (FP.dsub (FP.i2d p1) (FP.dmul (FP.i2d (0 : Int32)) (FP.ddiv (FP.dsub (FP.i2d p1) (FP.i2d p0)) (FP.i2d (2 : Int32))))) (FP.i2d p1) (FP.ddiv (FP.dsub (FP.i2d p1) (FP.i2d p0)) (FP.i2d (2 : Int32))) (0 : Int32)))]) := fun tQ kk => k3090 tQ (st3101.trans kk)
          clear k3090 st3101
          have eq3125 : (own_nv (FP.dsub (FP.i2d p1) (FP.dmul (FP.i2d (0 : Int32)) (FP.ddiv (FP.dsub (FP.i2d p1) (FP.i2d p0)) (FP.i2d (2 : Int32))))) (FP.i2d p1) (FP.ddiv (FP.dsub (FP.i2d p1) (FP.i2d p0)) (FP.i2d (2 : Int32))) (0 : Int32)) = (FP.dsub (FP.i2d p1) (FP.dmul (FP.i2d (0 : Int32)) (FP.ddiv (FP.dsub (FP.i2d p1) (FP.i2d p0)) (FP.i2d (2 : Int32))))) := by rw [own_nv, if_neg (by decide)]
          have F3126 : fd4 Z T3091.heap a873 (.double (FP.dsub (FP.i2d p1) (FP.dmul (FP.i2d (0 : Int32)) (FP.ddiv (FP.dsub (FP.i2d p1) (FP.i2d p0)) (FP.i2d (2 : Int32)))))) := by rw [← eq3125]; exact g3112
          have eq3127 : (own_nr (0 : Int32)) = (0 : Int32) := by decide
          have F3128 : fd7 Z T3091.heap a873 (.int (0 : Int32)) := by rw [← eq3127]; exact g3115
          have eq3129 : (own_nv (FP.dsub (FP.i2d p1) (FP.dmul (FP.i2d (0 : Int32)) (FP.ddiv (FP.dsub (FP.i2d p1) (FP.i2d p0)) (FP.i2d (2 : Int32))))) (FP.i2d p1) (FP.ddiv (FP.dsub (FP.i2d p1) (FP.i2d p0)) (FP.i2d (2 : Int32))) (0 : Int32)) = (FP.dsub (FP.i2d p1) (FP.dmul (FP.i2d (0 : Int32)) (FP.ddiv (FP.dsub (FP.i2d p1) (FP.i2d p0)) (FP.i2d (2 : Int32))))) := by rw [own_nv, if_neg (by decide)]
          rw [eq3129] at k3124
          have k3130 : own_G p e below E0 T3091 (mkF m 299 #[vi p0, vi p1, vi p2, vi p3, vi (2 : Int32), vi (2 : Int32), vi md, vd (FP.i2d p0), ss, vd (FP.i2d p1), ss, vr a873, vi (1 : Int32), vd (FP.dsub (FP.i2d p1) (FP.dmul (FP.i2d (1 : Int32)) (FP.ddiv (FP.dsub (FP.i2d p1) (FP.i2d p0)) (FP.i2d (2 : Int32))))), ss, vi (1 : Int32), vd (FP.dsub (FP.i2d p1) (FP.dmul (FP.i2d (0 : Int32)) (FP.ddiv (FP.dsub (FP.i2d p1) (FP.i2d p0)) (FP.i2d (2 : Int32))))), ss, vd (FP.dsub (FP.i2d p1) (FP.dmul (FP.i2d (0 : Int32)) (FP.ddiv (FP.dsub (FP.i2d p1) (FP.i2d p0)) (FP.i2d (2 : Int32))))), ss, vd (FP.dsub (FP.i2d p1) (FP.dmul (FP.i2d (0 : Int32)) (FP.ddiv (FP.dsub (FP.i2d p1) (FP.i2d p0)) (FP.i2d (2 : Int32))))), ss, vd (FP.dsub (FP.i2d p1) (FP.dmul (FP.i2d (0 : Int32)) (FP.ddiv (FP.dsub (FP.i2d p1) (FP.i2d p0)) (FP.i2d (2 : Int32))))), ss] [(.int (5 : Int32)), (.int md), (.int (2 : Int32)), (.double (FP.i2d p1)), (.double (FP.i2d p0)), (.double (FP.dsub (FP.i2d p1) (FP.dmul (FP.i2d (0 : Int32)) (FP.ddiv (FP.dsub (FP.i2d p1) (FP.i2d p0)) (FP.i2d (2 : Int32))))))]) := by
            intro tQ kk
            refine k3124 tQ ?_
            refine XS.dstore X3095.here hx rfl (hb hby at_281) rfl (l' := #[vi p0, vi p1, vi p2, vi p3, vi (2 : Int32), vi (2 : Int32), vi md, vd (FP.i2d p0), ss, vd (FP.i2d p1), ss, vr a873, vi (1 : Int32), vd (FP.dsub (FP.i2d p1) (FP.dmul (FP.i2d (1 : Int32)) (FP.ddiv (FP.dsub (FP.i2d p1) (FP.i2d p0)) (FP.i2d (2 : Int32))))), ss, vi (1 : Int32), vd (FP.dsub (FP.i2d p1) (FP.dmul (FP.i2d (0 : Int32)) (FP.ddiv (FP.dsub (FP.i2d p1) (FP.i2d p0)) (FP.i2d (2 : Int32))))), ss, vd (FP.dsub (FP.i2d p1) (FP.dmul (FP.i2d (0 : Int32)) (FP.ddiv (FP.dsub (FP.i2d p1) (FP.i2d p0)) (FP.i2d (2 : Int32))))), ss, vd (FP.dsub (FP.i2d p1) (FP.dmul (FP.i2d (0 : Int32)) (FP.ddiv (FP.dsub (FP.i2d p1) (FP.i2d p0)) (FP.i2d (2 : Int32))))), ss, vd (FP.dsub (FP.i2d p1) (FP.dmul (FP.i2d (0 : Int32)) (FP.ddiv (FP.dsub (FP.i2d p1) (FP.i2d p0)) (FP.i2d (2 : Int32))))), ss]) rfl ?_
            refine XS.iload X3095.here hx rfl (hb hby at_283) rfl ?_
            refine XS.ifNo X3095.here hx rfl (hb hby at_285) rfl (own_if_eqN (by decide)) ?_
            refine XS.dload X3095.here hx rfl (hb hby at_288) rfl ?_
            show Steps p.tables e below (T3091.setTop (mkF m 290 #[vi p0, vi p1, vi p2, vi p3, vi (2 : Int32), vi (2 : Int32), vi md, vd (FP.i2d p0), ss, vd (FP.i2d p1), ss, vr a873, vi (1 : Int32), vd (FP.dsub (FP.i2d p1) (FP.dmul (FP.i2d (1 : Int32)) (FP.ddiv (FP.dsub (FP.i2d p1) (FP.i2d p0)) (FP.i2d (2 : Int32))))), ss, vi (1 : Int32), vd (FP.dsub (FP.i2d p1) (FP.dmul (FP.i2d (0 : Int32)) (FP.ddiv (FP.dsub (FP.i2d p1) (FP.i2d p0)) (FP.i2d (2 : Int32))))), ss, vd (FP.dsub (FP.i2d p1) (FP.dmul (FP.i2d (0 : Int32)) (FP.ddiv (FP.dsub (FP.i2d p1) (FP.i2d p0)) (FP.i2d (2 : Int32))))), ss, vd (FP.dsub (FP.i2d p1) (FP.dmul (FP.i2d (0 : Int32)) (FP.ddiv (FP.dsub (FP.i2d p1) (FP.i2d p0)) (FP.i2d (2 : Int32))))), ss, vd (FP.dsub (FP.i2d p1) (FP.dmul (FP.i2d (0 : Int32)) (FP.ddiv (FP.dsub (FP.i2d p1) (FP.i2d p0)) (FP.i2d (2 : Int32))))), ss] [(.double (FP.dsub (FP.i2d p1) (FP.dmul (FP.i2d (0 : Int32)) (FP.ddiv (FP.dsub (FP.i2d p1) (FP.i2d p0)) (FP.i2d (2 : Int32))))))])) tQ
            refine XS.dload X3095.here hx rfl (hb hby at_290) rfl ?_
            refine XS.dload X3095.here hx rfl (hb hby at_292) rfl ?_
            refine XS.iload X3095.here hx rfl (hb hby at_294) rfl ?_
            refine XS.iload X3095.here hx rfl (hb hby at_296) rfl ?_
            show Steps p.tables e below (T3091.setTop (mkF m 298 #[vi p0, vi p1, vi p2, vi p3, vi (2 : Int32), vi (2 : Int32), vi md, vd (FP.i2d p0), ss, vd (FP.i2d p1), ss, vr a873, vi (1 : Int32), vd (FP.dsub (FP.i2d p1) (FP.dmul (FP.i2d (1 : Int32)) (FP.ddiv (FP.dsub (FP.i2d p1) (FP.i2d p0)) (FP.i2d (2 : Int32))))), ss, vi (1 : Int32), vd (FP.dsub (FP.i2d p1) (FP.dmul (FP.i2d (0 : Int32)) (FP.ddiv (FP.dsub (FP.i2d p1) (FP.i2d p0)) (FP.i2d (2 : Int32))))), ss, vd (FP.dsub (FP.i2d p1) (FP.dmul (FP.i2d (0 : Int32)) (FP.ddiv (FP.dsub (FP.i2d p1) (FP.i2d p0)) (FP.i2d (2 : Int32))))), ss, vd (FP.dsub (FP.i2d p1) (FP.dmul (FP.i2d (0 : Int32)) (FP.ddiv (FP.dsub (FP.i2d p1) (FP.i2d p0)) (FP.i2d (2 : Int32))))), ss, vd (FP.dsub (FP.i2d p1) (FP.dmul (FP.i2d (0 : Int32)) (FP.ddiv (FP.dsub (FP.i2d p1) (FP.i2d p0)) (FP.i2d (2 : Int32))))), ss] [(.int md), (.int (2 : Int32)), (.double (FP.i2d p1)), (.double (FP.i2d p0)), (.double (FP.dsub (FP.i2d p1) (FP.dmul (FP.i2d (0 : Int32)) (FP.ddiv (FP.dsub (FP.i2d p1) (FP.i2d p0)) (FP.i2d (2 : Int32))))))])) tQ
            refine XS.iconst X3095.here hx rfl (hb hby at_298) ?_
            exact kk
          clear k3124
          obtain ⟨_, _, ⟨T3131, L3132, kc3133, nc3134⟩, -, X3135, ⟨Lc3136, hQ3137, l3138, y3139, z3140⟩, st3141⟩ := Jvm.LawKit.callS X3095 hx (y := mn16) hown (mvT hZ (tw48 hw)) (mvT hZ (tw49 hw)) (mvT hZ (tw50 hw)) (mvT hZ (tw51 hw)) (by decide) (backOf (W := 2) (rmE l Z a0 hw [] (FP.i2d p0) (FP.i2d p1) (2 : Int32) md (5 : Int32) T3091.heap n0 Z3117 (Fl.i2d_fin p0).noNaN (Fl.i2d_fin p1).noNaN (own_h1 p0 p1) (own_h2 p0 p1 (F := (2 : Int32)) (by decide)) (own_q3 p0 p1 (F := (2 : Int32)) (r := (own_mx 0 ((2 : Int32) - (5 : Int32)))) (by decide) (own_mxb (by decide) (by decide)))) hZ (tw51 hw) (tw50 hw) (by decide) (by decide)) (g := (mkF m 299 #[vi p0, vi p1, vi p2, vi p3, vi (2 : Int32), vi (2 : Int32), vi md, vd (FP.i2d p0), ss, vd (FP.i2d p1), ss, vr a873, vi (1 : Int32), vd (FP.dsub (FP.i2d p1) (FP.dmul (FP.i2d (1 : Int32)) (FP.ddiv (FP.dsub (FP.i2d p1) (FP.i2d p0)) (FP.i2d (2 : Int32))))), ss, vi (1 : Int32), vd (FP.dsub (FP.i2d p1) (FP.dmul (FP.i2d (0 : Int32)) (FP.ddiv (FP.dsub (FP.i2d p1) (FP.i2d p0)) (FP.i2d (2 : Int32))))), ss, vd (FP.dsub (FP.i2d p1) (FP.dmul (FP.i2d (0 : Int32)) (FP.ddiv (FP.dsub (FP.i2d p1) (FP.i2d p0)) (FP.i2d (2 : Int32))))), ss, vd (FP.dsub (FP.i2d p1) (FP.dmul (FP.i2d (0 : Int32)) (FP.ddiv (FP.dsub (FP.i2d p1) (FP.i2d p0)) (FP.i2d (2 : Int32))))), ss, vd (FP.dsub (FP.i2d p1) (FP.dmul (FP.i2d (0 : Int32)) (FP.ddiv (FP.dsub (FP.i2d p1) (FP.i2d p0)) (FP.i2d (2 : Int32))))), ss] [(.int (5 : Int32)), (.int md), (.int (2 : Int32)), (.double (FP.i2d p1)), (.double (FP.i2d p0)), (.double (FP.dsub (FP.i2d p1) (FP.dmul (FP.i2d (0 : Int32)) (FP.ddiv (FP.dsub (FP.i2d p1) (FP.i2d p0)) (FP.i2d (2 : Int32))))))])) rfl (by rw [hml]; rfl) (argsL := [(.double (FP.i2d p0)), (.double (FP.i2d p1)), (.int (2 : Int32)), (.int md), (.int (5 : Int32))]) (rest := [(.double (FP.dsub (FP.i2d p1) (FP.dmul (FP.i2d (0 : Int32)) (FP.ddiv (FP.dsub (FP.i2d p1) (FP.i2d p0)) (FP.i2d (2 : Int32))))))]) (lenOf pd_21 rfl) rfl (by show 2 * 0 + _ ≤ _; exact Nat.le_of_eq rfl) (hb hby at_299) (fun _ _ => ⟨rfl, rfl, (by decide : 1 + 0 ≤ _), (by decide : 5 + 0 ≤ _)⟩)
          dsimp only [Pt.U, Pt.locs, Pt.cells, Pt.slots] at X3135 l3138 y3139 z3140 st3141 hQ3137
          subst l3138 y3139 z3140
          obtain ⟨rfl, N3142, e3143⟩ := hQ3137
          have N3145 := Fr.app N3116 N3142
          have k3146 : own_G p e below E0 T3131 (mkF m 302 #[vi p0, vi p1, vi p2, vi p3, vi (2 : Int32), vi (2 : Int32), vi md, vd (FP.i2d p0), ss, vd (FP.i2d p1), ss, vr a873, vi (1 : Int32), vd (FP.dsub (FP.i2d p1) (FP.dmul (FP.i2d (1 : Int32)) (FP.ddiv (FP.dsub (FP.i2d p1) (FP.i2d p0)) (FP.i2d (2 : Int32))))), ss, vi (1 : Int32), vd (FP.dsub (FP.i2d p1) (FP.dmul (FP.i2d (0 : Int32)) (FP.ddiv (FP.dsub (FP.i2d p1) (FP.i2d p0)) (FP.i2d (2 : Int32))))), ss, vd (FP.dsub (FP.i2d p1) (FP.dmul (FP.i2d (0 : Int32)) (FP.ddiv (FP.dsub (FP.i2d p1) (FP.i2d p0)) (FP.i2d (2 : Int32))))), ss, vd (FP.dsub (FP.i2d p1) (FP.dmul (FP.i2d (0 : Int32)) (FP.ddiv (FP.dsub (FP.i2d p1) (FP.i2d p0)) (FP.i2d (2 : Int32))))), ss, vd (FP.dsub (FP.i2d p1) (FP.dmul (FP.i2d (0 : Int32)) (FP.ddiv (FP.dsub (FP.i2d p1) (FP.i2d p0)) (FP.i2d (2 : Int32))))), ss] [(.double (own_exp (FP.i2d p0) (FP.i2d p1) (2 : Int32) md (5 : Int32))), (.double (FP.dsub (FP.i2d p1) (FP.dmul (FP.i2d (0 : Int32)) (FP.ddiv (FP.dsub (FP.i2d p1) (FP.i2d p0)) (FP.i2d (2 : Int32))))))]) := fun tQ kk => k3130 tQ (st3141 _ kk)
          clear k3130 st3141
          have k3147 : own_G p e below E0 T3131 (mkF m 353 #[vi p0, vi p1, vi p2, vi p3, vi (2 : Int32), vi (2 : Int32), vi md, vd (FP.i2d p0), ss, vd (FP.i2d p1), ss, vr a873, vi (1 : Int32), vd (FP.dsub (FP.i2d p1) (FP.dmul (FP.i2d (1 : Int32)) (FP.ddiv (FP.dsub (FP.i2d p1) (FP.i2d p0)) (FP.i2d (2 : Int32))))), ss, vi (1 : Int32), vd (FP.dsub (FP.i2d p1) (FP.dmul (FP.i2d (0 : Int32)) (FP.ddiv (FP.dsub (FP.i2d p1) (FP.i2d p0)) (FP.i2d (2 : Int32))))), ss, vd (FP.dsub (FP.i2d p1) (FP.dmul (FP.i2d (0 : Int32)) (FP.ddiv (FP.dsub (FP.i2d p1) (FP.i2d p0)) (FP.i2d (2 : Int32))))), ss, vd (FP.dsub (FP.i2d p1) (FP.dmul (FP.i2d (0 : Int32)) (FP.ddiv (FP.dsub (FP.i2d p1) (FP.i2d p0)) (FP.i2d (2 : Int32))))), ss, vd (FP.dsub (FP.i2d p1) (FP.dmul (FP.i2d (0 : Int32)) (FP.ddiv (FP.dsub (FP.i2d p1) (FP.i2d p0)) (FP.i2d (2 : Int32))))), ss] [(.ref a873)]) := by
            intro tQ kk
            refine k3146 tQ ?_
            refine XS.dcmpS (v := (0 : Int32)) X3135.here hx rfl (hb hby at_302) rfl (own_eZ p0 p1 cm1 cm2 cE (show own_mx 0 ((2 : Int32) - (5 : Int32)) = 0 by decide) (by decide)) ?_
            refine XS.ifNo X3135.here hx rfl (hb hby at_303) rfl (own_if_neN (by decide)) ?_
            refine XS.iconst X3135.here hx rfl (hb hby at_306) ?_
            refine XS.goto X3135.here hx rfl (pc0 := 307) (pc' := 311) rfl (hb hby at_307) (by decide) (by decide) ?_
            show Steps p.tables e below (T3131.setTop (mkF m 311 #[vi p0, vi p1, vi p2, vi p3, vi (2 : Int32), vi (2 : Int32), vi md, vd (FP.i2d p0), ss, vd (FP.i2d p1), ss, vr a873, vi (1 : Int32), vd (FP.dsub (FP.i2d p1) (FP.dmul (FP.i2d (1 : Int32)) (FP.ddiv (FP.dsub (FP.i2d p1) (FP.i2d p0)) (FP.i2d (2 : Int32))))), ss, vi (1 : Int32), vd (FP.dsub (FP.i2d p1) (FP.dmul (FP.i2d (0 : Int32)) (FP.ddiv (FP.dsub (FP.i2d p1) (FP.i2d p0)) (FP.i2d (2 : Int32))))), ss, vd (FP.dsub (FP.i2d p1) (FP.dmul (FP.i2d (0 : Int32)) (FP.ddiv (FP.dsub (FP.i2d p1) (FP.i2d p0)) (FP.i2d (2 : Int32))))), ss, vd (FP.dsub (FP.i2d p1) (FP.dmul (FP.i2d (0 : Int32)) (FP.ddiv (FP.dsub (FP.i2d p1) (FP.i2d p0)) (FP.i2d (2 : Int32))))), ss, vd (FP.dsub (FP.i2d p1) (FP.dmul (FP.i2d (0 : Int32)) (FP.ddiv (FP.dsub (FP.i2d p1) (FP.i2d p0)) (FP.i2d (2 : Int32))))), ss] [(.int (1 : Int32))])) tQ
            refine XS.istore X3135.here hx rfl (hb hby at_311) rfl (l' := #[vi p0, vi p1, vi p2, vi p3, vi (2 : Int32), vi (2 : Int32), vi md, vd (FP.i2d p0), ss, vd (FP.i2d p1), ss, vr a873, vi (1 : Int32), vd (FP.dsub (FP.i2d p1) (FP.dmul (FP.i2d (1 : Int32)) (FP.ddiv (FP.dsub (FP.i2d p1) (FP.i2d p0)) (FP.i2d (2 : Int32))))), ss, vi (1 : Int32), vd (FP.dsub (FP.i2d p1) (FP.dmul (FP.i2d (0 : Int32)) (FP.ddiv (FP.dsub (FP.i2d p1) (FP.i2d p0)) (FP.i2d (2 : Int32))))), ss, vd (FP.dsub (FP.i2d p1) (FP.dmul (FP.i2d (0 : Int32)) (FP.ddiv (FP.dsub (FP.i2d p1) (FP.i2d p0)) (FP.i2d (2 : Int32))))), ss, vd (FP.dsub (FP.i2d p1) (FP.dmul (FP.i2d (0 : Int32)) (FP.ddiv (FP.dsub (FP.i2d p1) (FP.i2d p0)) (FP.i2d (2 : Int32))))), ss, vd (FP.dsub (FP.i2d p1) (FP.dmul (FP.i2d (0 : Int32)) (FP.ddiv (FP.dsub (FP.i2d p1) (FP.i2d p0)) (FP.i2d (2 : Int32))))), ss]) rfl ?_
            refine XS.iload X3135.here hx rfl (hb hby at_313) rfl ?_
            refine XS.ifNo X3135.here hx rfl (hb hby at_315) rfl (own_if_eqN (by decide)) ?_
            refine XS.dload X3135.here hx rfl (hb hby at_318) rfl ?_
            show Steps p.tables e below (T3131.setTop (mkF m 320 #[vi p0, vi p1, vi p2, vi p3, vi (2 : Int32), vi (2 : Int32), vi md, vd (FP.i2d p0), ss, vd (FP.i2d p1), ss, vr a873, vi (1 : Int32), vd (FP.dsub (FP.i2d p1) (FP.dmul (FP.i2d (1 : Int32)) (FP.ddiv (FP.dsub (FP.i2d p1) (FP.i2d p0)) (FP.i2d (2 : Int32))))), ss, vi (1 : Int32), vd (FP.dsub (FP.i2d p1) (FP.dmul (FP.i2d (0 : Int32)) (FP.ddiv (FP.dsub (FP.i2d p1) (FP.i2d p0)) (FP.i2d (2 : Int32))))), ss, vd (FP.dsub (FP.i2d p1) (FP.dmul (FP.i2d (0 : Int32)) (FP.ddiv (FP.dsub (FP.i2d p1) (FP.i2d p0)) (FP.i2d (2 : Int32))))), ss, vd (FP.dsub (FP.i2d p1) (FP.dmul (FP.i2d (0 : Int32)) (FP.ddiv (FP.dsub (FP.i2d p1) (FP.i2d p0)) (FP.i2d (2 : Int32))))), ss, vd (FP.dsub (FP.i2d p1) (FP.dmul (FP.i2d (0 : Int32)) (FP.ddiv (FP.dsub (FP.i2d p1) (FP.i2d p0)) (FP.i2d (2 : Int32))))), ss] [(.double (FP.dsub (FP.i2d p1) (FP.dmul (FP.i2d (0 : Int32)) (FP.ddiv (FP.dsub (FP.i2d p1) (FP.i2d p0)) (FP.i2d (2 : Int32))))))])) tQ
            refine XS.dload X3135.here hx rfl (hb hby at_320) rfl ?_
            refine XS.dcmpS (v := (0 : Int32)) X3135.here hx rfl (hb hby at_322) rfl (own_tz p0 p1 (F := (2 : Int32)) (by decide)) ?_
            refine XS.ifYes X3135.here hx rfl (pc0 := 323) (pc' := 339) rfl (hb hby at_323) rfl (own_if_eqY (by decide)) (by decide) (by decide) ?_
            refine XS.iconst X3135.here hx rfl (hb hby at_339) ?_
            show Steps p.tables e below (T3131.setTop (mkF m 340 #[vi p0, vi p1, vi p2, vi p3, vi (2 : Int32), vi (2 : Int32), vi md, vd (FP.i2d p0), ss, vd (FP.i2d p1), ss, vr a873, vi (1 : Int32), vd (FP.dsub (FP.i2d p1) (FP.dmul (FP.i2d (1 : Int32)) (FP.ddiv (FP.dsub (FP.i2d p1) (FP.i2d p0)) (FP.i2d (2 : Int32))))), ss, vi (1 : Int32), vd (FP.dsub (FP.i2d p1) (FP.dmul (FP.i2d (0 : Int32)) (FP.ddiv (FP.dsub (FP.i2d p1) (FP.i2d p0)) (FP.i2d (2 : Int32))))), ss, vd (FP.dsub (FP.i2d p1) (FP.dmul (FP.i2d (0 : Int32)) (FP.ddiv (FP.dsub (FP.i2d p1) (FP.i2d p0)) (FP.i2d (2 : Int32))))), ss, vd (FP.dsub (FP.i2d p1) (FP.dmul (FP.i2d (0 : Int32)) (FP.ddiv (FP.dsub (FP.i2d p1) (FP.i2d p0)) (FP.i2d (2 : Int32))))), ss, vd (FP.dsub (FP.i2d p1) (FP.dmul (FP.i2d (0 : Int32)) (FP.ddiv (FP.dsub (FP.i2d p1) (FP.i2d p0)) (FP.i2d (2 : Int32))))), ss] [(.int (1 : Int32))])) tQ
            refine XS.goto X3135.here hx rfl (pc0 := 340) (pc' := 344) rfl (hb hby at_340) (by decide) (by decide) ?_
            refine XS.istore X3135.here hx rfl (hb hby at_344) rfl (l' := #[vi p0, vi p1, vi p2, vi p3, vi (2 : Int32), vi (2 : Int32), vi md, vd (FP.i2d p0), ss, vd (FP.i2d p1), ss, vr a873, vi (1 : Int32), vd (FP.dsub (FP.i2d p1) (FP.dmul (FP.i2d (1 : Int32)) (FP.ddiv (FP.dsub (FP.i2d p1) (FP.i2d p0)) (FP.i2d (2 : Int32))))), ss, vi (1 : Int32), vd (FP.dsub (FP.i2d p1) (FP.dmul (FP.i2d (0 : Int32)) (FP.ddiv (FP.dsub (FP.i2d p1) (FP.i2d p0)) (FP.i2d (2 : Int32))))), ss, vd (FP.dsub (FP.i2d p1) (FP.dmul (FP.i2d (0 : Int32)) (FP.ddiv (FP.dsub (FP.i2d p1) (FP.i2d p0)) (FP.i2d (2 : Int32))))), ss, vd (FP.dsub (FP.i2d p1) (FP.dmul (FP.i2d (0 : Int32)) (FP.ddiv (FP.dsub (FP.i2d p1) (FP.i2d p0)) (FP.i2d (2 : Int32))))), ss, vd (FP.dsub (FP.i2d p1) (FP.dmul (FP.i2d (0 : Int32)) (FP.ddiv (FP.dsub (FP.i2d p1) (FP.i2d p0)) (FP.i2d (2 : Int32))))), ss]) rfl ?_
            refine XS.iload X3135.here hx rfl (hb hby at_346) rfl ?_
            refine XS.ifNo X3135.here hx rfl (hb hby at_348) rfl (own_if_eqN (by decide)) ?_
            show Steps p.tables e below (T3131.setTop (mkF m 351 #[vi p0, vi p1, vi p2, vi p3, vi (2 : Int32), vi (2 : Int32), vi md, vd (FP.i2d p0), ss, vd (FP.i2d p1), ss, vr a873, vi (1 : Int32), vd (FP.dsub (FP.i2d p1) (FP.dmul (FP.i2d (1 : Int32)) (FP.ddiv (FP.dsub (FP.i2d p1) (FP.i2d p0)) (FP.i2d (2 : Int32))))), ss, vi (1 : Int32), vd (FP.dsub (FP.i2d p1) (FP.dmul (FP.i2d (0 : Int32)) (FP.ddiv (FP.dsub (FP.i2d p1) (FP.i2d p0)) (FP.i2d (2 : Int32))))), ss, vd (FP.dsub (FP.i2d p1) (FP.dmul (FP.i2d (0 : Int32)) (FP.ddiv (FP.dsub (FP.i2d p1) (FP.i2d p0)) (FP.i2d (2 : Int32))))), ss, vd (FP.dsub (FP.i2d p1) (FP.dmul (FP.i2d (0 : Int32)) (FP.ddiv (FP.dsub (FP.i2d p1) (FP.i2d p0)) (FP.i2d (2 : Int32))))), ss, vd (FP.dsub (FP.i2d p1) (FP.dmul (FP.i2d (0 : Int32)) (FP.ddiv (FP.dsub (FP.i2d p1) (FP.i2d p0)) (FP.i2d (2 : Int32))))), ss] [])) tQ
            refine XS.aload X3135.here hx rfl (hb hby at_351) rfl rfl ?_
            exact kk
          clear k3146
          obtain ⟨cq3159, kq3160, qa3161, qb3162, qc3163⟩ := isOf hZ e3143 F3118
          obtain ⟨_, _, ⟨T3148, L3149, kc3150, nc3151⟩, -, X3152, ⟨Lc3153, hQ3154, l3155, y3156, z3157⟩, st3158⟩ := X3135.virtualBack hx (y := mn15) (z := mn15) hown (mvT hZ (tw57 hw)) (mvT hZ (tw58 hw)) (notFace_of_selects (args := #[]) (mvT hZ (tw60 hw))) (mvT hZ (tw60 hw)) (mvT hZ (tw59 hw)) (by decide) (backOf (W := 0) (rmVl l Z a0 hw [] a873 (FP.dsub (FP.i2d p1) (FP.dmul (FP.i2d (0 : Int32)) (FP.ddiv (FP.dsub (FP.i2d p1) (FP.i2d p0)) (FP.i2d (2 : Int32))))) T3091.heap n0 Z3117 F3126) hZ (tw61 hw) (tw7 hw) (by decide) (by decide)) qa3161 qc3163 (g := (mkF m 353 #[vi p0, vi p1, vi p2, vi p3, vi (2 : Int32), vi (2 : Int32), vi md, vd (FP.i2d p0), ss, vd (FP.i2d p1), ss, vr a873, vi (1 : Int32), vd (FP.dsub (FP.i2d p1) (FP.dmul (FP.i2d (1 : Int32)) (FP.ddiv (FP.dsub (FP.i2d p1) (FP.i2d p0)) (FP.i2d (2 : Int32))))), ss, vi (1 : Int32), vd (FP.dsub (FP.i2d p1) (FP.dmul (FP.i2d (0 : Int32)) (FP.ddiv (FP.dsub (FP.i2d p1) (FP.i2d p0)) (FP.i2d (2 : Int32))))), ss, vd (FP.dsub (FP.i2d p1) (FP.dmul (FP.i2d (0 : Int32)) (FP.ddiv (FP.dsub (FP.i2d p1) (FP.i2d p0)) (FP.i2d (2 : Int32))))), ss, vd (FP.dsub (FP.i2d p1) (FP.dmul (FP.i2d (0 : Int32)) (FP.ddiv (FP.dsub (FP.i2d p1) (FP.i2d p0)) (FP.i2d (2 : Int32))))), ss, vd (FP.dsub (FP.i2d p1) (FP.dmul (FP.i2d (0 : Int32)) (FP.ddiv (FP.dsub (FP.i2d p1) (FP.i2d p0)) (FP.i2d (2 : Int32))))), ss] [(.ref a873)])) rfl (by rw [hml]; rfl) (Steps.refl _) (argsL := []) (rest := []) (lenOf pd_20 rfl) rfl (by show 2 * 0 + _ ≤ _; exact Nat.le_of_eq rfl) (hb hby at_353) (fun _ _ => ⟨rfl, e3143, (by decide : 1 + 0 ≤ _), (by decide : 5 + 0 ≤ _)⟩)
          dsimp only [Pt.U, Pt.locs, Pt.cells, Pt.slots] at X3152 l3155 y3156 z3157 st3158 hQ3154
          subst l3155 y3156 z3157
          obtain ⟨rfl, N3164, e3165⟩ := hQ3154
          have N3167 := Fr.app N3145 N3164
          have k3168 : own_G p e below E0 T3148 (mkF m 356 #[vi p0, vi p1, vi p2, vi p3, vi (2 : Int32), vi (2 : Int32), vi md, vd (FP.i2d p0), ss, vd (FP.i2d p1), ss, vr a873, vi (1 : Int32), vd (FP.dsub (FP.i2d p1) (FP.dmul (FP.i2d (1 : Int32)) (FP.ddiv (FP.dsub (FP.i2d p1) (FP.i2d p0)) (FP.i2d (2 : Int32))))), ss, vi (1 : Int32), vd (FP.dsub (FP.i2d p1) (FP.dmul (FP.i2d (0 : Int32)) (FP.ddiv (FP.dsub (FP.i2d p1) (FP.i2d p0)) (FP.i2d (2 : Int32))))), ss, vd (FP.dsub (FP.i2d p1) (FP.dmul (FP.i2d (0 : Int32)) (FP.ddiv (FP.dsub (FP.i2d p1) (FP.i2d p0)) (FP.i2d (2 : Int32))))), ss, vd (FP.dsub (FP.i2d p1) (FP.dmul (FP.i2d (0 : Int32)) (FP.ddiv (FP.dsub (FP.i2d p1) (FP.i2d p0)) (FP.i2d (2 : Int32))))), ss, vd (FP.dsub (FP.i2d p1) (FP.dmul (FP.i2d (0 : Int32)) (FP.ddiv (FP.dsub (FP.i2d p1) (FP.i2d p0)) (FP.i2d (2 : Int32))))), ss] [(.double (FP.dsub (FP.i2d p1) (FP.dmul (FP.i2d (0 : Int32)) (FP.ddiv (FP.dsub (FP.i2d p1) (FP.i2d p0)) (FP.i2d (2 : Int32))))))]) := fun tQ kk => k3147 tQ (st3158.trans kk)
          clear k3147 st3158
          have k3169 : own_G p e below E0 T3148 (mkF m 376 #[vi p0, vi p1, vi p2, vi p3, vi (2 : Int32), vi (2 : Int32), vi md, vd (FP.i2d p0), ss, vd (FP.i2d p1), ss, vr a873, vi (1 : Int32), vd (FP.dsub (FP.i2d p1) (FP.dmul (FP.i2d (1 : Int32)) (FP.ddiv (FP.dsub (FP.i2d p1) (FP.i2d p0)) (FP.i2d (2 : Int32))))), ss, vi (1 : Int32), vd (FP.dsub (FP.i2d p1) (FP.dmul (FP.i2d (0 : Int32)) (FP.ddiv (FP.dsub (FP.i2d p1) (FP.i2d p0)) (FP.i2d (2 : Int32))))), ss, vd (FP.dsub (FP.i2d p1) (FP.dmul (FP.i2d (0 : Int32)) (FP.ddiv (FP.dsub (FP.i2d p1) (FP.i2d p0)) (FP.i2d (2 : Int32))))), ss, vd (FP.dsub (FP.i2d p1) (FP.dmul (FP.i2d (0 : Int32)) (FP.ddiv (FP.dsub (FP.i2d p1) (FP.i2d p0)) (FP.i2d (2 : Int32))))), ss, vd (FP.dsub (FP.i2d p1) (FP.dmul (FP.i2d (0 : Int32)) (FP.ddiv (FP.dsub (FP.i2d p1) (FP.i2d p0)) (FP.i2d (2 : Int32))))), ss] [(.ref a873)]) := by
            intro tQ kk
            refine k3168 tQ ?_
            refine XS.dload X3152.here hx rfl (hb hby at_356) rfl ?_
            refine XS.dcmpS (v := (0 : Int32)) X3152.here hx rfl (hb hby at_358) rfl (dcmpV_self (own_q3 p0 p1 (by decide) (by decide)).2 .l) ?_
            refine XS.ifNo X3152.here hx rfl (hb hby at_359) rfl (own_if_neN (by decide)) ?_
            refine XS.iconst X3152.here hx rfl (hb hby at_362) ?_
            show Steps p.tables e below (T3148.setTop (mkF m 363 #[vi p0, vi p1, vi p2, vi p3, vi (2 : Int32), vi (2 : Int32), vi md, vd (FP.i2d p0), ss, vd (FP.i2d p1), ss, vr a873, vi (1 : Int32), vd (FP.dsub (FP.i2d p1) (FP.dmul (FP.i2d (1 : Int32)) (FP.ddiv (FP.dsub (FP.i2d p1) (FP.i2d p0)) (FP.i2d (2 : Int32))))), ss, vi (1 : Int32), vd (FP.dsub (FP.i2d p1) (FP.dmul (FP.i2d (0 : Int32)) (FP.ddiv (FP.dsub (FP.i2d p1) (FP.i2d p0)) (FP.i2d (2 : Int32))))), ss, vd (FP.dsub (FP.i2d p1) (FP.dmul (FP.i2d (0 : Int32)) (FP.ddiv (FP.dsub (FP.i2d p1) (FP.i2d p0)) (FP.i2d (2 : Int32))))), ss, vd (FP.dsub (FP.i2d p1) (FP.dmul (FP.i2d (0 : Int32)) (FP.ddiv (FP.dsub (FP.i2d p1) (FP.i2d p0)) (FP.i2d (2 : Int32))))), ss, vd (FP.dsub (FP.i2d p1) (FP.dmul (FP.i2d (0 : Int32)) (FP.ddiv (FP.dsub (FP.i2d p1) (FP.i2d p0)) (FP.i2d (2 : Int32))))), ss] [(.int (1 : Int32))])) tQ
            refine XS.goto X3152.here hx rfl (pc0 := 363) (pc' := 367) rfl (hb hby at_363) (by decide) (by decide) ?_
            refine XS.istore X3152.here hx rfl (hb hby at_367) rfl (l' := #[vi p0, vi p1, vi p2, vi p3, vi (2 : Int32), vi (2 : Int32), vi md, vd (FP.i2d p0), ss, vd (FP.i2d p1), ss, vr a873, vi (1 : Int32), vd (FP.dsub (FP.i2d p1) (FP.dmul (FP.i2d (1 : Int32)) (FP.ddiv (FP.dsub (FP.i2d p1) (FP.i2d p0)) (FP.i2d (2 : Int32))))), ss, vi (1 : Int32), vd (FP.dsub (FP.i2d p1) (FP.dmul (FP.i2d (0 : Int32)) (FP.ddiv (FP.dsub (FP.i2d p1) (FP.i2d p0)) (FP.i2d (2 : Int32))))), ss, vd (FP.dsub (FP.i2d p1) (FP.dmul (FP.i2d (0 : Int32)) (FP.ddiv (FP.dsub (FP.i2d p1) (FP.i2d p0)) (FP.i2d (2 : Int32))))), ss, vd (FP.dsub (FP.i2d p1) (FP.dmul (FP.i2d (0 : Int32)) (FP.ddiv (FP.dsub (FP.i2d p1) (FP.i2d p0)) (FP.i2d (2 : Int32))))), ss, vd (FP.dsub (FP.i2d p1) (FP.dmul (FP.i2d (0 : Int32)) (FP.ddiv (FP.dsub (FP.i2d p1) (FP.i2d p0)) (FP.i2d (2 : Int32))))), ss]) rfl ?_
            refine XS.iload X3152.here hx rfl (hb hby at_369) rfl ?_
            refine XS.ifNo X3152.here hx rfl (hb hby at_371) rfl (own_if_eqN (by decide)) ?_
            show Steps p.tables e below (T3148.setTop (mkF m 374 #[vi p0, vi p1, vi p2, vi p3, vi (2 : Int32), vi (2 : Int32), vi md, vd (FP.i2d p0), ss, vd (FP.i2d p1), ss, vr a873, vi (1 : Int32), vd (FP.dsub (FP.i2d p1) (FP.dmul (FP.i2d (1 : Int32)) (FP.ddiv (FP.dsub (FP.i2d p1) (FP.i2d p0)) (FP.i2d (2 : Int32))))), ss, vi (1 : Int32), vd (FP.dsub (FP.i2d p1) (FP.dmul (FP.i2d (0 : Int32)) (FP.ddiv (FP.dsub (FP.i2d p1) (FP.i2d p0)) (FP.i2d (2 : Int32))))), ss, vd (FP.dsub (FP.i2d p1) (FP.dmul (FP.i2d (0 : Int32)) (FP.ddiv (FP.dsub (FP.i2d p1) (FP.i2d p0)) (FP.i2d (2 : Int32))))), ss, vd (FP.dsub (FP.i2d p1) (FP.dmul (FP.i2d (0 : Int32)) (FP.ddiv (FP.dsub (FP.i2d p1) (FP.i2d p0)) (FP.i2d (2 : Int32))))), ss, vd (FP.dsub (FP.i2d p1) (FP.dmul (FP.i2d (0 : Int32)) (FP.ddiv (FP.dsub (FP.i2d p1) (FP.i2d p0)) (FP.i2d (2 : Int32))))), ss] [])) tQ
            refine XS.aload X3152.here hx rfl (hb hby at_374) rfl rfl ?_
            exact kk
          clear k3168
          obtain ⟨cq3181, kq3182, qa3183, qb3184, qc3185⟩ := isOf hZ e3165 F3118
          obtain ⟨_, _, ⟨T3170, L3171, kc3172, nc3173⟩, -, X3174, ⟨Lc3175, hQ3176, l3177, y3178, z3179⟩, st3180⟩ := X3152.virtualBack hx (y := mn14) (z := mn14) hown (mvT hZ (tw52 hw)) (mvT hZ (tw53 hw)) (notFace_of_selects (args := #[]) (mvT hZ (tw55 hw))) (mvT hZ (tw55 hw)) (mvT hZ (tw54 hw)) (by decide) (backOf (W := 0) (rmMv l Z a0 hw [] a873 (0 : Int32) T3091.heap n0 Z3117 F3128) hZ (tw56 hw) (tw7 hw) (by decide) (by decide)) qa3183 qc3185 (g := (mkF m 376 #[vi p0, vi p1, vi p2, vi p3, vi (2 : Int32), vi (2 : Int32), vi md, vd (FP.i2d p0), ss, vd (FP.i2d p1), ss, vr a873, vi (1 : Int32), vd (FP.dsub (FP.i2d p1) (FP.dmul (FP.i2d (1 : Int32)) (FP.ddiv (FP.dsub (FP.i2d p1) (FP.i2d p0)) (FP.i2d (2 : Int32))))), ss, vi (1 : Int32), vd (FP.dsub (FP.i2d p1) (FP.dmul (FP.i2d (0 : Int32)) (FP.ddiv (FP.dsub (FP.i2d p1) (FP.i2d p0)) (FP.i2d (2 : Int32))))), ss, vd (FP.dsub (FP.i2d p1) (FP.dmul (FP.i2d (0 : Int32)) (FP.ddiv (FP.dsub (FP.i2d p1) (FP.i2d p0)) (FP.i2d (2 : Int32))))), ss, vd (FP.dsub (FP.i2d p1) (FP.dmul (FP.i2d (0 : Int32)) (FP.ddiv (FP.dsub (FP.i2d p1) (FP.i2d p0)) (FP.i2d (2 : Int32))))), ss, vd (FP.dsub (FP.i2d p1) (FP.dmul (FP.i2d (0 : Int32)) (FP.ddiv (FP.dsub (FP.i2d p1) (FP.i2d p0)) (FP.i2d (2 : Int32))))), ss] [(.ref a873)])) rfl (by rw [hml]; rfl) (Steps.refl _) (argsL := []) (rest := []) (lenOf pd_22 rfl) rfl (by show 2 * 0 + _ ≤ _; exact Nat.le_of_eq rfl) (hb hby at_376) (fun _ _ => ⟨rfl, e3165, (by decide : 1 + 0 ≤ _), (by decide : 5 + 0 ≤ _)⟩)
          dsimp only [Pt.U, Pt.locs, Pt.cells, Pt.slots] at X3174 l3177 y3178 z3179 st3180 hQ3176
          subst l3177 y3178 z3179
          obtain ⟨rfl, N3186, e3187⟩ := hQ3176
          have N3189 := Fr.app N3167 N3186
          have k3190 : own_G p e below E0 T3170 (mkF m 379 #[vi p0, vi p1, vi p2, vi p3, vi (2 : Int32), vi (2 : Int32), vi md, vd (FP.i2d p0), ss, vd (FP.i2d p1), ss, vr a873, vi (1 : Int32), vd (FP.dsub (FP.i2d p1) (FP.dmul (FP.i2d (1 : Int32)) (FP.ddiv (FP.dsub (FP.i2d p1) (FP.i2d p0)) (FP.i2d (2 : Int32))))), ss, vi (1 : Int32), vd (FP.dsub (FP.i2d p1) (FP.dmul (FP.i2d (0 : Int32)) (FP.ddiv (FP.dsub (FP.i2d p1) (FP.i2d p0)) (FP.i2d (2 : Int32))))), ss, vd (FP.dsub (FP.i2d p1) (FP.dmul (FP.i2d (0 : Int32)) (FP.ddiv (FP.dsub (FP.i2d p1) (FP.i2d p0)) (FP.i2d (2 : Int32))))), ss, vd (FP.dsub (FP.i2d p1) (FP.dmul (FP.i2d (0 : Int32)) (FP.ddiv (FP.dsub (FP.i2d p1) (FP.i2d p0)) (FP.i2d (2 : Int32))))), ss, vd (FP.dsub (FP.i2d p1) (FP.dmul (FP.i2d (0 : Int32)) (FP.ddiv (FP.dsub (FP.i2d p1) (FP.i2d p0)) (FP.i2d (2 : Int32))))), ss] [(.int (own_mv (0 : Int32)))]) := fun tQ kk => k3169 tQ (st3180.trans kk)
          clear k3169 st3180
          have eq3191 : (own_mv (0 : Int32)) = (0 : Int32) := by decide
          rw [eq3191] at k3190
          have k3192 : own_G p e below E0 T3170 (mkF m 391 #[vi p0, vi p1, vi p2, vi p3, vi (2 : Int32), vi (2 : Int32), vi md, vd (FP.i2d p0), ss, vd (FP.i2d p1), ss, vr a873, vi (1 : Int32), vd (FP.dsub (FP.i2d p1) (FP.dmul (FP.i2d (1 : Int32)) (FP.ddiv (FP.dsub (FP.i2d p1) (FP.i2d p0)) (FP.i2d (2 : Int32))))), ss, vi (1 : Int32), vd (FP.dsub (FP.i2d p1) (FP.dmul (FP.i2d (0 : Int32)) (FP.ddiv (FP.dsub (FP.i2d p1) (FP.i2d p0)) (FP.i2d (2 : Int32))))), ss, vd (FP.dsub (FP.i2d p1) (FP.dmul (FP.i2d (0 : Int32)) (FP.ddiv (FP.dsub (FP.i2d p1) (FP.i2d p0)) (FP.i2d (2 : Int32))))), ss, vd (FP.dsub (FP.i2d p1) (FP.dmul (FP.i2d (0 : Int32)) (FP.ddiv (FP.dsub (FP.i2d p1) (FP.i2d p0)) (FP.i2d (2 : Int32))))), ss, vd (FP.dsub (FP.i2d p1) (FP.dmul (FP.i2d (0 : Int32)) (FP.ddiv (FP.dsub (FP.i2d p1) (FP.i2d p0)) (FP.i2d (2 : Int32))))), ss] [(.int (1 : Int32))]) := by
            intro tQ kk
            refine k3190 tQ ?_
            refine XS.ifNo X3174.here hx rfl (hb hby at_379) rfl (own_if_neN (by decide)) ?_
            refine XS.iconst X3174.here hx rfl (hb hby at_382) ?_
            refine XS.goto X3174.here hx rfl (pc0 := 383) (pc' := 387) rfl (hb hby at_383) (by decide) (by decide) ?_
            refine XS.istore X3174.here hx rfl (hb hby at_387) rfl (l' := #[vi p0, vi p1, vi p2, vi p3, vi (2 : Int32), vi (2 : Int32), vi md, vd (FP.i2d p0), ss, vd (FP.i2d p1), ss, vr a873, vi (1 : Int32), vd (FP.dsub (FP.i2d p1) (FP.dmul (FP.i2d (1 : Int32)) (FP.ddiv (FP.dsub (FP.i2d p1) (FP.i2d p0)) (FP.i2d (2 : Int32))))), ss, vi (1 : Int32), vd (FP.dsub (FP.i2d p1) (FP.dmul (FP.i2d (0 : Int32)) (FP.ddiv (FP.dsub (FP.i2d p1) (FP.i2d p0)) (FP.i2d (2 : Int32))))), ss, vd (FP.dsub (FP.i2d p1) (FP.dmul (FP.i2d (0 : Int32)) (FP.ddiv (FP.dsub (FP.i2d p1) (FP.i2d p0)) (FP.i2d (2 : Int32))))), ss, vd (FP.dsub (FP.i2d p1) (FP.dmul (FP.i2d (0 : Int32)) (FP.ddiv (FP.dsub (FP.i2d p1) (FP.i2d p0)) (FP.i2d (2 : Int32))))), ss, vd (FP.dsub (FP.i2d p1) (FP.dmul (FP.i2d (0 : Int32)) (FP.ddiv (FP.dsub (FP.i2d p1) (FP.i2d p0)) (FP.i2d (2 : Int32))))), ss]) rfl ?_
            show Steps p.tables e below (T3170.setTop (mkF m 389 #[vi p0, vi p1, vi p2, vi p3, vi (2 : Int32), vi (2 : Int32), vi md, vd (FP.i2d p0), ss, vd (FP.i2d p1), ss, vr a873, vi (1 : Int32), vd (FP.dsub (FP.i2d p1) (FP.dmul (FP.i2d (1 : Int32)) (FP.ddiv (FP.dsub (FP.i2d p1) (FP.i2d p0)) (FP.i2d (2 : Int32))))), ss, vi (1 : Int32), vd (FP.dsub (FP.i2d p1) (FP.dmul (FP.i2d (0 : Int32)) (FP.ddiv (FP.dsub (FP.i2d p1) (FP.i2d p0)) (FP.i2d (2 : Int32))))), ss, vd (FP.dsub (FP.i2d p1) (FP.dmul (FP.i2d (0 : Int32)) (FP.ddiv (FP.dsub (FP.i2d p1) (FP.i2d p0)) (FP.i2d (2 : Int32))))), ss, vd (FP.dsub (FP.i2d p1) (FP.dmul (FP.i2d (0 : Int32)) (FP.ddiv (FP.dsub (FP.i2d p1) (FP.i2d p0)) (FP.i2d (2 : Int32))))), ss, vd (FP.dsub (FP.i2d p1) (FP.dmul (FP.i2d (0 : Int32)) (FP.ddiv (FP.dsub (FP.i2d p1) (FP.i2d p0)) (FP.i2d (2 : Int32))))), ss] [])) tQ
            refine XS.iload X3174.here hx rfl (hb hby at_389) rfl ?_
            exact kk
          clear k3190
          obtain ⟨fs, hr, hrun, hended, hW, hsame⟩ := X3174.leave (v := some (.int (1 : Int32))) (fun h => by rw [Bd.returns] at h; cases h)
          have hrun0 := k3192 _ (retOut X3174 hx Bd.returns (t := .boolean) rfl (Or.inl ⟨rfl, Or.inr (Or.inl rfl), _, rfl⟩) (hb hby at_391) hr)
          subst hE0
          refine ⟨_, _, hrun0, hrun, hended, _, _, rfl, ?_, ⟨_, rfl⟩, hW, hsame.mono (by decide) (by decide)⟩
          show Qrm0 Z p0 p1 p2 p3 h0 n0 _ T3170.heap _
          rw [e3187]
          exact ⟨rfl, N3189⟩
        · skip
          have eq3193 : (own_F (3 : Int32)) = (3 : Int32) := by decide
          rw [eq3193] at k2109
          have eq3194 : (own_F (3 : Int32)) = (3 : Int32) := by decide
          have F3195 : fd7 Z T1709.heap a873 (.int (3 : Int32)) := by rw [← eq3194]; exact F2108
          have eq3196 : (own_F (3 : Int32)) = (3 : Int32) := by decide
          have F3197 : fd3 Z T1709.heap a873 (.int (3 : Int32)) := by rw [← eq3196]; exact g1729
          have eq3198 : (FP.ddiv (FP.dsub (FP.i2d p1) (FP.i2d p0)) (FP.i2d (own_F (3 : Int32)))) = (FP.ddiv (FP.dsub (FP.i2d p1) (FP.i2d p0)) (FP.i2d (3 : Int32))) := by rw [show own_F (3 : Int32) = (3 : Int32) by decide]
          have F3199 : fd6 Z T1709.heap a873 (.double (FP.ddiv (FP.dsub (FP.i2d p1) (FP.i2d p0)) (FP.i2d (3 : Int32)))) := by rw [← eq3198]; exact F2106
          have k3200 : own_G p e below E0 T1709 (mkF m 81 #[vi p0, vi p1, vi p2, vi p3, vi (3 : Int32), vi (3 : Int32), vi md, vd (FP.i2d p0), ss, vd (FP.i2d p1), ss, vr a873, vi (1 : Int32), uu, uu, uu, uu, uu, uu, uu, uu, uu, uu, uu] [(.ref a873)]) := by
            intro tQ kk
            refine k2109 tQ ?_
            refine XS.istore X1713.here hx rfl (hb hby at_77) rfl (l' := #[vi p0, vi p1, vi p2, vi p3, vi (3 : Int32), vi (3 : Int32), vi md, vd (FP.i2d p0), ss, vd (FP.i2d p1), ss, vr a873, vi (1 : Int32), uu, uu, uu, uu, uu, uu, uu, uu, uu, uu, uu]) rfl ?_
            refine XS.aload X1713.here hx rfl (hb hby at_79) rfl rfl ?_
            exact kk
          clear k2109
          obtain ⟨cq3212, kq3213, qa3214, qb3215, qc3216⟩ := isOf hZ rfl F1736
          obtain ⟨_, _, ⟨T3201, L3202, kc3203, nc3204⟩, -, X3205, ⟨Lc3206, hQ3207, l3208, y3209, z3210⟩, st3211⟩ := X1713.virtualBack hx (y := mn13) (z := mn13) hown (mvT hZ (tw43 hw)) (mvT hZ (tw44 hw)) (notFace_of_selects (args := #[]) (mvT hZ (tw46 hw))) (mvT hZ (tw46 hw)) (mvT hZ (tw45 hw)) (by decide) (backOf (W := 0) (rmN l Z a0 hw [] a873 (3 : Int32) (FP.i2d p0) (FP.i2d p1) (FP.ddiv (FP.dsub (FP.i2d p1) (FP.i2d p0)) (FP.i2d (3 : Int32))) (3 : Int32) T1709.heap n0 Z1735 F1736 F3197 g1730 F2104 F3199 F3195 ge875 (fun _ => own_q3 p0 p1 (F := (3 : Int32)) (r := ((3 : Int32) - 1)) (by decide) (by decide))) hZ (tw47 hw) (tw7 hw) (by decide) (by decide)) qa3214 qc3216 (g := (mkF m 81 #[vi p0, vi p1, vi p2, vi p3, vi (3 : Int32), vi (3 : Int32), vi md, vd (FP.i2d p0), ss, vd (FP.i2d p1), ss, vr a873, vi (1 : Int32), uu, uu, uu, uu, uu, uu, uu, uu, uu, uu, uu] [(.ref a873)])) rfl (by rw [hml]; rfl) (Steps.refl _) (argsL := []) (rest := []) (lenOf pd_20 rfl) rfl (by show 2 * 0 + _ ≤ _; exact Nat.le_of_eq rfl) (hb hby at_81) (fun _ _ => ⟨rfl, rfl, (by decide : 1 + 0 ≤ _), (by decide : 5 + 0 ≤ _)⟩)
          dsimp only [Pt.U, Pt.locs, Pt.cells, Pt.slots] at X3205 l3208 y3209 z3210 st3211 hQ3207
          subst l3208 y3209 z3210
          obtain ⟨rfl, N3217, K3220, g3221, g3222, g3223, g3224, g3225⟩ := hQ3207
          have N3226 := Fr.app N1734 N3217
          have Z3227 : n0 ≤ T3201.heap.size := Nat.le_trans Z1735 K3220.1
          have F3228 : xa8 Z T3201.heap a873 := F1736.keep K3220
          clear F1736
          clear F3197
          clear g1730
          clear F2104
          clear F3199
          clear F3195
          have k3234 : own_G p e below E0 T3201 (mkF m 84 #[vi p0, vi p1, vi p2, vi p3, vi (3 : Int32), vi (3 : Int32), vi md, vd (FP.i2d p0), ss, vd (FP.i2d p1), ss, vr a873, vi (1 : Int32), uu, uu, uu, uu, uu, uu, uu, uu, uu, uu, uu] [(.double (own_nv (FP.i2d p0) (FP.i2d p1) (FP.ddiv (FP.dsub (FP.i2d p1) (FP.i2d p0)) (FP.i2d (3 : Int32))) (3 : Int32)))]) := fun tQ kk => k3200 tQ (st3211.trans kk)
          clear k3200 st3211
          have eq3235 : (own_nv (FP.i2d p0) (FP.i2d p1) (FP.ddiv (FP.dsub (FP.i2d p1) (FP.i2d p0)) (FP.i2d (3 : Int32))) (3 : Int32)) = (FP.dsub (FP.i2d p1) (FP.dmul (FP.i2d (2 : Int32)) (FP.ddiv (FP.dsub (FP.i2d p1) (FP.i2d p0)) (FP.i2d (3 : Int32))))) := by rw [own_nv, if_pos (by decide), show (3 : Int32) - 1 = (2 : Int32) by decide]
          have F3236 : fd4 Z T3201.heap a873 (.double (FP.dsub (FP.i2d p1) (FP.dmul (FP.i2d (2 : Int32)) (FP.ddiv (FP.dsub (FP.i2d p1) (FP.i2d p0)) (FP.i2d (3 : Int32)))))) := by rw [← eq3235]; exact g3222
          have eq3237 : (own_nr (3 : Int32)) = (2 : Int32) := by decide
          have F3238 : fd7 Z T3201.heap a873 (.int (2 : Int32)) := by rw [← eq3237]; exact g3225
          have eq3239 : (own_nv (FP.i2d p0) (FP.i2d p1) (FP.ddiv (FP.dsub (FP.i2d p1) (FP.i2d p0)) (FP.i2d (3 : Int32))) (3 : Int32)) = (FP.dsub (FP.i2d p1) (FP.dmul (FP.i2d (2 : Int32)) (FP.ddiv (FP.dsub (FP.i2d p1) (FP.i2d p0)) (FP.i2d (3 : Int32))))) := by rw [own_nv, if_pos (by decide), show (3 : Int32) - 1 = (2 : Int32) by decide]
          rw [eq3239] at k3234
          have k3240 : own_G p e below E0 T3201 (mkF m 102 #[vi p0, vi p1, vi p2, vi p3, vi (3 : Int32), vi (3 : Int32), vi md, vd (FP.i2d p0), ss, vd (FP.i2d p1), ss, vr a873, vi (1 : Int32), vd (FP.dsub (FP.i2d p1) (FP.dmul (FP.i2d (2 : Int32)) (FP.ddiv (FP.dsub (FP.i2d p1) (FP.i2d p0)) (FP.i2d (3 : Int32))))), ss, uu, uu, uu, uu, uu, uu, uu, uu, uu] [(.int (1 : Int32)), (.int md), (.int (3 : Int32)), (.double (FP.i2d p1)), (.double (FP.i2d p0)), (.double (FP.dsub (FP.i2d p1) (FP.dmul (FP.i2d (2 : Int32)) (FP.ddiv (FP.dsub (FP.i2d p1) (FP.i2d p0)) (FP.i2d (3 : Int32))))))]) := by
            intro tQ kk
            refine k3234 tQ ?_
            refine XS.dstore X3205.here hx rfl (hb hby at_84) rfl (l' := #[vi p0, vi p1, vi p2, vi p3, vi (3 : Int32), vi (3 : Int32), vi md, vd (FP.i2d p0), ss, vd (FP.i2d p1), ss, vr a873, vi (1 : Int32), vd (FP.dsub (FP.i2d p1) (FP.dmul (FP.i2d (2 : Int32)) (FP.ddiv (FP.dsub (FP.i2d p1) (FP.i2d p0)) (FP.i2d (3 : Int32))))), ss, uu, uu, uu, uu, uu, uu, uu, uu, uu]) rfl ?_
            refine XS.iload X3205.here hx rfl (hb hby at_86) rfl ?_
            refine XS.ifNo X3205.here hx rfl (hb hby at_88) rfl (own_if_eqN (by decide)) ?_
            refine XS.dload X3205.here hx rfl (hb hby at_91) rfl ?_
            show Steps p.tables e below (T3201.setTop (mkF m 93 #[vi p0, vi p1, vi p2, vi p3, vi (3 : Int32), vi (3 : Int32), vi md, vd (FP.i2d p0), ss, vd (FP.i2d p1), ss, vr a873, vi (1 : Int32), vd (FP.dsub (FP.i2d p1) (FP.dmul (FP.i2d (2 : Int32)) (FP.ddiv (FP.dsub (FP.i2d p1) (FP.i2d p0)) (FP.i2d (3 : Int32))))), ss, uu, uu, uu, uu, uu, uu, uu, uu, uu] [(.double (FP.dsub (FP.i2d p1) (FP.dmul (FP.i2d (2 : Int32)) (FP.ddiv (FP.dsub (FP.i2d p1) (FP.i2d p0)) (FP.i2d (3 : Int32))))))])) tQ
            refine XS.dload X3205.here hx rfl (hb hby at_93) rfl ?_
            refine XS.dload X3205.here hx rfl (hb hby at_95) rfl ?_
            refine XS.iload X3205.here hx rfl (hb hby at_97) rfl ?_
            refine XS.iload X3205.here hx rfl (hb hby at_99) rfl ?_
            show Steps p.tables e below (T3201.setTop (mkF m 101 #[vi p0, vi p1, vi p2, vi p3, vi (3 : Int32), vi (3 : Int32), vi md, vd (FP.i2d p0), ss, vd (FP.i2d p1), ss, vr a873, vi (1 : Int32), vd (FP.dsub (FP.i2d p1) (FP.dmul (FP.i2d (2 : Int32)) (FP.ddiv (FP.dsub (FP.i2d p1) (FP.i2d p0)) (FP.i2d (3 : Int32))))), ss, uu, uu, uu, uu, uu, uu, uu, uu, uu] [(.int md), (.int (3 : Int32)), (.double (FP.i2d p1)), (.double (FP.i2d p0)), (.double (FP.dsub (FP.i2d p1) (FP.dmul (FP.i2d (2 : Int32)) (FP.ddiv (FP.dsub (FP.i2d p1) (FP.i2d p0)) (FP.i2d (3 : Int32))))))])) tQ
            refine XS.iconst X3205.here hx rfl (hb hby at_101) ?_
            exact kk
          clear k3234
          obtain ⟨_, _, ⟨T3241, L3242, kc3243, nc3244⟩, -, X3245, ⟨Lc3246, hQ3247, l3248, y3249, z3250⟩, st3251⟩ := Jvm.LawKit.callS X3205 hx (y := mn16) hown (mvT hZ (tw48 hw)) (mvT hZ (tw49 hw)) (mvT hZ (tw50 hw)) (mvT hZ (tw51 hw)) (by decide) (backOf (W := 2) (rmE l Z a0 hw [] (FP.i2d p0) (FP.i2d p1) (3 : Int32) md (1 : Int32) T3201.heap n0 Z3227 (Fl.i2d_fin p0).noNaN (Fl.i2d_fin p1).noNaN (own_h1 p0 p1) (own_h2 p0 p1 (F := (3 : Int32)) (by decide)) (own_q3 p0 p1 (F := (3 : Int32)) (r := (own_mx 0 ((3 : Int32) - (1 : Int32)))) (by decide) (own_mxb (by decide) (by decide)))) hZ (tw51 hw) (tw50 hw) (by decide) (by decide)) (g := (mkF m 102 #[vi p0, vi p1, vi p2, vi p3, vi (3 : Int32), vi (3 : Int32), vi md, vd (FP.i2d p0), ss, vd (FP.i2d p1), ss, vr a873, vi (1 : Int32), vd (FP.dsub (FP.i2d p1) (FP.dmul (FP.i2d (2 : Int32)) (FP.ddiv (FP.dsub (FP.i2d p1) (FP.i2d p0)) (FP.i2d (3 : Int32))))), ss, uu, uu, uu, uu, uu, uu, uu, uu, uu] [(.int (1 : Int32)), (.int md), (.int (3 : Int32)), (.double (FP.i2d p1)), (.double (FP.i2d p0)), (.double (FP.dsub (FP.i2d p1) (FP.dmul (FP.i2d (2 : Int32)) (FP.ddiv (FP.dsub (FP.i2d p1) (FP.i2d p0)) (FP.i2d (3 : Int32))))))])) rfl (by rw [hml]; rfl) (argsL := [(.double (FP.i2d p0)), (.double (FP.i2d p1)), (.int (3 : Int32)), (.int md), (.int (1 : Int32))]) (rest := [(.double (FP.dsub (FP.i2d p1) (FP.dmul (FP.i2d (2 : Int32)) (FP.ddiv (FP.dsub (FP.i2d p1) (FP.i2d p0)) (FP.i2d (3 : Int32))))))]) (lenOf pd_21 rfl) rfl (by show 2 * 0 + _ ≤ _; exact Nat.le_of_eq rfl) (hb hby at_102) (fun _ _ => ⟨rfl, rfl, (by decide : 1 + 0 ≤ _), (by decide : 5 + 0 ≤ _)⟩)
          dsimp only [Pt.U, Pt.locs, Pt.cells, Pt.slots] at X3245 l3248 y3249 z3250 st3251 hQ3247
          subst l3248 y3249 z3250
          obtain ⟨rfl, N3252, e3253⟩ := hQ3247
          have N3255 := Fr.app N3226 N3252
          have k3256 : own_G p e below E0 T3241 (mkF m 105 #[vi p0, vi p1, vi p2, vi p3, vi (3 : Int32), vi (3 : Int32), vi md, vd (FP.i2d p0), ss, vd (FP.i2d p1), ss, vr a873, vi (1 : Int32), vd (FP.dsub (FP.i2d p1) (FP.dmul (FP.i2d (2 : Int32)) (FP.ddiv (FP.dsub (FP.i2d p1) (FP.i2d p0)) (FP.i2d (3 : Int32))))), ss, uu, uu, uu, uu, uu, uu, uu, uu, uu] [(.double (own_exp (FP.i2d p0) (FP.i2d p1) (3 : Int32) md (1 : Int32))), (.double (FP.dsub (FP.i2d p1) (FP.dmul (FP.i2d (2 : Int32)) (FP.ddiv (FP.dsub (FP.i2d p1) (FP.i2d p0)) (FP.i2d (3 : Int32))))))]) := fun tQ kk => k3240 tQ (st3251 _ kk)
          clear k3240 st3251
          have k3257 : own_G p e below E0 T3241 (mkF m 118 #[vi p0, vi p1, vi p2, vi p3, vi (3 : Int32), vi (3 : Int32), vi md, vd (FP.i2d p0), ss, vd (FP.i2d p1), ss, vr a873, vi (1 : Int32), vd (FP.dsub (FP.i2d p1) (FP.dmul (FP.i2d (2 : Int32)) (FP.ddiv (FP.dsub (FP.i2d p1) (FP.i2d p0)) (FP.i2d (3 : Int32))))), ss, uu, uu, uu, uu, uu, uu, uu, uu, uu] [(.ref a873)]) := by
            intro tQ kk
            refine k3256 tQ ?_
            refine XS.dcmpS (v := (0 : Int32)) X3245.here hx rfl (hb hby at_105) rfl (own_eN cm1 cm2 cE (show own_mx 0 ((3 : Int32) - (1 : Int32)) = (2 : Int32) by decide) (by decide) (own_q3 p0 p1 (by decide) (by decide)).2) ?_
            refine XS.ifNo X3245.here hx rfl (hb hby at_106) rfl (own_if_neN (by decide)) ?_
            refine XS.iconst X3245.here hx rfl (hb hby at_109) ?_
            refine XS.goto X3245.here hx rfl (pc0 := 110) (pc' := 114) rfl (hb hby at_110) (by decide) (by decide) ?_
            show Steps p.tables e below (T3241.setTop (mkF m 114 #[vi p0, vi p1, vi p2, vi p3, vi (3 : Int32), vi (3 : Int32), vi md, vd (FP.i2d p0), ss, vd (FP.i2d p1), ss, vr a873, vi (1 : Int32), vd (FP.dsub (FP.i2d p1) (FP.dmul (FP.i2d (2 : Int32)) (FP.ddiv (FP.dsub (FP.i2d p1) (FP.i2d p0)) (FP.i2d (3 : Int32))))), ss, uu, uu, uu, uu, uu, uu, uu, uu, uu] [(.int (1 : Int32))])) tQ
            refine XS.istore X3245.here hx rfl (hb hby at_114) rfl (l' := #[vi p0, vi p1, vi p2, vi p3, vi (3 : Int32), vi (3 : Int32), vi md, vd (FP.i2d p0), ss, vd (FP.i2d p1), ss, vr a873, vi (1 : Int32), vd (FP.dsub (FP.i2d p1) (FP.dmul (FP.i2d (2 : Int32)) (FP.ddiv (FP.dsub (FP.i2d p1) (FP.i2d p0)) (FP.i2d (3 : Int32))))), ss, uu, uu, uu, uu, uu, uu, uu, uu, uu]) rfl ?_
            refine XS.aload X3245.here hx rfl (hb hby at_116) rfl rfl ?_
            exact kk
          clear k3256
          obtain ⟨cq3269, kq3270, qa3271, qb3272, qc3273⟩ := isOf hZ e3253 F3228
          obtain ⟨_, _, ⟨T3258, L3259, kc3260, nc3261⟩, -, X3262, ⟨Lc3263, hQ3264, l3265, y3266, z3267⟩, st3268⟩ := X3245.virtualBack hx (y := mn14) (z := mn14) hown (mvT hZ (tw52 hw)) (mvT hZ (tw53 hw)) (notFace_of_selects (args := #[]) (mvT hZ (tw55 hw))) (mvT hZ (tw55 hw)) (mvT hZ (tw54 hw)) (by decide) (backOf (W := 0) (rmMv l Z a0 hw [] a873 (2 : Int32) T3201.heap n0 Z3227 F3238) hZ (tw56 hw) (tw7 hw) (by decide) (by decide)) qa3271 qc3273 (g := (mkF m 118 #[vi p0, vi p1, vi p2, vi p3, vi (3 : Int32), vi (3 : Int32), vi md, vd (FP.i2d p0), ss, vd (FP.i2d p1), ss, vr a873, vi (1 : Int32), vd (FP.dsub (FP.i2d p1) (FP.dmul (FP.i2d (2 : Int32)) (FP.ddiv (FP.dsub (FP.i2d p1) (FP.i2d p0)) (FP.i2d (3 : Int32))))), ss, uu, uu, uu, uu, uu, uu, uu, uu, uu] [(.ref a873)])) rfl (by rw [hml]; rfl) (Steps.refl _) (argsL := []) (rest := []) (lenOf pd_22 rfl) rfl (by show 2 * 0 + _ ≤ _; exact Nat.le_of_eq rfl) (hb hby at_118) (fun _ _ => ⟨rfl, e3253, (by decide : 1 + 0 ≤ _), (by decide : 5 + 0 ≤ _)⟩)
          dsimp only [Pt.U, Pt.locs, Pt.cells, Pt.slots] at X3262 l3265 y3266 z3267 st3268 hQ3264
          subst l3265 y3266 z3267
          obtain ⟨rfl, N3274, e3275⟩ := hQ3264
          have N3277 := Fr.app N3255 N3274
          have k3278 : own_G p e below E0 T3258 (mkF m 121 #[vi p0, vi p1, vi p2, vi p3, vi (3 : Int32), vi (3 : Int32), vi md, vd (FP.i2d p0), ss, vd (FP.i2d p1), ss, vr a873, vi (1 : Int32), vd (FP.dsub (FP.i2d p1) (FP.dmul (FP.i2d (2 : Int32)) (FP.ddiv (FP.dsub (FP.i2d p1) (FP.i2d p0)) (FP.i2d (3 : Int32))))), ss, uu, uu, uu, uu, uu, uu, uu, uu, uu] [(.int (own_mv (2 : Int32)))]) := fun tQ kk => k3257 tQ (st3268.trans kk)
          clear k3257 st3268
          have eq3279 : (own_mv (2 : Int32)) = (1 : Int32) := by decide
          rw [eq3279] at k3278
          have k3280 : own_G p e below E0 T3258 (mkF m 167 #[vi p0, vi p1, vi p2, vi p3, vi (3 : Int32), vi (3 : Int32), vi md, vd (FP.i2d p0), ss, vd (FP.i2d p1), ss, vr a873, vi (1 : Int32), vd (FP.dsub (FP.i2d p1) (FP.dmul (FP.i2d (2 : Int32)) (FP.ddiv (FP.dsub (FP.i2d p1) (FP.i2d p0)) (FP.i2d (3 : Int32))))), ss, vi (1 : Int32), uu, uu, uu, uu, uu, uu, uu, uu] [(.ref a873)]) := by
            intro tQ kk
            refine k3278 tQ ?_
            refine XS.istore X3262.here hx rfl (hb hby at_121) rfl (l' := #[vi p0, vi p1, vi p2, vi p3, vi (3 : Int32), vi (3 : Int32), vi md, vd (FP.i2d p0), ss, vd (FP.i2d p1), ss, vr a873, vi (1 : Int32), vd (FP.dsub (FP.i2d p1) (FP.dmul (FP.i2d (2 : Int32)) (FP.ddiv (FP.dsub (FP.i2d p1) (FP.i2d p0)) (FP.i2d (3 : Int32))))), ss, vi (1 : Int32), uu, uu, uu, uu, uu, uu, uu, uu]) rfl ?_
            refine XS.iload X3262.here hx rfl (hb hby at_123) rfl ?_
            refine XS.ifNo X3262.here hx rfl (hb hby at_125) rfl (own_if_eqN (by decide)) ?_
            refine XS.iload X3262.here hx rfl (hb hby at_128) rfl ?_
            show Steps p.tables e below (T3258.setTop (mkF m 130 #[vi p0, vi p1, vi p2, vi p3, vi (3 : Int32), vi (3 : Int32), vi md, vd (FP.i2d p0), ss, vd (FP.i2d p1), ss, vr a873, vi (1 : Int32), vd (FP.dsub (FP.i2d p1) (FP.dmul (FP.i2d (2 : Int32)) (FP.ddiv (FP.dsub (FP.i2d p1) (FP.i2d p0)) (FP.i2d (3 : Int32))))), ss, vi (1 : Int32), uu, uu, uu, uu, uu, uu, uu, uu] [(.int (1 : Int32))])) tQ
            refine XS.iload X3262.here hx rfl (hb hby at_130) rfl ?_
            refine XS.iconst X3262.here hx rfl (hb hby at_132) ?_
            refine XS.icmpNo X3262.here hx rfl (hb hby at_133) rfl (own_ic_ltN cm2) ?_
            refine XS.dload X3262.here hx rfl (hb hby at_136) rfl ?_
            show Steps p.tables e below (T3258.setTop (mkF m 138 #[vi p0, vi p1, vi p2, vi p3, vi (3 : Int32), vi (3 : Int32), vi md, vd (FP.i2d p0), ss, vd (FP.i2d p1), ss, vr a873, vi (1 : Int32), vd (FP.dsub (FP.i2d p1) (FP.dmul (FP.i2d (2 : Int32)) (FP.ddiv (FP.dsub (FP.i2d p1) (FP.i2d p0)) (FP.i2d (3 : Int32))))), ss, vi (1 : Int32), uu, uu, uu, uu, uu, uu, uu, uu] [(.double (FP.i2d p1)), (.int (1 : Int32))])) tQ
            refine XS.dload X3262.here hx rfl (hb hby at_138) rfl ?_
            refine XS.dcmpS (v := (own_c (own_z (FP.i2d p1)) (own_z (FP.i2d p0)))) X3262.here hx rfl (hb hby at_140) rfl (own_cE .l (own_cmpz (Fl.i2d_fin p1).noNaN (Fl.i2d_fin p0).noNaN)) ?_
            refine XS.ifNo X3262.here hx rfl (hb hby at_141) rfl (own_c_eqN cE) ?_
            refine XS.iload X3262.here hx rfl (hb hby at_144) rfl ?_
            show Steps p.tables e below (T3258.setTop (mkF m 146 #[vi p0, vi p1, vi p2, vi p3, vi (3 : Int32), vi (3 : Int32), vi md, vd (FP.i2d p0), ss, vd (FP.i2d p1), ss, vr a873, vi (1 : Int32), vd (FP.dsub (FP.i2d p1) (FP.dmul (FP.i2d (2 : Int32)) (FP.ddiv (FP.dsub (FP.i2d p1) (FP.i2d p0)) (FP.i2d (3 : Int32))))), ss, vi (1 : Int32), uu, uu, uu, uu, uu, uu, uu, uu] [(.int (3 : Int32)), (.int (1 : Int32))])) tQ
            refine XS.iconst X3262.here hx rfl (hb hby at_146) ?_
            refine XS.icmpNo X3262.here hx rfl (hb hby at_147) rfl (own_ic_leN (by decide)) ?_
            refine XS.iconst X3262.here hx rfl (hb hby at_150) ?_
            refine XS.goto X3262.here hx rfl (pc0 := 151) (pc' := 155) rfl (hb hby at_151) (by decide) (by decide) ?_
            show Steps p.tables e below (T3258.setTop (mkF m 155 #[vi p0, vi p1, vi p2, vi p3, vi (3 : Int32), vi (3 : Int32), vi md, vd (FP.i2d p0), ss, vd (FP.i2d p1), ss, vr a873, vi (1 : Int32), vd (FP.dsub (FP.i2d p1) (FP.dmul (FP.i2d (2 : Int32)) (FP.ddiv (FP.dsub (FP.i2d p1) (FP.i2d p0)) (FP.i2d (3 : Int32))))), ss, vi (1 : Int32), uu, uu, uu, uu, uu, uu, uu, uu] [(.int (1 : Int32)), (.int (1 : Int32))])) tQ
            refine XS.icmpNo X3262.here hx rfl (hb hby at_155) rfl (own_ic_neN (by decide)) ?_
            refine XS.iconst X3262.here hx rfl (hb hby at_158) ?_
            refine XS.goto X3262.here hx rfl (pc0 := 159) (pc' := 163) rfl (hb hby at_159) (by decide) (by decide) ?_
            refine XS.istore X3262.here hx rfl (hb hby at_163) rfl (l' := #[vi p0, vi p1, vi p2, vi p3, vi (3 : Int32), vi (3 : Int32), vi md, vd (FP.i2d p0), ss, vd (FP.i2d p1), ss, vr a873, vi (1 : Int32), vd (FP.dsub (FP.i2d p1) (FP.dmul (FP.i2d (2 : Int32)) (FP.ddiv (FP.dsub (FP.i2d p1) (FP.i2d p0)) (FP.i2d (3 : Int32))))), ss, vi (1 : Int32), uu, uu, uu, uu, uu, uu, uu, uu]) rfl ?_
            show Steps p.tables e below (T3258.setTop (mkF m 165 #[vi p0, vi p1, vi p2, vi p3, vi (3 : Int32), vi (3 : Int32), vi md, vd (FP.i2d p0), ss, vd (FP.i2d p1), ss, vr a873, vi (1 : Int32), vd (FP.dsub (FP.i2d p1) (FP.dmul (FP.i2d (2 : Int32)) (FP.ddiv (FP.dsub (FP.i2d p1) (FP.i2d p0)) (FP.i2d (3 : Int32))))), ss, vi (1 : Int32), uu, uu, uu, uu, uu, uu, uu, uu] [])) tQ
            refine XS.aload X3262.here hx rfl (hb hby at_165) rfl rfl ?_
            exact kk
          clear k3278
          obtain ⟨cq3292, kq3293, qa3294, qb3295, qc3296⟩ := isOf hZ e3275 F3228
          obtain ⟨_, _, ⟨T3281, L3282, kc3283, nc3284⟩, -, X3285, ⟨Lc3286, hQ3287, l3288, y3289, z3290⟩, st3291⟩ := X3262.virtualBack hx (y := mn13) (z := mn13) hown (mvT hZ (tw43 hw)) (mvT hZ (tw44 hw)) (notFace_of_selects (args := #[]) (mvT hZ (tw46 hw))) (mvT hZ (tw46 hw)) (mvT hZ (tw45 hw)) (by decide) (backOf (W := 0) (rmN l Z a0 hw [] a873 (3 : Int32) (FP.dsub (FP.i2d p1) (FP.dmul (FP.i2d (2 : Int32)) (FP.ddiv (FP.dsub (FP.i2d p1) (FP.i2d p0)) (FP.i2d (3 : Int32))))) (FP.i2d p1) (FP.ddiv (FP.dsub (FP.i2d p1) (FP.i2d p0)) (FP.i2d (3 : Int32))) (2 : Int32) T3201.heap n0 Z3227 F3228 g3221 F3236 g3223 g3224 F3238 ge875 (fun _ => own_q3 p0 p1 (F := (3 : Int32)) (r := ((2 : Int32) - 1)) (by decide) (by decide))) hZ (tw47 hw) (tw7 hw) (by decide) (by decide)) qa3294 qc3296 (g := (mkF m 167 #[vi p0, vi p1, vi p2, vi p3, vi (3 : Int32), vi (3 : Int32), vi md, vd (FP.i2d p0), ss, vd (FP.i2d p1), ss, vr a873, vi (1 : Int32), vd (FP.dsub (FP.i2d p1) (FP.dmul (FP.i2d (2 : Int32)) (FP.ddiv (FP.dsub (FP.i2d p1) (FP.i2d p0)) (FP.i2d (3 : Int32))))), ss, vi (1 : Int32), uu, uu, uu, uu, uu, uu, uu, uu] [(.ref a873)])) rfl (by rw [hml]; rfl) (Steps.refl _) (argsL := []) (rest := []) (lenOf pd_20 rfl) rfl (by show 2 * 0 + _ ≤ _; exact Nat.le_of_eq rfl) (hb hby at_167) (fun _ _ => ⟨rfl, e3275, (by decide : 1 + 0 ≤ _), (by decide : 5 + 0 ≤ _)⟩)
          dsimp only [Pt.U, Pt.locs, Pt.cells, Pt.slots] at X3285 l3288 y3289 z3290 st3291 hQ3287
          subst l3288 y3289 z3290
          obtain ⟨rfl, N3297, K3300, g3301, g3302, g3303, g3304, g3305⟩ := hQ3287
          have N3306 := Fr.app N3277 N3297
          have Z3307 : n0 ≤ T3281.heap.size := Nat.le_trans Z3227 K3300.1
          have F3308 : xa8 Z T3281.heap a873 := F3228.keep K3300
          clear F3228
          clear g3221
          clear F3236
          clear g3223
          clear g3224
          clear F3238
          have k3314 : own_G p e below E0 T3281 (mkF m 170 #[vi p0, vi p1, vi p2, vi p3, vi (3 : Int32), vi (3 : Int32), vi md, vd (FP.i2d p0), ss, vd (FP.i2d p1), ss, vr a873, vi (1 : Int32), vd (FP.dsub (FP.i2d p1) (FP.dmul (FP.i2d (2 : Int32)) (FP.ddiv (FP.dsub (FP.i2d p1) (FP.i2d p0)) (FP.i2d (3 : Int32))))), ss, vi (1 : Int32), uu, uu, uu, uu, uu, uu, uu, uu] [(.double (own_nv (FP.dsub (FP.i2d p1) (FP.dmul (FP.i2d (2 : Int32)) (FP.ddiv (FP.dsub (FP.i2d p1) (FP.i2d p0)) (FP.i2d (3 : Int32))))) (FP.i2d p1) (FP.ddiv (FP.dsub (FP.i2d p1) (FP.i2d p0)) (FP.i2d (3 : Int32))) (2 : Int32)))]) := fun tQ kk => k3280 tQ (st3291.trans kk)
          clear k3280 st3291
          have eq3315 : (own_nv (FP.dsub (FP.i2d p1) (FP.dmul (FP.i2d (2 : Int32)) (FP.ddiv (FP.dsub (FP.i2d p1) (FP.i2d p0)) (FP.i2d (3 : Int32))))) (FP.i2d p1) (FP.ddiv (FP.dsub (FP.i2d p1) (FP.i2d p0)) (FP.i2d (3 : Int32))) (2 : Int32)) = (FP.dsub (FP.i2d p1) (FP.dmul (FP.i2d (1 : Int32)) (FP.ddiv (FP.dsub (FP.i2d p1) (FP.i2d p0)) (FP.i2d (3 : Int32))))) := by rw [own_nv, if_pos (by decide), show (2 : Int32) - 1 = (1 : Int32) by decide]
          have F3316 : fd4 Z T3281.heap a873 (.double (FP.dsub (FP.i2d p1) (FP.dmul (FP.i2d (1 : Int32)) (FP.ddiv (FP.dsub (FP.i2d p1) (FP.i2d p0)) (FP.i2d (3 : Int32)))))) := by rw [← eq3315]; exact g3302
          have eq3317 : (own_nr (2 : Int32)) = (1 : Int32) := by decide
          have F3318 : fd7 Z T3281.heap a873 (.int (1 : Int32)) := by rw [← eq3317]; exact g3305
          have eq3319 : (own_nv (FP.dsub (FP.i2d p1) (FP.dmul (FP.i2d (2 : Int32)) (FP.ddiv (FP.dsub (FP.i2d p1) (FP.i2d p0)) (FP.i2d (3 : Int32))))) (FP.i2d p1) (FP.ddiv (FP.dsub (FP.i2d p1) (FP.i2d p0)) (FP.i2d (3 : Int32))) (2 : Int32)) = (FP.dsub (FP.i2d p1) (FP.dmul (FP.i2d (1 : Int32)) (FP.ddiv (FP.dsub (FP.i2d p1) (FP.i2d p0)) (FP.i2d (3 : Int32))))) := by rw [own_nv, if_pos (by decide), show (2 : Int32) - 1 = (1 : Int32) by decide]
          rw [eq3319] at k3314
          have k3320 : own_G p e below E0 T3281 (mkF m 188 #[vi p0, vi p1, vi p2, vi p3, vi (3 : Int32), vi (3 : Int32), vi md, vd (FP.i2d p0), ss, vd (FP.i2d p1), ss, vr a873, vi (1 : Int32), vd (FP.dsub (FP.i2d p1) (FP.dmul (FP.i2d (2 : Int32)) (FP.ddiv (FP.dsub (FP.i2d p1) (FP.i2d p0)) (FP.i2d (3 : Int32))))), ss, vi (1 : Int32), vd (FP.dsub (FP.i2d p1) (FP.dmul (FP.i2d (1 : Int32)) (FP.ddiv (FP.dsub (FP.i2d p1) (FP.i2d p0)) (FP.i2d (3 : Int32))))), ss, uu, uu, uu, uu, uu, uu] [(.int (2 : Int32)), (.int md), (.int (3 : Int32)), (.double (FP.i2d p1)), (.double (FP.i2d p0)), (.double (FP.dsub (FP.i2d p1) (FP.dmul (FP.i2d (1 : Int32)) (FP.ddiv (FP.dsub (FP.i2d p1) (FP.i2d p0)) (FP.i2d (3 : Int32))))))]) := by
            intro tQ kk
            refine k3314 tQ ?_
            refine XS.dstore X3285.here hx rfl (hb hby at_170) rfl (l' := #[vi p0, vi p1, vi p2, vi p3, vi (3 : Int32), vi (3 : Int32), vi md, vd (FP.i2d p0), ss, vd (FP.i2d p1), ss, vr a873, vi (1 : Int32), vd (FP.dsub (FP.i2d p1) (FP.dmul (FP.i2d (2 : Int32)) (FP.ddiv (FP.dsub (FP.i2d p1) (FP.i2d p0)) (FP.i2d (3 : Int32))))), ss, vi (1 : Int32), vd (FP.dsub (FP.i2d p1) (FP.dmul (FP.i2d (1 : Int32)) (FP.ddiv (FP.dsub (FP.i2d p1) (FP.i2d p0)) (FP.i2d (3 : Int32))))), ss, uu, uu, uu, uu, uu, uu]) rfl ?_
            refine XS.iload X3285.here hx rfl (hb hby at_172) rfl ?_
            refine XS.ifNo X3285.here hx rfl (hb hby at_174) rfl (own_if_eqN (by decide)) ?_
            refine XS.dload X3285.here hx rfl (hb hby at_177) rfl ?_
            show Steps p.tables e below (T3281.setTop (mkF m 179 #[vi p0, vi p1, vi p2, vi p3, vi (3 : Int32), vi (3 : Int32), vi md, vd (FP.i2d p0), ss, vd (FP.i2d p1), ss, vr a873, vi (1 : Int32), vd (FP.dsub (FP.i2d p1) (FP.dmul (FP.i2d (2 : Int32)) (FP.ddiv (FP.dsub (FP.i2d p1) (FP.i2d p0)) (FP.i2d (3 : Int32))))), ss, vi (1 : Int32), vd (FP.dsub (FP.i2d p1) (FP.dmul (FP.i2d (1 : Int32)) (FP.ddiv (FP.dsub (FP.i2d p1) (FP.i2d p0)) (FP.i2d (3 : Int32))))), ss, uu, uu, uu, uu, uu, uu] [(.double (FP.dsub (FP.i2d p1) (FP.dmul (FP.i2d (1 : Int32)) (FP.ddiv (FP.dsub (FP.i2d p1) (FP.i2d p0)) (FP.i2d (3 : Int32))))))])) tQ
            refine XS.dload X3285.here hx rfl (hb hby at_179) rfl ?_
            refine XS.dload X3285.here hx rfl (hb hby at_181) rfl ?_
            refine XS.iload X3285.here hx rfl (hb hby at_183) rfl ?_
            refine XS.iload X3285.here hx rfl (hb hby at_185) rfl ?_
            show Steps p.tables e below (T3281.setTop (mkF m 187 #[vi p0, vi p1, vi p2, vi p3, vi (3 : Int32), vi (3 : Int32), vi md, vd (FP.i2d p0), ss, vd (FP.i2d p1), ss, vr a873, vi (1 : Int32), vd (FP.dsub (FP.i2d p1) (FP.dmul (FP.i2d (2 : Int32)) (FP.ddiv (FP.dsub (FP.i2d p1) (FP.i2d p0)) (FP.i2d (3 : Int32))))), ss, vi (1 : Int32), vd (FP.dsub (FP.i2d p1) (FP.dmul (FP.i2d (1 : Int32)) (FP.ddiv (FP.dsub (FP.i2d p1) (FP.i2d p0)) (FP.i2d (3 : Int32))))), ss, uu, uu, uu, uu, uu, uu] [(.int md), (.int (3 : Int32)), (.double (FP.i2d p1)), (.double (FP.i2d p0)), (.double (FP.dsub (FP.i2d p1) (FP.dmul (FP.i2d (1 : Int32)) (FP.ddiv (FP.dsub (FP.i2d p1) (FP.i2d p0)) (FP.i2d (3 : Int32))))))])) tQ
            refine XS.iconst X3285.here hx rfl (hb hby at_187) ?_
            exact kk
          clear k3314
          obtain ⟨_, _, ⟨T3321, L3322, kc3323, nc3324⟩, -, X3325, ⟨Lc3326, hQ3327, l3328, y3329, z3330⟩, st3331⟩ := Jvm.LawKit.callS X3285 hx (y := mn16) hown (mvT hZ (tw48 hw)) (mvT hZ (tw49 hw)) (mvT hZ (tw50 hw)) (mvT hZ (tw51 hw)) (by decide) (backOf (W := 2) (rmE l Z a0 hw [] (FP.i2d p0) (FP.i2d p1) (3 : Int32) md (2 : Int32) T3281.heap n0 Z3307 (Fl.i2d_fin p0).noNaN (Fl.i2d_fin p1).noNaN (own_h1 p0 p1) (own_h2 p0 p1 (F := (3 : Int32)) (by decide)) (own_q3 p0 p1 (F := (3 : Int32)) (r := (own_mx 0 ((3 : Int32) - (2 : Int32)))) (by decide) (own_mxb (by decide) (by decide)))) hZ (tw51 hw) (tw50 hw) (by decide) (by decide)) (g := (mkF m 188 #[vi p0, vi p1, vi p2, vi p3, vi (3 : Int32), vi (3 : Int32), vi md, vd (FP.i2d p0), ss, vd (FP.i2d p1), ss, vr a873, vi (1 : Int32), vd (FP.dsub (FP.i2d p1) (FP.dmul (FP.i2d (2 : Int32)) (FP.ddiv (FP.dsub (FP.i2d p1) (FP.i2d p0)) (FP.i2d (3 : Int32))))), ss, vi (1 : Int32), vd (FP.dsub (FP.i2d p1) (FP.dmul (FP.i2d (1 : Int32)) (FP.ddiv (FP.dsub (FP.i2d p1) (FP.i2d p0)) (FP.i2d (3 : Int32))))), ss, uu, uu, uu, uu, uu, uu] [(.int (2 : Int32)), (.int md), (.int (3 : Int32)), (.double (FP.i2d p1)), (.double (FP.i2d p0)), (.double (FP.dsub (FP.i2d p1) (FP.dmul (FP.i2d (1 : Int32)) (FP.ddiv (FP.dsub (FP.i2d p1) (FP.i2d p0)) (FP.i2d (3 : Int32))))))])) rfl (by rw [hml]; rfl) (argsL := [(.double (FP.i2d p0)), (.double (FP.i2d p1)), (.int (3 : Int32)), (.int md), (.int (2 : Int32))]) (rest := [(.double (FP.dsub (FP.i2d p1) (FP.dmul (FP.i2d (1 : Int32)) (FP.ddiv (FP.dsub (FP.i2d p1) (FP.i2d p0)) (FP.i2d (3 : Int32))))))]) (lenOf pd_21 rfl) rfl (by show 2 * 0 + _ ≤ _; exact Nat.le_of_eq rfl) (hb hby at_188) (fun _ _ => ⟨rfl, rfl, (by decide : 1 + 0 ≤ _), (by decide : 5 + 0 ≤ _)⟩)
          dsimp only [Pt.U, Pt.locs, Pt.cells, Pt.slots] at X3325 l3328 y3329 z3330 st3331 hQ3327
          subst l3328 y3329 z3330
          obtain ⟨rfl, N3332, e3333⟩ := hQ3327
          have N3335 := Fr.app N3306 N3332
          have k3336 : own_G p e below E0 T3321 (mkF m 191 #[vi p0, vi p1, vi p2, vi p3, vi (3 : Int32), vi (3 : Int32), vi md, vd (FP.i2d p0), ss, vd (FP.i2d p1), ss, vr a873, vi (1 : Int32), vd (FP.dsub (FP.i2d p1) (FP.dmul (FP.i2d (2 : Int32)) (FP.ddiv (FP.dsub (FP.i2d p1) (FP.i2d p0)) (FP.i2d (3 : Int32))))), ss, vi (1 : Int32), vd (FP.dsub (FP.i2d p1) (FP.dmul (FP.i2d (1 : Int32)) (FP.ddiv (FP.dsub (FP.i2d p1) (FP.i2d p0)) (FP.i2d (3 : Int32))))), ss, uu, uu, uu, uu, uu, uu] [(.double (own_exp (FP.i2d p0) (FP.i2d p1) (3 : Int32) md (2 : Int32))), (.double (FP.dsub (FP.i2d p1) (FP.dmul (FP.i2d (1 : Int32)) (FP.ddiv (FP.dsub (FP.i2d p1) (FP.i2d p0)) (FP.i2d (3 : Int32))))))]) := fun tQ kk => k3320 tQ (st3331 _ kk)
          clear k3320 st3331
          have k3337 : own_G p e below E0 T3321 (mkF m 204 #[vi p0, vi p1, vi p2, vi p3, vi (3 : Int32), vi (3 : Int32), vi md, vd (FP.i2d p0), ss, vd (FP.i2d p1), ss, vr a873, vi (1 : Int32), vd (FP.dsub (FP.i2d p1) (FP.dmul (FP.i2d (2 : Int32)) (FP.ddiv (FP.dsub (FP.i2d p1) (FP.i2d p0)) (FP.i2d (3 : Int32))))), ss, vi (1 : Int32), vd (FP.dsub (FP.i2d p1) (FP.dmul (FP.i2d (1 : Int32)) (FP.ddiv (FP.dsub (FP.i2d p1) (FP.i2d p0)) (FP.i2d (3 : Int32))))), ss, uu, uu, uu, uu, uu, uu] [(.ref a873)]) := by
            intro tQ kk
            refine k3336 tQ ?_
            refine XS.dcmpS (v := (0 : Int32)) X3325.here hx rfl (hb hby at_191) rfl (own_eN cm1 cm2 cE (show own_mx 0 ((3 : Int32) - (2 : Int32)) = (1 : Int32) by decide) (by decide) (own_q3 p0 p1 (by decide) (by decide)).2) ?_
            refine XS.ifNo X3325.here hx rfl (hb hby at_192) rfl (own_if_neN (by decide)) ?_
            refine XS.iconst X3325.here hx rfl (hb hby at_195) ?_
            refine XS.goto X3325.here hx rfl (pc0 := 196) (pc' := 200) rfl (hb hby at_196) (by decide) (by decide) ?_
            show Steps p.tables e below (T3321.setTop (mkF m 200 #[vi p0, vi p1, vi p2, vi p3, vi (3 : Int32), vi (3 : Int32), vi md, vd (FP.i2d p0), ss, vd (FP.i2d p1), ss, vr a873, vi (1 : Int32), vd (FP.dsub (FP.i2d p1) (FP.dmul (FP.i2d (2 : Int32)) (FP.ddiv (FP.dsub (FP.i2d p1) (FP.i2d p0)) (FP.i2d (3 : Int32))))), ss, vi (1 : Int32), vd (FP.dsub (FP.i2d p1) (FP.dmul (FP.i2d (1 : Int32)) (FP.ddiv (FP.dsub (FP.i2d p1) (FP.i2d p0)) (FP.i2d (3 : Int32))))), ss, uu, uu, uu, uu, uu, uu] [(.int (1 : Int32))])) tQ
            refine XS.istore X3325.here hx rfl (hb hby at_200) rfl (l' := #[vi p0, vi p1, vi p2, vi p3, vi (3 : Int32), vi (3 : Int32), vi md, vd (FP.i2d p0), ss, vd (FP.i2d p1), ss, vr a873, vi (1 : Int32), vd (FP.dsub (FP.i2d p1) (FP.dmul (FP.i2d (2 : Int32)) (FP.ddiv (FP.dsub (FP.i2d p1) (FP.i2d p0)) (FP.i2d (3 : Int32))))), ss, vi (1 : Int32), vd (FP.dsub (FP.i2d p1) (FP.dmul (FP.i2d (1 : Int32)) (FP.ddiv (FP.dsub (FP.i2d p1) (FP.i2d p0)) (FP.i2d (3 : Int32))))), ss, uu, uu, uu, uu, uu, uu]) rfl ?_
            refine XS.aload X3325.here hx rfl (hb hby at_202) rfl rfl ?_
            exact kk
          clear k3336
          obtain ⟨cq3349, kq3350, qa3351, qb3352, qc3353⟩ := isOf hZ e3333 F3308
          obtain ⟨_, _, ⟨T3338, L3339, kc3340, nc3341⟩, -, X3342, ⟨Lc3343, hQ3344, l3345, y3346, z3347⟩, st3348⟩ := X3325.virtualBack hx (y := mn13) (z := mn13) hown (mvT hZ (tw43 hw)) (mvT hZ (tw44 hw)) (notFace_of_selects (args := #[]) (mvT hZ (tw46 hw))) (mvT hZ (tw46 hw)) (mvT hZ (tw45 hw)) (by decide) (backOf (W := 0) (rmN l Z a0 hw [] a873 (3 : Int32) (FP.dsub (FP.i2d p1) (FP.dmul (FP.i2d (1 : Int32)) (FP.ddiv (FP.dsub (FP.i2d p1) (FP.i2d p0)) (FP.i2d (3 : Int32))))) (FP.i2d p1) (FP.ddiv (FP.dsub (FP.i2d p1) (FP.i2d p0)) (FP.i2d (3 : Int32))) (1 : Int32) T3281.heap n0 Z3307 F3308 g3301 F3316 g3303 g3304 F3318 ge875 (fun _ => own_q3 p0 p1 (F := (3 : Int32)) (r := ((1 : Int32) - 1)) (by decide) (by decide))) hZ (tw47 hw) (tw7 hw) (by decide) (by decide)) qa3351 qc3353 (g := (mkF m 204 #[vi p0, vi p1, vi p2, vi p3, vi (3 : Int32), vi (3 : Int32), vi md, vd (FP.i2d p0), ss, vd (FP.i2d p1), ss, vr a873, vi (1 : Int32), vd (FP.dsub (FP.i2d p1) (FP.dmul (FP.i2d (2 : Int32)) (FP.ddiv (FP.dsub (FP.i2d p1) (FP.i2d p0)) (FP.i2d (3 : Int32))))), ss, vi (1 : Int32), vd (FP.dsub (FP.i2d p1) (FP.dmul (FP.i2d (1 : Int32)) (FP.ddiv (FP.dsub (FP.i2d p1) (FP.i2d p0)) (FP.i2d (3 : Int32))))), ss, uu, uu, uu, uu, uu, uu] [(.ref a873)])) rfl (by rw [hml]; rfl) (Steps.refl _) (argsL := []) (rest := []) (lenOf pd_20 rfl) rfl (by show 2 * 0 + _ ≤ _; exact Nat.le_of_eq rfl) (hb hby at_204) (fun _ _ => ⟨rfl, e3333, (by decide : 1 + 0 ≤ _), (by decide : 5 + 0 ≤ _)⟩)
          dsimp only [Pt.U, Pt.locs, Pt.cells, Pt.slots] at X3342 l3345 y3346 z3347 st3348 hQ3344
          subst l3345 y3346 z3347
          obtain ⟨rfl, N3354, K3357, g3358, g3359, g3360, g3361, g3362⟩ := hQ3344
          have N3363 := Fr.app N3335 N3354
          have Z3364 : n0 ≤ T3338.heap.size := Nat.le_trans Z3307 K3357.1
          have F3365 : xa8 Z T3338.heap a873 := F3308.keep K3357
          clear F3308
          clear g3301
          clear F3316
          clear g3303
          clear g3304
          clear F3318
          have k3371 : own_G p e below E0 T3338 (mkF m 207 #[vi p0, vi p1, vi p2, vi p3, vi (3 : Int32), vi (3 : Int32), vi md, vd (FP.i2d p0), ss, vd (FP.i2d p1), ss, vr a873, vi (1 : Int32), vd (FP.dsub (FP.i2d p1) (FP.dmul (FP.i2d (2 : Int32)) (FP.ddiv (FP.dsub (FP.i2d p1) (FP.i2d p0)) (FP.i2d (3 : Int32))))), ss, vi (1 : Int32), vd (FP.dsub (FP.i2d p1) (FP.dmul (FP.i2d (1 : Int32)) (FP.ddiv (FP.dsub (FP.i2d p1) (FP.i2d p0)) (FP.i2d (3 : Int32))))), ss, uu, uu, uu, uu, uu, uu] [(.double (own_nv (FP.dsub (FP.i2d p1) (FP.dmul (FP.i2d (1 : Int32)) (FP.ddiv (FP.dsub (FP.i2d p1) (FP.i2d p0)) (FP.i2d (3 : Int32))))) (FP.i2d p1) (FP.ddiv (FP.dsub (FP.i2d p1) (FP.i2d p0)) (FP.i2d (3 : Int32))) (1 : Int32)))]) := fun tQ kk => k3337 tQ (st3348.trans kk)
          clear k3337 st3348
          have eq3372 : (own_nv (FP.dsub (FP.i2d p1) (FP.dmul (FP.i2d (1 : Int32)) (FP.ddiv (FP.dsub (FP.i2d p1) (FP.i2d p0)) (FP.i2d (3 : Int32))))) (FP.i2d p1) (FP.ddiv (FP.dsub (FP.i2d p1) (FP.i2d p0)) (FP.i2d (3 : Int32))) (1 : Int32)) = (FP.dsub (FP.i2d p1) (FP.dmul (FP.i2d (0 : Int32)) (FP.ddiv (FP.dsub (FP.i2d p1) (FP.i2d p0)) (FP.i2d (3 : Int32))))) := by rw [own_nv, if_pos (by decide), show (1 : Int32) - 1 = (0 : Int32) by decide]
          have F3373 : fd4 Z T3338.heap a873 (.double (FP.dsub (FP.i2d p1) (FP.dmul (FP.i2d (0 : Int32)) (FP.ddiv (FP.dsub (FP.i2d p1) (FP.i2d p0)) (FP.i2d (3 : Int32)))))) := by rw [← eq3372]; exact g3359
          have eq3374 : (own_nr (1 : Int32)) = (0 : Int32) := by decide
          have F3375 : fd7 Z T3338.heap a873 (.int (0 : Int32)) := by rw [← eq3374]; exact g3362
          have eq3376 : (own_nv (FP.dsub (FP.i2d p1) (FP.dmul (FP.i2d (1 : Int32)) (FP.ddiv (FP.dsub (FP.i2d p1) (FP.i2d p0)) (FP.i2d (3 : Int32))))) (FP.i2d p1) (FP.ddiv (FP.dsub (FP.i2d p1) (FP.i2d p0)) (FP.i2d (3 : Int32))) (1 : Int32)) = (FP.dsub (FP.i2d p1) (FP.dmul (FP.i2d (0 : Int32)) (FP.ddiv (FP.dsub (FP.i2d p1) (FP.i2d p0)) (FP.i2d (3 : Int32))))) := by rw [own_nv, if_pos (by decide), show (1 : Int32) - 1 = (0 : Int32) by decide]
          rw [eq3376] at k3371
          have k3377 : own_G p e below E0 T3338 (mkF m 225 #[vi p0, vi p1, vi p2, vi p3, vi (3 : Int32), vi (3 : Int32), vi md, vd (FP.i2d p0), ss, vd (FP.i2d p1), ss, vr a873, vi (1 : Int32), vd (FP.dsub (FP.i2d p1) (FP.dmul (FP.i2d (2 : Int32)) (FP.ddiv (FP.dsub (FP.i2d p1) (FP.i2d p0)) (FP.i2d (3 : Int32))))), ss, vi (1 : Int32), vd (FP.dsub (FP.i2d p1) (FP.dmul (FP.i2d (1 : Int32)) (FP.ddiv (FP.dsub (FP.i2d p1) (FP.i2d p0)) (FP.i2d (3 : Int32))))), ss, vd (FP.dsub (FP.i2d p1) (FP.dmul (FP.i2d (0 : Int32)) (FP.ddiv (FP.dsub (FP.i2d p1) (FP.i2d p0)) (FP.i2d (3 : Int32))))), ss, uu, uu, uu, uu] [(.int (3 : Int32)), (.int md), (.int (3 : Int32)), (.double (FP.i2d p1)), (.double (FP.i2d p0)), (.double (FP.dsub (FP.i2d p1) (FP.dmul (FP.i2d (0 : Int32)) (FP.ddiv (FP.dsub (FP.i2d p1) (FP.i2d p0)) (FP.i2d (3 : Int32))))))]) := by
            intro tQ kk
            refine k3371 tQ ?_
            refine XS.dstore X3342.here hx rfl (hb hby at_207) rfl (l' := #[vi p0, vi p1, vi p2, vi p3, vi (3 : Int32), vi (3 : Int32), vi md, vd (FP.i2d p0), ss, vd (FP.i2d p1), ss, vr a873, vi (1 : Int32), vd (FP.dsub (FP.i2d p1) (FP.dmul (FP.i2d (2 : Int32)) (FP.ddiv (FP.dsub (FP.i2d p1) (FP.i2d p0)) (FP.i2d (3 : Int32))))), ss, vi (1 : Int32), vd (FP.dsub (FP.i2d p1) (FP.dmul (FP.i2d (1 : Int32)) (FP.ddiv (FP.dsub (FP.i2d p1) (FP.i2d p0)) (FP.i2d (3 : Int32))))), ss, vd (FP.dsub (FP.i2d p1) (FP.dmul (FP.i2d (0 : Int32)) (FP.ddiv (FP.dsub (FP.i2d p1) (FP.i2d p0)) (FP.i2d (3 : Int32))))), ss, uu, uu, uu, uu]) rfl ?_
            refine XS.iload X3342.here hx rfl (hb hby at_209) rfl ?_
            refine XS.ifNo X3342.here hx rfl (hb hby at_211) rfl (own_if_eqN (by decide)) ?_
            refine XS.dload X3342.here hx rfl (hb hby at_214) rfl ?_
            show Steps p.tables e below (T3338.setTop (mkF m 216 #[vi p0, vi p1, vi p2, vi p3, vi (3 : Int32), vi (3 : Int32), vi md, vd (FP.i2d p0), ss, vd (FP.i2d p1), ss, vr a873, vi (1 : Int32), vd (FP.dsub (FP.i2d p1) (FP.dmul (FP.i2d (2 : Int32)) (FP.ddiv (FP.dsub (FP.i2d p1) (FP.i2d p0)) (FP.i2d (3 : Int32))))), ss, vi (1 : Int32), vd (FP.dsub (FP.i2d p1) (FP.dmul (FP.i2d (1 : Int32)) (FP.ddiv (FP.dsub (FP.i2d p1) (FP.i2d p0)) (FP.i2d (3 : Int32))))), ss, vd (FP.dsub (FP.i2d p1) (FP.dmul (FP.i2d (0 : Int32)) (FP.ddiv (FP.dsub (FP.i2d p1) (FP.i2d p0)) (FP.i2d (3 : Int32))))), ss, uu, uu, uu, uu] [(.double (FP.dsub (FP.i2d p1) (FP.dmul (FP.i2d (0 : Int32)) (FP.ddiv (FP.dsub (FP.i2d p1) (FP.i2d p0)) (FP.i2d (3 : Int32))))))])) tQ
            refine XS.dload X3342.here hx rfl (hb hby at_216) rfl ?_
            refine XS.dload X3342.here hx rfl (hb hby at_218) rfl ?_
            refine XS.iload X3342.here hx rfl (hb hby at_220) rfl ?_
            refine XS.iload X3342.here hx rfl (hb hby at_222) rfl ?_
            show Steps p.tables e below (T3338.setTop (mkF m 224 #[vi p0, vi p1, vi p2, vi p3, vi (3 : Int32), vi (3 : Int32), vi md, vd (FP.i2d p0), ss, vd (FP.i2d p1), ss, vr a873, vi (1 : Int32), vd (FP.dsub (FP.i2d p1) (FP.dmul (FP.i2d (2 : Int32)) (FP.ddiv (FP.dsub (FP.i2d p1) (FP.i2d p0)) (FP.i2d (3 : Int32))))), ss, vi (1 : Int32), vd (FP.dsub (FP.i2d p1) (FP.dmul (FP.i2d (1 : Int32)) (FP.ddiv (FP.dsub (FP.i2d p1) (FP.i2d p0)) (FP.i2d (3 : Int32))))), ss, vd (FP.dsub (FP.i2d p1) (FP.dmul (FP.i2d (0 : Int32)) (FP.ddiv (FP.dsub (FP.i2d p1) (FP.i2d p0)) (FP.i2d (3 : Int32))))), ss, uu, uu, uu, uu] [(.int md), (.int (3 : Int32)), (.double (FP.i2d p1)), (.double (FP.i2d p0)), (.double (FP.dsub (FP.i2d p1) (FP.dmul (FP.i2d (0 : Int32)) (FP.ddiv (FP.dsub (FP.i2d p1) (FP.i2d p0)) (FP.i2d (3 : Int32))))))])) tQ
            refine XS.iconst X3342.here hx rfl (hb hby at_224) ?_
            exact kk
          clear k3371
          obtain ⟨_, _, ⟨T3378, L3379, kc3380, nc3381⟩, -, X3382, ⟨Lc3383, hQ3384, l3385, y3386, z3387⟩, st3388⟩ := Jvm.LawKit.callS X3342 hx (y := mn16) hown (mvT hZ (tw48 hw)) (mvT hZ (tw49 hw)) (mvT hZ (tw50 hw)) (mvT hZ (tw51 hw)) (by decide) (backOf (W := 2) (rmE l Z a0 hw [] (FP.i2d p0) (FP.i2d p1) (3 : Int32) md (3 : Int32) T3338.heap n0 Z3364 (Fl.i2d_fin p0).noNaN (Fl.i2d_fin p1).noNaN (own_h1 p0 p1) (own_h2 p0 p1 (F := (3 : Int32)) (by decide)) (own_q3 p0 p1 (F := (3 : Int32)) (r := (own_mx 0 ((3 : Int32) - (3 : Int32)))) (by decide) (own_mxb (by decide) (by decide)))) hZ (tw51 hw) (tw50 hw) (by decide) (by decide)) (g := (mkF m 225 #[vi p0, vi p1, vi p2, vi p3, vi (3 : Int32), vi (3 : Int32), vi md, vd (FP.i2d p0), ss, vd (FP.i2d p1), ss, vr a873, vi (1 : Int32), vd (FP.dsub (FP.i2d p1) (FP.dmul (FP.i2d (2 : Int32)) (FP.ddiv (FP.dsub (FP.i2d p1) (FP.i2d p0)) (FP.i2d (3 : Int32))))), ss, vi (1 : Int32), vd (FP.dsub (FP.i2d p1) (FP.dmul (FP.i2d (1 : Int32)) (FP.ddiv (FP.dsub (FP.i2d p1) (FP.i2d p0)) (FP.i2d (3 : Int32))))), ss, vd (FP.dsub (FP.i2d p1) (FP.dmul (FP.i2d (0 : Int32)) (FP.ddiv (FP.dsub (FP.i2d p1) (FP.i2d p0)) (FP.i2d (3 : Int32))))), ss, uu, uu, uu, uu] [(.int (3 : Int32)), (.int md), (.int (3 : Int32)), (.double (FP.i2d p1)), (.double (FP.i2d p0)), (.double (FP.dsub (FP.i2d p1) (FP.dmul (FP.i2d (0 : Int32)) (FP.ddiv (FP.dsub (FP.i2d p1) (FP.i2d p0)) (FP.i2d (3 : Int32))))))])) rfl (by rw [hml]; rfl) (argsL := [(.double (FP.i2d p0)), (.double (FP.i2d p1)), (.int (3 : Int32)), (.int md), (.int (3 : Int32))]) (rest := [(.double (FP.dsub (FP.i2d p1) (FP.dmul (FP.i2d (0 : Int32)) (FP.ddiv (FP.dsub (FP.i2d p1) (FP.i2d p0)) (FP.i2d (3 : Int32))))))]) (lenOf pd_21 rfl) rfl (by show 2 * 0 + _ ≤ _; exact Nat.le_of_eq rfl) (hb hby at_225) (fun _ _ => ⟨rfl, rfl, (by decide : 1 + 0 ≤ _), (by decide : 5 + 0 ≤ _)⟩)
          dsimp only [Pt.U, Pt.locs, Pt.cells, Pt.slots] at X3382 l3385 y3386 z3387 st3388 hQ3384
          subst l3385 y3386 z3387
          obtain ⟨rfl, N3389, e3390⟩ := hQ3384
          have N3392 := Fr.app N3363 N3389
          have k3393 : own_G p e below E0 T3378 (mkF m 228 #[vi p0, vi p1, vi p2, vi p3, vi (3 : Int32), vi (3 : Int32), vi md, vd (FP.i2d p0), ss, vd (FP.i2d p1), ss, vr a873, vi (1 : Int32), vd (FP.dsub (FP.i2d p1) (FP.dmul (FP.i2d (2 : Int32)) (FP.ddiv (FP.dsub (FP.i2d p1) (FP.i2d p0)) (FP.i2d (3 : Int32))))), ss, vi (1 : Int32), vd (FP.dsub (FP.i2d p1) (FP.dmul (FP.i2d (1 : Int32)) (FP.ddiv (FP.dsub (FP.i2d p1) (FP.i2d p0)) (FP.i2d (3 : Int32))))), ss, vd (FP.dsub (FP.i2d p1) (FP.dmul (FP.i2d (0 : Int32)) (FP.ddiv (FP.dsub (FP.i2d p1) (FP.i2d p0)) (FP.i2d (3 : Int32))))), ss, uu, uu, uu, uu] [(.double (own_exp (FP.i2d p0) (FP.i2d p1) (3 : Int32) md (3 : Int32))), (.double (FP.dsub (FP.i2d p1) (FP.dmul (FP.i2d (0 : Int32)) (FP.ddiv (FP.dsub (FP.i2d p1) (FP.i2d p0)) (FP.i2d (3 : Int32))))))]) := fun tQ kk => k3377 tQ (st3388 _ kk)
          clear k3377 st3388
          have k3394 : own_G p e below E0 T3378 (mkF m 241 #[vi p0, vi p1, vi p2, vi p3, vi (3 : Int32), vi (3 : Int32), vi md, vd (FP.i2d p0), ss, vd (FP.i2d p1), ss, vr a873, vi (1 : Int32), vd (FP.dsub (FP.i2d p1) (FP.dmul (FP.i2d (2 : Int32)) (FP.ddiv (FP.dsub (FP.i2d p1) (FP.i2d p0)) (FP.i2d (3 : Int32))))), ss, vi (1 : Int32), vd (FP.dsub (FP.i2d p1) (FP.dmul (FP.i2d (1 : Int32)) (FP.ddiv (FP.dsub (FP.i2d p1) (FP.i2d p0)) (FP.i2d (3 : Int32))))), ss, vd (FP.dsub (FP.i2d p1) (FP.dmul (FP.i2d (0 : Int32)) (FP.ddiv (FP.dsub (FP.i2d p1) (FP.i2d p0)) (FP.i2d (3 : Int32))))), ss, uu, uu, uu, uu] [(.ref a873)]) := by
            intro tQ kk
            refine k3393 tQ ?_
            refine XS.dcmpS (v := (0 : Int32)) X3382.here hx rfl (hb hby at_228) rfl (own_eZ p0 p1 cm1 cm2 cE (show own_mx 0 ((3 : Int32) - (3 : Int32)) = 0 by decide) (by decide)) ?_
            refine XS.ifNo X3382.here hx rfl (hb hby at_229) rfl (own_if_neN (by decide)) ?_
            refine XS.iconst X3382.here hx rfl (hb hby at_232) ?_
            refine XS.goto X3382.here hx rfl (pc0 := 233) (pc' := 237) rfl (hb hby at_233) (by decide) (by decide) ?_
            show Steps p.tables e below (T3378.setTop (mkF m 237 #[vi p0, vi p1, vi p2, vi p3, vi (3 : Int32), vi (3 : Int32), vi md, vd (FP.i2d p0), ss, vd (FP.i2d p1), ss, vr a873, vi (1 : Int32), vd (FP.dsub (FP.i2d p1) (FP.dmul (FP.i2d (2 : Int32)) (FP.ddiv (FP.dsub (FP.i2d p1) (FP.i2d p0)) (FP.i2d (3 : Int32))))), ss, vi (1 : Int32), vd (FP.dsub (FP.i2d p1) (FP.dmul (FP.i2d (1 : Int32)) (FP.ddiv (FP.dsub (FP.i2d p1) (FP.i2d p0)) (FP.i2d (3 : Int32))))), ss, vd (FP.dsub (FP.i2d p1) (FP.dmul (FP.i2d (0 : Int32)) (FP.ddiv (FP.dsub (FP.i2d p1) (FP.i2d p0)) (FP.i2d (3 : Int32))))), ss, uu, uu, uu, uu] [(.int (1 : Int32))])) tQ
            refine XS.istore X3382.here hx rfl (hb hby at_237) rfl (l' := #[vi p0, vi p1, vi p2, vi p3, vi (3 : Int32), vi (3 : Int32), vi md, vd (FP.i2d p0), ss, vd (FP.i2d p1), ss, vr a873, vi (1 : Int32), vd (FP.dsub (FP.i2d p1) (FP.dmul (FP.i2d (2 : Int32)) (FP.ddiv (FP.dsub (FP.i2d p1) (FP.i2d p0)) (FP.i2d (3 : Int32))))), ss, vi (1 : Int32), vd (FP.dsub (FP.i2d p1) (FP.dmul (FP.i2d (1 : Int32)) (FP.ddiv (FP.dsub (FP.i2d p1) (FP.i2d p0)) (FP.i2d (3 : Int32))))), ss, vd (FP.dsub (FP.i2d p1) (FP.dmul (FP.i2d (0 : Int32)) (FP.ddiv (FP.dsub (FP.i2d p1) (FP.i2d p0)) (FP.i2d (3 : Int32))))), ss, uu, uu, uu, uu]) rfl ?_
            refine XS.aload X3382.here hx rfl (hb hby at_239) rfl rfl ?_
            exact kk
          clear k3393
          obtain ⟨cq3406, kq3407, qa3408, qb3409, qc3410⟩ := isOf hZ e3390 F3365
          obtain ⟨_, _, ⟨T3395, L3396, kc3397, nc3398⟩, -, X3399, ⟨Lc3400, hQ3401, l3402, y3403, z3404⟩, st3405⟩ := X3382.virtualBack hx (y := mn13) (z := mn13) hown (mvT hZ (tw43 hw)) (mvT hZ (tw44 hw)) (notFace_of_selects (args := #[]) (mvT hZ (tw46 hw))) (mvT hZ (tw46 hw)) (mvT hZ (tw45 hw)) (by decide) (backOf (W := 0) (rmN l Z a0 hw [] a873 (3 : Int32) (FP.dsub (FP.i2d p1) (FP.dmul (FP.i2d (0 : Int32)) (FP.ddiv (FP.dsub (FP.i2d p1) (FP.i2d p0)) (FP.i2d (3 : Int32))))) (FP.i2d p1) (FP.ddiv (FP.dsub (FP.i2d p1) (FP.i2d p0)) (FP.i2d (3 : Int32))) (0 : Int32) T3338.heap n0 Z3364 F3365 g3358 F3373 g3360 g3361 F3375 ge875 (fun z => absurd z (by decide))) hZ (tw47 hw) (tw7 hw) (by decide) (by decide)) qa3408 qc3410 (g := (mkF m 241 #[vi p0, vi p1, vi p2, vi p3, vi (3 : Int32), vi (3 : Int32), vi md, vd (FP.i2d p0), ss, vd (FP.i2d p1), ss, vr a873, vi (1 : Int32), vd (FP.dsub (FP.i2d p1) (FP.dmul (FP.i2d (2 : Int32)) (FP.ddiv (FP.dsub (FP.i2d p1) (FP.i2d p0)) (FP.i2d (3 : Int32))))), ss, vi (1 : Int32), vd (FP.dsub (FP.i2d p1) (FP.dmul (FP.i2d (1 : Int32)) (FP.ddiv (FP.dsub (FP.i2d p1) (FP.i2d p0)) (FP.i2d (3 : Int32))))), ss, vd (FP.dsub (FP.i2d p1) (FP.dmul (FP.i2d (0 : Int32)) (FP.ddiv (FP.dsub (FP.i2d p1) (FP.i2d p0)) (FP.i2d (3 : Int32))))), ss, uu, uu, uu, uu] [(.ref a873)])) rfl (by rw [hml]; rfl) (Steps.refl _) (argsL := []) (rest := []) (lenOf pd_20 rfl) rfl (by show 2 * 0 + _ ≤ _; exact Nat.le_of_eq rfl) (hb hby at_241) (fun _ _ => ⟨rfl, e3390, (by decide : 1 + 0 ≤ _), (by decide : 5 + 0 ≤ _)⟩)
          dsimp only [Pt.U, Pt.locs, Pt.cells, Pt.slots] at X3399 l3402 y3403 z3404 st3405 hQ3401
          subst l3402 y3403 z3404
          obtain ⟨rfl, N3411, K3414, g3415, g3416, g3417, g3418, g3419⟩ := hQ3401
          have N3420 := Fr.app N3392 N3411
          have Z3421 : n0 ≤ T3395.heap.size := Nat.le_trans Z3364 K3414.1
          have F3422 : xa8 Z T3395.heap a873 := F3365.keep K3414
          clear F3365
          clear g3358
          clear F3373
          clear g3360
          clear g3361
          clear F3375
          have k3428 : own_G p e below E0 T3395 (mkF m 244 #[vi p0, vi p1, vi p2, vi p3, vi (3 : Int32), vi (3 : Int32), vi md, vd (FP.i2d p0), ss, vd (FP.i2d p1), ss, vr a873, vi (1 : Int32), vd (FP.dsub (FP.i2d p1) (FP.dmul (FP.i2d (2 : Int32)) (FP.ddiv (FP.dsub (FP.i2d p1) (FP.i2d p0)) (FP.i2d (3 : Int32))))), ss, vi (1 : Int32), vd (FP.dsub (FP.i2d p1) (FP.dmul (FP.i2d (1 : Int32)) (FP.ddiv (FP.dsub (FP.i2d p1) (FP.i2d p0)) (FP.i2d (3 : Int32))))), ss, vd (FP.dsub (FP.i2d p1) (FP.dmul (FP.i2d (0 : Int32)) (FP.ddiv (FP.dsub (FP.i2d p1) (FP.i2d p0)) (FP.i2d (3 : Int32))))), ss, uu, uu, uu, uu] [(.double (own_nv (FP.dsub (FP.i2d p1) (FP.dmul (FP.i2d (0 : Int32)) (FP.ddiv (FP.dsub (FP.i2d p1) (FP.i2d p0)) (FP.i2d (3 : Int32))))) (FP.i2d p1) (FP.ddiv (FP.dsub (FP.i2d p1) (FP.i2d p0)) (FP.i2d (3 : Int32))) (0 : Int32)))]) := fun tQ kk => k3394 tQ (st3405.trans kk)
          clear k3394 st3405
          have eq3429 : (own_nv (FP.dsub (FP.i2d p1) (FP.dmul (FP.i2d (0 : Int32)) (FP.ddiv (FP.dsub (FP.i2d p1) (FP.i2d p0)) (FP.i2d (3 : Int32))))) (FP.i2d p1) (FP.ddiv (FP.dsub (FP.i2d p1) (FP.i2d p0)) (FP.i2d (3 : Int32))) (0 : Int32)) = (FP.dsub (FP.i2d p1) (FP.dmul (FP.i2d (0 : Int32)) (FP.ddiv (FP.dsub (FP.i2d p1) (FP.i2d p0)) (FP.i2d (3 : Int32))))) := by rw [own_nv, if_neg (by decide)]
          have F3430 : fd4 Z T3395.heap a873 (.double (FP.dsub (FP.i2d p1) (FP.dmul (FP.i2d (0 : Int32)) (FP.ddiv (FP.dsub (FP.i2d p1) (FP.i2d p0)) (FP.i2d (3 : Int32)))))) := by rw [← eq3429]; exact g3416
          have eq3431 : (own_nr (0 : Int32)) = (0 : Int32) := by decide
          have F3432 : fd7 Z T3395.heap a873 (.int (0 : Int32)) := by rw [← eq3431]; exact g3419
          have eq3433 : (own_nv (FP.dsub (FP.i2d p1) (FP.dmul (FP.i2d (0 : Int32)) (FP.ddiv (FP.dsub (FP.i2d p1) (FP.i2d p0)) (FP.i2d (3 : Int32))))) (FP.i2d p1) (FP.ddiv (FP.dsub (FP.i2d p1) (FP.i2d p0)) (FP.i2d (3 : Int32))) (0 : Int32)) = (FP.dsub (FP.i2d p1) (FP.dmul (FP.i2d (0 : Int32)) (FP.ddiv (FP.dsub (FP.i2d p1) (FP.i2d p0)) (FP.i2d (3 : Int32))))) := by rw [own_nv, if_neg (by decide)]
          rw [eq3433] at k3428
          have k3434 : own_G p e below E0 T3395 (mkF m 262 #[vi p0, vi p1, vi p2, vi p3, vi (3 : Int32), vi (3 : Int32), vi md, vd (FP.i2d p0), ss, vd (FP.i2d p1), ss, vr a873, vi (1 : Int32), vd (FP.dsub (FP.i2d p1) (FP.dmul (FP.i2d (2 : Int32)) (FP.ddiv (FP.dsub (FP.i2d p1) (FP.i2d p0)) (FP.i2d (3 : Int32))))), ss, vi (1 : Int32), vd (FP.dsub (FP.i2d p1) (FP.dmul (FP.i2d (1 : Int32)) (FP.ddiv (FP.dsub (FP.i2d p1) (FP.i2d p0)) (FP.i2d (3 : Int32))))), ss, vd (FP.dsub (FP.i2d p1) (FP.dmul (FP.i2d (0 : Int32)) (FP.ddiv (FP.dsub (FP.i2d p1) (FP.i2d p0)) (FP.i2d (3 : Int32))))), ss, vd (FP.dsub (FP.i2d p1) (FP.dmul (FP.i2d (0 : Int32)) (FP.ddiv (FP.dsub (FP.i2d p1) (FP.i2d p0)) (FP.i2d (3 : Int32))))), ss, uu, uu] [(.int (4 : Int32)), (.int md), (.int (3 : Int32)), (.double (FP.i2d p1)), (.double (FP.i2d p0)), (.double (FP.dsub (FP.i2d p1) (FP.dmul (FP.i2d (0 : Int32)) (FP.ddiv (FP.dsub (FP.i2d p1) (FP.i2d p0)) (FP.i2d (3 : Int32))))))]) := by
            intro tQ kk
            refine k3428 tQ ?_
            refine XS.dstore X3399.here hx rfl (hb hby at_244) rfl (l' := #[vi p0, vi p1, vi p2, vi p3, vi (3 : Int32), vi (3 : Int32), vi md, vd (FP.i2d p0), ss, vd (FP.i2d p1), ss, vr a873, vi (1 : Int32), vd (FP.dsub (FP.i2d p1) (FP.dmul (FP.i2d (2 : Int32)) (FP.ddiv (FP.dsub (FP.i2d p1) (FP.i2d p0)) (FP.i2d (3 : Int32))))), ss, vi (1 : Int32), vd (FP.dsub (FP.i2d p1) (FP.dmul (FP.i2d (1 : Int32)) (FP.ddiv (FP.dsub (FP.i2d p1) (FP.i2d p0)) (FP.i2d (3 : Int32))))), ss, vd (FP.dsub (FP.i2d p1) (FP.dmul (FP.i2d (0 : Int32)) (FP.ddiv (FP.dsub (FP.i2d p1) (FP.i2d p0)) (FP.i2d (3 : Int32))))), ss, vd (FP.dsub (FP.i2d p1) (FP.dmul (FP.i2d (0 : Int32)) (FP.ddiv (FP.dsub (FP.i2d p1) (FP.i2d p0)) (FP.i2d (3 : Int32))))), ss, uu, uu]) rfl ?_
            refine XS.iload X3399.here hx rfl (hb hby at_246) rfl ?_
            refine XS.ifNo X3399.here hx rfl (hb hby at_248) rfl (own_if_eqN (by decide)) ?_
            refine XS.dload X3399.here hx rfl (hb hby at_251) rfl ?_
            show Steps p.tables e below (T3395.setTop (mkF m 253 #[vi p0, vi p1, vi p2, vi p3, vi (3 : Int32), vi (3 : Int32), vi md, vd (FP.i2d p0), ss, vd (FP.i2d p1), ss, vr a873, vi (1 : Int32), vd (FP.dsub (FP.i2d p1) (FP.dmul (FP.i2d (2 : Int32)) (FP.ddiv (FP.dsub (FP.i2d p1) (FP.i2d p0)) (FP.i2d (3 : Int32))))), ss, vi (1 : Int32), vd (FP.dsub (FP.i2d p1) (FP.dmul (FP.i2d (1 : Int32)) (FP.ddiv (FP.dsub (FP.i2d p1) (FP.i2d p0)) (FP.i2d (3 : Int32))))), ss, vd (FP.dsub (FP.i2d p1) (FP.dmul (FP.i2d (0 : Int32)) (FP.ddiv (FP.dsub (FP.i2d p1) (FP.i2d p0)) (FP.i2d (3 : Int32))))), ss, vd (FP.dsub (FP.i2d p1) (FP.dmul (FP.i2d (0 : Int32)) (FP.ddiv (FP.dsub (FP.i2d p1) (FP.i2d p0)) (FP.i2d (3 : Int32))))), ss, uu, uu] [(.double (FP.dsub (FP.i2d p1) (FP.dmul (FP.i2d (0 : Int32)) (FP.ddiv (FP.dsub (FP.i2d p1) (FP.i2d p0)) (FP.i2d (3 : Int32))))))])) tQ
            refine XS.dload X3399.here hx rfl (hb hby at_253) rfl ?_
            refine XS.dload X3399.here hx rfl (hb hby at_255) rfl ?_
            refine XS.iload X3399.here hx rfl (hb hby at_257) rfl ?_
            refine XS.iload X3399.here hx rfl (hb hby at_259) rfl ?_
            show Steps p.tables e below (T3395.setTop (mkF m 261 #[vi p0, vi p1, vi p2, vi p3, vi (3 : Int32), vi (3 : Int32), vi md, vd (FP.i2d p0), ss, vd (FP.i2d p1), ss, vr a873, vi (1 : Int32), vd (FP.dsub (FP.i2d p1) (FP.dmul (FP.i2d (2 : Int32)) (FP.ddiv (FP.dsub (FP.i2d p1) (FP.i2d p0)) (FP.i2d (3 : Int32))))), ss, vi (1 : Int32), vd (FP.dsub (FP.i2d p1) (FP.dmul (FP.i2d (1 : Int32)) (FP.ddiv (FP.dsub (FP.i2d p1) (FP.i2d p0)) (FP.i2d (3 : Int32))))), ss, vd (FP.dsub (FP.i2d p1) (FP.dmul (FP.i2d (0 : Int32)) (FP.ddiv (FP.dsub (FP.i2d p1) (FP.i2d p0)) (FP.i2d (3 : Int32))))), ss, vd (FP.dsub (FP.i2d p1) (FP.dmul (FP.i2d (0 : Int32)) (FP.ddiv (FP.dsub (FP.i2d p1) (FP.i2d p0)) (FP.i2d (3 : Int32))))), ss, uu, uu] [(.int md), (.int (3 : Int32)), (.double (FP.i2d p1)), (.double (FP.i2d p0)), (.double (FP.dsub (FP.i2d p1) (FP.dmul (FP.i2d (0 : Int32)) (FP.ddiv (FP.dsub (FP.i2d p1) (FP.i2d p0)) (FP.i2d (3 : Int32))))))])) tQ
            refine XS.iconst X3399.here hx rfl (hb hby at_261) ?_
            exact kk
          clear k3428
          obtain ⟨_, _, ⟨T3435, L3436, kc3437, nc3438⟩, -, X3439, ⟨Lc3440, hQ3441, l3442, y3443, z3444⟩, st3445⟩ := Jvm.LawKit.callS X3399 hx (y := mn16) hown (mvT hZ (tw48 hw)) (mvT hZ (tw49 hw)) (mvT hZ (tw50 hw)) (mvT hZ (tw51 hw)) (by decide) (backOf (W := 2) (rmE l Z a0 hw [] (FP.i2d p0) (FP.i2d p1) (3 : Int32) md (4 : Int32) T3395.heap n0 Z3421 (Fl.i2d_fin p0).noNaN (Fl.i2d_fin p1).noNaN (own_h1 p0 p1) (own_h2 p0 p1 (F := (3 : Int32)) (by decide)) (own_q3 p0 p1 (F := (3 : Int32)) (r := (own_mx 0 ((3 : Int32) - (4 : Int32)))) (by decide) (own_mxb (by decide) (by decide)))) hZ (tw51 hw) (tw50 hw) (by decide) (by decide)) (g := (mkF m 262 #[vi p0, vi p1, vi p2, vi p3, vi (3 : Int32), vi (3 : Int32), vi md, vd (FP.i2d p0), ss, vd (FP.i2d p1), ss, vr a873, vi (1 : Int32), vd (FP.dsub (FP.i2d p1) (FP.dmul (FP.i2d (2 : Int32)) (FP.ddiv (FP.dsub (FP.i2d p1) (FP.i2d p0)) (FP.i2d (3 : Int32))))), ss, vi (1 : Int32), vd (FP.dsub (FP.i2d p1) (FP.dmul (FP.i2d (1 : Int32)) (FP.ddiv (FP.dsub (FP.i2d p1) (FP.i2d p0)) (FP.i2d (3 : Int32))))), ss, vd (FP.dsub (FP.i2d p1) (FP.dmul (FP.i2d (0 : Int32)) (FP.ddiv (FP.dsub (FP.i2d p1) (FP.i2d p0)) (FP.i2d (3 : Int32))))), ss, vd (FP.dsub (FP.i2d p1) (FP.dmul (FP.i2d (0 : Int32)) (FP.ddiv (FP.dsub (FP.i2d p1) (FP.i2d p0)) (FP.i2d (3 : Int32))))), ss, uu, uu] [(.int (4 : Int32)), (.int md), (.int (3 : Int32)), (.double (FP.i2d p1)), (.double (FP.i2d p0)), (.double (FP.dsub (FP.i2d p1) (FP.dmul (FP.i2d (0 : Int32)) (FP.ddiv (FP.dsub (FP.i2d p1) (FP.i2d p0)) (FP.i2d (3 : Int32))))))])) rfl (by rw [hml]; rfl) (argsL := [(.double (FP.i2d p0)), (.double (FP.i2d p1)), (.int (3 : Int32)), (.int md), (.int (4 : Int32))]) (rest := [(.double (FP.dsub (FP.i2d p1) (FP.dmul (FP.i2d (0 : Int32)) (FP.ddiv (FP.dsub (FP.i2d p1) (FP.i2d p0)) (FP.i2d (3 : Int32))))))]) (lenOf pd_21 rfl) rfl (by show 2 * 0 + _ ≤ _; exact Nat.le_of_eq rfl) (hb hby at_262) (fun _ _ => ⟨rfl, rfl, (by decide : 1 + 0 ≤ _), (by decide : 5 + 0 ≤ _)⟩)
          dsimp only [Pt.U, Pt.locs, Pt.cells, Pt.slots] at X3439 l3442 y3443 z3444 st3445 hQ3441
          subst l3442 y3443 z3444
          obtain ⟨rfl, N3446, e3447⟩ := hQ3441
          have N3449 := Fr.app N3420 N3446
          have k3450 : own_G p e below E0 T3435 (mkF m 265 #[vi p0, vi p1, vi p2, vi p3, vi (3 : Int32), vi (3 : Int32), vi md, vd (FP.i2d p0), ss, vd (FP.i2d p1), ss, vr a873, vi (1 : Int32), vd (FP.dsub (FP.i2d p1) (FP.dmul (FP.i2d (2 : Int32)) (FP.ddiv (FP.dsub (FP.i2d p1) (FP.i2d p0)) (FP.i2d (3 : Int32))))), ss, vi (1 : Int32), vd (FP.dsub (FP.i2d p1) (FP.dmul (FP.i2d (1 : Int32)) (FP.ddiv (FP.dsub (FP.i2d p1) (FP.i2d p0)) (FP.i2d (3 : Int32))))), ss, vd (FP.dsub (FP.i2d p1) (FP.dmul (FP.i2d (0 : Int32)) (FP.ddiv (FP.dsub (FP.i2d p1) (FP.i2d p0)) (FP.i2d (3 : Int32))))), ss, vd (FP.dsub (FP.i2d p1) (FP.dmul (FP.i2d (0 : Int32)) (FP.ddiv (FP.dsub (FP.i2d p1) (FP.i2d p0)) (FP.i2d (3 : Int32))))), ss, uu, uu] [(.double (own_exp (FP.i2d p0) (FP.i2d p1) (3 : Int32) md (4 : Int32))), (.double (FP.dsub (FP.i2d p1) (FP.dmul (FP.i2d (0 : Int32)) (FP.ddiv (FP.dsub (FP.i2d p1) (FP.i2d p0)) (FP.i2d (3 : Int32))))))]) := fun tQ kk => k3434 tQ (st3445 _ kk)
          clear k3434 st3445
          have k3451 : own_G p e below E0 T3435 (mkF m 278 #[vi p0, vi p1, vi p2, vi p3, vi (3 : Int32), vi (3 : Int32), vi md, vd (FP.i2d p0), ss, vd (FP.i2d p1), ss, vr a873, vi (1 : Int32), vd (FP.dsub (FP.i2d p1) (FP.dmul (FP.i2d (2 : Int32)) (FP.ddiv (FP.dsub (FP.i2d p1) (FP.i2d p0)) (FP.i2d (3 : Int32))))), ss, vi (1 : Int32), vd (FP.dsub (FP.i2d p1) (FP.dmul (FP.i2d (1 : Int32)) (FP.ddiv (FP.dsub (FP.i2d p1) (FP.i2d p0)) (FP.i2d (3 : Int32))))), ss, vd (FP.dsub (FP.i2d p1) (FP.dmul (FP.i2d (0 : Int32)) (FP.ddiv (FP.dsub (FP.i2d p1) (FP.i2d p0)) (FP.i2d (3 : Int32))))), ss, vd (FP.dsub (FP.i2d p1) (FP.dmul (FP.i2d (0 : Int32)) (FP.ddiv (FP.dsub (FP.i2d p1) (FP.i2d p0)) (FP.i2d (3 : Int32))))), ss, uu, uu] [(.ref a873)]) := by
            intro tQ kk
            refine k3450 tQ ?_
            refine XS.dcmpS (v := (0 : Int32)) X3439.here hx rfl (hb hby at_265) rfl (own_eZ p0 p1 cm1 cm2 cE (show own_mx 0 ((3 : Int32) - (4 : Int32)) = 0 by decide) (by decide)) ?_
            refine XS.ifNo X3439.here hx rfl (hb hby at_266) rfl (own_if_neN (by decide)) ?_
            refine XS.iconst X3439.here hx rfl (hb hby at_269) ?_
            refine XS.goto X3439.here hx rfl (pc0 := 270) (pc' := 274) rfl (hb hby at_270) (by decide) (by decide) ?_
            show Steps p.tables e below (T3435.setTop (mkF m 274 #[vi p0, vi p1, vi p2, vi p3, vi (3 : Int32), vi (3 : Int32), vi md, vd (FP.i2d p0), ss, vd (FP.i2d p1), ss, vr a873, vi (1 : Int32), vd (FP.dsub (FP.i2d p1) (FP.dmul (FP.i2d (2 : Int32)) (FP.ddiv (FP.dsub (FP.i2d p1) (FP.i2d p0)) (FP.i2d (3 : Int32))))), ss, vi (1 : Int32), vd (FP.dsub (FP.i2d p1) (FP.dmul (FP.i2d (1 : Int32)) (FP.ddiv (FP.dsub (FP.i2d p1) (FP.i2d p0)) (FP.i2d (3 : Int32))))), ss, vd (FP.dsub (FP.i2d p1) (FP.dmul (FP.i2d (0 : Int32)) (FP.ddiv (FP.dsub (FP.i2d p1) (FP.i2d p0)) (FP.i2d (3 : Int32))))), ss, vd (FP.dsub (FP.i2d p1) (FP.dmul (FP.i2d (0 : Int32)) (FP.ddiv (FP.dsub (FP.i2d p1) (FP.i2d p0)) (FP.i2d (3 : Int32))))), ss, uu, uu] [(.int (1 : Int32))])) tQ
            refine XS.istore X3439.here hx rfl (hb hby at_274) rfl (l' := #[vi p0, vi p1, vi p2, vi p3, vi (3 : Int32), vi (3 : Int32), vi md, vd (FP.i2d p0), ss, vd (FP.i2d p1), ss, vr a873, vi (1 : Int32), vd (FP.dsub (FP.i2d p1) (FP.dmul (FP.i2d (2 : Int32)) (FP.ddiv (FP.dsub (FP.i2d p1) (FP.i2d p0)) (FP.i2d (3 : Int32))))), ss, vi (1 : Int32), vd (FP.dsub (FP.i2d p1) (FP.dmul (FP.i2d (1 : Int32)) (FP.ddiv (FP.dsub (FP.i2d p1) (FP.i2d p0)) (FP.i2d (3 : Int32))))), ss, vd (FP.dsub (FP.i2d p1) (FP.dmul (FP.i2d (0 : Int32)) (FP.ddiv (FP.dsub (FP.i2d p1) (FP.i2d p0)) (FP.i2d (3 : Int32))))), ss, vd (FP.dsub (FP.i2d p1) (FP.dmul (FP.i2d (0 : Int32)) (FP.ddiv (FP.dsub (FP.i2d p1) (FP.i2d p0)) (FP.i2d (3 : Int32))))), ss, uu, uu]) rfl ?_
            refine XS.aload X3439.here hx rfl (hb hby at_276) rfl rfl ?_
            exact kk
          clear k3450
          obtain ⟨cq3463, kq3464, qa3465, qb3466, qc3467⟩ := isOf hZ e3447 F3422
          obtain ⟨_, _, ⟨T3452, L3453, kc3454, nc3455⟩, -, X3456, ⟨Lc3457, hQ3458, l3459, y3460, z3461⟩, st3462⟩ := X3439.virtualBack hx (y := mn13) (z := mn13) hown (mvT hZ (tw43 hw)) (mvT hZ (tw44 hw)) (notFace_of_selects (args := #[]) (mvT hZ (tw46 hw))) (mvT hZ (tw46 hw)) (mvT hZ (tw45 hw)) (by decide) (backOf (W := 0) (rmN l Z a0 hw [] a873 (3 : Int32) (FP.dsub (FP.i2d p1) (FP.dmul (FP.i2d (0 : Int32)) (FP.ddiv (FP.dsub (FP.i2d p1) (FP.i2d p0)) (FP.i2d (3 : Int32))))) (FP.i2d p1) (FP.ddiv (FP.dsub (FP.i2d p1) (FP.i2d p0)) (FP.i2d (3 : Int32))) (0 : Int32) T3395.heap n0 Z3421 F3422 g3415 F3430 g3417 g3418 F3432 ge875 (fun z => absurd z (by decide))) hZ (tw47 hw) (tw7 hw) (by decide) (by decide)) qa3465 qc3467 (g := (mkF m 278 #[vi p0, vi p1, vi p2, vi p3, vi (3 : Int32), vi (3 : Int32), vi md, vd (FP.i2d p0), ss, vd (FP.i2d p1), ss, vr a873, vi (1 : Int32), vd (FP.dsub (FP.i2d p1) (FP.dmul (FP.i2d (2 : Int32)) (FP.ddiv (FP.dsub (FP.i2d p1) (FP.i2d p0)) (FP.i2d (3 : Int32))))), ss, vi (1 : Int32), vd (FP.dsub (FP.i2d p1) (FP.dmul (FP.i2d (1 : Int32)) (FP.ddiv (FP.dsub (FP.i2d p1) (FP.i2d p0)) (FP.i2d (3 : Int32))))), ss, vd (FP.dsub (FP.i2d p1) (FP.dmul (FP.i2d (0 : Int32)) (FP.ddiv (FP.dsub (FP.i2d p1) (FP.i2d p0)) (FP.i2d (3 : Int32))))), ss, vd (FP.dsub (FP.i2d p1) (FP.dmul (FP.i2d (0 : Int32)) (FP.ddiv (FP.dsub (FP.i2d p1) (FP.i2d p0)) (FP.i2d (3 : Int32))))), ss, uu, uu] [(.ref a873)])) rfl (by rw [hml]; rfl) (Steps.refl _) (argsL := []) (rest := []) (lenOf pd_20 rfl) rfl (by show 2 * 0 + _ ≤ _; exact Nat.le_of_eq rfl) (hb hby at_278) (fun _ _ => ⟨rfl, e3447, (by decide : 1 + 0 ≤ _), (by decide : 5 + 0 ≤ _)⟩)
          dsimp only [Pt.U, Pt.locs, Pt.cells, Pt.slots] at X3456 l3459 y3460 z3461 st3462 hQ3458
          subst l3459 y3460 z3461
          obtain ⟨rfl, N3468, K3471, g3472, g3473, g3474, g3475, g3476⟩ := hQ3458
          have N3477 := Fr.app N3449 N3468
          have Z3478 : n0 ≤ T3452.heap.size := Nat.le_trans Z3421 K3471.1
          have F3479 : xa8 Z T3452.heap a873 := F3422.keep K3471
          clear F3422
          clear g3415
          clear F3430
          clear g3417
          clear g3418
          clear F3432
          have k3485 : own_G p e below E0 T3452 (mkF m 281 #[vi p0, vi p1, vi p2, vi p3, vi (3 : Int32), vi (3 : Int32), vi md, vd (FP.i2d p0), ss, vd (FP.i2d p1), ss, vr a873, vi (1 : Int32), vd (FP.dsub (FP.i2d p1) (FP.dmul (FP.i2d (2 : Int32)) (FP.ddiv (FP.dsub (FP.i2d p1) (FP.i2d p0)) (FP.i2d (3 : Int32))))), ss, vi (1 : Int32), vd (FP.dsub (FP.i2d p1) (FP.dmul (FP.i2d (1 : Int32)) (FP.ddiv (FP.dsub (FP.i2d p1) (FP.i2d p0)) (FP.i2d (3 : Int32))))), ss, vd (FP.dsub (FP.i2d p1) (FP.dmul (FP.i2d (0 : Int32)) (FP.ddiv (FP.dsub (FP.i2d p1) (FP.i2d p0)) (FP.i2d (3 : Int32))))), ss, vd (FP.dsub (FP.i2d p1) (FP.dmul (FP.i2d (0 : Int32)) (FP.ddiv (FP.dsub (FP.i2d p1) (FP.i2d p0)) (FP.i2d (3 : Int32))))), ss, uu, uu] [(.double (own_nv (FP.dsub (FP.i2d p1) (FP.dmul (FP.i2d (0 : Int32)) (FP.ddiv (FP.dsub (FP.i2d p1) (FP.i2d p0)) (FP.i2d (3 : Int32))))) (FP.i2d p1) (FP.ddiv (FP.dsub (FP.i2d p1) (FP.i2d p0)) (FP.i2d (3 : Int32))) (0 : Int32)))]) := fun tQ kk => k3451 tQ (st3462.trans kk)
          clear k3451 st3462
          have eq3486 : (own_nv (FP.dsub (FP.i2d p1) (FP.dmul (FP.i2d (0 : Int32)) (FP.ddiv (FP.dsub (FP.i2d p1) (FP.i2d p0)) (FP.i2d (3 : Int32))))) (FP.i2d p1) (FP.ddiv (FP.dsub (FP.i2d p1) (FP.i2d p0)) (FP.i2d (3 : Int32))) (0 : Int32)) = (FP.dsub (FP.i2d p1) (FP.dmul (FP.i2d (0 : Int32)) (FP.ddiv (FP.dsub (FP.i2d p1) (FP.i2d p0)) (FP.i2d (3 : Int32))))) := by rw [own_nv, if_neg (by decide)]
          have F3487 : fd4 Z T3452.heap a873 (.double (FP.dsub (FP.i2d p1) (FP.dmul (FP.i2d (0 : Int32)) (FP.ddiv (FP.dsub (FP.i2d p1) (FP.i2d p0)) (FP.i2d (3 : Int32)))))) := by rw [← eq3486]; exact g3473
          have eq3488 : (own_nr (0 : Int32)) = (0 : Int32) := by decide
          have F3489 : fd7 Z T3452.heap a873 (.int (0 : Int32)) := by rw [← eq3488]; exact g3476
          have eq3490 : (own_nv (FP.dsub (FP.i2d p1) (FP.dmul (FP.i2d (0 : Int32)) (FP.ddiv (FP.dsub (FP.i2d p1) (FP.i2d p0)) (FP.i2d (3 : Int32))))) (FP.i2d p1) (FP.ddiv (FP.dsub (FP.i2d p1) (FP.i2d p0)) (FP.i2d (3 : Int32))) (0 : Int32)) = (FP.dsub (FP.i2d p1) (FP.dmul (FP.i2d (0 : Int32)) (FP.ddiv (FP.dsub (FP.i2d p1) (FP.i2d p0)) (FP.i2d (3 : Int32))))) := by rw [own_nv, if_neg (by decide)]
          rw [eq3490] at k3485
          have k3491 : own_G p e below E0 T3452 (mkF m 299 #[vi p0, vi p1, vi p2, vi p3, vi (3 : Int32), vi (3 : Int32), vi md, vd (FP.i2d p0), ss, vd (FP.i2d p1), ss, vr a873, vi (1 : Int32), vd (FP.dsub (FP.i2d p1) (FP.dmul (FP.i2d (2 : Int32)) (FP.ddiv (FP.dsub (FP.i2d p1) (FP.i2d p0)) (FP.i2d (3 : Int32))))), ss, vi (1 : Int32), vd (FP.dsub (FP.i2d p1) (FP.dmul (FP.i2d (1 : Int32)) (FP.ddiv (FP.dsub (FP.i2d p1) (FP.i2d p0)) (FP.i2d (3 : Int32))))), ss, vd (FP.dsub (FP.i2d p1) (FP.dmul (FP.i2d (0 : Int32)) (FP.ddiv (FP.dsub (FP.i2d p1) (FP.i2d p0)) (FP.i2d (3 : Int32))))), ss, vd (FP.dsub (FP.i2d p1) (FP.dmul (FP.i2d (0 : Int32)) (FP.ddiv (FP.dsub (FP.i2d p1) (FP.i2d p0)) (FP.i2d (3 : Int32))))), ss, vd (FP.dsub (FP.i2d p1) (FP.dmul (FP.i2d (0 : Int32)) (FP.ddiv (FP.dsub (FP.i2d p1) (FP.i2d p0)) (FP.i2d (3 : Int32))))), ss] [(.int (5 : Int32)), (.int md), (.int (3 : Int32)), (.double (FP.i2d p1)), (.double (FP.i2d p0)), (.double (FP.dsub (FP.i2d p1) (FP.dmul (FP.i2d (0 : Int32)) (FP.ddiv (FP.dsub (FP.i2d p1) (FP.i2d p0)) (FP.i2d (3 : Int32))))))]) := by
            intro tQ kk
            refine k3485 tQ ?_
            refine XS.dstore X3456.here hx rfl (hb hby at_281) rfl (l' := #[vi p0, vi p1, vi p2, vi p3, vi (3 : Int32), vi (3 : Int32), vi md, vd (FP.i2d p0), ss, vd (FP.i2d p1), ss, vr a873, vi (1 : Int32), vd (FP.dsub (FP.i2d p1) (FP.dmul (FP.i2d (2 : Int32)) (FP.ddiv (FP.dsub (FP.i2d p1) (FP.i2d p0)) (FP.i2d (3 : Int32))))), ss, vi (1 : Int32), vd (FP.dsub (FP.i2d p1) (FP.dmul (FP.i2d (1 : Int32)) (FP.ddiv (FP.dsub (FP.i2d p1) (FP.i2d p0)) (FP.i2d (3 : Int32))))), ss, vd (FP.dsub (FP.i2d p1) (FP.dmul (FP.i2d (0 : Int32)) (FP.ddiv (FP.dsub (FP.i2d p1) (FP.i2d p0)) (FP.i2d (3 : Int32))))), ss, vd (FP.dsub (FP.i2d p1) (FP.dmul (FP.i2d (0 : Int32)) (FP.ddiv (FP.dsub (FP.i2d p1) (FP.i2d p0)) (FP.i2d (3 : Int32))))), ss, vd (FP.dsub (FP.i2d p1) (FP.dmul (FP.i2d (0 : Int32)) (FP.ddiv (FP.dsub (FP.i2d p1) (FP.i2d p0)) (FP.i2d (3 : Int32))))), ss]) rfl ?_
            refine XS.iload X3456.here hx rfl (hb hby at_283) rfl ?_
            refine XS.ifNo X3456.here hx rfl (hb hby at_285) rfl (own_if_eqN (by decide)) ?_
            refine XS.dload X3456.here hx rfl (hb hby at_288) rfl ?_
            show Steps p.tables e below (T3452.setTop (mkF m 290 #[vi p0, vi p1, vi p2, vi p3, vi (3 : Int32), vi (3 : Int32), vi md, vd (FP.i2d p0), ss, vd (FP.i2d p1), ss, vr a873, vi (1 : Int32), vd (FP.dsub (FP.i2d p1) (FP.dmul (FP.i2d (2 : Int32)) (FP.ddiv (FP.dsub (FP.i2d p1) (FP.i2d p0)) (FP.i2d (3 : Int32))))), ss, vi (1 : Int32), vd (FP.dsub (FP.i2d p1) (FP.dmul (FP.i2d (1 : Int32)) (FP.ddiv (FP.dsub (FP.i2d p1) (FP.i2d p0)) (FP.i2d (3 : Int32))))), ss, vd (FP.dsub (FP.i2d p1) (FP.dmul (FP.i2d (0 : Int32)) (FP.ddiv (FP.dsub (FP.i2d p1) (FP.i2d p0)) (FP.i2d (3 : Int32))))), ss, vd (FP.dsub (FP.i2d p1) (FP.dmul (FP.i2d (0 : Int32)) (FP.ddiv (FP.dsub (FP.i2d p1) (FP.i2d p0)) (FP.i2d (3 : Int32))))), ss, vd (FP.dsub (FP.i2d p1) (FP.dmul (FP.i2d (0 : Int32)) (FP.ddiv (FP.dsub (FP.i2d p1) (FP.i2d p0)) (FP.i2d (3 : Int32))))), ss] [(.double (FP.dsub (FP.i2d p1) (FP.dmul (FP.i2d (0 : Int32)) (FP.ddiv (FP.dsub (FP.i2d p1) (FP.i2d p0)) (FP.i2d (3 : Int32))))))])) tQ
            refine XS.dload X3456.here hx rfl (hb hby at_290) rfl ?_
            refine XS.dload X3456.here hx rfl (hb hby at_292) rfl ?_
            refine XS.iload X3456.here hx rfl (hb hby at_294) rfl ?_
            refine XS.iload X3456.here hx rfl (hb hby at_296) rfl ?_
            show Steps p.tables e below (T3452.setTop (mkF m 298 #[vi p0, vi p1, vi p2, vi p3, vi (3 : Int32), vi (3 : Int32), vi md, vd (FP.i2d p0), ss, vd (FP.i2d p1), ss, vr a873, vi (1 : Int32), vd (FP.dsub (FP.i2d p1) (FP.dmul (FP.i2d (2 : Int32)) (FP.ddiv (FP.dsub (FP.i2d p1) (FP.i2d p0)) (FP.i2d (3 : Int32))))), ss, vi (1 : Int32), vd (FP.dsub (FP.i2d p1) (FP.dmul (FP.i2d (1 : Int32)) (FP.ddiv (FP.dsub (FP.i2d p1) (FP.i2d p0)) (FP.i2d (3 : Int32))))), ss, vd (FP.dsub (FP.i2d p1) (FP.dmul (FP.i2d (0 : Int32)) (FP.ddiv (FP.dsub (FP.i2d p1) (FP.i2d p0)) (FP.i2d (3 : Int32))))), ss, vd (FP.dsub (FP.i2d p1) (FP.dmul (FP.i2d (0 : Int32)) (FP.ddiv (FP.dsub (FP.i2d p1) (FP.i2d p0)) (FP.i2d (3 : Int32))))), ss, vd (FP.dsub (FP.i2d p1) (FP.dmul (FP.i2d (0 : Int32)) (FP.ddiv (FP.dsub (FP.i2d p1) (FP.i2d p0)) (FP.i2d (3 : Int32))))), ss] [(.int md), (.int (3 : Int32)), (.double (FP.i2d p1)), (.double (FP.i2d p0)), (.double (FP.dsub (FP.i2d p1) (FP.dmul (FP.i2d (0 : Int32)) (FP.ddiv (FP.dsub (FP.i2d p1) (FP.i2d p0)) (FP.i2d (3 : Int32))))))])) tQ
            refine XS.iconst X3456.here hx rfl (hb hby at_298) ?_
            exact kk
          clear k3485
          obtain ⟨_, _, ⟨T3492, L3493, kc3494, nc3495⟩, -, X3496, ⟨Lc3497, hQ3498, l3499, y3500, z3501⟩, st3502⟩ := Jvm.LawKit.callS X3456 hx (y := mn16) hown (mvT hZ (tw48 hw)) (mvT hZ (tw49 hw)) (mvT hZ (tw50 hw)) (mvT hZ (tw51 hw)) (by decide) (backOf (W := 2) (rmE l Z a0 hw [] (FP.i2d p0) (FP.i2d p1) (3 : Int32) md (5 : Int32) T3452.heap n0 Z3478 (Fl.i2d_fin p0).noNaN (Fl.i2d_fin p1).noNaN (own_h1 p0 p1) (own_h2 p0 p1 (F := (3 : Int32)) (by decide)) (own_q3 p0 p1 (F := (3 : Int32)) (r := (own_mx 0 ((3 : Int32) - (5 : Int32)))) (by decide) (own_mxb (by decide) (by decide)))) hZ (tw51 hw) (tw50 hw) (by decide) (by decide)) (g := (mkF m 299 #[vi p0, vi p1, vi p2, vi p3, vi (3 : Int32), vi (3 : Int32), vi md, vd (FP.i2d p0), ss, vd (FP.i2d p1), ss, vr a873, vi (1 : Int32), vd (FP.dsub (FP.i2d p1) (FP.dmul (FP.i2d (2 : Int32)) (FP.ddiv (FP.dsub (FP.i2d p1) (FP.i2d p0)) (FP.i2d (3 : Int32))))), ss, vi (1 : Int32), vd (FP.dsub (FP.i2d p1) (FP.dmul (FP.i2d (1 : Int32)) (FP.ddiv (FP.dsub (FP.i2d p1) (FP.i2d p0)) (FP.i2d (3 : Int32))))), ss, vd (FP.dsub (FP.i2d p1) (FP.dmul (FP.i2d (0 : Int32)) (FP.ddiv (FP.dsub (FP.i2d p1) (FP.i2d p0)) (FP.i2d (3 : Int32))))), ss, vd (FP.dsub (FP.i2d p1) (FP.dmul (FP.i2d (0 : Int32)) (FP.ddiv (FP.dsub (FP.i2d p1) (FP.i2d p0)) (FP.i2d (3 : Int32))))), ss, vd (FP.dsub (FP.i2d p1) (FP.dmul (FP.i2d (0 : Int32)) (FP.ddiv (FP.dsub (FP.i2d p1) (FP.i2d p0)) (FP.i2d (3 : Int32))))), ss] [(.int (5 : Int32)), (.int md), (.int (3 : Int32)), (.double (FP.i2d p1)), (.double (FP.i2d p0)), (.double (FP.dsub (FP.i2d p1) (FP.dmul (FP.i2d (0 : Int32)) (FP.ddiv (FP.dsub (FP.i2d p1) (FP.i2d p0)) (FP.i2d (3 : Int32))))))])) rfl (by rw [hml]; rfl) (argsL := [(.double (FP.i2d p0)), (.double (FP.i2d p1)), (.int (3 : Int32)), (.int md), (.int (5 : Int32))]) (rest := [(.double (FP.dsub (FP.i2d p1) (FP.dmul (FP.i2d (0 : Int32)) (FP.ddiv (FP.dsub (FP.i2d p1) (FP.i2d p0)) (FP.i2d (3 : Int32))))))]) (lenOf pd_21 rfl) rfl (by show 2 * 0 + _ ≤ _; exact Nat.le_of_eq rfl) (hb hby at_299) (fun _ _ => ⟨rfl, rfl, (by decide : 1 + 0 ≤ _), (by decide : 5 + 0 ≤ _)⟩)
          dsimp only [Pt.U, Pt.locs, Pt.cells, Pt.slots] at X3496 l3499 y3500 z3501 st3502 hQ3498
          subst l3499 y3500 z3501
          obtain ⟨rfl, N3503, e3504⟩ := hQ3498
          have N3506 := Fr.app N3477 N3503
          have k3507 : own_G p e below E0 T3492 (mkF m 302 #[vi p0, vi p1, vi p2, vi p3, vi (3 : Int32), vi (3 : Int32), vi md, vd (FP.i2d p0), ss, vd (FP.i2d p1), ss, vr a873, vi (1 : Int32), vd (FP.dsub (FP.i2d p1) (FP.dmul (FP.i2d (2 : Int32)) (FP.ddiv (FP.dsub (FP.i2d p1) (FP.i2d p0)) (FP.i2d (3 : Int32))))), ss, vi (1 : Int32), vd (FP.dsub (FP.i2d p1) (FP.dmul (FP.i2d (1 : Int32)) (FP.ddiv (FP.dsub (FP.i2d p1) (FP.i2d p0)) (FP.i2d (3 : Int32))))), ss, vd (FP.dsub (FP.i2d p1) (FP.dmul (FP.i2d (0 : Int32)) (FP.ddiv (FP.dsub (FP.i2d p1) (FP.i2d p0)) (FP.i2d (3 : Int32))))), ss, vd (FP.dsub (FP.i2d p1) (FP.dmul (FP.i2d (0 : Int32)) (FP.ddiv (FP.dsub (FP.i2d p1) (FP.i2d p0)) (FP.i2d (3 : Int32))))), ss, vd (FP.dsub (FP.i2d p1) (FP.dmul (FP.i2d (0 : Int32)) (FP.ddiv (FP.dsub (FP.i2d p1) (FP.i2d p0)) (FP.i2d (3 : Int32))))), ss] [(.double (own_exp (FP.i2d p0) (FP.i2d p1) (3 : Int32) md (5 : Int32))), (.double (FP.dsub (FP.i2d p1) (FP.dmul (FP.i2d (0 : Int32)) (FP.ddiv (FP.dsub (FP.i2d p1) (FP.i2d p0)) (FP.i2d (3 : Int32))))))]) := fun tQ kk => k3491 tQ (st3502 _ kk)
          clear k3491 st3502
          have k3508 : own_G p e below E0 T3492 (mkF m 353 #[vi p0, vi p1, vi p2, vi p3, vi (3 : Int32), vi (3 : Int32), vi md, vd (FP.i2d p0), ss, vd (FP.i2d p1), ss, vr a873, vi (1 : Int32), vd (FP.dsub (FP.i2d p1) (FP.dmul (FP.i2d (2 : Int32)) (FP.ddiv (FP.dsub (FP.i2d p1) (FP.i2d p0)) (FP.i2d (3 : Int32))))), ss, vi (1 : Int32), vd (FP.dsub (FP.i2d p1) (FP.dmul (FP.i2d (1 : Int32)) (FP.ddiv (FP.dsub (FP.i2d p1) (FP.i2d p0)) (FP.i2d (3 : Int32))))), ss, vd (FP.dsub (FP.i2d p1) (FP.dmul (FP.i2d (0 : Int32)) (FP.ddiv (FP.dsub (FP.i2d p1) (FP.i2d p0)) (FP.i2d (3 : Int32))))), ss, vd (FP.dsub (FP.i2d p1) (FP.dmul (FP.i2d (0 : Int32)) (FP.ddiv (FP.dsub (FP.i2d p1) (FP.i2d p0)) (FP.i2d (3 : Int32))))), ss, vd (FP.dsub (FP.i2d p1) (FP.dmul (FP.i2d (0 : Int32)) (FP.ddiv (FP.dsub (FP.i2d p1) (FP.i2d p0)) (FP.i2d (3 : Int32))))), ss] [(.ref a873)]) := by
            intro tQ kk
            refine k3507 tQ ?_
            refine XS.dcmpS (v := (0 : Int32)) X3496.here hx rfl (hb hby at_302) rfl (own_eZ p0 p1 cm1 cm2 cE (show own_mx 0 ((3 : Int32) - (5 : Int32)) = 0 by decide) (by decide)) ?_
            refine XS.ifNo X3496.here hx rfl (hb hby at_303) rfl (own_if_neN (by decide)) ?_
            refine XS.iconst X3496.here hx rfl (hb hby at_306) ?_
            refine XS.goto X3496.here hx rfl (pc0 := 307) (pc' := 311) rfl (hb hby at_307) (by decide) (by decide) ?_
            show Steps p.tables e below (T3492.setTop (mkF m 311 #[vi p0, vi p1, vi p2, vi p3, vi (3 : Int32), vi (3 : Int32), vi md, vd (FP.i2d p0), ss, vd (FP.i2d p1), ss, vr a873, vi (1 : Int32), vd (FP.dsub (FP.i2d p1) (FP.dmul (FP.i2d (2 : Int32)) (FP.ddiv (FP.dsub (FP.i2d p1) (FP.i2d p0)) (FP.i2d (3 : Int32))))), ss, vi (1 : Int32), vd (FP.dsub (FP.i2d p1) (FP.dmul (FP.i2d (1 : Int32)) (FP.ddiv (FP.dsub (FP.i2d p1) (FP.i2d p0)) (FP.i2d (3 : Int32))))), ss, vd (FP.dsub (FP.i2d p1) (FP.dmul (FP.i2d (0 : Int32)) (FP.ddiv (FP.dsub (FP.i2d p1) (FP.i2d p0)) (FP.i2d (3 : Int32))))), ss, vd (FP.dsub (FP.i2d p1) (FP.dmul (FP.i2d (0 : Int32)) (FP.ddiv (FP.dsub (FP.i2d p1) (FP.i2d p0)) (FP.i2d (3 : Int32))))), ss, vd (FP.dsub (FP.i2d p1) (FP.dmul (FP.i2d (0 : Int32)) (FP.ddiv (FP.dsub (FP.i2d p1) (FP.i2d p0)) (FP.i2d (3 : Int32))))), ss] [(.int (1 : Int32))])) tQ
            refine XS.istore X3496.here hx rfl (hb hby at_311) rfl (l' := #[vi p0, vi p1, vi p2, vi p3, vi (3 : Int32), vi (3 : Int32), vi md, vd (FP.i2d p0), ss, vd (FP.i2d p1), ss, vr a873, vi (1 : Int32), vd (FP.dsub (FP.i2d p1) (FP.dmul (FP.i2d (2 : Int32)) (FP.ddiv (FP.dsub (FP.i2d p1) (FP.i2d p0)) (FP.i2d (3 : Int32))))), ss, vi (1 : Int32), vd (FP.dsub (FP.i2d p1) (FP.dmul (FP.i2d (1 : Int32)) (FP.ddiv (FP.dsub (FP.i2d p1) (FP.i2d p0)) (FP.i2d (3 : Int32))))), ss, vd (FP.dsub (FP.i2d p1) (FP.dmul (FP.i2d (0 : Int32)) (FP.ddiv (FP.dsub (FP.i2d p1) (FP.i2d p0)) (FP.i2d (3 : Int32))))), ss, vd (FP.dsub (FP.i2d p1) (FP.dmul (FP.i2d (0 : Int32)) (FP.ddiv (FP.dsub (FP.i2d p1) (FP.i2d p0)) (FP.i2d (3 : Int32))))), ss, vd (FP.dsub (FP.i2d p1) (FP.dmul (FP.i2d (0 : Int32)) (FP.ddiv (FP.dsub (FP.i2d p1) (FP.i2d p0)) (FP.i2d (3 : Int32))))), ss]) rfl ?_
            refine XS.iload X3496.here hx rfl (hb hby at_313) rfl ?_
            refine XS.ifNo X3496.here hx rfl (hb hby at_315) rfl (own_if_eqN (by decide)) ?_
            refine XS.dload X3496.here hx rfl (hb hby at_318) rfl ?_
            show Steps p.tables e below (T3492.setTop (mkF m 320 #[vi p0, vi p1, vi p2, vi p3, vi (3 : Int32), vi (3 : Int32), vi md, vd (FP.i2d p0), ss, vd (FP.i2d p1), ss, vr a873, vi (1 : Int32), vd (FP.dsub (FP.i2d p1) (FP.dmul (FP.i2d (2 : Int32)) (FP.ddiv (FP.dsub (FP.i2d p1) (FP.i2d p0)) (FP.i2d (3 : Int32))))), ss, vi (1 : Int32), vd (FP.dsub (FP.i2d p1) (FP.dmul (FP.i2d (1 : Int32)) (FP.ddiv (FP.dsub (FP.i2d p1) (FP.i2d p0)) (FP.i2d (3 : Int32))))), ss, vd (FP.dsub (FP.i2d p1) (FP.dmul (FP.i2d (0 : Int32)) (FP.ddiv (FP.dsub (FP.i2d p1) (FP.i2d p0)) (FP.i2d (3 : Int32))))), ss, vd (FP.dsub (FP.i2d p1) (FP.dmul (FP.i2d (0 : Int32)) (FP.ddiv (FP.dsub (FP.i2d p1) (FP.i2d p0)) (FP.i2d (3 : Int32))))), ss, vd (FP.dsub (FP.i2d p1) (FP.dmul (FP.i2d (0 : Int32)) (FP.ddiv (FP.dsub (FP.i2d p1) (FP.i2d p0)) (FP.i2d (3 : Int32))))), ss] [(.double (FP.dsub (FP.i2d p1) (FP.dmul (FP.i2d (0 : Int32)) (FP.ddiv (FP.dsub (FP.i2d p1) (FP.i2d p0)) (FP.i2d (3 : Int32))))))])) tQ
            refine XS.dload X3496.here hx rfl (hb hby at_320) rfl ?_
            refine XS.dcmpS (v := (0 : Int32)) X3496.here hx rfl (hb hby at_322) rfl (own_tz p0 p1 (F := (3 : Int32)) (by decide)) ?_
            refine XS.ifYes X3496.here hx rfl (pc0 := 323) (pc' := 339) rfl (hb hby at_323) rfl (own_if_eqY (by decide)) (by decide) (by decide) ?_
            refine XS.iconst X3496.here hx rfl (hb hby at_339) ?_
            show Steps p.tables e below (T3492.setTop (mkF m 340 #[vi p0, vi p1, vi p2, vi p3, vi (3 : Int32), vi (3 : Int32), vi md, vd (FP.i2d p0), ss, vd (FP.i2d p1), ss, vr a873, vi (1 : Int32), vd (FP.dsub (FP.i2d p1) (FP.dmul (FP.i2d (2 : Int32)) (FP.ddiv (FP.dsub (FP.i2d p1) (FP.i2d p0)) (FP.i2d (3 : Int32))))), ss, vi (1 : Int32), vd (FP.dsub (FP.i2d p1) (FP.dmul (FP.i2d (1 : Int32)) (FP.ddiv (FP.dsub (FP.i2d p1) (FP.i2d p0)) (FP.i2d (3 : Int32))))), ss, vd (FP.dsub (FP.i2d p1) (FP.dmul (FP.i2d (0 : Int32)) (FP.ddiv (FP.dsub (FP.i2d p1) (FP.i2d p0)) (FP.i2d (3 : Int32))))), ss, vd (FP.dsub (FP.i2d p1) (FP.dmul (FP.i2d (0 : Int32)) (FP.ddiv (FP.dsub (FP.i2d p1) (FP.i2d p0)) (FP.i2d (3 : Int32))))), ss, vd (FP.dsub (FP.i2d p1) (FP.dmul (FP.i2d (0 : Int32)) (FP.ddiv (FP.dsub (FP.i2d p1) (FP.i2d p0)) (FP.i2d (3 : Int32))))), ss] [(.int (1 : Int32))])) tQ
            refine XS.goto X3496.here hx rfl (pc0 := 340) (pc' := 344) rfl (hb hby at_340) (by decide) (by decide) ?_
            refine XS.istore X3496.here hx rfl (hb hby at_344) rfl (l' := #[vi p0, vi p1, vi p2, vi p3, vi (3 : Int32), vi (3 : Int32), vi md, vd (FP.i2d p0), ss, vd (FP.i2d p1), ss, vr a873, vi (1 : Int32), vd (FP.dsub (FP.i2d p1) (FP.dmul (FP.i2d (2 : Int32)) (FP.ddiv (FP.dsub (FP.i2d p1) (FP.i2d p0)) (FP.i2d (3 : Int32))))), ss, vi (1 : Int32), vd (FP.dsub (FP.i2d p1) (FP.dmul (FP.i2d (1 : Int32)) (FP.ddiv (FP.dsub (FP.i2d p1) (FP.i2d p0)) (FP.i2d (3 : Int32))))), ss, vd (FP.dsub (FP.i2d p1) (FP.dmul (FP.i2d (0 : Int32)) (FP.ddiv (FP.dsub (FP.i2d p1) (FP.i2d p0)) (FP.i2d (3 : Int32))))), ss, vd (FP.dsub (FP.i2d p1) (FP.dmul (FP.i2d (0 : Int32)) (FP.ddiv (FP.dsub (FP.i2d p1) (FP.i2d p0)) (FP.i2d (3 : Int32))))), ss, vd (FP.dsub (FP.i2d p1) (FP.dmul (FP.i2d (0 : Int32)) (FP.ddiv (FP.dsub (FP.i2d p1) (FP.i2d p0)) (FP.i2d (3 : Int32))))), ss]) rfl ?_
            refine XS.iload X3496.here hx rfl (hb hby at_346) rfl ?_
            refine XS.ifNo X3496.here hx rfl (hb hby at_348) rfl (own_if_eqN (by decide)) ?_
            show Steps p.tables e below (T3492.setTop (mkF m 351 #[vi p0, vi p1, vi p2, vi p3, vi (3 : Int32), vi (3 : Int32), vi md, vd (FP.i2d p0), ss, vd (FP.i2d p1), ss, vr a873, vi (1 : Int32), vd (FP.dsub (FP.i2d p1) (FP.dmul (FP.i2d (2 : Int32)) (FP.ddiv (FP.dsub (FP.i2d p1) (FP.i2d p0)) (FP.i2d (3 : Int32))))), ss, vi (1 : Int32), vd (FP.dsub (FP.i2d p1) (FP.dmul (FP.i2d (1 : Int32)) (FP.ddiv (FP.dsub (FP.i2d p1) (FP.i2d p0)) (FP.i2d (3 : Int32))))), ss, vd (FP.dsub (FP.i2d p1) (FP.dmul (FP.i2d (0 : Int32)) (FP.ddiv (FP.dsub (FP.i2d p1) (FP.i2d p0)) (FP.i2d (3 : Int32))))), ss, vd (FP.dsub (FP.i2d p1) (FP.dmul (FP.i2d (0 : Int32)) (FP.ddiv (FP.dsub (FP.i2d p1) (FP.i2d p0)) (FP.i2d (3 : Int32))))), ss, vd (FP.dsub (FP.i2d p1) (FP.dmul (FP.i2d (0 : Int32)) (FP.ddiv (FP.dsub (FP.i2d p1) (FP.i2d p0)) (FP.i2d (3 : Int32))))), ss] [])) tQ
            refine XS.aload X3496.here hx rfl (hb hby at_351) rfl rfl ?_
            exact kk
          clear k3507
          obtain ⟨cq3520, kq3521, qa3522, qb3523, qc3524⟩ := isOf hZ e3504 F3479
          obtain ⟨_, _, ⟨T3509, L3510, kc3511, nc3512⟩, -, X3513, ⟨Lc3514, hQ3515, l3516, y3517, z3518⟩, st3519⟩ := X3496.virtualBack hx (y := mn15) (z := mn15) hown (mvT hZ (tw57 hw)) (mvT hZ (tw58 hw)) (notFace_of_selects (args := #[]) (mvT hZ (tw60 hw))) (mvT hZ (tw60 hw)) (mvT hZ (tw59 hw)) (by decide) (backOf (W := 0) (rmVl l Z a0 hw [] a873 (FP.dsub (FP.i2d p1) (FP.dmul (FP.i2d (0 : Int32)) (FP.ddiv (FP.dsub (FP.i2d p1) (FP.i2d p0)) (FP.i2d (3 : Int32))))) T3452.heap n0 Z3478 F3487) hZ (tw61 hw) (tw7 hw) (by decide) (by decide)) qa3522 qc3524 (g := (mkF m 353 #[vi p0, vi p1, vi p2, vi p3, vi (3 : Int32), vi (3 : Int32), vi md, vd (FP.i2d p0), ss, vd (FP.i2d p1), ss, vr a873, vi (1 : Int32), vd (FP.dsub (FP.i2d p1) (FP.dmul (FP.i2d (2 : Int32)) (FP.ddiv (FP.dsub (FP.i2d p1) (FP.i2d p0)) (FP.i2d (3 : Int32))))), ss, vi (1 : Int32), vd (FP.dsub (FP.i2d p1) (FP.dmul (FP.i2d (1 : Int32)) (FP.ddiv (FP.dsub (FP.i2d p1) (FP.i2d p0)) (FP.i2d (3 : Int32))))), ss, vd (FP.dsub (FP.i2d p1) (FP.dmul (FP.i2d (0 : Int32)) (FP.ddiv (FP.dsub (FP.i2d p1) (FP.i2d p0)) (FP.i2d (3 : Int32))))), ss, vd (FP.dsub (FP.i2d p1) (FP.dmul (FP.i2d (0 : Int32)) (FP.ddiv (FP.dsub (FP.i2d p1) (FP.i2d p0)) (FP.i2d (3 : Int32))))), ss, vd (FP.dsub (FP.i2d p1) (FP.dmul (FP.i2d (0 : Int32)) (FP.ddiv (FP.dsub (FP.i2d p1) (FP.i2d p0)) (FP.i2d (3 : Int32))))), ss] [(.ref a873)])) rfl (by rw [hml]; rfl) (Steps.refl _) (argsL := []) (rest := []) (lenOf pd_20 rfl) rfl (by show 2 * 0 + _ ≤ _; exact Nat.le_of_eq rfl) (hb hby at_353) (fun _ _ => ⟨rfl, e3504, (by decide : 1 + 0 ≤ _), (by decide : 5 + 0 ≤ _)⟩)
          dsimp only [Pt.U, Pt.locs, Pt.cells, Pt.slots] at X3513 l3516 y3517 z3518 st3519 hQ3515
          subst l3516 y3517 z3518
          obtain ⟨rfl, N3525, e3526⟩ := hQ3515
          have N3528 := Fr.app N3506 N3525
          have k3529 : own_G p e below E0 T3509 (mkF m 356 #[vi p0, vi p1, vi p2, vi p3, vi (3 : Int32), vi (3 : Int32), vi md, vd (FP.i2d p0), ss, vd (FP.i2d p1), ss, vr a873, vi (1 : Int32), vd (FP.dsub (FP.i2d p1) (FP.dmul (FP.i2d (2 : Int32)) (FP.ddiv (FP.dsub (FP.i2d p1) (FP.i2d p0)) (FP.i2d (3 : Int32))))), ss, vi (1 : Int32), vd (FP.dsub (FP.i2d p1) (FP.dmul (FP.i2d (1 : Int32)) (FP.ddiv (FP.dsub (FP.i2d p1) (FP.i2d p0)) (FP.i2d (3 : Int32))))), ss, vd (FP.dsub (FP.i2d p1) (FP.dmul (FP.i2d (0 : Int32)) (FP.ddiv (FP.dsub (FP.i2d p1) (FP.i2d p0)) (FP.i2d (3 : Int32))))), ss, vd (FP.dsub (FP.i2d p1) (FP.dmul (FP.i2d (0 : Int32)) (FP.ddiv (FP.dsub (FP.i2d p1) (FP.i2d p0)) (FP.i2d (3 : Int32))))), ss, vd (FP.dsub (FP.i2d p1) (FP.dmul (FP.i2d (0 : Int32)) (FP.ddiv (FP.dsub (FP.i2d p1) (FP.i2d p0)) (FP.i2d (3 : Int32))))), ss] [(.double (FP.dsub (FP.i2d p1) (FP.dmul (FP.i2d (0 : Int32)) (FP.ddiv (FP.dsub (FP.i2d p1) (FP.i2d p0)) (FP.i2d (3 : Int32))))))]) := fun tQ kk => k3508 tQ (st3519.trans kk)
          clear k3508 st3519
          have k3530 : own_G p e below E0 T3509 (mkF m 376 #[vi p0, vi p1, vi p2, vi p3, vi (3 : Int32), vi (3 : Int32), vi md, vd (FP.i2d p0), ss, vd (FP.i2d p1), ss, vr a873, vi (1 : Int32), vd (FP.dsub (FP.i2d p1) (FP.dmul (FP.i2d (2 : Int32)) (FP.ddiv (FP.dsub (FP.i2d p1) (FP.i2d p0)) (FP.i2d (3 : Int32))))), ss, vi (1 : Int32), vd (FP.dsub (FP.i2d p1) (FP.dmul (FP.i2d (1 : Int32)) (FP.ddiv (FP.dsub (FP.i2d p1) (FP.i2d p0)) (FP.i2d (3 : Int32))))), ss, vd (FP.dsub (FP.i2d p1) (FP.dmul (FP.i2d (0 : Int32)) (FP.ddiv (FP.dsub (FP.i2d p1) (FP.i2d p0)) (FP.i2d (3 : Int32))))), ss, vd (FP.dsub (FP.i2d p1) (FP.dmul (FP.i2d (0 : Int32)) (FP.ddiv (FP.dsub (FP.i2d p1) (FP.i2d p0)) (FP.i2d (3 : Int32))))), ss, vd (FP.dsub (FP.i2d p1) (FP.dmul (FP.i2d (0 : Int32)) (FP.ddiv (FP.dsub (FP.i2d p1) (FP.i2d p0)) (FP.i2d (3 : Int32))))), ss] [(.ref a873)]) := by
            intro tQ kk
            refine k3529 tQ ?_
            refine XS.dload X3513.here hx rfl (hb hby at_356) rfl ?_
            refine XS.dcmpS (v := (0 : Int32)) X3513.here hx rfl (hb hby at_358) rfl (dcmpV_self (own_q3 p0 p1 (by decide) (by decide)).2 .l) ?_
            refine XS.ifNo X3513.here hx rfl (hb hby at_359) rfl (own_if_neN (by decide)) ?_
            refine XS.iconst X3513.here hx rfl (hb hby at_362) ?_
            show Steps p.tables e below (T3509.setTop (mkF m 363 #[vi p0, vi p1, vi p2, vi p3, vi (3 : Int32), vi (3 : Int32), vi md, vd (FP.i2d p0), ss, vd (FP.i2d p1), ss, vr a873, vi (1 : Int32), vd (FP.dsub (FP.i2d p1) (FP.dmul (FP.i2d (2 : Int32)) (FP.ddiv (FP.dsub (FP.i2d p1) (FP.i2d p0)) (FP.i2d (3 : Int32))))), ss, vi (1 : Int32), vd (FP.dsub (FP.i2d p1) (FP.dmul (FP.i2d (1 : Int32)) (FP.ddiv (FP.dsub (FP.i2d p1) (FP.i2d p0)) (FP.i2d (3 : Int32))))), ss, vd (FP.dsub (FP.i2d p1) (FP.dmul (FP.i2d (0 : Int32)) (FP.ddiv (FP.dsub (FP.i2d p1) (FP.i2d p0)) (FP.i2d (3 : Int32))))), ss, vd (FP.dsub (FP.i2d p1) (FP.dmul (FP.i2d (0 : Int32)) (FP.ddiv (FP.dsub (FP.i2d p1) (FP.i2d p0)) (FP.i2d (3 : Int32))))), ss, vd (FP.dsub (FP.i2d p1) (FP.dmul (FP.i2d (0 : Int32)) (FP.ddiv (FP.dsub (FP.i2d p1) (FP.i2d p0)) (FP.i2d (3 : Int32))))), ss] [(.int (1 : Int32))])) tQ
            refine XS.goto X3513.here hx rfl (pc0 := 363) (pc' := 367) rfl (hb hby at_363) (by decide) (by decide) ?_
            refine XS.istore X3513.here hx rfl (hb hby at_367) rfl (l' := #[vi p0, vi p1, vi p2, vi p3, vi (3 : Int32), vi (3 : Int32), vi md, vd (FP.i2d p0), ss, vd (FP.i2d p1), ss, vr a873, vi (1 : Int32), vd (FP.dsub (FP.i2d p1) (FP.dmul (FP.i2d (2 : Int32)) (FP.ddiv (FP.dsub (FP.i2d p1) (FP.i2d p0)) (FP.i2d (3 : Int32))))), ss, vi (1 : Int32), vd (FP.dsub (FP.i2d p1) (FP.dmul (FP.i2d (1 : Int32)) (FP.ddiv (FP.dsub (FP.i2d p1) (FP.i2d p0)) (FP.i2d (3 : Int32))))), ss, vd (FP.dsub (FP.i2d p1) (FP.dmul (FP.i2d (0 : Int32)) (FP.ddiv (FP.dsub (FP.i2d p1) (FP.i2d p0)) (FP.i2d (3 : Int32))))), ss, vd (FP.dsub (FP.i2d p1) (FP.dmul (FP.i2d (0 : Int32)) (FP.ddiv (FP.dsub (FP.i2d p1) (FP.i2d p0)) (FP.i2d (3 : Int32))))), ss, vd (FP.dsub (FP.i2d p1) (FP.dmul (FP.i2d (0 : Int32)) (FP.ddiv (FP.dsub (FP.i2d p1) (FP.i2d p0)) (FP.i2d (3 : Int32))))), ss]) rfl ?_
            refine XS.iload X3513.here hx rfl (hb hby at_369) rfl ?_
            refine XS.ifNo X3513.here hx rfl (hb hby at_371) rfl (own_if_eqN (by decide)) ?_
            show Steps p.tables e below (T3509.setTop (mkF m 374 #[vi p0, vi p1, vi p2, vi p3, vi (3 : Int32), vi (3 : Int32), vi md, vd (FP.i2d p0), ss, vd (FP.i2d p1), ss, vr a873, vi (1 : Int32), vd (FP.dsub (FP.i2d p1) (FP.dmul (FP.i2d (2 : Int32)) (FP.ddiv (FP.dsub (FP.i2d p1) (FP.i2d p0)) (FP.i2d (3 : Int32))))), ss, vi (1 : Int32), vd (FP.dsub (FP.i2d p1) (FP.dmul (FP.i2d (1 : Int32)) (FP.ddiv (FP.dsub (FP.i2d p1) (FP.i2d p0)) (FP.i2d (3 : Int32))))), ss, vd (FP.dsub (FP.i2d p1) (FP.dmul (FP.i2d (0 : Int32)) (FP.ddiv (FP.dsub (FP.i2d p1) (FP.i2d p0)) (FP.i2d (3 : Int32))))), ss, vd (FP.dsub (FP.i2d p1) (FP.dmul (FP.i2d (0 : Int32)) (FP.ddiv (FP.dsub (FP.i2d p1) (FP.i2d p0)) (FP.i2d (3 : Int32))))), ss, vd (FP.dsub (FP.i2d p1) (FP.dmul (FP.i2d (0 : Int32)) (FP.ddiv (FP.dsub (FP.i2d p1) (FP.i2d p0)) (FP.i2d (3 : Int32))))), ss] [])) tQ
            refine XS.aload X3513.here hx rfl (hb hby at_374) rfl rfl ?_
            exact kk
          clear k3529
          obtain ⟨cq3542, kq3543, qa3544, qb3545, qc3546⟩ := isOf hZ e3526 F3479
          obtain ⟨_, _, ⟨T3531, L3532, kc3533, nc3534⟩, -, X3535, ⟨Lc3536, hQ3537, l3538, y3539, z3540⟩, st3541⟩ := X3513.virtualBack hx (y := mn14) (z := mn14) hown (mvT hZ (tw52 hw)) (mvT hZ (tw53 hw)) (notFace_of_selects (args := #[]) (mvT hZ (tw55 hw))) (mvT hZ (tw55 hw)) (mvT hZ (tw54 hw)) (by decide) (backOf (W := 0) (rmMv l Z a0 hw [] a873 (0 : Int32) T3452.heap n0 Z3478 F3489) hZ (tw56 hw) (tw7 hw) (by decide) (by decide)) qa3544 qc3546 (g := (mkF m 376 #[vi p0, vi p1, vi p2, vi p3, vi (3 : Int32), vi (3 : Int32), vi md, vd (FP.i2d p0), ss, vd (FP.i2d p1), ss, vr a873, vi (1 : Int32), vd (FP.dsub (FP.i2d p1) (FP.dmul (FP.i2d (2 : Int32)) (FP.ddiv (FP.dsub (FP.i2d p1) (FP.i2d p0)) (FP.i2d (3 : Int32))))), ss, vi (1 : Int32), vd (FP.dsub (FP.i2d p1) (FP.dmul (FP.i2d (1 : Int32)) (FP.ddiv (FP.dsub (FP.i2d p1) (FP.i2d p0)) (FP.i2d (3 : Int32))))), ss, vd (FP.dsub (FP.i2d p1) (FP.dmul (FP.i2d (0 : Int32)) (FP.ddiv (FP.dsub (FP.i2d p1) (FP.i2d p0)) (FP.i2d (3 : Int32))))), ss, vd (FP.dsub (FP.i2d p1) (FP.dmul (FP.i2d (0 : Int32)) (FP.ddiv (FP.dsub (FP.i2d p1) (FP.i2d p0)) (FP.i2d (3 : Int32))))), ss, vd (FP.dsub (FP.i2d p1) (FP.dmul (FP.i2d (0 : Int32)) (FP.ddiv (FP.dsub (FP.i2d p1) (FP.i2d p0)) (FP.i2d (3 : Int32))))), ss] [(.ref a873)])) rfl (by rw [hml]; rfl) (Steps.refl _) (argsL := []) (rest := []) (lenOf pd_22 rfl) rfl (by show 2 * 0 + _ ≤ _; exact Nat.le_of_eq rfl) (hb hby at_376) (fun _ _ => ⟨rfl, e3526, (by decide : 1 + 0 ≤ _), (by decide : 5 + 0 ≤ _)⟩)
          dsimp only [Pt.U, Pt.locs, Pt.cells, Pt.slots] at X3535 l3538 y3539 z3540 st3541 hQ3537
          subst l3538 y3539 z3540
          obtain ⟨rfl, N3547, e3548⟩ := hQ3537
          have N3550 := Fr.app N3528 N3547
          have k3551 : own_G p e below E0 T3531 (mkF m 379 #[vi p0, vi p1, vi p2, vi p3, vi (3 : Int32), vi (3 : Int32), vi md, vd (FP.i2d p0), ss, vd (FP.i2d p1), ss, vr a873, vi (1 : Int32), vd (FP.dsub (FP.i2d p1) (FP.dmul (FP.i2d (2 : Int32)) (FP.ddiv (FP.dsub (FP.i2d p1) (FP.i2d p0)) (FP.i2d (3 : Int32))))), ss, vi (1 : Int32), vd (FP.dsub (FP.i2d p1) (FP.dmul (FP.i2d (1 : Int32)) (FP.ddiv (FP.dsub (FP.i2d p1) (FP.i2d p0)) (FP.i2d (3 : Int32))))), ss, vd (FP.dsub (FP.i2d p1) (FP.dmul (FP.i2d (0 : Int32)) (FP.ddiv (FP.dsub (FP.i2d p1) (FP.i2d p0)) (FP.i2d (3 : Int32))))), ss, vd (FP.dsub (FP.i2d p1) (FP.dmul (FP.i2d (0 : Int32)) (FP.ddiv (FP.dsub (FP.i2d p1) (FP.i2d p0)) (FP.i2d (3 : Int32))))), ss, vd (FP.dsub (FP.i2d p1) (FP.dmul (FP.i2d (0 : Int32)) (FP.ddiv (FP.dsub (FP.i2d p1) (FP.i2d p0)) (FP.i2d (3 : Int32))))), ss] [(.int (own_mv (0 : Int32)))]) := fun tQ kk => k3530 tQ (st3541.trans kk)
          clear k3530 st3541
          have eq3552 : (own_mv (0 : Int32)) = (0 : Int32) := by decide
          rw [eq3552] at k3551
          have k3553 : own_G p e below E0 T3531 (mkF m 391 #[vi p0, vi p1, vi p2, vi p3, vi (3 : Int32), vi (3 : Int32), vi md, vd (FP.i2d p0), ss, vd (FP.i2d p1), ss, vr a873, vi (1 : Int32), vd (FP.dsub (FP.i2d p1) (FP.dmul (FP.i2d (2 : Int32)) (FP.ddiv (FP.dsub (FP.i2d p1) (FP.i2d p0)) (FP.i2d (3 : Int32))))), ss, vi (1 : Int32), vd (FP.dsub (FP.i2d p1) (FP.dmul (FP.i2d (1 : Int32)) (FP.ddiv (FP.dsub (FP.i2d p1) (FP.i2d p0)) (FP.i2d (3 : Int32))))), ss, vd (FP.dsub (FP.i2d p1) (FP.dmul (FP.i2d (0 : Int32)) (FP.ddiv (FP.dsub (FP.i2d p1) (FP.i2d p0)) (FP.i2d (3 : Int32))))), ss, vd (FP.dsub (FP.i2d p1) (FP.dmul (FP.i2d (0 : Int32)) (FP.ddiv (FP.dsub (FP.i2d p1) (FP.i2d p0)) (FP.i2d (3 : Int32))))), ss, vd (FP.dsub (FP.i2d p1) (FP.dmul (FP.i2d (0 : Int32)) (FP.ddiv (FP.dsub (FP.i2d p1) (FP.i2d p0)) (FP.i2d (3 : Int32))))), ss] [(.int (1 : Int32))]) := by
            intro tQ kk
            refine k3551 tQ ?_
            refine XS.ifNo X3535.here hx rfl (hb hby at_379) rfl (own_if_neN (by decide)) ?_
            refine XS.iconst X3535.here hx rfl (hb hby at_382) ?_
            refine XS.goto X3535.here hx rfl (pc0 := 383) (pc' := 387) rfl (hb hby at_383) (by decide) (by decide) ?_
            refine XS.istore X3535.here hx rfl (hb hby at_387) rfl (l' := #[vi p0, vi p1, vi p2, vi p3, vi (3 : Int32), vi (3 : Int32), vi md, vd (FP.i2d p0), ss, vd (FP.i2d p1), ss, vr a873, vi (1 : Int32), vd (FP.dsub (FP.i2d p1) (FP.dmul (FP.i2d (2 : Int32)) (FP.ddiv (FP.dsub (FP.i2d p1) (FP.i2d p0)) (FP.i2d (3 : Int32))))), ss, vi (1 : Int32), vd (FP.dsub (FP.i2d p1) (FP.dmul (FP.i2d (1 : Int32)) (FP.ddiv (FP.dsub (FP.i2d p1) (FP.i2d p0)) (FP.i2d (3 : Int32))))), ss, vd (FP.dsub (FP.i2d p1) (FP.dmul (FP.i2d (0 : Int32)) (FP.ddiv (FP.dsub (FP.i2d p1) (FP.i2d p0)) (FP.i2d (3 : Int32))))), ss, vd (FP.dsub (FP.i2d p1) (FP.dmul (FP.i2d (0 : Int32)) (FP.ddiv (FP.dsub (FP.i2d p1) (FP.i2d p0)) (FP.i2d (3 : Int32))))), ss, vd (FP.dsub (FP.i2d p1) (FP.dmul (FP.i2d (0 : Int32)) (FP.ddiv (FP.dsub (FP.i2d p1) (FP.i2d p0)) (FP.i2d (3 : Int32))))), ss]) rfl ?_
            show Steps p.tables e below (T3531.setTop (mkF m 389 #[vi p0, vi p1, vi p2, vi p3, vi (3 : Int32), vi (3 : Int32), vi md, vd (FP.i2d p0), ss, vd (FP.i2d p1), ss, vr a873, vi (1 : Int32), vd (FP.dsub (FP.i2d p1) (FP.dmul (FP.i2d (2 : Int32)) (FP.ddiv (FP.dsub (FP.i2d p1) (FP.i2d p0)) (FP.i2d (3 : Int32))))), ss, vi (1 : Int32), vd (FP.dsub (FP.i2d p1) (FP.dmul (FP.i2d (1 : Int32)) (FP.ddiv (FP.dsub (FP.i2d p1) (FP.i2d p0)) (FP.i2d (3 : Int32))))), ss, vd (FP.dsub (FP.i2d p1) (FP.dmul (FP.i2d (0 : Int32)) (FP.ddiv (FP.dsub (FP.i2d p1) (FP.i2d p0)) (FP.i2d (3 : Int32))))), ss, vd (FP.dsub (FP.i2d p1) (FP.dmul (FP.i2d (0 : Int32)) (FP.ddiv (FP.dsub (FP.i2d p1) (FP.i2d p0)) (FP.i2d (3 : Int32))))), ss, vd (FP.dsub (FP.i2d p1) (FP.dmul (FP.i2d (0 : Int32)) (FP.ddiv (FP.dsub (FP.i2d p1) (FP.i2d p0)) (FP.i2d (3 : Int32))))), ss] [])) tQ
            refine XS.iload X3535.here hx rfl (hb hby at_389) rfl ?_
            exact kk
          clear k3551
          obtain ⟨fs, hr, hrun, hended, hW, hsame⟩ := X3535.leave (v := some (.int (1 : Int32))) (fun h => by rw [Bd.returns] at h; cases h)
          have hrun0 := k3553 _ (retOut X3535 hx Bd.returns (t := .boolean) rfl (Or.inl ⟨rfl, Or.inr (Or.inl rfl), _, rfl⟩) (hb hby at_391) hr)
          subst hE0
          refine ⟨_, _, hrun0, hrun, hended, _, _, rfl, ?_, ⟨_, rfl⟩, hW, hsame.mono (by decide) (by decide)⟩
          show Qrm0 Z p0 p1 p2 p3 h0 n0 _ T3531.heap _
          rw [e3548]
          exact ⟨rfl, N3550⟩
        · skip
          have eq3554 : (own_F (4 : Int32)) = (4 : Int32) := by decide
          rw [eq3554] at k2109
          have eq3555 : (own_F (4 : Int32)) = (4 : Int32) := by decide
          have F3556 : fd7 Z T1709.heap a873 (.int (4 : Int32)) := by rw [← eq3555]; exact F2108
          have eq3557 : (own_F (4 : Int32)) = (4 : Int32) := by decide
          have F3558 : fd3 Z T1709.heap a873 (.int (4 : Int32)) := by rw [← eq3557]; exact g1729
          have eq3559 : (FP.ddiv (FP.dsub (FP.i2d p1) (FP.i2d p0)) (FP.i2d (own_F (4 : Int32)))) = (FP.ddiv (FP.dsub (FP.i2d p1) (FP.i2d p0)) (FP.i2d (4 : Int32))) := by rw [show own_F (4 : Int32) = (4 : Int32) by decide]
          have F3560 : fd6 Z T1709.heap a873 (.double (FP.ddiv (FP.dsub (FP.i2d p1) (FP.i2d p0)) (FP.i2d (4 : Int32)))) := by rw [← eq3559]; exact F2106
          have k3561 : own_G p e below E0 T1709 (mkF m 81 #[vi p0, vi p1, vi p2, vi p3, vi (4 : Int32), vi (4 : Int32), vi md, vd (FP.i2d p0), ss, vd (FP.i2d p1), ss, vr a873, vi (1 : Int32), uu, uu, uu, uu, uu, uu, uu, uu, uu, uu, uu] [(.ref a873)]) := by
            intro tQ kk
            refine k2109 tQ ?_
            refine XS.istore X1713.here hx rfl (hb hby at_77) rfl (l' := #[vi p0, vi p1, vi p2, vi p3, vi (4 : Int32), vi (4 : Int32), vi md, vd (FP.i2d p0), ss, vd (FP.i2d p1), ss, vr a873, vi (1 : Int32), uu, uu, uu, uu, uu, uu, uu, uu, uu, uu, uu]) rfl ?_
            refine XS.aload X1713.here hx rfl (hb hby at_79) rfl rfl ?_
            exact kk
          clear k2109
          obtain ⟨cq3573, kq3574, qa3575, qb3576, qc3577⟩ := isOf hZ rfl F1736
          obtain ⟨_, _, ⟨T3562, L3563, kc3564, nc3565⟩, -, X3566, ⟨Lc3567, hQ3568, l3569, y3570, z3571⟩, st3572⟩ := X1713.virtualBack hx (y := mn13) (z := mn13) hown (mvT hZ (tw43 hw)) (mvT hZ (tw44 hw)) (notFace_of_selects (args := #[]) (mvT hZ (tw46 hw))) (mvT hZ (tw46 hw)) (mvT hZ (tw45 hw)) (by decide) (backOf (W := 0) (rmN l Z a0 hw [] a873 (4 : Int32) (FP.i2d p0) (FP.i2d p1) (FP.ddiv (FP.dsub (FP.i2d p1) (FP.i2d p0)) (FP.i2d (4 : Int32))) (4 : Int32) T1709.heap n0 Z1735 F1736 F3558 g1730 F2104 F3560 F3556 ge875 (fun _ => own_q3 p0 p1 (F := (4 : Int32)) (r := ((4 : Int32) - 1)) (by decide) (by decide))) hZ (tw47 hw) (tw7 hw) (by decide) (by decide)) qa3575 qc3577 (g := (mkF m 81 #[vi p0, vi p1, vi p2, vi p3, vi (4 : Int32), vi (4 : Int32), vi md, vd (FP.i2d p0), ss, vd (FP.i2d p1), ss, vr a873, vi (1 : Int32), uu, uu, uu, uu, uu, uu, uu, uu, uu, uu, uu] [(.ref a873)])) rfl (by rw [hml]; rfl) (Steps.refl _) (argsL := []) (rest := []) (lenOf pd_20 rfl) rfl (by show 2 * 0 + _ ≤ _; exact Nat.le_of_eq rfl) (hb hby at_81) (fun _ _ => ⟨rfl, rfl, (by decide : 1 + 0 ≤ _), (by decide : 5 + 0 ≤ _)⟩)
          dsimp only [Pt.U, Pt.locs, Pt.cells, Pt.slots] at X3566 l3569 y3570 z3571 st3572 hQ3568
          subst l3569 y3570 z3571
          obtain ⟨rfl, N3578, K3581, g3582, g3583, g3584, g3585, g3586⟩ := hQ3568
          have N3587 := Fr.app N1734 N3578
          have Z3588 : n0 ≤ T3562.heap.size := Nat.le_trans Z1735 K3581.1
          have F3589 : xa8 Z T3562.heap a873 := F1736.keep K3581
          clear F1736
          clear F3558
          clear g1730
          clear F2104
          clear F3560
          clear F3556
          have k3595 : own_G p e below E0 T3562 (mkF m 84 #[vi p0, vi p1, vi p2, vi p3, vi (4 : Int32), vi (4 : Int32), vi md, vd (FP.i2d p0), ss, vd (FP.i2d p1), ss, vr a873, vi (1 : Int32), uu, uu, uu, uu, uu, uu, uu, uu, uu, uu, uu] [(.double (own_nv (FP.i2d p0) (FP.i2d p1) (FP.ddiv (FP.dsub (FP.i2d p1) (FP.i2d p0)) (FP.i2d (4 : Int32))) (4 : Int32)))]) := fun tQ kk => k3561 tQ (st3572.trans kk)
          clear k3561 st3572
          have eq3596 : (own_nv (FP.i2d p0) (FP.i2d p1) (FP.ddiv (FP.dsub (FP.i2d p1) (FP.i2d p0)) (FP.i2d (4 : Int32))) (4 : Int32)) = (FP.dsub (FP.i2d p1) (FP.dmul (FP.i2d (3 : Int32)) (FP.ddiv (FP.dsub (FP.i2d p1) (FP.i2d p0)) (FP.i2d (4 : Int32))))) := by rw [own_nv, if_pos (by decide), show (4 : Int32) - 1 = (3 : Int32) by decide]
          have F3597 : fd4 Z T3562.heap a873 (.double (FP.dsub (FP.i2d p1) (FP.dmul (FP.i2d (3 : Int32)) (FP.ddiv (FP.dsub (FP.i2d p1) (FP.i2d p0)) (FP.i2d (4 : Int32)))))) := by rw [← eq3596]; exact g3583
          have eq3598 : (own_nr (4 : Int32)) = (3 : Int32) := by decide
          have F3599 : fd7 Z T3562.heap a873 (.int (3 : Int32)) := by rw [← eq3598]; exact g3586
          have eq3600 : (own_nv (FP.i2d p0) (FP.i2d p1) (FP.ddiv (FP.dsub (FP.i2d p1) (FP.i2d p0)) (FP.i2d (4 : Int32))) (4 : Int32)) = (FP.dsub (FP.i2d p1) (FP.dmul (FP.i2d (3 : Int32)) (FP.ddiv (FP.dsub (FP.i2d p1) (FP.i2d p0)) (FP.i2d (4 : Int32))))) := by rw [own_nv, if_pos (by decide), show (4 : Int32) - 1 = (3 : Int32) by decide]
          rw [eq3600] at k3595
          have k3601 : own_G p e below E0 T3562 (mkF m 102 #[vi p0, vi p1, vi p2, vi p3, vi (4 : Int32), vi (4 : Int32), vi md, vd (FP.i2d p0), ss, vd (FP.i2d p1), ss, vr a873, vi (1 : Int32), vd (FP.dsub (FP.i2d p1) (FP.dmul (FP.i2d (3 : Int32)) (FP.ddiv (FP.dsub (FP.i2d p1) (FP.i2d p0)) (FP.i2d (4 : Int32))))), ss, uu, uu, uu, uu, uu, uu, uu, uu, uu] [(.int (1 : Int32)), (.int md), (.int (4 : Int32)), (.double (FP.i2d p1)), (.double (FP.i2d p0)), (.double (FP.dsub (FP.i2d p1) (FP.dmul (FP.i2d (3 : Int32)) (FP.ddiv (FP.dsub (FP.i2d p1) (FP.i2d p0)) (FP.i2d (4 : Int32))))))]) := by
            intro tQ kk
            refine k3595 tQ ?_
            refine XS.dstore X3566.here hx rfl (hb hby at_84) rfl (l' := #[vi p0, vi p1, vi p2, vi p3, vi (4 : Int32), vi (4 : Int32), vi md, vd (FP.i2d p0), ss, vd (FP.i2d p1), ss, vr a873, vi (1 : Int32), vd (FP.dsub (FP.i2d p1) (FP.dmul (FP.i2d (3 : Int32)) (FP.ddiv (FP.dsub (FP.i2d p1) (FP.i2d p0)) (FP.i2d (4 : Int32))))), ss, uu, uu, uu, uu, uu, uu, uu, uu, uu]) rfl ?_
            refine XS.iload X3566.here hx rfl (hb hby at_86) rfl ?_
            refine XS.ifNo X3566.here hx rfl (hb hby at_88) rfl (own_if_eqN (by decide)) ?_
            refine XS.dload X3566.here hx rfl (hb hby at_91) rfl ?_
            show Steps p.tables e below (T3562.setTop (mkF m 93 #[vi p0, vi p1, vi p2, vi p3, vi (4 : Int32), vi (4 : Int32), vi md, vd (FP.i2d p0), ss, vd (FP.i2d p1), ss, vr a873, vi (1 : Int32), vd (FP.dsub (FP.i2d p1) (FP.dmul (FP.i2d (3 : Int32)) (FP.ddiv (FP.dsub (FP.i2d p1) (FP.i2d p0)) (FP.i2d (4 : Int32))))), ss, uu, uu, uu, uu, uu, uu, uu, uu, uu] [(.double (FP.dsub (FP.i2d p1) (FP.dmul (FP.i2d (3 : Int32)) (FP.ddiv (FP.dsub (FP.i2d p1) (FP.i2d p0)) (FP.i2d (4 : Int32))))))])) tQ
            refine XS.dload X3566.here hx rfl (hb hby at_93) rfl ?_
            refine XS.dload X3566.here hx rfl (hb hby at_95) rfl ?_
            refine XS.iload X3566.here hx rfl (hb hby at_97) rfl ?_
            refine XS.iload X3566.here hx rfl (hb hby at_99) rfl ?_
            show Steps p.tables e below (T3562.setTop (mkF m 101 #[vi p0, vi p1, vi p2, vi p3, vi (4 : Int32), vi (4 : Int32), vi md, vd (FP.i2d p0), ss, vd (FP.i2d p1), ss, vr a873, vi (1 : Int32), vd (FP.dsub (FP.i2d p1) (FP.dmul (FP.i2d (3 : Int32)) (FP.ddiv (FP.dsub (FP.i2d p1) (FP.i2d p0)) (FP.i2d (4 : Int32))))), ss, uu, uu, uu, uu, uu, uu, uu, uu, uu] [(.int md), (.int (4 : Int32)), (.double (FP.i2d p1)), (.double (FP.i2d p0)), (.double (FP.dsub (FP.i2d p1) (FP.dmul (FP.i2d (3 : Int32)) (FP.ddiv (FP.dsub (FP.i2d p1) (FP.i2d p0)) (FP.i2d (4 : Int32))))))])) tQ
            refine XS.iconst X3566.here hx rfl (hb hby at_101) ?_
            exact kk
          clear k3595
          obtain ⟨_, _, ⟨T3602, L3603, kc3604, nc3605⟩, -, X3606, ⟨Lc3607, hQ3608, l3609, y3610, z3611⟩, st3612⟩ := Jvm.LawKit.callS X3566 hx (y := mn16) hown (mvT hZ (tw48 hw)) (mvT hZ (tw49 hw)) (mvT hZ (tw50 hw)) (mvT hZ (tw51 hw)) (by decide) (backOf (W := 2) (rmE l Z a0 hw [] (FP.i2d p0) (FP.i2d p1) (4 : Int32) md (1 : Int32) T3562.heap n0 Z3588 (Fl.i2d_fin p0).noNaN (Fl.i2d_fin p1).noNaN (own_h1 p0 p1) (own_h2 p0 p1 (F := (4 : Int32)) (by decide)) (own_q3 p0 p1 (F := (4 : Int32)) (r := (own_mx 0 ((4 : Int32) - (1 : Int32)))) (by decide) (own_mxb (by decide) (by decide)))) hZ (tw51 hw) (tw50 hw) (by decide) (by decide)) (g := (mkF m 102 #[vi p0, vi p1, vi p2, vi p3, vi (4 : Int32), vi (4 : Int32), vi md, vd (FP.i2d p0), ss, vd (FP.i2d p1), ss, vr a873, vi (1 : Int32), vd (FP.dsub (FP.i2d p1) (FP.dmul (FP.i2d (3 : Int32)) (FP.ddiv (FP.dsub (FP.i2d p1) (FP.i2d p0)) (FP.i2d (4 : Int32))))), ss, uu, uu, uu, uu, uu, uu, uu, uu, uu] [(.int (1 : Int32)), (.int md), (.int (4 : Int32)), (.double (FP.i2d p1)), (.double (FP.i2d p0)), (.double (FP.dsub (FP.i2d p1) (FP.dmul (FP.i2d (3 : Int32)) (FP.ddiv (FP.dsub (FP.i2d p1) (FP.i2d p0)) (FP.i2d (4 : Int32))))))])) rfl (by rw [hml]; rfl) (argsL := [(.double (FP.i2d p0)), (.double (FP.i2d p1)), (.int (4 : Int32)), (.int md), (.int (1 : Int32))]) (rest := [(.double (FP.dsub (FP.i2d p1) (FP.dmul (FP.i2d (3 : Int32)) (FP.ddiv (FP.dsub (FP.i2d p1) (FP.i2d p0)) (FP.i2d (4 : Int32))))))]) (lenOf pd_21 rfl) rfl (by show 2 * 0 + _ ≤ _; exact Nat.le_of_eq rfl) (hb hby at_102) (fun _ _ => ⟨rfl, rfl, (by decide : 1 + 0 ≤ _), (by decide : 5 + 0 ≤ _)⟩)
          dsimp only [Pt.U, Pt.locs, Pt.cells, Pt.slots] at X3606 l3609 y3610 z3611 st3612 hQ3608
          subst l3609 y3610 z3611
          obtain ⟨rfl, N3613, e3614⟩ := hQ3608
          have N3616 := Fr.app N3587 N3613
          have k3617 : own_G p e below E0 T3602 (mkF m 105 #[vi p0, vi p1, vi p2, vi p3, vi (4 : Int32), vi (4 : Int32), vi md, vd (FP.i2d p0), ss, vd (FP.i2d p1), ss, vr a873, vi (1 : Int32), vd (FP.dsub (FP.i2d p1) (FP.dmul (FP.i2d (3 : Int32)) (FP.ddiv (FP.dsub (FP.i2d p1) (FP.i2d p0)) (FP.i2d (4 : Int32))))), ss, uu, uu, uu, uu, uu, uu, uu, uu, uu] [(.double (own_exp (FP.i2d p0) (FP.i2d p1) (4 : Int32) md (1 : Int32))), (.double (FP.dsub (FP.i2d p1) (FP.dmul (FP.i2d (3 : Int32)) (FP.ddiv (FP.dsub (FP.i2d p1) (FP.i2d p0)) (FP.i2d (4 : Int32))))))]) := fun tQ kk => k3601 tQ (st3612 _ kk)
          clear k3601 st3612
          have k3618 : own_G p e below E0 T3602 (mkF m 118 #[vi p0, vi p1, vi p2, vi p3, vi (4 : Int32), vi (4 : Int32), vi md, vd (FP.i2d p0), ss, vd (FP.i2d p1), ss, vr a873, vi (1 : Int32), vd (FP.dsub (FP.i2d p1) (FP.dmul (FP.i2d (3 : Int32)) (FP.ddiv (FP.dsub (FP.i2d p1) (FP.i2d p0)) (FP.i2d (4 : Int32))))), ss, uu, uu, uu, uu, uu, uu, uu, uu, uu] [(.ref a873)]) := by
            intro tQ kk
            refine k3617 tQ ?_
            refine XS.dcmpS (v := (0 : Int32)) X3606.here hx rfl (hb hby at_105) rfl (own_eN cm1 cm2 cE (show own_mx 0 ((4 : Int32) - (1 : Int32)) = (3 : Int32) by decide) (by decide) (own_q3 p0 p1 (by decide) (by decide)).2) ?_
            refine XS.ifNo X3606.here hx rfl (hb hby at_106) rfl (own_if_neN (by decide)) ?_
            refine XS.iconst X3606.here hx rfl (hb hby at_109) ?_
            refine XS.goto X3606.here hx rfl (pc0 := 110) (pc' := 114) rfl (hb hby at_110) (by decide) (by decide) ?_
            show Steps p.tables e below (T3602.setTop (mkF m 114 #[vi p0, vi p1, vi p2, vi p3, vi (4 : Int32), vi (4 : Int32), vi md, vd (FP.i2d p0), ss, vd (FP.i2d p1), ss, vr a873, vi (1 : Int32), vd (FP.dsub (FP.i2d p1) (FP.dmul (FP.i2d (3 : Int32)) (FP.ddiv (FP.dsub (FP.i2d p1) (FP.i2d p0)) (FP.i2d (4 : Int32))))), ss, uu, uu, uu, uu, uu, uu, uu, uu, uu] [(.int (1 : Int32))])) tQ
            refine XS.istore X3606.here hx rfl (hb hby at_114) rfl (l' := #[vi p0, vi p1, vi p2, vi p3, vi (4 : Int32), vi (4 : Int32), vi md, vd (FP.i2d p0), ss, vd (FP.i2d p1), ss, vr a873, vi (1 : Int32), vd (FP.dsub (FP.i2d p1) (FP.dmul (FP.i2d (3 : Int32)) (FP.ddiv (FP.dsub (FP.i2d p1) (FP.i2d p0)) (FP.i2d (4 : Int32))))), ss, uu, uu, uu, uu, uu, uu, uu, uu, uu]) rfl ?_
            refine XS.aload X3606.here hx rfl (hb hby at_116) rfl rfl ?_
            exact kk
          clear k3617
          obtain ⟨cq3630, kq3631, qa3632, qb3633, qc3634⟩ := isOf hZ e3614 F3589
          obtain ⟨_, _, ⟨T3619, L3620, kc3621, nc3622⟩, -, X3623, ⟨Lc3624, hQ3625, l3626, y3627, z3628⟩, st3629⟩ := X3606.virtualBack hx (y := mn14) (z := mn14) hown (mvT hZ (tw52 hw)) (mvT hZ (tw53 hw)) (notFace_of_selects (args := #[]) (mvT hZ (tw55 hw))) (mvT hZ (tw55 hw)) (mvT hZ (tw54 hw)) (by decide) (backOf (W := 0) (rmMv l Z a0 hw [] a873 (3 : Int32) T3562.heap n0 Z3588 F3599) hZ (tw56 hw) (tw7 hw) (by decide) (by decide)) qa3632 qc3634 (g := (mkF m 118 #[vi p0, vi p1, vi p2, vi p3, vi (4 : Int32), vi (4 : Int32), vi md, vd (FP.i2d p0), ss, vd (FP.i2d p1), ss, vr a873, vi (1 : Int32), vd (FP.dsub (FP.i2d p1) (FP.dmul (FP.i2d (3 : Int32)) (FP.ddiv (FP.dsub (FP.i2d p1) (FP.i2d p0)) (FP.i2d (4 : Int32))))), ss, uu, uu, uu, uu, uu, uu, uu, uu, uu] [(.ref a873)])) rfl (by rw [hml]; rfl) (Steps.refl _) (argsL := []) (rest := []) (lenOf pd_22 rfl) rfl (by show 2 * 0 + _ ≤ _; exact Nat.le_of_eq rfl) (hb hby at_118) (fun _ _ => ⟨rfl, e3614, (by decide : 1 + 0 ≤ _), (by decide : 5 + 0 ≤ _)⟩)
          dsimp only [Pt.U, Pt.locs, Pt.cells, Pt.slots] at X3623 l3626 y3627 z3628 st3629 hQ3625
          subst l3626 y3627 z3628
          obtain ⟨rfl, N3635, e3636⟩ := hQ3625
          have N3638 := Fr.app N3616 N3635
          have k3639 : own_G p e below E0 T3619 (mkF m 121 #[vi p0, vi p1, vi p2, vi p3, vi (4 : Int32), vi (4 : Int32), vi md, vd (FP.i2d p0), ss, vd (FP.i2d p1), ss, vr a873, vi (1 : Int32), vd (FP.dsub (FP.i2d p1) (FP.dmul (FP.i2d (3 : Int32)) (FP.ddiv (FP.dsub (FP.i2d p1) (FP.i2d p0)) (FP.i2d (4 : Int32))))), ss, uu, uu, uu, uu, uu, uu, uu, uu, uu] [(.int (own_mv (3 : Int32)))]) := fun tQ kk => k3618 tQ (st3629.trans kk)
          clear k3618 st3629
          have eq3640 : (own_mv (3 : Int32)) = (1 : Int32) := by decide
          rw [eq3640] at k3639
          have k3641 : own_G p e below E0 T3619 (mkF m 167 #[vi p0, vi p1, vi p2, vi p3, vi (4 : Int32), vi (4 : Int32), vi md, vd (FP.i2d p0), ss, vd (FP.i2d p1), ss, vr a873, vi (1 : Int32), vd (FP.dsub (FP.i2d p1) (FP.dmul (FP.i2d (3 : Int32)) (FP.ddiv (FP.dsub (FP.i2d p1) (FP.i2d p0)) (FP.i2d (4 : Int32))))), ss, vi (1 : Int32), uu, uu, uu, uu, uu, uu, uu, uu] [(.ref a873)]) := by
            intro tQ kk
            refine k3639 tQ ?_
            refine XS.istore X3623.here hx rfl (hb hby at_121) rfl (l' := #[vi p0, vi p1, vi p2, vi p3, vi (4 : Int32), vi (4 : Int32), vi md, vd (FP.i2d p0), ss, vd (FP.i2d p1), ss, vr a873, vi (1 : Int32), vd (FP.dsub (FP.i2d p1) (FP.dmul (FP.i2d (3 : Int32)) (FP.ddiv (FP.dsub (FP.i2d p1) (FP.i2d p0)) (FP.i2d (4 : Int32))))), ss, vi (1 : Int32), uu, uu, uu, uu, uu, uu, uu, uu]) rfl ?_
            refine XS.iload X3623.here hx rfl (hb hby at_123) rfl ?_
            refine XS.ifNo X3623.here hx rfl (hb hby at_125) rfl (own_if_eqN (by decide)) ?_
            refine XS.iload X3623.here hx rfl (hb hby at_128) rfl ?_
            show Steps p.tables e below (T3619.setTop (mkF m 130 #[vi p0, vi p1, vi p2, vi p3, vi (4 : Int32), vi (4 : Int32), vi md, vd (FP.i2d p0), ss, vd (FP.i2d p1), ss, vr a873, vi (1 : Int32), vd (FP.dsub (FP.i2d p1) (FP.dmul (FP.i2d (3 : Int32)) (FP.ddiv (FP.dsub (FP.i2d p1) (FP.i2d p0)) (FP.i2d (4 : Int32))))), ss, vi (1 : Int32), uu, uu, uu, uu, uu, uu, uu, uu] [(.int (1 : Int32))])) tQ
            refine XS.iload X3623.here hx rfl (hb hby at_130) rfl ?_
            refine XS.iconst X3623.here hx rfl (hb hby at_132) ?_
            refine XS.icmpNo X3623.here hx rfl (hb hby at_133) rfl (own_ic_ltN cm2) ?_
            refine XS.dload X3623.here hx rfl (hb hby at_136) rfl ?_
            show Steps p.tables e below (T3619.setTop (mkF m 138 #[vi p0, vi p1, vi p2, vi p3, vi (4 : Int32), vi (4 : Int32), vi md, vd (FP.i2d p0), ss, vd (FP.i2d p1), ss, vr a873, vi (1 : Int32), vd (FP.dsub (FP.i2d p1) (FP.dmul (FP.i2d (3 : Int32)) (FP.ddiv (FP.dsub (FP.i2d p1) (FP.i2d p0)) (FP.i2d (4 : Int32))))), ss, vi (1 : Int32), uu, uu, uu, uu, uu, uu, uu, uu] [(.double (FP.i2d p1)), (.int (1 : Int32))])) tQ
            refine XS.dload X3623.here hx rfl (hb hby at_138) rfl ?_
            refine XS.dcmpS (v := (own_c (own_z (FP.i2d p1)) (own_z (FP.i2d p0)))) X3623.here hx rfl (hb hby at_140) rfl (own_cE .l (own_cmpz (Fl.i2d_fin p1).noNaN (Fl.i2d_fin p0).noNaN)) ?_
            refine XS.ifNo X3623.here hx rfl (hb hby at_141) rfl (own_c_eqN cE) ?_
            refine XS.iload X3623.here hx rfl (hb hby at_144) rfl ?_
            show Steps p.tables e below (T3619.setTop (mkF m 146 #[vi p0, vi p1, vi p2, vi p3, vi (4 : Int32), vi (4 : Int32), vi md, vd (FP.i2d p0), ss, vd (FP.i2d p1), ss, vr a873, vi (1 : Int32), vd (FP.dsub (FP.i2d p1) (FP.dmul (FP.i2d (3 : Int32)) (FP.ddiv (FP.dsub (FP.i2d p1) (FP.i2d p0)) (FP.i2d (4 : Int32))))), ss, vi (1 : Int32), uu, uu, uu, uu, uu, uu, uu, uu] [(.int (4 : Int32)), (.int (1 : Int32))])) tQ
            refine XS.iconst X3623.here hx rfl (hb hby at_146) ?_
            refine XS.icmpNo X3623.here hx rfl (hb hby at_147) rfl (own_ic_leN (by decide)) ?_
            refine XS.iconst X3623.here hx rfl (hb hby at_150) ?_
            refine XS.goto X3623.here hx rfl (pc0 := 151) (pc' := 155) rfl (hb hby at_151) (by decide) (by decide) ?_
            show Steps p.tables e below (T3619.setTop (mkF m 155 #[vi p0, vi p1, vi p2, vi p3, vi (4 : Int32), vi (4 : Int32), vi md, vd (FP.i2d p0), ss, vd (FP.i2d p1), ss, vr a873, vi (1 : Int32), vd (FP.dsub (FP.i2d p1) (FP.dmul (FP.i2d (3 : Int32)) (FP.ddiv (FP.dsub (FP.i2d p1) (FP.i2d p0)) (FP.i2d (4 : Int32))))), ss, vi (1 : Int32), uu, uu, uu, uu, uu, uu, uu, uu] [(.int (1 : Int32)), (.int (1 : Int32))])) tQ
            refine XS.icmpNo X3623.here hx rfl (hb hby at_155) rfl (own_ic_neN (by decide)) ?_
            refine XS.iconst X3623.here hx rfl (hb hby at_158) ?_
            refine XS.goto X3623.here hx rfl (pc0 := 159) (pc' := 163) rfl (hb hby at_159) (by decide) (by decide) ?_
            refine XS.istore X3623.here hx rfl (hb hby at_163) rfl (l' := #[vi p0, vi p1, vi p2, vi p3, vi (4 : Int32), vi (4 : Int32), vi md, vd (FP.i2d p0), ss, vd (FP.i2d p1), ss, vr a873, vi (1 : Int32), vd (FP.dsub (FP.i2d p1) (FP.dmul (FP.i2d (3 : Int32)) (FP.ddiv (FP.dsub (FP.i2d p1) (FP.i2d p0)) (FP.i2d (4 : Int32))))), ss, vi (1 : Int32), uu, uu, uu, uu, uu, uu, uu, uu]) rfl ?_
            show Steps p.tables e below (T3619.setTop (mkF m 165 #[vi p0, vi p1, vi p2, vi p3, vi (4 : Int32), vi (4 : Int32), vi md, vd (FP.i2d p0), ss, vd (FP.i2d p1), ss, vr a873, vi (1 : Int32), vd (FP.dsub (FP.i2d p1) (FP.dmul (FP.i2d (3 : Int32)) (FP.ddiv (FP.dsub (FP.i2d p1) (FP.i2d p0)) (FP.i2d (4 : Int32))))), ss, vi (1 : Int32), uu, uu, uu, uu, uu, uu, uu, uu] [])) tQ
            refine XS.aload X3623.here hx rfl (hb hby at_165) rfl rfl ?_
            exact kk
          clear k3639
          obtain ⟨cq3653, kq3654, qa3655, qb3656, qc3657⟩ := isOf hZ e3636 F3589
          obtain ⟨_, _, ⟨T3642, L3643, kc3644, nc3645⟩, -, X3646, ⟨Lc3647, hQ3648, l3649, y3650, z3651⟩, st3652⟩ := X3623.virtualBack hx (y := mn13) (z := mn13) hown (mvT hZ (tw43 hw)) (mvT hZ (tw44 hw)) (notFace_of_selects (args := #[]) (mvT hZ (tw46 hw))) (mvT hZ (tw46 hw)) (mvT hZ (tw45 hw)) (by decide) (backOf (W := 0) (rmN l Z a0 hw [] a873 (4 : Int32) (FP.dsub (FP.i2d p1) (FP.dmul (FP.i2d (3 : Int32)) (FP.ddiv (FP.dsub (FP.i2d p1) (FP.i2d p0)) (FP.i2d (4 : Int32))))) (FP.i2d p1) (FP.ddiv (FP.dsub (FP.i2d p1) (FP.i2d p0)) (FP.i2d (4 : Int32))) (3 : Int32) T3562.heap n0 Z3588 F3589 g3582 F3597 g3584 g3585 F3599 ge875 (fun _ => own_q3 p0 p1 (F := (4 : Int32)) (r := ((3 : Int32) - 1)) (by decide) (by decide))) hZ (tw47 hw) (tw7 hw) (by decide) (by decide)) qa3655 qc3657 (g := (mkF m 167 #[vi p0, vi p1, vi p2, vi p3, vi (4 : Int32), vi (4 : Int32), vi md, vd (FP.i2d p0), ss, vd (FP.i2d p1), ss, vr a873, vi (1 : Int32), vd (FP.dsub (FP.i2d p1) (FP.dmul (FP.i2d (3 : Int32)) (FP.ddiv (FP.dsub (FP.i2d p1) (FP.i2d p0)) (FP.i2d (4 : Int32))))), ss, vi (1 : Int32), uu, uu, uu, uu, uu, uu, uu, uu] [(.ref a873)])) rfl (by rw [hml]; rfl) (Steps.refl _) (argsL := []) (rest := []) (lenOf pd_20 rfl) rfl (by show 2 * 0 + _ ≤ _; exact Nat.le_of_eq rfl) (hb hby at_167) (fun _ _ => ⟨rfl, e3636, (by decide : 1 + 0 ≤ _), (by decide : 5 + 0 ≤ _)⟩)
          dsimp only [Pt.U, Pt.locs, Pt.cells, Pt.slots] at X3646 l3649 y3650 z3651 st3652 hQ3648
          subst l3649 y3650 z3651
          obtain ⟨rfl, N3658, K3661, g3662, g3663, g3664, g3665, g3666⟩ := hQ3648
          have N3667 := Fr.app N3638 N3658
          have Z3668 : n0 ≤ T3642.heap.size := Nat.le_trans Z3588 K3661.1
          have F3669 : xa8 Z T3642.heap a873 := F3589.keep K3661
          clear F3589
          clear g3582
          clear F3597
          clear g3584
          clear g3585
          clear F3599
          have k3675 : own_G p e below E0 T3642 (mkF m 170 #[vi p0, vi p1, vi p2, vi p3, vi (4 : Int32), vi (4 : Int32), vi md, vd (FP.i2d p0), ss, vd (FP.i2d p1), ss, vr a873, vi (1 : Int32), vd (FP.dsub (FP.i2d p1) (FP.dmul (FP.i2d (3 : Int32)) (FP.ddiv (FP.dsub (FP.i2d p1) (FP.i2d p0)) (FP.i2d (4 : Int32))))), ss, vi (1 : Int32), uu, uu, uu, uu, uu, uu, uu, uu] [(.double (own_nv (FP.dsub (FP.i2d p1) (FP.dmul (FP.i2d (3 : Int32)) (FP.ddiv (FP.dsub (FP.i2d p1) (FP.i2d p0)) (FP.i2d (4 : Int32))))) (FP.i2d p1) (FP.ddiv (FP.dsub (FP.i2d p1) (FP.i2d p0)) (FP.i2d (4 : Int32))) (3 : Int32)))]) := fun tQ kk => k3641 tQ (st3652.trans kk)
          clear k3641 st3652
          have eq3676 : (own_nv (FP.dsub (FP.i2d p1) (FP.dmul (FP.i2d (3 : Int32)) (FP.ddiv (FP.dsub (FP.i2d p1) (FP.i2d p0)) (FP.i2d (4 : Int32))))) (FP.i2d p1) (FP.ddiv (FP.dsub (FP.i2d p1) (FP.i2d p0)) (FP.i2d (4 : Int32))) (3 : Int32)) = (FP.dsub (FP.i2d p1) (FP.dmul (FP.i2d (2 : Int32)) (FP.ddiv (FP.dsub (FP.i2d p1) (FP.i2d p0)) (FP.i2d (4 : Int32))))) := by rw [own_nv, if_pos (by decide), show (3 : Int32) - 1 = (2 : Int32) by decide]
          have F3677 : fd4 Z T3642.heap a873 (.double (FP.dsub (FP.i2d p1) (FP.dmul (FP.i2d (2 : Int32)) (FP.ddiv (FP.dsub (FP.i2d p1) (FP.i2d p0)) (FP.i2d (4 : Int32)))))) := by rw [← eq3676]; exact g3663
          have eq3678 : (own_nr (3 : Int32)) = (2 : Int32) := by decide
          have F3679 : fd7 Z T3642.heap a873 (.int (2 : Int32)) := by rw [← eq3678]; exact g3666
          have eq3680 : (own_nv (FP.dsub (FP.i2d p1) (FP.dmul (FP.i2d (3 : Int32)) (FP.ddiv (FP.dsub (FP.i2d p1) (FP.i2d p0)) (FP.i2d (4 : Int32))))) (FP.i2d p1) (FP.ddiv (FP.dsub (FP.i2d p1) (FP.i2d p0)) (FP.i2d (4 : Int32))) (3 : Int32)) = (FP.dsub (FP.i2d p1) (FP.dmul (FP.i2d (2 : Int32)) (FP.ddiv (FP.dsub (FP.i2d p1) (FP.i2d p0)) (FP.i2d (4 : Int32))))) := by rw [own_nv, if_pos (by decide), show (3 : Int32) - 1 = (2 : Int32) by decide]
          rw [eq3680] at k3675
          have k3681 : own_G p e below E0 T3642 (mkF m 188 #[vi p0, vi p1, vi p2, vi p3, vi (4 : Int32), vi (4 : Int32), vi md, vd (FP.i2d p0), ss, vd (FP.i2d p1), ss, vr a873, vi (1 : Int32), vd (FP.dsub (FP.i2d p1) (FP.dmul (FP.i2d (3 : Int32)) (FP.ddiv (FP.dsub (FP.i2d p1) (FP.i2d p0)) (FP.i2d (4 : Int32))))), ss, vi (1 : Int32), vd (FP.dsub (FP.i2d p1) (FP.dmul (FP.i2d (2 : Int32)) (FP.ddiv (FP.dsub (FP.i2d p1) (FP.i2d p0)) (FP.i2d (4 : Int32))))), ss, uu, uu, uu, uu, uu, uu] [(.int (2 : Int32)), (.int md), (.int (4 : Int32)), (.double (FP.i2d p1)), (.double (FP.i2d p0)), (.double (FP.dsub (FP.i2d p1) (FP.dmul (FP.i2d (2 : Int32)) (FP.ddiv (FP.dsub (FP.i2d p1) (FP.i2d p0)) (FP.i2d (4 : Int32))))))]) := by
            intro tQ kk
            refine k3675 tQ ?_
            refine XS.dstore X3646.here hx rfl (hb hby at_170) rfl (l' := #[vi p0, vi p1, vi p2, vi p3, vi (4 : Int32), vi (4 : Int32), vi md, vd (FP.i2d p0), ss, vd (FP.i2d p1), ss, vr a873, vi (1 : Int32), vd (FP.dsub (FP.i2d p1) (FP.dmul (FP.i2d (3 : Int32)) (FP.ddiv (FP.dsub (FP.i2d p1) (FP.i2d p0)) (FP.i2d (4 : Int32))))), ss, vi (1 : Int32), vd (FP.dsub (FP.i2d p1) (FP.dmul (FP.i2d (2 : Int32)) (FP.ddiv (FP.dsub (FP.i2d p1) (FP.i2d p0)) (FP.i2d (4 : Int32))))), ss, uu, uu, uu, uu, uu, uu]) rfl ?_
            refine XS.iload X3646.here hx rfl (hb hby at_172) rfl ?_
            refine XS.ifNo X3646.here hx rfl (hb hby at_174) rfl (own_if_eqN (by decide)) ?_
            refine XS.dload X3646.here hx rfl (hb hby at_177) rfl ?_
            show Steps p.tables e below (T3642.setTop (mkF m 179 #[vi p0, vi p1, vi p2, vi p3, vi (4 : Int32), vi (4 : Int32), vi md, vd (FP.i2d p0), ss, vd (FP.i2d p1), ss, vr a873, vi (1 : Int32), vd (FP.dsub (FP.i2d p1) (FP.dmul (FP.i2d (3 : Int32)) (FP.ddiv (FP.dsub (FP.i2d p1) (FP.i2d p0)) (FP.i2d (4 : Int32))))), ss, vi (1 : Int32), vd (FP.dsub (FP.i2d p1) (FP.dmul (FP.i2d (2 : Int32)) (FP.ddiv (FP.dsub (FP.i2d p1) (FP.i2d p0)) (FP.i2d (4 : Int32))))), ss, uu, uu, uu, uu, uu, uu] [(.double (FP.dsub (FP.i2d p1) (FP.dmul (FP.i2d (2 : Int32)) (FP.ddiv (FP.dsub (FP.i2d p1) (FP.i2d p0)) (FP.i2d (4 : Int32))))))])) tQ
            refine XS.dload X3646.here hx rfl (hb hby at_179) rfl ?_
            refine XS.dload X3646.here hx rfl (hb hby at_181) rfl ?_
            refine XS.iload X3646.here hx rfl (hb hby at_183) rfl ?_
            refine XS.iload X3646.here hx rfl (hb hby at_185) rfl ?_
            show Steps p.tables e below (T3642.setTop (mkF m 187 #[vi p0, vi p1, vi p2, vi p3, vi (4 : Int32), vi (4 : Int32), vi md, vd (FP.i2d p0), ss, vd (FP.i2d p1), ss, vr a873, vi (1 : Int32), vd (FP.dsub (FP.i2d p1) (FP.dmul (FP.i2d (3 : Int32)) (FP.ddiv (FP.dsub (FP.i2d p1) (FP.i2d p0)) (FP.i2d (4 : Int32))))), ss, vi (1 : Int32), vd (FP.dsub (FP.i2d p1) (FP.dmul (FP.i2d (2 : Int32)) (FP.ddiv (FP.dsub (FP.i2d p1) (FP.i2d p0)) (FP.i2d (4 : Int32))))), ss, uu, uu, uu, uu, uu, uu] [(.int md), (.int (4 : Int32)), (.double (FP.i2d p1)), (.double (FP.i2d p0)), (.double (FP.dsub (FP.i2d p1) (FP.dmul (FP.i2d (2 : Int32)) (FP.ddiv (FP.dsub (FP.i2d p1) (FP.i2d p0)) (FP.i2d (4 : Int32))))))])) tQ
            refine XS.iconst X3646.here hx rfl (hb hby at_187) ?_
            exact kk
          clear k3675
          obtain ⟨_, _, ⟨T3682, L3683, kc3684, nc3685⟩, -, X3686, ⟨Lc3687, hQ3688, l3689, y3690, z3691⟩, st3692⟩ := Jvm.LawKit.callS X3646 hx (y := mn16) hown (mvT hZ (tw48 hw)) (mvT hZ (tw49 hw)) (mvT hZ (tw50 hw)) (mvT hZ (tw51 hw)) (by decide) (backOf (W := 2) (rmE l Z a0 hw [] (FP.i2d p0) (FP.i2d p1) (4 : Int32) md (2 : Int32) T3642.heap n0 Z3668 (Fl.i2d_fin p0).noNaN (Fl.i2d_fin p1).noNaN (own_h1 p0 p1) (own_h2 p0 p1 (F := (4 : Int32)) (by decide)) (own_q3 p0 p1 (F := (4 : Int32)) (r := (own_mx 0 ((4 : Int32) - (2 : Int32)))) (by decide) (own_mxb (by decide) (by decide)))) hZ (tw51 hw) (tw50 hw) (by decide) (by decide)) (g := (mkF m 188 #[vi p0, vi p1, vi p2, vi p3, vi (4 : Int32), vi (4 : Int32), vi md, vd (FP.i2d p0), ss, vd (FP.i2d p1), ss, vr a873, vi (1 : Int32), vd (FP.dsub (FP.i2d p1) (FP.dmul (FP.i2d (3 : Int32)) (FP.ddiv (FP.dsub (FP.i2d p1) (FP.i2d p0)) (FP.i2d (4 : Int32))))), ss, vi (1 : Int32), vd (FP.dsub (FP.i2d p1) (FP.dmul (FP.i2d (2 : Int32)) (FP.ddiv (FP.dsub (FP.i2d p1) (FP.i2d p0)) (FP.i2d (4 : Int32))))), ss, uu, uu, uu, uu, uu, uu] [(.int (2 : Int32)), (.int md), (.int (4 : Int32)), (.double (FP.i2d p1)), (.double (FP.i2d p0)), (.double (FP.dsub (FP.i2d p1) (FP.dmul (FP.i2d (2 : Int32)) (FP.ddiv (FP.dsub (FP.i2d p1) (FP.i2d p0)) (FP.i2d (4 : Int32))))))])) rfl (by rw [hml]; rfl) (argsL := [(.double (FP.i2d p0)), (.double (FP.i2d p1)), (.int (4 : Int32)), (.int md), (.int (2 : Int32))]) (rest := [(.double (FP.dsub (FP.i2d p1) (FP.dmul (FP.i2d (2 : Int32)) (FP.ddiv (FP.dsub (FP.i2d p1) (FP.i2d p0)) (FP.i2d (4 : Int32))))))]) (lenOf pd_21 rfl) rfl (by show 2 * 0 + _ ≤ _; exact Nat.le_of_eq rfl) (hb hby at_188) (fun _ _ => ⟨rfl, rfl, (by decide : 1 + 0 ≤ _), (by decide : 5 + 0 ≤ _)⟩)
          dsimp only [Pt.U, Pt.locs, Pt.cells, Pt.slots] at X3686 l3689 y3690 z3691 st3692 hQ3688
          subst l3689 y3690 z3691
          obtain ⟨rfl, N3693, e3694⟩ := hQ3688
          have N3696 := Fr.app N3667 N3693
          have k3697 : own_G p e below E0 T3682 (mkF m 191 #[vi p0, vi p1, vi p2, vi p3, vi (4 : Int32), vi (4 : Int32), vi md, vd (FP.i2d p0), ss, vd (FP.i2d p1), ss, vr a873, vi (1 : Int32), vd (FP.dsub (FP.i2d p1) (FP.dmul (FP.i2d (3 : Int32)) (FP.ddiv (FP.dsub (FP.i2d p1) (FP.i2d p0)) (FP.i2d (4 : Int32))))), ss, vi (1 : Int32), vd (FP.dsub (FP.i2d p1) (FP.dmul (FP.i2d (2 : Int32)) (FP.ddiv (FP.dsub (FP.i2d p1) (FP.i2d p0)) (FP.i2d (4 : Int32))))), ss, uu, uu, uu, uu, uu, uu] [(.double (own_exp (FP.i2d p0) (FP.i2d p1) (4 : Int32) md (2 : Int32))), (.double (FP.dsub (FP.i2d p1) (FP.dmul (FP.i2d (2 : Int32)) (FP.ddiv (FP.dsub (FP.i2d p1) (FP.i2d p0)) (FP.i2d (4 : Int32))))))]) := fun tQ kk => k3681 tQ (st3692 _ kk)
          clear k3681 st3692
          have k3698 : own_G p e below E0 T3682 (mkF m 204 #[vi p0, vi p1, vi p2, vi p3, vi (4 : Int32), vi (4 : Int32), vi md, vd (FP.i2d p0), ss, vd (FP.i2d p1), ss, vr a873, vi (1 : Int32), vd (FP.dsub (FP.i2d p1) (FP.dmul (FP.i2d (3 : Int32)) (FP.ddiv (FP.dsub (FP.i2d p1) (FP.i2d p0)) (FP.i2d (4 : Int32))))), ss, vi (1 : Int32), vd (FP.dsub (FP.i2d p1) (FP.dmul (FP.i2d (2 : Int32)) (FP.ddiv (FP.dsub (FP.i2d p1) (FP.i2d p0)) (FP.i2d (4 : Int32))))), ss, uu, uu, uu, uu, uu, uu] [(.ref a873)]) := by
            intro tQ kk
            refine k3697 tQ ?_
            refine XS.dcmpS (v := (0 : Int32)) X3686.here hx rfl (hb hby at_191) rfl (own_eN cm1 cm2 cE (show own_mx 0 ((4 : Int32) - (2 : Int32)) = (2 : Int32) by decide) (by decide) (own_q3 p0 p1 (by decide) (by decide)).2) ?_
            refine XS.ifNo X3686.here hx rfl (hb hby at_192) rfl (own_if_neN (by decide)) ?_
            refine XS.iconst X3686.here hx rfl (hb hby at_195) ?_
            refine XS.goto X3686.here hx rfl (pc0 := 196) (pc' := 200) rfl (hb hby at_196) (by decide) (by decide) ?_
            show Steps p.tables e below (T3682.setTop (mkF m 200 #[vi p0, vi p1, vi p2, vi p3, vi (4 : Int32), vi (4 : Int32), vi md, vd (FP.i2d p0), ss, vd (FP.i2d p1), ss, vr a873, vi (1 : Int32), vd (FP.dsub (FP.i2d p1) (FP.dmul (FP.i2d (3 : Int32)) (FP.ddiv (FP.dsub (FP.i2d p1) (FP.i2d p0)) (FP.i2d (4 : Int32))))), ss, vi (1 : Int32), vd (FP.dsub (FP.i2d p1) (FP.dmul (FP.i2d (2 : Int32)) (FP.ddiv (FP.dsub (FP.i2d p1) (FP.i2d p0)) (FP.i2d (4 : Int32))))), ss, uu, uu, uu, uu, uu, uu] [(.int (1 : Int32))])) tQ
            refine XS.istore X3686.here hx rfl (hb hby at_200) rfl (l' := #[vi p0, vi p1, vi p2, vi p3, vi (4 : Int32), vi (4 : Int32), vi md, vd (FP.i2d p0), ss, vd (FP.i2d p1), ss, vr a873, vi (1 : Int32), vd (FP.dsub (FP.i2d p1) (FP.dmul (FP.i2d (3 : Int32)) (FP.ddiv (FP.dsub (FP.i2d p1) (FP.i2d p0)) (FP.i2d (4 : Int32))))), ss, vi (1 : Int32), vd (FP.dsub (FP.i2d p1) (FP.dmul (FP.i2d (2 : Int32)) (FP.ddiv (FP.dsub (FP.i2d p1) (FP.i2d p0)) (FP.i2d (4 : Int32))))), ss, uu, uu, uu, uu, uu, uu]) rfl ?_
            refine XS.aload X3686.here hx rfl (hb hby at_202) rfl rfl ?_
            exact kk
          clear k3697
          obtain ⟨cq3710, kq3711, qa3712, qb3713, qc3714⟩ := isOf hZ e3694 F3669
          obtain ⟨_, _, ⟨T3699, L3700, kc3701, nc3702⟩, -, X3703, ⟨Lc3704, hQ3705, l3706, y3707, z3708⟩, st3709⟩ := X3686.virtualBack hx (y := mn13) (z := mn13) hown (mvT hZ (tw43 hw)) (mvT hZ (tw44 hw)) (notFace_of_selects (args := #[]) (mvT hZ (tw46 hw))) (mvT hZ (tw46 hw)) (mvT hZ (tw45 hw)) (by decide) (backOf (W := 0) (rmN l Z a0 hw [] a873 (4 : Int32) (FP.dsub (FP.i2d p1) (FP.dmul (FP.i2d (2 : Int32)) (FP.ddiv (FP.dsub (FP.i2d p1) (FP.i2d p0)) (FP.i2d (4 : Int32))))) (FP.i2d p1) (FP.ddiv (FP.dsub (FP.i2d p1) (FP.i2d p0)) (FP.i2d (4 : Int32))) (2 : Int32) T3642.heap n0 Z3668 F3669 g3662 F3677 g3664 g3665 F3679 ge875 (fun _ => own_q3 p0 p1 (F := (4 : Int32)) (r := ((2 : Int32) - 1)) (by decide) (by decide))) hZ (tw47 hw) (tw7 hw) (by decide) (by decide)) qa3712 qc3714 (g := (mkF m 204 #[vi p0, vi p1, vi p2, vi p3, vi (4 : Int32), vi (4 : Int32), vi md, vd (FP.i2d p0), ss, vd (FP.i2d p1), ss, vr a873, vi (1 : Int32), vd (FP.dsub (FP.i2d p1) (FP.dmul (FP.i2d (3 : Int32)) (FP.ddiv (FP.dsub (FP.i2d p1) (FP.i2d p0)) (FP.i2d (4 : Int32))))), ss, vi (1 : Int32), vd (FP.dsub (FP.i2d p1) (FP.dmul (FP.i2d (2 : Int32)) (FP.ddiv (FP.dsub (FP.i2d p1) (FP.i2d p0)) (FP.i2d (4 : Int32))))), ss, uu, uu, uu, uu, uu, uu] [(.ref a873)])) rfl (by rw [hml]; rfl) (Steps.refl _) (argsL := []) (rest := []) (lenOf pd_20 rfl) rfl (by show 2 * 0 + _ ≤ _; exact Nat.le_of_eq rfl) (hb hby at_204) (fun _ _ => ⟨rfl, e3694, (by decide : 1 + 0 ≤ _), (by decide : 5 + 0 ≤ _)⟩)
          dsimp only [Pt.U, Pt.locs, Pt.cells, Pt.slots] at X3703 l3706 y3707 z3708 st3709 hQ3705
          subst l3706 y3707 z3708
          obtain ⟨rfl, N3715, K3718, g3719, g3720, g3721, g3722, g3723⟩ := hQ3705
          have N3724 := Fr.app N3696 N3715
          have Z3725 : n0 ≤ T3699.heap.size := Nat.le_trans Z3668 K3718.1
          have F3726 : xa8 Z T3699.heap a873 := F3669.keep K3718
          clear F3669
          clear g3662
          clear F3677
          clear g3664
          clear g3665
          clear F3679
          have k3732 : own_G p e below E0 T3699 (mkF m 207 #[vi p0, vi p1, vi p2, vi p3, vi (4 : Int32), vi (4 : Int32), vi md, vd (FP.i2d p0), ss, vd (FP.i2d p1), ss, vr a873, vi (1 : Int32), vd (FP.dsub (FP.i2d p1) (FP.dmul (FP.i2d (3 : Int32)) (FP.ddiv (FP.dsub (FP.i2d p1) (FP.i2d p0)) (FP.i2d (4 : Int32))))), ss, vi (1 : Int32), vd (FP.dsub (FP.i2d p1) (FP.dmul (FP.i2d (2 : Int32)) (FP.ddiv (FP.dsub (FP.i2d p1) (FP.i2d p0)) (FP.i2d (4 : Int32))))), ss, uu, uu, uu, uu, uu, uu] [(.double (own_nv (FP.dsub (FP.i2d p1) (FP.dmul (FP.i2d (2 : Int32)) (FP.ddiv (FP.dsub (FP.i2d p1) (FP.i2d p0)) (FP.i2d (4 : Int32))))) (FP.i2d p1) (FP.ddiv (FP.dsub (FP.i2d p1) (FP.i2d p0)) (FP.i2d (4 : Int32))) (2 : Int32)))]) := fun tQ kk => k3698 tQ (st3709.trans kk)
          clear k3698 st3709
          have eq3733 : (own_nv (FP.dsub (FP.i2d p1) (FP.dmul (FP.i2d (2 : Int32)) (FP.ddiv (FP.dsub (FP.i2d p1) (FP.i2d p0)) (FP.i2d (4 : Int32))))) (FP.i2d p1) (FP.ddiv (FP.dsub (FP.i2d p1) (FP.i2d p0)) (FP.i2d (4 : Int32))) (2 : Int32)) = (FP.dsub (FP.i2d p1) (FP.dmul (FP.i2d (1 : Int32)) (FP.ddiv (FP.dsub (FP.i2d p1) (FP.i2d p0)) (FP.i2d (4 : Int32))))) := by rw [own_nv, if_pos (by decide), show (2 : Int32) - 1 = (1 : Int32) by decide]
          have F3734 : fd4 Z T3699.heap a873 (.double (FP.dsub (FP.i2d p1) (FP.dmul (FP.i2d (1 : Int32)) (FP.ddiv (FP.dsub (FP.i2d p1) (FP.i2d p0)) (FP.i2d (4 : Int32)))))) := by rw [← eq3733]; exact g3720
          have eq3735 : (own_nr (2 : Int32)) = (1 : Int32) := by decide
          have F3736 : fd7 Z T3699.heap a873 (.int (1 : Int32)) := by rw [← eq3735]; exact g3723
          have eq3737 : (own_nv (FP.dsub (FP.i2d p1) (FP.dmul (FP.i2d (2 : Int32)) (FP.ddiv (FP.dsub (FP.i2d p1) (FP.i2d p0)) (FP.i2d (4 : Int32))))) (FP.i2d p1) (FP.ddiv (FP.dsub (FP.i2d p1) (FP.i2d p0)) (FP.i2d (4 : Int32))) (2 : Int32)) = (FP.dsub (FP.i2d p1) (FP.dmul (FP.i2d (1 : Int32)) (FP.ddiv (FP.dsub (FP.i2d p1) (FP.i2d p0)) (FP.i2d (4 : Int32))))) := by rw [own_nv, if_pos (by decide), show (2 : Int32) - 1 = (1 : Int32) by decide]
          rw [eq3737] at k3732
          have k3738 : own_G p e below E0 T3699 (mkF m 225 #[vi p0, vi p1, vi p2, vi p3, vi (4 : Int32), vi (4 : Int32), vi md, vd (FP.i2d p0), ss, vd (FP.i2d p1), ss, vr a873, vi (1 : Int32), vd (FP.dsub (FP.i2d p1) (FP.dmul (FP.i2d (3 : Int32)) (FP.ddiv (FP.dsub (FP.i2d p1) (FP.i2d p0)) (FP.i2d (4 : Int32))))), ss, vi (1 : Int32), vd (FP.dsub (FP.i2d p1) (FP.dmul (FP.i2d (2 : Int32)) (FP.ddiv (FP.dsub (FP.i2d p1) (FP.i2d p0)) (FP.i2d (4 : Int32))))), ss, vd (FP.dsub (FP.i2d p1) (FP.dmul (FP.i2d (1 : Int32)) (FP.ddiv (FP.dsub (FP.i2d p1) (FP.i2d p0)) (FP.i2d (4 : Int32))))), ss, uu, uu, uu, uu] [(.int (3 : Int32)), (.int md), (.int (4 : Int32)), (.double (FP.i2d p1)), (.double (FP.i2d p0)), (.double (FP.dsub (FP.i2d p1) (FP.dmul (FP.i2d (1 : Int32)) (FP.ddiv (FP.dsub (FP.i2d p1) (FP.i2d p0)) (FP.i2d (4 : Int32))))))]) := by
            intro tQ kk
            refine k3732 tQ ?_
            refine XS.dstore X3703.here hx rfl (hb hby at_207) rfl (l' := #[vi p0, vi p1, vi p2, vi p3, vi (4 : Int32), vi (4 : Int32), vi md, vd (FP.i2d p0), ss, vd (FP.i2d p1), ss, vr a873, vi (1 : Int32), vd (FP.dsub (FP.i2d p1) (FP.dmul (FP.i2d (3 : Int32)) (FP.ddiv (FP.dsub (FP.i2d p1) (FP.i2d p0)) (FP.i2d (4 : Int32))))), ss, vi (1 : Int32), vd (FP.dsub (FP.i2d p1) (FP.dmul (FP.i2d (2 : Int32)) (FP.ddiv (FP.dsub (FP.i2d p1) (FP.i2d p0)) (FP.i2d (4 : Int32))))), ss, vd (FP.dsub (FP.i2d p1) (FP.dmul (FP.i2d (1 : Int32)) (FP.ddiv (FP.dsub (FP.i2d p1) (FP.i2d p0)) (FP.i2d (4 : Int32))))), ss, uu, uu, uu, uu]) rfl ?_
            refine XS.iload X3703.here hx rfl (hb hby at_209) rfl ?_
            refine XS.ifNo X3703.here hx rfl (hb hby at_211) rfl (own_if_eqN (by decide)) ?_
            refine XS.dload X3703.here hx rfl (hb hby at_214) rfl ?_
            show Steps p.tables e below (T3699.setTop (mkF m 216 #[vi p0, vi p1, vi p2, vi p3, vi (4 : Int32), vi (4 : Int32), vi md, vd (FP.i2d p0), ss, vd (FP.i2d p1), ss, vr a873, vi (1 : Int32), vd (FP.dsub (FP.i2d p1) (FP.dmul (FP.i2d (3 : Int32)) (FP.ddiv (FP.dsub (FP.i2d p1) (FP.i2d p0)) (FP.i2d (4 : Int32))))), ss, vi (1 : Int32), vd (FP.dsub (FP.i2d p1) (FP.dmul (FP.i2d (2 : Int32)) (FP.ddiv (FP.dsub (FP.i2d p1) (FP.i2d p0)) (FP.i2d (4 : Int32))))), ss, vd (FP.dsub (FP.i2d p1) (FP.dmul (FP.i2d (1 : Int32)) (FP.ddiv (FP.dsub (FP.i2d p1) (FP.i2d p0)) (FP.i2d (4 : Int32))))), ss, uu, uu, uu, uu] [(.double (FP.dsub (FP.i2d p1) (FP.dmul (FP.i2d (1 : Int32)) (FP.ddiv (FP.dsub (FP.i2d p1) (FP.i2d p0)) (FP.i2d (4 : Int32))))))])) tQ
            refine XS.dload X3703.here hx rfl (hb hby at_216) rfl ?_
            refine XS.dload X3703.here hx rfl (hb hby at_218) rfl ?_
            refine XS.iload X3703.here hx rfl (hb hby at_220) rfl ?_
            refine XS.iload X3703.here hx rfl (hb hby at_222) rfl ?_
            show Steps p.tables e below (T3699.setTop (mkF m 224 #[vi p0, vi p1, vi p2, vi p3, vi (4 : Int32), vi (4 : Int32), vi md, vd (FP.i2d p0), ss, vd (FP.i2d p1), ss, vr a873, vi (1 : Int32), vd (FP.dsub (FP.i2d p1) (FP.dmul (FP.i2d (3 : Int32)) (FP.ddiv (FP.dsub (FP.i2d p1) (FP.i2d p0)) (FP.i2d (4 : Int32))))), ss, vi (1 : Int32), vd (FP.dsub (FP.i2d p1) (FP.dmul (FP.i2d (2 : Int32)) (FP.ddiv (FP.dsub (FP.i2d p1) (FP.i2d p0)) (FP.i2d (4 : Int32))))), ss, vd (FP.dsub (FP.i2d p1) (FP.dmul (FP.i2d (1 : Int32)) (FP.ddiv (FP.dsub (FP.i2d p1) (FP.i2d p0)) (FP.i2d (4 : Int32))))), ss, uu, uu, uu, uu] [(.int md), (.int (4 : Int32)), (.double (FP.i2d p1)), (.double (FP.i2d p0)), (.double (FP.dsub (FP.i2d p1) (FP.dmul (FP.i2d (1 : Int32)) (FP.ddiv (FP.dsub (FP.i2d p1) (FP.i2d p0)) (FP.i2d (4 : Int32))))))])) tQ
            refine XS.iconst X3703.here hx rfl (hb hby at_224) ?_
            exact kk
          clear k3732
          obtain ⟨_, _, ⟨T3739, L3740, kc3741, nc3742⟩, -, X3743, ⟨Lc3744, hQ3745, l3746, y3747, z3748⟩, st3749⟩ := Jvm.LawKit.callS X3703 hx (y := mn16) hown (mvT hZ (tw48 hw)) (mvT hZ (tw49 hw)) (mvT hZ (tw50 hw)) (mvT hZ (tw51 hw)) (by decide) (backOf (W := 2) (rmE l Z a0 hw [] (FP.i2d p0) (FP.i2d p1) (4 : Int32) md (3 : Int32) T3699.heap n0 Z3725 (Fl.i2d_fin p0).noNaN (Fl.i2d_fin p1).noNaN (own_h1 p0 p1) (own_h2 p0 p1 (F := (4 : Int32)) (by decide)) (own_q3 p0 p1 (F := (4 : Int32)) (r := (own_mx 0 ((4 : Int32) - (3 : Int32)))) (by decide) (own_mxb (by decide) (by decide)))) hZ (tw51 hw) (tw50 hw) (by decide) (by decide)) (g := (mkF m 225 #[vi p0, vi p1, vi p2, vi p3, vi (4 : Int32), vi (4 : Int32), vi md, vd (FP.i2d p0), ss, vd (FP.i2d p1), ss, vr a873, vi (1 : Int32), vd (FP.dsub (FP.i2d p1) (FP.dmul (FP.i2d (3 : Int32)) (FP.ddiv (FP.dsub (FP.i2d p1) (FP.i2d p0)) (FP.i2d (4 : Int32))))), ss, vi (1 : Int32), vd (FP.dsub (FP.i2d p1) (FP.dmul (FP.i2d (2 : Int32)) (FP.ddiv (FP.dsub (FP.i2d p1) (FP.i2d p0)) (FP.i2d (4 : Int32))))), ss, vd (FP.dsub (FP.i2d p1) (FP.dmul (FP.i2d (1 : Int32)) (FP.ddiv (FP.dsub (FP.i2d p1) (FP.i2d p0)) (FP.i2d (4 : Int32))))), ss, uu, uu, uu, uu] [(.int (3 : Int32)), (.int md), (.int (4 : Int32)), (.double (FP.i2d p1)), (.double (FP.i2d p0)), (.double (FP.dsub (FP.i2d p1) (FP.dmul (FP.i2d (1 : Int32)) (FP.ddiv (FP.dsub (FP.i2d p1) (FP.i2d p0)) (FP.i2d (4 : Int32))))))])) rfl (by rw [hml]; rfl) (argsL := [(.double (FP.i2d p0)), (.double (FP.i2d p1)), (.int (4 : Int32)), (.int md), (.int (3 : Int32))]) (rest := [(.double (FP.dsub (FP.i2d p1) (FP.dmul (FP.i2d (1 : Int32)) (FP.ddiv (FP.dsub (FP.i2d p1) (FP.i2d p0)) (FP.i2d (4 : Int32))))))]) (lenOf pd_21 rfl) rfl (by show 2 * 0 + _ ≤ _; exact Nat.le_of_eq rfl) (hb hby at_225) (fun _ _ => ⟨rfl, rfl, (by decide : 1 + 0 ≤ _), (by decide : 5 + 0 ≤ _)⟩)
          dsimp only [Pt.U, Pt.locs, Pt.cells, Pt.slots] at X3743 l3746 y3747 z3748 st3749 hQ3745
          subst l3746 y3747 z3748
          obtain ⟨rfl, N3750, e3751⟩ := hQ3745
          have N3753 := Fr.app N3724 N3750
          have k3754 : own_G p e below E0 T3739 (mkF m 228 #[vi p0, vi p1, vi p2, vi p3, vi (4 : Int32), vi (4 : Int32), vi md, vd (FP.i2d p0), ss, vd (FP.i2d p1), ss, vr a873, vi (1 : Int32), vd (FP.dsub (FP.i2d p1) (FP.dmul (FP.i2d (3 : Int32)) (FP.ddiv (FP.dsub (FP.i2d p1) (FP.i2d p0)) (FP.i2d (4 : Int32))))), ss, vi (1 : Int32), vd (FP.dsub (FP.i2d p1) (FP.dmul (FP.i2d (2 : Int32)) (FP.ddiv (FP.dsub (FP.i2d p1) (FP.i2d p0)) (FP.i2d (4 : Int32))))), ss, vd (FP.dsub (FP.i2d p1) (FP.dmul (FP.i2d (1 : Int32)) (FP.ddiv (FP.dsub (FP.i2d p1) (FP.i2d p0)) (FP.i2d (4 : Int32))))), ss, uu, uu, uu, uu] [(.double (own_exp (FP.i2d p0) (FP.i2d p1) (4 : Int32) md (3 : Int32))), (.double (FP.dsub (FP.i2d p1) (FP.dmul (FP.i2d (1 : Int32)) (FP.ddiv (FP.dsub (FP.i2d p1) (FP.i2d p0)) (FP.i2d (4 : Int32))))))]) := fun tQ kk => k3738 tQ (st3749 _ kk)
          clear k3738 st3749
          have k3755 : own_G p e below E0 T3739 (mkF m 241 #[vi p0, vi p1, vi p2, vi p3, vi (4 : Int32), vi (4 : Int32), vi md, vd (FP.i2d p0), ss, vd (FP.i2d p1), ss, vr a873, vi (1 : Int32), vd (FP.dsub (FP.i2d p1) (FP.dmul (FP.i2d (3 : Int32)) (FP.ddiv (FP.dsub (FP.i2d p1) (FP.i2d p0)) (FP.i2d (4 : Int32))))), ss, vi (1 : Int32), vd (FP.dsub (FP.i2d p1) (FP.dmul (FP.i2d (2 : Int32)) (FP.ddiv (FP.dsub (FP.i2d p1) (FP.i2d p0)) (FP.i2d (4 : Int32))))), ss, vd (FP.dsub (FP.i2d p1) (FP.dmul (FP.i2d (1 : Int32)) (FP.ddiv (FP.dsub (FP.i2d p1) (FP.i2d p0)) (FP.i2d (4 : Int32))))), ss, uu, uu, uu, uu] [(.ref a873)]) := by
            intro tQ kk
            refine k3754 tQ ?_
            refine XS.dcmpS (v := (0 : Int32)) X3743.here hx rfl (hb hby at_228) rfl (own_eN cm1 cm2 cE (show own_mx 0 ((4 : Int32) - (3 : Int32)) = (1 : Int32) by decide) (by decide) (own_q3 p0 p1 (by decide) (by decide)).2) ?_
            refine XS.ifNo X3743.here hx rfl (hb hby at_229) rfl (own_if_neN (by decide)) ?_
            refine XS.iconst X3743.here hx rfl (hb hby at_232) ?_
            refine XS.goto X3743.here hx rfl (pc0 := 233) (pc' := 237) rfl (hb hby at_233) (by decide) (by decide) ?_
            show Steps p.tables e below (T3739.setTop (mkF m 237 #[vi p0, vi p1, vi p2, vi p3, vi (4 : Int32), vi (4 : Int32), vi md, vd (FP.i2d p0), ss, vd (FP.i2d p1), ss, vr a873, vi (1 : Int32), vd (FP.dsub (FP.i2d p1) (FP.dmul (FP.i2d (3 : Int32)) (FP.ddiv (FP.dsub (FP.i2d p1) (FP.i2d p0)) (FP.i2d (4 : Int32))))), ss, vi (1 : Int32), vd (FP.dsub (FP.i2d p1) (FP.dmul (FP.i2d (2 : Int32)) (FP.ddiv (FP.dsub (FP.i2d p1) (FP.i2d p0)) (FP.i2d (4 : Int32))))), ss, vd (FP.dsub (FP.i2d p1) (FP.dmul (FP.i2d (1 : Int32)) (FP.ddiv (FP.dsub (FP.i2d p1) (FP.i2d p0)) (FP.i2d (4 : Int32))))), ss, uu, uu, uu, uu] [(.int (1 : Int32))])) tQ
            refine XS.istore X3743.here hx rfl (hb hby at_237) rfl (l' := #[vi p0, vi p1, vi p2, vi p3, vi (4 : Int32), vi (4 : Int32), vi md, vd (FP.i2d p0), ss, vd (FP.i2d p1), ss, vr a873, vi (1 : Int32), vd (FP.dsub (FP.i2d p1) (FP.dmul (FP.i2d (3 : Int32)) (FP.ddiv (FP.dsub (FP.i2d p1) (FP.i2d p0)) (FP.i2d (4 : Int32))))), ss, vi (1 : Int32), vd (FP.dsub (FP.i2d p1) (FP.dmul (FP.i2d (2 : Int32)) (FP.ddiv (FP.dsub (FP.i2d p1) (FP.i2d p0)) (FP.i2d (4 : Int32))))), ss, vd (FP.dsub (FP.i2d p1) (FP.dmul (FP.i2d (1 : Int32)) (FP.ddiv (FP.dsub (FP.i2d p1) (FP.i2d p0)) (FP.i2d (4 : Int32))))), ss, uu, uu, uu, uu]) rfl ?_
            refine XS.aload X3743.here hx rfl (hb hby at_239) rfl rfl ?_
            exact kk
          clear k3754
          obtain ⟨cq3767, kq3768, qa3769, qb3770, qc3771⟩ := isOf hZ e3751 F3726
          obtain ⟨_, _, ⟨T3756, L3757, kc3758, nc3759⟩, -, X3760, ⟨Lc3761, hQ3762, l3763, y3764, z3765⟩, st3766⟩ := X3743.virtualBack hx (y := mn13) (z := mn13) hown (mvT hZ (tw43 hw)) (mvT hZ (tw44 hw)) (notFace_of_selects (args := #[]) (mvT hZ (tw46 hw))) (mvT hZ (tw46 hw)) (mvT hZ (tw45 hw)) (by decide) (backOf (W := 0) (rmN l Z a0 hw [] a873 (4 : Int32) (FP.dsub (FP.i2d p1) (FP.dmul (FP.i2d (1 : Int32)) (FP.ddiv (FP.dsub (FP.i2d p1) (FP.i2d p0)) (FP.i2d (4 : Int32))))) (FP.i2d p1) (FP.ddiv (FP.dsub (FP.i2d p1) (FP.i2d p0)) (FP.i2d (4 : Int32))) (1 : Int32) T3699.heap n0 Z3725 F3726 g3719 F3734 g3721 g3722 F3736 ge875 (fun _ => own_q3 p0 p1 (F := (4 : Int32)) (r := ((1 : Int32) - 1)) (by decide) (by decide))) hZ (tw47 hw) (tw7 hw) (by decide) (by decide)) qa3769 qc3771 (g := (mkF m 241 #[vi p0, vi p1, vi p2, vi p3, vi (4 : Int32), vi (4 : Int32), vi md, vd (FP.i2d p0), ss, vd (FP.i2d p1), ss, vr a873, vi (1 : Int32), vd (FP.dsub (FP.i2d p1) (FP.dmul (FP.i2d (3 : Int32)) (FP.ddiv (FP.dsub (FP.i2d p1) (FP.i2d p0)) (FP.i2d (4 : Int32))))), ss, vi (1 : Int32), vd (FP.dsub (FP.i2d p1) (FP.dmul (FP.i2d (2 : Int32)) (FP.ddiv (FP.dsub (FP.i2d p1) (FP.i2d p0)) (FP.i2d (4 : Int32))))), ss, vd (FP.dsub (FP.i2d p1) (FP.dmul (FP.i2d (1 : Int32)) (FP.ddiv (FP.dsub (FP.i2d p1) (FP.i2d p0)) (FP.i2d (4 : Int32))))), ss, uu, uu, uu, uu] [(.ref a873)])) rfl (by rw [hml]; rfl) (Steps.refl _) (argsL := []) (rest := []) (lenOf pd_20 rfl) rfl (by show 2 * 0 + _ ≤ _; exact Nat.le_of_eq rfl) (hb hby at_241) (fun _ _ => ⟨rfl, e3751, (by decide : 1 + 0 ≤ _), (by decide : 5 + 0 ≤ _)⟩)
          dsimp only [Pt.U, Pt.locs, Pt.cells, Pt.slots] at X3760 l3763 y3764 z3765 st3766 hQ3762
          subst l3763 y3764 z3765
          obtain ⟨rfl, N3772, K3775, g3776, g3777, g3778, g3779, g3780⟩ := hQ3762
          have N3781 := Fr.app N3753 N3772
          have Z3782 : n0 ≤ T3756.heap.size := Nat.le_trans Z3725 K3775.1
          have F3783 : xa8 Z T3756.heap a873 := F3726.keep K3775
          clear F3726
          clear g3719
          clear F3734
          clear g3721
          clear g3722
          clear F3736
          have k3789 : own_G p e below E0 T3756 (mkF m 244 #[vi p0, vi p1, vi p2, vi p3, vi (4 : Int32), vi (4 : Int32), vi md, vd (FP.i2d p0), ss, vd (FP.i2d p1), ss, vr a873, vi (1 : Int32), vd (FP.dsub (FP.i2d p1) (FP.dmul (FP.i2d (3 : Int32)) (FP.ddiv (FP.dsub (FP.i2d p1) (FP.i2d p0)) (FP.i2d (4 : Int32))))), ss, vi (1 : Int32), vd (FP.dsub (FP.i2d p1) (FP.dmul (FP.i2d (2 : Int32)) (FP.ddiv (FP.dsub (FP.i2d p1) (FP.i2d p0)) (FP.i2d (4 : Int32))))), ss, vd (FP.dsub (FP.i2d p1) (FP.dmul (FP.i2d (1 : Int32)) (FP.ddiv (FP.dsub (FP.i2d p1) (FP.i2d p0)) (FP.i2d (4 : Int32))))), ss, uu, uu, uu, uu] [(.double (own_nv (FP.dsub (FP.i2d p1) (FP.dmul (FP.i2d (1 : Int32)) (FP.ddiv (FP.dsub (FP.i2d p1) (FP.i2d p0)) (FP.i2d (4 : Int32))))) (FP.i2d p1) (FP.ddiv (FP.dsub (FP.i2d p1) (FP.i2d p0)) (FP.i2d (4 : Int32))) (1 : Int32)))]) := fun tQ kk => k3755 tQ (st3766.trans kk)
          clear k3755 st3766
          have eq3790 : (own_nv (FP.dsub (FP.i2d p1) (FP.dmul (FP.i2d (1 : Int32)) (FP.ddiv (FP.dsub (FP.i2d p1) (FP.i2d p0)) (FP.i2d (4 : Int32))))) (FP.i2d p1) (FP.ddiv (FP.dsub (FP.i2d p1) (FP.i2d p0)) (FP.i2d (4 : Int32))) (1 : Int32)) = (FP.dsub (FP.i2d p1) (FP.dmul (FP.i2d (0 : Int32)) (FP.ddiv (FP.dsub (FP.i2d p1) (FP.i2d p0)) (FP.i2d (4 : Int32))))) := by rw [own_nv, if_pos (by decide), show (1 : Int32) - 1 = (0 : Int32) by decide]
          have F3791 : fd4 Z T3756.heap a873 (.double (FP.dsub (FP.i2d p1) (FP.dmul (FP.i2d (0 : Int32)) (FP.ddiv (FP.dsub (FP.i2d p1) (FP.i2d p0)) (FP.i2d (4 : Int32)))))) := by rw [← eq3790]; exact g3777
          have eq3792 : (own_nr (1 : Int32)) = (0 : Int32) := by decide
          have F3793 : fd7 Z T3756.heap a873 (.int (0 : Int32)) := by rw [← eq3792]; exact g3780
          have eq3794 : (own_nv (FP.dsub (FP.i2d p1) (FP.dmul (FP.i2d (1 : Int32)) (FP.ddiv (FP.dsub (FP.i2d p1) (FP.i2d p0)) (FP.i2d (4 : Int32))))) (FP.i2d p1) (FP.ddiv (FP.dsub (FP.i2d p1) (FP.i2d p0)) (FP.i2d (4 : Int32))) (1 : Int32)) = (FP.dsub (FP.i2d p1) (FP.dmul (FP.i2d (0 : Int32)) (FP.ddiv (FP.dsub (FP.i2d p1) (FP.i2d p0)) (FP.i2d (4 : Int32))))) := by rw [own_nv, if_pos (by decide), show (1 : Int32) - 1 = (0 : Int32) by decide]
          rw [eq3794] at k3789
          have k3795 : own_G p e below E0 T3756 (mkF m 262 #[vi p0, vi p1, vi p2, vi p3, vi (4 : Int32), vi (4 : Int32), vi md, vd (FP.i2d p0), ss, vd (FP.i2d p1), ss, vr a873, vi (1 : Int32), vd (FP.dsub (FP.i2d p1) (FP.dmul (FP.i2d (3 : Int32)) (FP.ddiv (FP.dsub (FP.i2d p1) (FP.i2d p0)) (FP.i2d (4 : Int32))))), ss, vi (1 : Int32), vd (FP.dsub (FP.i2d p1) (FP.dmul (FP.i2d (2 : Int32)) (FP.ddiv (FP.dsub (FP.i2d p1) (FP.i2d p0)) (FP.i2d (4 : Int32))))), ss, vd (FP.dsub (FP.i2d p1) (FP.dmul (FP.i2d (1 : Int32)) (FP.ddiv (FP.dsub (FP.i2d p1) (FP.i2d p0)) (FP.i2d (4 : Int32))))), ss, vd (FP.dsub (FP.i2d p1) (FP.dmul (FP.i2d (0 : Int32)) (FP.ddiv (FP.dsub (FP.i2d p1) (FP.i2d p0)) (FP.i2d (4 : Int32))))), ss, uu, uu] [(.int (4 : Int32)), (.int md), (.int (4 : Int32)), (.double (FP.i2d p1)), (.double (FP.i2d p0)), (.double (FP.dsub (FP.i2d p1) (FP.dmul (FP.i2d (0 : Int32)) (FP.ddiv (FP.dsub (FP.i2d p1) (FP.i2d p0)) (FP.i2d (4 : Int32))))))]) := by
            intro tQ kk
            refine k3789 tQ ?_
            refine XS.dstore X3760.here hx rfl (hb hby at_244) rfl (l' := #[vi p0, vi p1, vi p2, vi p3, vi (4 : Int32), vi (4 : Int32), vi md, vd (FP.i2d p0), ss, vd (FP.i2d p1), ss, vr a873, vi (1 : Int32), vd (FP.dsub (FP.i2d p1) (FP.dmul (FP.i2d (3 : Int32)) (FP.ddiv (FP.dsub (FP.i2d p1) (FP.i2d p0)) (FP.i2d (4 : Int32))))), ss, vi (1 : Int32), vd (FP.dsub (FP.i2d p1) (FP.dmul (FP.i2d (2 : Int32)) (FP.ddiv (FP.dsub (FP.i2d p1) (FP.i2d p0)) (FP.i2d (4 : Int32))))), ss, vd (FP.dsub (FP.i2d p1) (FP.dmul (FP.i2d (1 : Int32)) (FP.ddiv (FP.dsub (FP.i2d p1) (FP.i2d p0)) (FP.i2d (4 : Int32))))), ss, vd (FP.dsub (FP.i2d p1) (FP.dmul (FP.i2d (0 : Int32)) (FP.ddiv (FP.dsub (FP.i2d p1) (FP.i2d p0)) (FP.i2d (4 : Int32))))), ss, uu, uu]) rfl ?_
            refine XS.iload X3760.here hx rfl (hb hby at_246) rfl ?_
            refine XS.ifNo X3760.here hx rfl (hb hby at_248) rfl (own_if_eqN (by decide)) ?_
            refine XS.dload X3760.here hx rfl (hb hby at_251) rfl ?_
            show Steps p.tables e below (T3756.setTop (mkF m 253 #[vi p0, vi p1, vi p2, vi p3, vi (4 : Int32), vi (4 : Int32), vi md, vd (FP.i2d p0), ss, vd (FP.i2d p1), ss, vr a873, vi (1 : Int32), vd (FP.dsub (FP.i2d p1) (FP.dmul (FP.i2d (3 : Int32)) (FP.ddiv (FP.dsub (FP.i2d p1) (FP.i2d p0)) (FP.i2d (4 : Int32))))), ss, vi (1 : Int32), vd (FP.dsub (FP.i2d p1) (FP.dmul (FP.i2d (2 : Int32)) (FP.ddiv (FP.dsub (FP.i2d p1) (FP.i2d p0)) (FP.i2d (4 : Int32))))), ss, vd (FP.dsub (FP.i2d p1) (FP.dmul (FP.i2d (1 : Int32)) (FP.ddiv (FP.dsub (FP.i2d p1) (FP.i2d p0)) (FP.i2d (4 : Int32))))), ss, vd (FP.dsub (FP.i2d p1) (FP.dmul (FP.i2d (0 : Int32)) (FP.ddiv (FP.dsub (FP.i2d p1) (FP.i2d p0)) (FP.i2d (4 : Int32))))), ss, uu, uu] [(.double (FP.dsub (FP.i2d p1) (FP.dmul (FP.i2d (0 : Int32)) (FP.ddiv (FP.dsub (FP.i2d p1) (FP.i2d p0)) (FP.i2d (4 : Int32))))))])) tQ
            refine XS.dload X3760.here hx rfl (hb hby at_253) rfl ?_
            refine XS.dload X3760.here hx rfl (hb hby at_255) rfl ?_
            refine XS.iload X3760.here hx rfl (hb hby at_257) rfl ?_
            refine XS.iload X3760.here hx rfl (hb hby at_259) rfl ?_
            show Steps p.tables e below (T3756.setTop (mkF m 261 #[vi p0, vi p1, vi p2, vi p3, vi (4 : Int32), vi (4 : Int32), vi md, vd (FP.i2d p0), ss, vd (FP.i2d p1), ss, vr a873, vi (1 : Int32), vd (FP.dsub (FP.i2d p1) (FP.dmul (FP.i2d (3 : Int32)) (FP.ddiv (FP.dsub (FP.i2d p1) (FP.i2d p0)) (FP.i2d (4 : Int32))))), ss, vi (1 : Int32), vd (FP.dsub (FP.i2d p1) (FP.dmul (FP.i2d (2 : Int32)) (FP.ddiv (FP.dsub (FP.i2d p1) (FP.i2d p0)) (FP.i2d (4 : Int32))))), ss, vd (FP.dsub (FP.i2d p1) (FP.dmul (FP.i2d (1 : Int32)) (FP.ddiv (FP.dsub (FP.i2d p1) (FP.i2d p0)) (FP.i2d (4 : Int32))))), ss, vd (FP.dsub (FP.i2d p1) (FP.dmul (FP.i2d (0 : Int32)) (FP.ddiv (FP.dsub (FP.i2d p1) (FP.i2d p0)) (FP.i2d (4 : Int32))))), ss, uu, uu] [(.int md), (.int (4 : Int32)), (.double (FP.i2d p1)), (.double (FP.i2d p0)), (.double (FP.dsub (FP.i2d p1) (FP.dmul (FP.i2d (0 : Int32)) (FP.ddiv (FP.dsub (FP.i2d p1) (FP.i2d p0)) (FP.i2d (4 : Int32))))))])) tQ
            refine XS.iconst X3760.here hx rfl (hb hby at_261) ?_
            exact kk
          clear k3789
          obtain ⟨_, _, ⟨T3796, L3797, kc3798, nc3799⟩, -, X3800, ⟨Lc3801, hQ3802, l3803, y3804, z3805⟩, st3806⟩ := Jvm.LawKit.callS X3760 hx (y := mn16) hown (mvT hZ (tw48 hw)) (mvT hZ (tw49 hw)) (mvT hZ (tw50 hw)) (mvT hZ (tw51 hw)) (by decide) (backOf (W := 2) (rmE l Z a0 hw [] (FP.i2d p0) (FP.i2d p1) (4 : Int32) md (4 : Int32) T3756.heap n0 Z3782 (Fl.i2d_fin p0).noNaN (Fl.i2d_fin p1).noNaN (own_h1 p0 p1) (own_h2 p0 p1 (F := (4 : Int32)) (by decide)) (own_q3 p0 p1 (F := (4 : Int32)) (r := (own_mx 0 ((4 : Int32) - (4 : Int32)))) (by decide) (own_mxb (by decide) (by decide)))) hZ (tw51 hw) (tw50 hw) (by decide) (by decide)) (g := (mkF m 262 #[vi p0, vi p1, vi p2, vi p3, vi (4 : Int32), vi (4 : Int32), vi md, vd (FP.i2d p0), ss, vd (FP.i2d p1), ss, vr a873, vi (1 : Int32), vd (FP.dsub (FP.i2d p1) (FP.dmul (FP.i2d (3 : Int32)) (FP.ddiv (FP.dsub (FP.i2d p1) (FP.i2d p0)) (FP.i2d (4 : Int32))))), ss, vi (1 : Int32), vd (FP.dsub (FP.i2d p1) (FP.dmul (FP.i2d (2 : Int32)) (FP.ddiv (FP.dsub (FP.i2d p1) (FP.i2d p0)) (FP.i2d (4 : Int32))))), ss, vd (FP.dsub (FP.i2d p1) (FP.dmul (FP.i2d (1 : Int32)) (FP.ddiv (FP.dsub (FP.i2d p1) (FP.i2d p0)) (FP.i2d (4 : Int32))))), ss, vd (FP.dsub (FP.i2d p1) (FP.dmul (FP.i2d (0 : Int32)) (FP.ddiv (FP.dsub (FP.i2d p1) (FP.i2d p0)) (FP.i2d (4 : Int32))))), ss, uu, uu] [(.int (4 : Int32)), (.int md), (.int (4 : Int32)), (.double (FP.i2d p1)), (.double (FP.i2d p0)), (.double (FP.dsub (FP.i2d p1) (FP.dmul (FP.i2d (0 : Int32)) (FP.ddiv (FP.dsub (FP.i2d p1) (FP.i2d p0)) (FP.i2d (4 : Int32))))))])) rfl (by rw [hml]; rfl) (argsL := [(.double (FP.i2d p0)), (.double (FP.i2d p1)), (.int (4 : Int32)), (.int md), (.int (4 : Int32))]) (rest := [(.double (FP.dsub (FP.i2d p1) (FP.dmul (FP.i2d (0 : Int32)) (FP.ddiv (FP.dsub (FP.i2d p1) (FP.i2d p0)) (FP.i2d (4 : Int32))))))]) (lenOf pd_21 rfl) rfl (by show 2 * 0 + _ ≤ _; exact Nat.le_of_eq rfl) (hb hby at_262) (fun _ _ => ⟨rfl, rfl, (by decide : 1 + 0 ≤ _), (by decide : 5 + 0 ≤ _)⟩)
          dsimp only [Pt.U, Pt.locs, Pt.cells, Pt.slots] at X3800 l3803 y3804 z3805 st3806 hQ3802
          subst l3803 y3804 z3805
          obtain ⟨rfl, N3807, e3808⟩ := hQ3802
          have N3810 := Fr.app N3781 N3807
          have k3811 : own_G p e below E0 T3796 (mkF m 265 #[vi p0, vi p1, vi p2, vi p3, vi (4 : Int32), vi (4 : Int32), vi md, vd (FP.i2d p0), ss, vd (FP.i2d p1), ss, vr a873, vi (1 : Int32), vd (FP.dsub (FP.i2d p1) (FP.dmul (FP.i2d (3 : Int32)) (FP.ddiv (FP.dsub (FP.i2d p1) (FP.i2d p0)) (FP.i2d (4 : Int32))))), ss, vi (1 : Int32), vd (FP.dsub (FP.i2d p1) (FP.dmul (FP.i2d (2 : Int32)) (FP.ddiv (FP.dsub (FP.i2d p1) (FP.i2d p0)) (FP.i2d (4 : Int32))))), ss, vd (FP.dsub (FP.i2d p1) (FP.dmul (FP.i2d (1 : Int32)) (FP.ddiv (FP.dsub (FP.i2d p1) (FP.i2d p0)) (FP.i2d (4 : Int32))))), ss, vd (FP.dsub (FP.i2d p1) (FP.dmul (FP.i2d (0 : Int32)) (FP.ddiv (FP.dsub (FP.i2d p1) (FP.i2d p0)) (FP.i2d (4 : Int32))))), ss, uu, uu] [(.double (own_exp (FP.i2d p0) (FP.i2d p1) (4 : Int32) md (4 : Int32))), (.double (FP.dsub (FP.i2d p1) (FP.dmul (FP.i2d (0 : Int32)) (FP.ddiv (FP.dsub (FP.i2d p1) (FP.i2d p0)) (FP.i2d (4 : Int32))))))]) := fun tQ kk => k3795 tQ (st3806 _ kk)
          clear k3795 st3806
          have k3812 : own_G p e below E0 T3796 (mkF m 278 #[vi p0, vi p1, vi p2, vi p3, vi (4 : Int32), vi (4 : Int32), vi md, vd (FP.i2d p0), ss, vd (FP.i2d p1), ss, vr a873, vi (1 : Int32), vd (FP.dsub (FP.i2d p1) (FP.dmul (FP.i2d (3 : Int32)) (FP.ddiv (FP.dsub (FP.i2d p1) (FP.i2d p0)) (FP.i2d (4 : Int32))))), ss, vi (1 : Int32), vd (FP.dsub (FP.i2d p1) (FP.dmul (FP.i2d (2 : Int32)) (FP.ddiv (FP.dsub (FP.i2d p1) (FP.i2d p0)) (FP.i2d (4 : Int32))))), ss, vd (FP.dsub (FP.i2d p1) (FP.dmul (FP.i2d (1 : Int32)) (FP.ddiv (FP.dsub (FP.i2d p1) (FP.i2d p0)) (FP.i2d (4 : Int32))))), ss, vd (FP.dsub (FP.i2d p1) (FP.dmul (FP.i2d (0 : Int32)) (FP.ddiv (FP.dsub (FP.i2d p1) (FP.i2d p0)) (FP.i2d (4 : Int32))))), ss, uu, uu] [(.ref a873)]) := by
            intro tQ kk
            refine k3811 tQ ?_
            refine XS.dcmpS (v := (0 : Int32)) X3800.here hx rfl (hb hby at_265) rfl (own_eZ p0 p1 cm1 cm2 cE (show own_mx 0 ((4 : Int32) - (4 : Int32)) = 0 by decide) (by decide)) ?_
            refine XS.ifNo X3800.here hx rfl (hb hby at_266) rfl (own_if_neN (by decide)) ?_
            refine XS.iconst X3800.here hx rfl (hb hby at_269) ?_
            refine XS.goto X3800.here hx rfl (pc0 := 270) (pc' := 274) rfl (hb hby at_270) (by decide) (by decide) ?_
            show Steps p.tables e below (T3796.setTop (mkF m 274 #[vi p0, vi p1, vi p2, vi p3, vi (4 : Int32), vi (4 : Int32), vi md, vd (FP.i2d p0), ss, vd (FP.i2d p1), ss, vr a873, vi (1 : Int32), vd (FP.dsub (FP.i2d p1) (FP.dmul (FP.i2d (3 : Int32)) (FP.ddiv (FP.dsub (FP.i2d p1) (FP.i2d p0)) (FP.i2d (4 : Int32))))), ss, vi (1 : Int32), vd (FP.dsub (FP.i2d p1) (FP.dmul (FP.i2d (2 : Int32)) (FP.ddiv (FP.dsub (FP.i2d p1) (FP.i2d p0)) (FP.i2d (4 : Int32))))), ss, vd (FP.dsub (FP.i2d p1) (FP.dmul (FP.i2d (1 : Int32)) (FP.ddiv (FP.dsub (FP.i2d p1) (FP.i2d p0)) (FP.i2d (4 : Int32))))), ss, vd (FP.dsub (FP.i2d p1) (FP.dmul (FP.i2d (0 : Int32)) (FP.ddiv (FP.dsub (FP.i2d p1) (FP.i2d p0)) (FP.i2d (4 : Int32))))), ss, uu, uu] [(.int (1 : Int32))])) tQ
            refine XS.istore X3800.here hx rfl (hb hby at_274) rfl (l' := #[vi p0, vi p1, vi p2, vi p3, vi (4 : Int32), vi (4 : Int32), vi md, vd (FP.i2d p0), ss, vd (FP.i2d p1), ss, vr a873, vi (1 : Int32), vd (FP.dsub (FP.i2d p1) (FP.dmul (FP.i2d (3 : Int32)) (FP.ddiv (FP.dsub (FP.i2d p1) (FP.i2d p0)) (FP.i2d (4 : Int32))))), ss, vi (1 : Int32), vd (FP.dsub (FP.i2d p1) (FP.dmul (FP.i2d (2 : Int32)) (FP.ddiv (FP.dsub (FP.i2d p1) (FP.i2d p0)) (FP.i2d (4 : Int32))))), ss, vd (FP.dsub (FP.i2d p1) (FP.dmul (FP.i2d (1 : Int32)) (FP.ddiv (FP.dsub (FP.i2d p1) (FP.i2d p0)) (FP.i2d (4 : Int32))))), ss, vd (FP.dsub (FP.i2d p1) (FP.dmul (FP.i2d (0 : Int32)) (FP.ddiv (FP.dsub (FP.i2d p1) (FP.i2d p0)) (FP.i2d (4 : Int32))))), ss, uu, uu]) rfl ?_
            refine XS.aload X3800.here hx rfl (hb hby at_276) rfl rfl ?_
            exact kk
          clear k3811
          obtain ⟨cq3824, kq3825, qa3826, qb3827, qc3828⟩ := isOf hZ e3808 F3783
          obtain ⟨_, _, ⟨T3813, L3814, kc3815, nc3816⟩, -, X3817, ⟨Lc3818, hQ3819, l3820, y3821, z3822⟩, st3823⟩ := X3800.virtualBack hx (y := mn13) (z := mn13) hown (mvT hZ (tw43 hw)) (mvT hZ (tw44 hw)) (notFace_of_selects (args := #[]) (mvT hZ (tw46 hw))) (mvT hZ (tw46 hw)) (mvT hZ (tw45 hw)) (by decide) (backOf (W := 0) (rmN l Z a0 hw [] a873 (4 : Int32) (FP.dsub (FP.i2d p1) (FP.dmul (FP.i2d (0 : Int32)) (FP.ddiv (FP.dsub (FP.i2d p1) (FP.i2d p0)) (FP.i2d (4 : Int32))))) (FP.i2d p1) (FP.ddiv (FP.dsub (FP.i2d p1) (FP.i2d p0)) (FP.i2d (4 : Int32))) (0 : Int32) T3756.heap n0 Z3782 F3783 g3776 F3791 g3778 g3779 F3793 ge875 (fun z => absurd z (by decide))) hZ (tw47 hw) (tw7 hw) (by decide) (by decide)) qa3826 qc3828 (g := (mkF m 278 #[vi p0, vi p1, vi p2, vi p3, vi (4 : Int32), vi (4 : Int32), vi md, vd (FP.i2d p0), ss, vd (FP.i2d p1), ss, vr a873, vi (1 : Int32), vd (FP.dsub (FP.i2d p1) (FP.dmul (FP.i2d (3 : Int32)) (FP.ddiv (FP.dsub (FP.i2d p1) (FP.i2d p0)) (FP.i2d (4 : Int32))))), ss, vi (1 : Int32), vd (FP.dsub (FP.i2d p1) (FP.dmul (FP.i2d (2 : Int32)) (FP.ddiv (FP.dsub (FP.i2d p1) (FP.i2d p0)) (FP.i2d (4 : Int32))))), ss, vd (FP.dsub (FP.i2d p1) (FP.dmul (FP.i2d (1 : Int32)) (FP.ddiv (FP.dsub (FP.i2d p1) (FP.i2d p0)) (FP.i2d (4 : Int32))))), ss, vd (FP.dsub (FP.i2d p1) (FP.dmul (FP.i2d (0 : Int32)) (FP.ddiv (FP.dsub (FP.i2d p1) (FP.i2d p0)) (FP.i2d (4 : Int32))))), ss, uu, uu] [(.ref a873)])) rfl (by rw [hml]; rfl) (Steps.refl _) (argsL := []) (rest := []) (lenOf pd_20 rfl) rfl (by show 2 * 0 + _ ≤ _; exact Nat.le_of_eq rfl) (hb hby at_278) (fun _ _ => ⟨rfl, e3808, (by decide : 1 + 0 ≤ _), (by decide : 5 + 0 ≤ _)⟩)
          dsimp only [Pt.U, Pt.locs, Pt.cells, Pt.slots] at X3817 l3820 y3821 z3822 st3823 hQ3819
          subst l3820 y3821 z3822
          obtain ⟨rfl, N3829, K3832, g3833, g3834, g3835, g3836, g3837⟩ := hQ3819
          have N3838 := Fr.app N3810 N3829
          have Z3839 : n0 ≤ T3813.heap.size := Nat.le_trans Z3782 K3832.1
          have F3840 : xa8 Z T3813.heap a873 := F3783.keep K3832
          clear F3783
          clear g3776
          clear F3791
          clear g3778
          clear g3779
          clear F3793
          have k3846 : own_G p e below E0 T3813 (mkF m 281 #[vi p0, vi p1, vi p2, vi p3, vi (4 : Int32), vi (4 : Int32), vi md, vd (FP.i2d p0), ss, vd (FP.i2d p1), ss, vr a873, vi (1 : Int32), vd (FP.dsub (FP.i2d p1) (FP.dmul (FP.i2d (3 : Int32)) (FP.ddiv (FP.dsub (FP.i2d p1) (FP.i2d p0)) (FP.i2d (4 : Int32))))), ss, vi (1 : Int32), vd (FP.dsub (FP.i2d p1) (FP.dmul (FP.i2d (2 : Int32)) (FP.ddiv (FP.dsub (FP.i2d p1) (FP.i2d p0)) (FP.i2d (4 : Int32))))), ss, vd (FP.dsub (FP.i2d p1) (FP.dmul (FP.i2d (1 : Int32)) (FP.ddiv (FP.dsub (FP.i2d p1) (FP.i2d p0)) (FP.i2d (4 : Int32))))), ss, vd (FP.dsub (FP.i2d p1) (FP.dmul (FP.i2d (0 : Int32)) (FP.ddiv (FP.dsub (FP.i2d p1) (FP.i2d p0)) (FP.i2d (4 : Int32))))), ss, uu, uu] [(.double (own_nv (FP.dsub (FP.i2d p1) (FP.dmul (FP.i2d (0 : Int32)) (FP.ddiv (FP.dsub (FP.i2d p1) (FP.i2d p0)) (FP.i2d (4 : Int32))))) (FP.i2d p1) (FP.ddiv (FP.dsub (FP.i2d p1) (FP.i2d p0)) (FP.i2d (4 : Int32))) (0 : Int32)))]) := fun tQ kk => k3812 tQ (st3823.trans kk)
          clear k3812 st3823
          have eq3847 : (own_nv (FP.dsub (FP.i2d p1) (FP.dmul (FP.i2d (0 : Int32)) (FP.ddiv (FP.dsub (FP.i2d p1) (FP.i2d p0)) (FP.i2d (4 : Int32))))) (FP.i2d p1) (FP.ddiv (FP.dsub (FP.i2d p1) (FP.i2d p0)) (FP.i2d (4 : Int32))) (0 : Int32)) = (FP.dsub (FP.i2d p1) (FP.dmul (FP.i2d (0 : Int32)) (FP.ddiv (FP.dsub (FP.i2d p1) (FP.i2d p0)) (FP.i2d (4 : Int32))))) := by rw [own_nv, if_neg (by decide)]
          have F3848 : fd4 Z T3813.heap a873 (.double (FP.dsub (FP.i2d p1) (FP.dmul (FP.i2d (0 : Int32)) (FP.ddiv (FP.dsub (FP.i2d p1) (FP.i2d p0)) (FP.i2d (4 : Int32)))))) := by rw [← eq3847]; exact g3834
          have eq3849 : (own_nr (0 : Int32)) = (0 : Int32) := by decide
          have F3850 : fd7 Z T3813.heap a873 (.int (0 : Int32)) := by rw [← eq3849]; exact g3837
          have eq3851 : (own_nv (FP.dsub (FP.i2d p1) (FP.dmul (FP.i2d (0 : Int32)) (FP.ddiv (FP.dsub (FP.i2d p1) (FP.i2d p0)) (FP.i2d (4 : Int32))))) (FP.i2d p1) (FP.ddiv (FP.dsub (FP.i2d p1) (FP.i2d p0)) (FP.i2d (4 : Int32))) (0 : Int32)) = (FP.dsub (FP.i2d p1) (FP.dmul (FP.i2d (0 : Int32)) (FP.ddiv (FP.dsub (FP.i2d p1) (FP.i2d p0)) (FP.i2d (4 : Int32))))) := by rw [own_nv, if_neg (by decide)]
          rw [eq3851] at k3846
          have k3852 : own_G p e below E0 T3813 (mkF m 299 #[vi p0, vi p1, vi p2, vi p3, vi (4 : Int32), vi (4 : Int32), vi md, vd (FP.i2d p0), ss, vd (FP.i2d p1), ss, vr a873, vi (1 : Int32), vd (FP.dsub (FP.i2d p1) (FP.dmul (FP.i2d (3 : Int32)) (FP.ddiv (FP.dsub (FP.i2d p1) (FP.i2d p0)) (FP.i2d (4 : Int32))))), ss, vi (1 : Int32), vd (FP.dsub (FP.i2d p1) (FP.dmul (FP.i2d (2 : Int32)) (FP.ddiv (FP.dsub (FP.i2d p1) (FP.i2d p0)) (FP.i2d (4 : Int32))))), ss, vd (FP.dsub (FP.i2d p1) (FP.dmul (FP.i2d (1 : Int32)) (FP.ddiv (FP.dsub (FP.i2d p1) (FP.i2d p0)) (FP.i2d (4 : Int32))))), ss, vd (FP.dsub (FP.i2d p1) (FP.dmul (FP.i2d (0 : Int32)) (FP.ddiv (FP.dsub (FP.i2d p1) (FP.i2d p0)) (FP.i2d (4 : Int32))))), ss, vd (FP.dsub (FP.i2d p1) (FP.dmul (FP.i2d (0 : Int32)) (FP.ddiv (FP.dsub (FP.i2d p1) (FP.i2d p0)) (FP.i2d (4 : Int32))))), ss] [(.int (5 : Int32)), (.int md), (.int (4 : Int32)), (.double (FP.i2d p1)), (.double (FP.i2d p0)), (.double (FP.dsub (FP.i2d p1) (FP.dmul (FP.i2d (0 : Int32)) (FP.ddiv (FP.dsub (FP.i2d p1) (FP.i2d p0)) (FP.i2d (4 : Int32))))))]) := by
            intro tQ kk
            refine k3846 tQ ?_
            refine XS.dstore X3817.here hx rfl (hb hby at_281) rfl (l' := #[vi p0, vi p1, vi p2, vi p3, vi (4 : Int32), vi (4 : Int32), vi md, vd (FP.i2d p0), ss, vd (FP.i2d p1), ss, vr a873, vi (1 : Int32), vd (FP.dsub (FP.i2d p1) (FP.dmul (FP.i2d (3 : Int32)) (FP.ddiv (FP.dsub (FP.i2d p1) (FP.i2d p0)) (FP.i2d (4 : Int32))))), ss, vi (1 : Int32), vd (FP.dsub (FP.i2d p1) (FP.dmul (FP.i2d (2 : Int32)) (FP.ddiv (FP.dsub (FP.i2d p1) (FP.i2d p0)) (FP.i2d (4 : Int32))))), ss, vd (FP.dsub (FP.i2d p1) (FP.dmul (FP.i2d (1 : Int32)) (FP.ddiv (FP.dsub (FP.i2d p1) (FP.i2d p0)) (FP.i2d (4 : Int32))))), ss, vd (FP.dsub (FP.i2d p1) (FP.dmul (FP.i2d (0 : Int32)) (FP.ddiv (FP.dsub (FP.i2d p1) (FP.i2d p0)) (FP.i2d (4 : Int32))))), ss, vd (FP.dsub (FP.i2d p1) (FP.dmul (FP.i2d (0 : Int32)) (FP.ddiv (FP.dsub (FP.i2d p1) (FP.i2d p0)) (FP.i2d (4 : Int32))))), ss]) rfl ?_
            refine XS.iload X3817.here hx rfl (hb hby at_283) rfl ?_
            refine XS.ifNo X3817.here hx rfl (hb hby at_285) rfl (own_if_eqN (by decide)) ?_
            refine XS.dload X3817.here hx rfl (hb hby at_288) rfl ?_
            show Steps p.tables e below (T3813.setTop (mkF m 290 #[vi p0, vi p1, vi p2, vi p3, vi (4 : Int32), vi (4 : Int32), vi md, vd (FP.i2d p0), ss, vd (FP.i2d p1), ss, vr a873, vi (1 : Int32), vd (FP.dsub (FP.i2d p1) (FP.dmul (FP.i2d (3 : Int32)) (FP.ddiv (FP.dsub (FP.i2d p1) (FP.i2d p0)) (FP.i2d (4 : Int32))))), ss, vi (1 : Int32), vd (FP.dsub (FP.i2d p1) (FP.dmul (FP.i2d (2 : Int32)) (FP.ddiv (FP.dsub (FP.i2d p1) (FP.i2d p0)) (FP.i2d (4 : Int32))))), ss, vd (FP.dsub (FP.i2d p1) (FP.dmul (FP.i2d (1 : Int32)) (FP.ddiv (FP.dsub (FP.i2d p1) (FP.i2d p0)) (FP.i2d (4 : Int32))))), ss, vd (FP.dsub (FP.i2d p1) (FP.dmul (FP.i2d (0 : Int32)) (FP.ddiv (FP.dsub (FP.i2d p1) (FP.i2d p0)) (FP.i2d (4 : Int32))))), ss, vd (FP.dsub (FP.i2d p1) (FP.dmul (FP.i2d (0 : Int32)) (FP.ddiv (FP.dsub (FP.i2d p1) (FP.i2d p0)) (FP.i2d (4 : Int32))))), ss] [(.double (FP.dsub (FP.i2d p1) (FP.dmul (FP.i2d (0 : Int32)) (FP.ddiv (FP.dsub (FP.i2d p1) (FP.i2d p0)) (FP.i2d (4 : Int32))))))])) tQ
            refine XS.dload X3817.here hx rfl (hb hby at_290) rfl ?_
            refine XS.dload X3817.here hx rfl (hb hby at_292) rfl ?_
            refine XS.iload X3817.here hx rfl (hb hby at_294) rfl ?_
            refine XS.iload X3817.here hx rfl (hb hby at_296) rfl ?_
            show Steps p.tables e below (T3813.setTop (mkF m 298 #[vi p0, vi p1, vi p2, vi p3, vi (4 : Int32), vi (4 : Int32), vi md, vd (FP.i2d p0), ss, vd (FP.i2d p1), ss, vr a873, vi (1 : Int32), vd (FP.dsub (FP.i2d p1) (FP.dmul (FP.i2d (3 : Int32)) (FP.ddiv (FP.dsub (FP.i2d p1) (FP.i2d p0)) (FP.i2d (4 : Int32))))), ss, vi (1 : Int32), vd (FP.dsub (FP.i2d p1) (FP.dmul (FP.i2d (2 : Int32)) (FP.ddiv (FP.dsub (FP.i2d p1) (FP.i2d p0)) (FP.i2d (4 : Int32))))), ss, vd (FP.dsub (FP.i2d p1) (FP.dmul (FP.i2d (1 : Int32)) (FP.ddiv (FP.dsub (FP.i2d p1) (FP.i2d p0)) (FP.i2d (4 : Int32))))), ss, vd (FP.dsub (FP.i2d p1) (FP.dmul (FP.i2d (0 : Int32)) (FP.ddiv (FP.dsub (FP.i2d p1) (FP.i2d p0)) (FP.i2d (4 : Int32))))), ss, vd (FP.dsub (FP.i2d p1) (FP.dmul (FP.i2d (0 : Int32)) (FP.ddiv (FP.dsub (FP.i2d p1) (FP.i2d p0)) (FP.i2d (4 : Int32))))), ss] [(.int md), (.int (4 : Int32)), (.double (FP.i2d p1)), (.double (FP.i2d p0)), (.double (FP.dsub (FP.i2d p1) (FP.dmul (FP.i2d (0 : Int32)) (FP.ddiv (FP.dsub (FP.i2d p1) (FP.i2d p0)) (FP.i2d (4 : Int32))))))])) tQ
            refine XS.iconst X3817.here hx rfl (hb hby at_298) ?_
            exact kk
          clear k3846
          obtain ⟨_, _, ⟨T3853, L3854, kc3855, nc3856⟩, -, X3857, ⟨Lc3858, hQ3859, l3860, y3861, z3862⟩, st3863⟩ := Jvm.LawKit.callS X3817 hx (y := mn16) hown (mvT hZ (tw48 hw)) (mvT hZ (tw49 hw)) (mvT hZ (tw50 hw)) (mvT hZ (tw51 hw)) (by decide) (backOf (W := 2) (rmE l Z a0 hw [] (FP.i2d p0) (FP.i2d p1) (4 : Int32) md (5 : Int32) T3813.heap n0 Z3839 (Fl.i2d_fin p0).noNaN (Fl.i2d_fin p1).noNaN (own_h1 p0 p1) (own_h2 p0 p1 (F := (4 : Int32)) (by decide)) (own_q3 p0 p1 (F := (4 : Int32)) (r := (own_mx 0 ((4 : Int32) - (5 : Int32)))) (by decide) (own_mxb (by decide) (by decide)))) hZ (tw51 hw) (tw50 hw) (by decide) (by decide)) (g := (mkF m 299 #[vi p0, vi p1, vi p2, vi p3, vi (4 : Int32), vi (4 : Int32), vi md, vd (FP.i2d p0), ss, vd (FP.i2d p1), ss, vr a873, vi (1 : Int32), vd (FP.dsub (FP.i2d p1) (FP.dmul (FP.i2d (3 : Int32)) (FP.ddiv (FP.dsub (FP.i2d p1) (FP.i2d p0)) (FP.i2d (4 : Int32))))), ss, vi (1 : Int32), vd (FP.dsub (FP.i2d p1) (FP.dmul (FP.i2d (2 : Int32)) (FP.ddiv (FP.dsub (FP.i2d p1) (FP.i2d p0)) (FP.i2d (4 : Int32))))), ss, vd (FP.dsub (FP.i2d p1) (FP.dmul (FP.i2d (1 : Int32)) (FP.ddiv (FP.dsub (FP.i2d p1) (FP.i2d p0)) (FP.i2d (4 : Int32))))), ss, vd (FP.dsub (FP.i2d p1) (FP.dmul (FP.i2d (0 : Int32)) (FP.ddiv (FP.dsub (FP.i2d p1) (FP.i2d p0)) (FP.i2d (4 : Int32))))), ss, vd (FP.dsub (FP.i2d p1) (FP.dmul (FP.i2d (0 : Int32)) (FP.ddiv (FP.dsub (FP.i2d p1) (FP.i2d p0)) (FP.i2d (4 : Int32))))), ss] [(.int (5 : Int32)), (.int md), (.int (4 : Int32)), (.double (FP.i2d p1)), (.double (FP.i2d p0)), (.double (FP.dsub (FP.i2d p1) (FP.dmul (FP.i2d (0 : Int32)) (FP.ddiv (FP.dsub (FP.i2d p1) (FP.i2d p0)) (FP.i2d (4 : Int32))))))])) rfl (by rw [hml]; rfl) (argsL := [(.double (FP.i2d p0)), (.double (FP.i2d p1)), (.int (4 : Int32)), (.int md), (.int (5 : Int32))]) (rest := [(.double (FP.dsub (FP.i2d p1) (FP.dmul (FP.i2d (0 : Int32)) (FP.ddiv (FP.dsub (FP.i2d p1) (FP.i2d p0)) (FP.i2d (4 : Int32))))))]) (lenOf pd_21 rfl) rfl (by show 2 * 0 + _ ≤ _; exact Nat.le_of_eq rfl) (hb hby at_299) (fun _ _ => ⟨rfl, rfl, (by decide : 1 + 0 ≤ _), (by decide : 5 + 0 ≤ _)⟩)
          dsimp only [Pt.U, Pt.locs, Pt.cells, Pt.slots] at X3857 l3860 y3861 z3862 st3863 hQ3859
          subst l3860 y3861 z3862
          obtain ⟨rfl, N3864, e3865⟩ := hQ3859
          have N3867 := Fr.app N3838 N3864
          have k3868 : own_G p e below E0 T3853 (mkF m 302 #[vi p0, vi p1, vi p2, vi p3, vi (4 : Int32), vi (4 : Int32), vi md, vd (FP.i2d p0), ss, vd (FP.i2d p1), ss, vr a873, vi (1 : Int32), vd (FP.dsub (FP.i2d p1) (FP.dmul (FP.i2d (3 : Int32)) (FP.ddiv (FP.dsub (FP.i2d p1) (FP.i2d p0)) (FP.i2d (4 : Int32))))), ss, vi (1 : Int32), vd (FP.dsub (FP.i2d p1) (FP.dmul (FP.i2d (2 : Int32)) (FP.ddiv (FP.dsub (FP.i2d p1) (FP.i2d p0)) (FP.i2d (4 : Int32))))), ss, vd (FP.dsub (FP.i2d p1) (FP.dmul (FP.i2d (1 : Int32)) (FP.ddiv (FP.dsub (FP.i2d p1) (FP.i2d p0)) (FP.i2d (4 : Int32))))), ss, vd (FP.dsub (FP.i2d p1) (FP.dmul (FP.i2d (0 : Int32)) (FP.ddiv (FP.dsub (FP.i2d p1) (FP.i2d p0)) (FP.i2d (4 : Int32))))), ss, vd (FP.dsub (FP.i2d p1) (FP.dmul (FP.i2d (0 : Int32)) (FP.ddiv (FP.dsub (FP.i2d p1) (FP.i2d p0)) (FP.i2d (4 : Int32))))), ss] [(.double (own_exp (FP.i2d p0) (FP.i2d p1) (4 : Int32) md (5 : Int32))), (.double (FP.dsub (FP.i2d p1) (FP.dmul (FP.i2d (0 : Int32)) (FP.ddiv (FP.dsub (FP.i2d p1) (FP.i2d p0)) (FP.i2d (4 : Int32))))))]) := fun tQ kk => k3852 tQ (st3863 _ kk)
          clear k3852 st3863
          have k3869 : own_G p e below E0 T3853 (mkF m 353 #[vi p0, vi p1, vi p2, vi p3, vi (4 : Int32), vi (4 : Int32), vi md, vd (FP.i2d p0), ss, vd (FP.i2d p1), ss, vr a873, vi (1 : Int32), vd (FP.dsub (FP.i2d p1) (FP.dmul (FP.i2d (3 : Int32)) (FP.ddiv (FP.dsub (FP.i2d p1) (FP.i2d p0)) (FP.i2d (4 : Int32))))), ss, vi (1 : Int32), vd (FP.dsub (FP.i2d p1) (FP.dmul (FP.i2d (2 : Int32)) (FP.ddiv (FP.dsub (FP.i2d p1) (FP.i2d p0)) (FP.i2d (4 : Int32))))), ss, vd (FP.dsub (FP.i2d p1) (FP.dmul (FP.i2d (1 : Int32)) (FP.ddiv (FP.dsub (FP.i2d p1) (FP.i2d p0)) (FP.i2d (4 : Int32))))), ss, vd (FP.dsub (FP.i2d p1) (FP.dmul (FP.i2d (0 : Int32)) (FP.ddiv (FP.dsub (FP.i2d p1) (FP.i2d p0)) (FP.i2d (4 : Int32))))), ss, vd (FP.dsub (FP.i2d p1) (FP.dmul (FP.i2d (0 : Int32)) (FP.ddiv (FP.dsub (FP.i2d p1) (FP.i2d p0)) (FP.i2d (4 : Int32))))), ss] [(.ref a873)]) := by
            intro tQ kk
            refine k3868 tQ ?_
            refine XS.dcmpS (v := (0 : Int32)) X3857.here hx rfl (hb hby at_302) rfl (own_eZ p0 p1 cm1 cm2 cE (show own_mx 0 ((4 : Int32) - (5 : Int32)) = 0 by decide) (by decide)) ?_
            refine XS.ifNo X3857.here hx rfl (hb hby at_303) rfl (own_if_neN (by decide)) ?_
            refine XS.iconst X3857.here hx rfl (hb hby at_306) ?_
            refine XS.goto X3857.here hx rfl (pc0 := 307) (pc' := 311) rfl (hb hby at_307) (by decide) (by decide) ?_
            show Steps p.tables e below (T3853.setTop (mkF m 311 #[vi p0, vi p1, vi p2, vi p3, vi (4 : Int32), vi (4 : Int32), vi md, vd (FP.i2d p0), ss, vd (FP.i2d p1), ss, vr a873, vi (1 : Int32), vd (FP.dsub (FP.i2d p1) (FP.dmul (FP.i2d (3 : Int32)) (FP.ddiv (FP.dsub (FP.i2d p1) (FP.i2d p0)) (FP.i2d (4 : Int32))))), ss, vi (1 : Int32), vd (FP.dsub (FP.i2d p1) (FP.dmul (FP.i2d (2 : Int32)) (FP.ddiv (FP.dsub (FP.i2d p1) (FP.i2d p0)) (FP.i2d (4 : Int32))))), ss, vd (FP.dsub (FP.i2d p1) (FP.dmul (FP.i2d (1 : Int32)) (FP.ddiv (FP.dsub (FP.i2d p1) (FP.i2d p0)) (FP.i2d (4 : Int32))))), ss, vd (FP.dsub (FP.i2d p1) (FP.dmul (FP.i2d (0 : Int32)) (FP.ddiv (FP.dsub (FP.i2d p1) (FP.i2d p0)) (FP.i2d (4 : Int32))))), ss, vd (FP.dsub (FP.i2d p1) (FP.dmul (FP.i2d (0 : Int32)) (FP.ddiv (FP.dsub (FP.i2d p1) (FP.i2d p0)) (FP.i2d (4 : Int32))))), ss] [(.int (1 : Int32))])) tQ
            refine XS.istore X3857.here hx rfl (hb hby at_311) rfl (l' := #[vi p0, vi p1, vi p2, vi p3, vi (4 : Int32), vi (4 : Int32), vi md, vd (FP.i2d p0), ss, vd (FP.i2d p1), ss, vr a873, vi (1 : Int32), vd (FP.dsub (FP.i2d p1) (FP.dmul (FP.i2d (3 : Int32)) (FP.ddiv (FP.dsub (FP.i2d p1) (FP.i2d p0)) (FP.i2d (4 : Int32))))), ss, vi (1 : Int32), vd (FP.dsub (FP.i2d p1) (FP.dmul (FP.i2d (2 : Int32)) (FP.ddiv (FP.dsub (FP.i2d p1) (FP.i2d p0)) (FP.i2d (4 : Int32))))), ss, vd (FP.dsub (FP.i2d p1) (FP.dmul (FP.i2d (1 : Int32)) (FP.ddiv (FP.dsub (FP.i2d p1) (FP.i2d p0)) (FP.i2d (4 : Int32))))), ss, vd (FP.dsub (FP.i2d p1) (FP.dmul (FP.i2d (0 : Int32)) (FP.ddiv (FP.dsub (FP.i2d p1) (FP.i2d p0)) (FP.i2d (4 : Int32))))), ss, vd (FP.dsub (FP.i2d p1) (FP.dmul (FP.i2d (0 : Int32)) (FP.ddiv (FP.dsub (FP.i2d p1) (FP.i2d p0)) (FP.i2d (4 : Int32))))), ss]) rfl ?_
            refine XS.iload X3857.here hx rfl (hb hby at_313) rfl ?_
            refine XS.ifNo X3857.here hx rfl (hb hby at_315) rfl (own_if_eqN (by decide)) ?_
            refine XS.dload X3857.here hx rfl (hb hby at_318) rfl ?_
            show Steps p.tables e below (T3853.setTop (mkF m 320 #[vi p0, vi p1, vi p2, vi p3, vi (4 : Int32), vi (4 : Int32), vi md, vd (FP.i2d p0), ss, vd (FP.i2d p1), ss, vr a873, vi (1 : Int32), vd (FP.dsub (FP.i2d p1) (FP.dmul (FP.i2d (3 : Int32)) (FP.ddiv (FP.dsub (FP.i2d p1) (FP.i2d p0)) (FP.i2d (4 : Int32))))), ss, vi (1 : Int32), vd (FP.dsub (FP.i2d p1) (FP.dmul (FP.i2d (2 : Int32)) (FP.ddiv (FP.dsub (FP.i2d p1) (FP.i2d p0)) (FP.i2d (4 : Int32))))), ss, vd (FP.dsub (FP.i2d p1) (FP.dmul (FP.i2d (1 : Int32)) (FP.ddiv (FP.dsub (FP.i2d p1) (FP.i2d p0)) (FP.i2d (4 : Int32))))), ss, vd (FP.dsub (FP.i2d p1) (FP.dmul (FP.i2d (0 : Int32)) (FP.ddiv (FP.dsub (FP.i2d p1) (FP.i2d p0)) (FP.i2d (4 : Int32))))), ss, vd (FP.dsub (FP.i2d p1) (FP.dmul (FP.i2d (0 : Int32)) (FP.ddiv (FP.dsub (FP.i2d p1) (FP.i2d p0)) (FP.i2d (4 : Int32))))), ss] [(.double (FP.dsub (FP.i2d p1) (FP.dmul (FP.i2d (0 : Int32)) (FP.ddiv (FP.dsub (FP.i2d p1) (FP.i2d p0)) (FP.i2d (4 : Int32))))))])) tQ
            refine XS.dload X3857.here hx rfl (hb hby at_320) rfl ?_
            refine XS.dcmpS (v := (0 : Int32)) X3857.here hx rfl (hb hby at_322) rfl (own_tz p0 p1 (F := (4 : Int32)) (by decide)) ?_
            refine XS.ifYes X3857.here hx rfl (pc0 := 323) (pc' := 339) rfl (hb hby at_323) rfl (own_if_eqY (by decide)) (by decide) (by decide) ?_
            refine XS.iconst X3857.here hx rfl (hb hby at_339) ?_
            show Steps p.tables e below (T3853.setTop (mkF m 340 #[vi p0, vi p1, vi p2, vi p3, vi (4 : Int32), vi (4 : Int32), vi md, vd (FP.i2d p0), ss, vd (FP.i2d p1), ss, vr a873, vi (1 : Int32), vd (FP.dsub (FP.i2d p1) (FP.dmul (FP.i2d (3 : Int32)) (FP.ddiv (FP.dsub (FP.i2d p1) (FP.i2d p0)) (FP.i2d (4 : Int32))))), ss, vi (1 : Int32), vd (FP.dsub (FP.i2d p1) (FP.dmul (FP.i2d (2 : Int32)) (FP.ddiv (FP.dsub (FP.i2d p1) (FP.i2d p0)) (FP.i2d (4 : Int32))))), ss, vd (FP.dsub (FP.i2d p1) (FP.dmul (FP.i2d (1 : Int32)) (FP.ddiv (FP.dsub (FP.i2d p1) (FP.i2d p0)) (FP.i2d (4 : Int32))))), ss, vd (FP.dsub (FP.i2d p1) (FP.dmul (FP.i2d (0 : Int32)) (FP.ddiv (FP.dsub (FP.i2d p1) (FP.i2d p0)) (FP.i2d (4 : Int32))))), ss, vd (FP.dsub (FP.i2d p1) (FP.dmul (FP.i2d (0 : Int32)) (FP.ddiv (FP.dsub (FP.i2d p1) (FP.i2d p0)) (FP.i2d (4 : Int32))))), ss] [(.int (1 : Int32))])) tQ
            refine XS.goto X3857.here hx rfl (pc0 := 340) (pc' := 344) rfl (hb hby at_340) (by decide) (by decide) ?_
            refine XS.istore X3857.here hx rfl (hb hby at_344) rfl (l' := #[vi p0, vi p1, vi p2, vi p3, vi (4 : Int32), vi (4 : Int32), vi md, vd (FP.i2d p0), ss, vd (FP.i2d p1), ss, vr a873, vi (1 : Int32), vd (FP.dsub (FP.i2d p1) (FP.dmul (FP.i2d (3 : Int32)) (FP.ddiv (FP.dsub (FP.i2d p1) (FP.i2d p0)) (FP.i2d (4 : Int32))))), ss, vi (1 : Int32), vd (FP.dsub (FP.i2d p1) (FP.dmul (FP.i2d (2 : Int32)) (FP.ddiv (FP.dsub (FP.i2d p1) (FP.i2d p0)) (FP.i2d (4 : Int32))))), ss, vd (FP.dsub (FP.i2d p1) (FP.dmul (FP.i2d (1 : Int32)) (FP.ddiv (FP.dsub (FP.i2d p1) (FP.i2d p0)) (FP.i2d (4 : Int32))))), ss, vd (FP.dsub (FP.i2d p1) (FP.dmul (FP.i2d (0 : Int32)) (FP.ddiv (FP.dsub (FP.i2d p1) (FP.i2d p0)) (FP.i2d (4 : Int32))))), ss, vd (FP.dsub (FP.i2d p1) (FP.dmul (FP.i2d (0 : Int32)) (FP.ddiv (FP.dsub (FP.i2d p1) (FP.i2d p0)) (FP.i2d (4 : Int32))))), ss]) rfl ?_
            refine XS.iload X3857.here hx rfl (hb hby at_346) rfl ?_
            refine XS.ifNo X3857.here hx rfl (hb hby at_348) rfl (own_if_eqN (by decide)) ?_
            show Steps p.tables e below (T3853.setTop (mkF m 351 #[vi p0, vi p1, vi p2, vi p3, vi (4 : Int32), vi (4 : Int32), vi md, vd (FP.i2d p0), ss, vd (FP.i2d p1), ss, vr a873, vi (1 : Int32), vd (FP.dsub (FP.i2d p1) (FP.dmul (FP.i2d (3 : Int32)) (FP.ddiv (FP.dsub (FP.i2d p1) (FP.i2d p0)) (FP.i2d (4 : Int32))))), ss, vi (1 : Int32), vd (FP.dsub (FP.i2d p1) (FP.dmul (FP.i2d (2 : Int32)) (FP.ddiv (FP.dsub (FP.i2d p1) (FP.i2d p0)) (FP.i2d (4 : Int32))))), ss, vd (FP.dsub (FP.i2d p1) (FP.dmul (FP.i2d (1 : Int32)) (FP.ddiv (FP.dsub (FP.i2d p1) (FP.i2d p0)) (FP.i2d (4 : Int32))))), ss, vd (FP.dsub (FP.i2d p1) (FP.dmul (FP.i2d (0 : Int32)) (FP.ddiv (FP.dsub (FP.i2d p1) (FP.i2d p0)) (FP.i2d (4 : Int32))))), ss, vd (FP.dsub (FP.i2d p1) (FP.dmul (FP.i2d (0 : Int32)) (FP.ddiv (FP.dsub (FP.i2d p1) (FP.i2d p0)) (FP.i2d (4 : Int32))))), ss] [])) tQ
            refine XS.aload X3857.here hx rfl (hb hby at_351) rfl rfl ?_
            exact kk
          clear k3868
          obtain ⟨cq3881, kq3882, qa3883, qb3884, qc3885⟩ := isOf hZ e3865 F3840
          obtain ⟨_, _, ⟨T3870, L3871, kc3872, nc3873⟩, -, X3874, ⟨Lc3875, hQ3876, l3877, y3878, z3879⟩, st3880⟩ := X3857.virtualBack hx (y := mn15) (z := mn15) hown (mvT hZ (tw57 hw)) (mvT hZ (tw58 hw)) (notFace_of_selects (args := #[]) (mvT hZ (tw60 hw))) (mvT hZ (tw60 hw)) (mvT hZ (tw59 hw)) (by decide) (backOf (W := 0) (rmVl l Z a0 hw [] a873 (FP.dsub (FP.i2d p1) (FP.dmul (FP.i2d (0 : Int32)) (FP.ddiv (FP.dsub (FP.i2d p1) (FP.i2d p0)) (FP.i2d (4 : Int32))))) T3813.heap n0 Z3839 F3848) hZ (tw61 hw) (tw7 hw) (by decide) (by decide)) qa3883 qc3885 (g := (mkF m 353 #[vi p0, vi p1, vi p2, vi p3, vi (4 : Int32), vi (4 : Int32), vi md, vd (FP.i2d p0), ss, vd (FP.i2d p1), ss, vr a873, vi (1 : Int32), vd (FP.dsub (FP.i2d p1) (FP.dmul (FP.i2d (3 : Int32)) (FP.ddiv (FP.dsub (FP.i2d p1) (FP.i2d p0)) (FP.i2d (4 : Int32))))), ss, vi (1 : Int32), vd (FP.dsub (FP.i2d p1) (FP.dmul (FP.i2d (2 : Int32)) (FP.ddiv (FP.dsub (FP.i2d p1) (FP.i2d p0)) (FP.i2d (4 : Int32))))), ss, vd (FP.dsub (FP.i2d p1) (FP.dmul (FP.i2d (1 : Int32)) (FP.ddiv (FP.dsub (FP.i2d p1) (FP.i2d p0)) (FP.i2d (4 : Int32))))), ss, vd (FP.dsub (FP.i2d p1) (FP.dmul (FP.i2d (0 : Int32)) (FP.ddiv (FP.dsub (FP.i2d p1) (FP.i2d p0)) (FP.i2d (4 : Int32))))), ss, vd (FP.dsub (FP.i2d p1) (FP.dmul (FP.i2d (0 : Int32)) (FP.ddiv (FP.dsub (FP.i2d p1) (FP.i2d p0)) (FP.i2d (4 : Int32))))), ss] [(.ref a873)])) rfl (by rw [hml]; rfl) (Steps.refl _) (argsL := []) (rest := []) (lenOf pd_20 rfl) rfl (by show 2 * 0 + _ ≤ _; exact Nat.le_of_eq rfl) (hb hby at_353) (fun _ _ => ⟨rfl, e3865, (by decide : 1 + 0 ≤ _), (by decide : 5 + 0 ≤ _)⟩)
          dsimp only [Pt.U, Pt.locs, Pt.cells, Pt.slots] at X3874 l3877 y3878 z3879 st3880 hQ3876
          subst l3877 y3878 z3879
          obtain ⟨rfl, N3886, e3887⟩ := hQ3876
          have N3889 := Fr.app N3867 N3886
          have k3890 : own_G p e below E0 T3870 (mkF m 356 #[vi p0, vi p1, vi p2, vi p3, vi (4 : Int32), vi (4 : Int32), vi md, vd (FP.i2d p0), ss, vd (FP.i2d p1), ss, vr a873, vi (1 : Int32), vd (FP.dsub (FP.i2d p1) (FP.dmul (FP.i2d (3 : Int32)) (FP.ddiv (FP.dsub (FP.i2d p1) (FP.i2d p0)) (FP.i2d (4 : Int32))))), ss, vi (1 : Int32), vd (FP.dsub (FP.i2d p1) (FP.dmul (FP.i2d (2 : Int32)) (FP.ddiv (FP.dsub (FP.i2d p1) (FP.i2d p0)) (FP.i2d (4 : Int32))))), ss, vd (FP.dsub (FP.i2d p1) (FP.dmul (FP.i2d (1 : Int32)) (FP.ddiv (FP.dsub (FP.i2d p1) (FP.i2d p0)) (FP.i2d (4 : Int32))))), ss, vd (FP.dsub (FP.i2d p1) (FP.dmul (FP.i2d (0 : Int32)) (FP.ddiv (FP.dsub (FP.i2d p1) (FP.i2d p0)) (FP.i2d (4 : Int32))))), ss, vd (FP.dsub (FP.i2d p1) (FP.dmul (FP.i2d (0 : Int32)) (FP.ddiv (FP.dsub (FP.i2d p1) (FP.i2d p0)) (FP.i2d (4 : Int32))))), ss] [(.double (FP.dsub (FP.i2d p1) (FP.dmul (FP.i2d (0 : Int32)) (FP.ddiv (FP.dsub (FP.i2d p1) (FP.i2d p0)) (FP.i2d (4 : Int32))))))]) := fun tQ kk => k3869 tQ (st3880.trans kk)
          clear k3869 st3880
          have k3891 : own_G p e below E0 T3870 (mkF m 376 #[vi p0, vi p1, vi p2, vi p3, vi (4 : Int32), vi (4 : Int32), vi md, vd (FP.i2d p0), ss, vd (FP.i2d p1), ss, vr a873, vi (1 : Int32), vd (FP.dsub (FP.i2d p1) (FP.dmul (FP.i2d (3 : Int32)) (FP.ddiv (FP.dsub (FP.i2d p1) (FP.i2d p0)) (FP.i2d (4 : Int32))))), ss, vi (1 : Int32), vd (FP.dsub (FP.i2d p1) (FP.dmul (FP.i2d (2 : Int32)) (FP.ddiv (FP.dsub (FP.i2d p1) (FP.i2d p0)) (FP.i2d (4 : Int32))))), ss, vd (FP.dsub (FP.i2d p1) (FP.dmul (FP.i2d (1 : Int32)) (FP.ddiv (FP.dsub (FP.i2d p1) (FP.i2d p0)) (FP.i2d (4 : Int32))))), ss, vd (FP.dsub (FP.i2d p1) (FP.dmul (FP.i2d (0 : Int32)) (FP.ddiv (FP.dsub (FP.i2d p1) (FP.i2d p0)) (FP.i2d (4 : Int32))))), ss, vd (FP.dsub (FP.i2d p1) (FP.dmul (FP.i2d (0 : Int32)) (FP.ddiv (FP.dsub (FP.i2d p1) (FP.i2d p0)) (FP.i2d (4 : Int32))))), ss] [(.ref a873)]) := by
            intro tQ kk
            refine k3890 tQ ?_
            refine XS.dload X3874.here hx rfl (hb hby at_356) rfl ?_
            refine XS.dcmpS (v := (0 : Int32)) X3874.here hx rfl (hb hby at_358) rfl (dcmpV_self (own_q3 p0 p1 (by decide) (by decide)).2 .l) ?_
            refine XS.ifNo X3874.here hx rfl (hb hby at_359) rfl (own_if_neN (by decide)) ?_
            refine XS.iconst X3874.here hx rfl (hb hby at_362) ?_
            show Steps p.tables e below (T3870.setTop (mkF m 363 #[vi p0, vi p1, vi p2, vi p3, vi (4 : Int32), vi (4 : Int32), vi md, vd (FP.i2d p0), ss, vd (FP.i2d p1), ss, vr a873, vi (1 : Int32), vd (FP.dsub (FP.i2d p1) (FP.dmul (FP.i2d (3 : Int32)) (FP.ddiv (FP.dsub (FP.i2d p1) (FP.i2d p0)) (FP.i2d (4 : Int32))))), ss, vi (1 : Int32), vd (FP.dsub (FP.i2d p1) (FP.dmul (FP.i2d (2 : Int32)) (FP.ddiv (FP.dsub (FP.i2d p1) (FP.i2d p0)) (FP.i2d (4 : Int32))))), ss, vd (FP.dsub (FP.i2d p1) (FP.dmul (FP.i2d (1 : Int32)) (FP.ddiv (FP.dsub (FP.i2d p1) (FP.i2d p0)) (FP.i2d (4 : Int32))))), ss, vd (FP.dsub (FP.i2d p1) (FP.dmul (FP.i2d (0 : Int32)) (FP.ddiv (FP.dsub (FP.i2d p1) (FP.i2d p0)) (FP.i2d (4 : Int32))))), ss, vd (FP.dsub (FP.i2d p1) (FP.dmul (FP.i2d (0 : Int32)) (FP.ddiv (FP.dsub (FP.i2d p1) (FP.i2d p0)) (FP.i2d (4 : Int32))))), ss] [(.int (1 : Int32))])) tQ
            refine XS.goto X3874.here hx rfl (pc0 := 363) (pc' := 367) rfl (hb hby at_363) (by decide) (by decide) ?_
            refine XS.istore X3874.here hx rfl (hb hby at_367) rfl (l' := #[vi p0, vi p1, vi p2, vi p3, vi (4 : Int32), vi (4 : Int32), vi md, vd (FP.i2d p0), ss, vd (FP.i2d p1), ss, vr a873, vi (1 : Int32), vd (FP.dsub (FP.i2d p1) (FP.dmul (FP.i2d (3 : Int32)) (FP.ddiv (FP.dsub (FP.i2d p1) (FP.i2d p0)) (FP.i2d (4 : Int32))))), ss, vi (1 : Int32), vd (FP.dsub (FP.i2d p1) (FP.dmul (FP.i2d (2 : Int32)) (FP.ddiv (FP.dsub (FP.i2d p1) (FP.i2d p0)) (FP.i2d (4 : Int32))))), ss, vd (FP.dsub (FP.i2d p1) (FP.dmul (FP.i2d (1 : Int32)) (FP.ddiv (FP.dsub (FP.i2d p1) (FP.i2d p0)) (FP.i2d (4 : Int32))))), ss, vd (FP.dsub (FP.i2d p1) (FP.dmul (FP.i2d (0 : Int32)) (FP.ddiv (FP.dsub (FP.i2d p1) (FP.i2d p0)) (FP.i2d (4 : Int32))))), ss, vd (FP.dsub (FP.i2d p1) (FP.dmul (FP.i2d (0 : Int32)) (FP.ddiv (FP.dsub (FP.i2d p1) (FP.i2d p0)) (FP.i2d (4 : Int32))))), ss]) rfl ?_
            refine XS.iload X3874.here hx rfl (hb hby at_369) rfl ?_
            refine XS.ifNo X3874.here hx rfl (hb hby at_371) rfl (own_if_eqN (by decide)) ?_
            show Steps p.tables e below (T3870.setTop (mkF m 374 #[vi p0, vi p1, vi p2, vi p3, vi (4 : Int32), vi (4 : Int32), vi md, vd (FP.i2d p0), ss, vd (FP.i2d p1), ss, vr a873, vi (1 : Int32), vd (FP.dsub (FP.i2d p1) (FP.dmul (FP.i2d (3 : Int32)) (FP.ddiv (FP.dsub (FP.i2d p1) (FP.i2d p0)) (FP.i2d (4 : Int32))))), ss, vi (1 : Int32), vd (FP.dsub (FP.i2d p1) (FP.dmul (FP.i2d (2 : Int32)) (FP.ddiv (FP.dsub (FP.i2d p1) (FP.i2d p0)) (FP.i2d (4 : Int32))))), ss, vd (FP.dsub (FP.i2d p1) (FP.dmul (FP.i2d (1 : Int32)) (FP.ddiv (FP.dsub (FP.i2d p1) (FP.i2d p0)) (FP.i2d (4 : Int32))))), ss, vd (FP.dsub (FP.i2d p1) (FP.dmul (FP.i2d (0 : Int32)) (FP.ddiv (FP.dsub (FP.i2d p1) (FP.i2d p0)) (FP.i2d (4 : Int32))))), ss, vd (FP.dsub (FP.i2d p1) (FP.dmul (FP.i2d (0 : Int32)) (FP.ddiv (FP.dsub (FP.i2d p1) (FP.i2d p0)) (FP.i2d (4 : Int32))))), ss] [])) tQ
            refine XS.aload X3874.here hx rfl (hb hby at_374) rfl rfl ?_
            exact kk
          clear k3890
          obtain ⟨cq3903, kq3904, qa3905, qb3906, qc3907⟩ := isOf hZ e3887 F3840
          obtain ⟨_, _, ⟨T3892, L3893, kc3894, nc3895⟩, -, X3896, ⟨Lc3897, hQ3898, l3899, y3900, z3901⟩, st3902⟩ := X3874.virtualBack hx (y := mn14) (z := mn14) hown (mvT hZ (tw52 hw)) (mvT hZ (tw53 hw)) (notFace_of_selects (args := #[]) (mvT hZ (tw55 hw))) (mvT hZ (tw55 hw)) (mvT hZ (tw54 hw)) (by decide) (backOf (W := 0) (rmMv l Z a0 hw [] a873 (0 : Int32) T3813.heap n0 Z3839 F3850) hZ (tw56 hw) (tw7 hw) (by decide) (by decide)) qa3905 qc3907 (g := (mkF m 376 #[vi p0, vi p1, vi p2, vi p3, vi (4 : Int32), vi (4 : Int32), vi md, vd (FP.i2d p0), ss, vd (FP.i2d p1), ss, vr a873, vi (1 : Int32), vd (FP.dsub (FP.i2d p1) (FP.dmul (FP.i2d (3 : Int32)) (FP.ddiv (FP.dsub (FP.i2d p1) (FP.i2d p0)) (FP.i2d (4 : Int32))))), ss, vi (1 : Int32), vd (FP.dsub (FP.i2d p1) (FP.dmul (FP.i2d (2 : Int32)) (FP.ddiv (FP.dsub (FP.i2d p1) (FP.i2d p0)) (FP.i2d (4 : Int32))))), ss, vd (FP.dsub (FP.i2d p1) (FP.dmul (FP.i2d (1 : Int32)) (FP.ddiv (FP.dsub (FP.i2d p1) (FP.i2d p0)) (FP.i2d (4 : Int32))))), ss, vd (FP.dsub (FP.i2d p1) (FP.dmul (FP.i2d (0 : Int32)) (FP.ddiv (FP.dsub (FP.i2d p1) (FP.i2d p0)) (FP.i2d (4 : Int32))))), ss, vd (FP.dsub (FP.i2d p1) (FP.dmul (FP.i2d (0 : Int32)) (FP.ddiv (FP.dsub (FP.i2d p1) (FP.i2d p0)) (FP.i2d (4 : Int32))))), ss] [(.ref a873)])) rfl (by rw [hml]; rfl) (Steps.refl _) (argsL := []) (rest := []) (lenOf pd_22 rfl) rfl (by show 2 * 0 + _ ≤ _; exact Nat.le_of_eq rfl) (hb hby at_376) (fun _ _ => ⟨rfl, e3887, (by decide : 1 + 0 ≤ _), (by decide : 5 + 0 ≤ _)⟩)
          dsimp only [Pt.U, Pt.locs, Pt.cells, Pt.slots] at X3896 l3899 y3900 z3901 st3902 hQ3898
          subst l3899 y3900 z3901
          obtain ⟨rfl, N3908, e3909⟩ := hQ3898
          have N3911 := Fr.app N3889 N3908
          have k3912 : own_G p e below E0 T3892 (mkF m 379 #[vi p0, vi p1, vi p2, vi p3, vi (4 : Int32), vi (4 : Int32), vi md, vd (FP.i2d p0), ss, vd (FP.i2d p1), ss, vr a873, vi (1 : Int32), vd (FP.dsub (FP.i2d p1) (FP.dmul (FP.i2d (3 : Int32)) (FP.ddiv (FP.dsub (FP.i2d p1) (FP.i2d p0)) (FP.i2d (4 : Int32))))), ss, vi (1 : Int32), vd (FP.dsub (FP.i2d p1) (FP.dmul (FP.i2d (2 : Int32)) (FP.ddiv (FP.dsub (FP.i2d p1) (FP.i2d p0)) (FP.i2d (4 : Int32))))), ss, vd (FP.dsub (FP.i2d p1) (FP.dmul (FP.i2d (1 : Int32)) (FP.ddiv (FP.dsub (FP.i2d p1) (FP.i2d p0)) (FP.i2d (4 : Int32))))), ss, vd (FP.dsub (FP.i2d p1) (FP.dmul (FP.i2d (0 : Int32)) (FP.ddiv (FP.dsub (FP.i2d p1) (FP.i2d p0)) (FP.i2d (4 : Int32))))), ss, vd (FP.dsub (FP.i2d p1) (FP.dmul (FP.i2d (0 : Int32)) (FP.ddiv (FP.dsub (FP.i2d p1) (FP.i2d p0)) (FP.i2d (4 : Int32))))), ss] [(.int (own_mv (0 : Int32)))]) := fun tQ kk => k3891 tQ (st3902.trans kk)
          clear k3891 st3902
          have eq3913 : (own_mv (0 : Int32)) = (0 : Int32) := by decide
          rw [eq3913] at k3912
          have k3914 : own_G p e below E0 T3892 (mkF m 391 #[vi p0, vi p1, vi p2, vi p3, vi (4 : Int32), vi (4 : Int32), vi md, vd (FP.i2d p0), ss, vd (FP.i2d p1), ss, vr a873, vi (1 : Int32), vd (FP.dsub (FP.i2d p1) (FP.dmul (FP.i2d (3 : Int32)) (FP.ddiv (FP.dsub (FP.i2d p1) (FP.i2d p0)) (FP.i2d (4 : Int32))))), ss, vi (1 : Int32), vd (FP.dsub (FP.i2d p1) (FP.dmul (FP.i2d (2 : Int32)) (FP.ddiv (FP.dsub (FP.i2d p1) (FP.i2d p0)) (FP.i2d (4 : Int32))))), ss, vd (FP.dsub (FP.i2d p1) (FP.dmul (FP.i2d (1 : Int32)) (FP.ddiv (FP.dsub (FP.i2d p1) (FP.i2d p0)) (FP.i2d (4 : Int32))))), ss, vd (FP.dsub (FP.i2d p1) (FP.dmul (FP.i2d (0 : Int32)) (FP.ddiv (FP.dsub (FP.i2d p1) (FP.i2d p0)) (FP.i2d (4 : Int32))))), ss, vd (FP.dsub (FP.i2d p1) (FP.dmul (FP.i2d (0 : Int32)) (FP.ddiv (FP.dsub (FP.i2d p1) (FP.i2d p0)) (FP.i2d (4 : Int32))))), ss] [(.int (1 : Int32))]) := by
            intro tQ kk
            refine k3912 tQ ?_
            refine XS.ifNo X3896.here hx rfl (hb hby at_379) rfl (own_if_neN (by decide)) ?_
            refine XS.iconst X3896.here hx rfl (hb hby at_382) ?_
            refine XS.goto X3896.here hx rfl (pc0 := 383) (pc' := 387) rfl (hb hby at_383) (by decide) (by decide) ?_
            refine XS.istore X3896.here hx rfl (hb hby at_387) rfl (l' := #[vi p0, vi p1, vi p2, vi p3, vi (4 : Int32), vi (4 : Int32), vi md, vd (FP.i2d p0), ss, vd (FP.i2d p1), ss, vr a873, vi (1 : Int32), vd (FP.dsub (FP.i2d p1) (FP.dmul (FP.i2d (3 : Int32)) (FP.ddiv (FP.dsub (FP.i2d p1) (FP.i2d p0)) (FP.i2d (4 : Int32))))), ss, vi (1 : Int32), vd (FP.dsub (FP.i2d p1) (FP.dmul (FP.i2d (2 : Int32)) (FP.ddiv (FP.dsub (FP.i2d p1) (FP.i2d p0)) (FP.i2d (4 : Int32))))), ss, vd (FP.dsub (FP.i2d p1) (FP.dmul (FP.i2d (1 : Int32)) (FP.ddiv (FP.dsub (FP.i2d p1) (FP.i2d p0)) (FP.i2d (4 : Int32))))), ss, vd (FP.dsub (FP.i2d p1) (FP.dmul (FP.i2d (0 : Int32)) (FP.ddiv (FP.dsub (FP.i2d p1) (FP.i2d p0)) (FP.i2d (4 : Int32))))), ss, vd (FP.dsub (FP.i2d p1) (FP.dmul (FP.i2d (0 : Int32)) (FP.ddiv (FP.dsub (FP.i2d p1) (FP.i2d p0)) (FP.i2d (4 : Int32))))), ss]) rfl ?_
            show Steps p.tables e below (T3892.setTop (mkF m 389 #[vi p0, vi p1, vi p2, vi p3, vi (4 : Int32), vi (4 : Int32), vi md, vd (FP.i2d p0), ss, vd (FP.i2d p1), ss, vr a873, vi (1 : Int32), vd (FP.dsub (FP.i2d p1) (FP.dmul (FP.i2d (3 : Int32)) (FP.ddiv (FP.dsub (FP.i2d p1) (FP.i2d p0)) (FP.i2d (4 : Int32))))), ss, vi (1 : Int32), vd (FP.dsub (FP.i2d p1) (FP.dmul (FP.i2d (2 : Int32)) (FP.ddiv (FP.dsub (FP.i2d p1) (FP.i2d p0)) (FP.i2d (4 : Int32))))), ss, vd (FP.dsub (FP.i2d p1) (FP.dmul (FP.i2d (1 : Int32)) (FP.ddiv (FP.dsub (FP.i2d p1) (FP.i2d p0)) (FP.i2d (4 : Int32))))), ss, vd (FP.dsub (FP.i2d p1) (FP.dmul (FP.i2d (0 : Int32)) (FP.ddiv (FP.dsub (FP.i2d p1) (FP.i2d p0)) (FP.i2d (4 : Int32))))), ss, vd (FP.dsub (FP.i2d p1) (FP.dmul (FP.i2d (0 : Int32)) (FP.ddiv (FP.dsub (FP.i2d p1) (FP.i2d p0)) (FP.i2d (4 : Int32))))), ss] [])) tQ
            refine XS.iload X3896.here hx rfl (hb hby at_389) rfl ?_
            exact kk
          clear k3912
          obtain ⟨fs, hr, hrun, hended, hW, hsame⟩ := X3896.leave (v := some (.int (1 : Int32))) (fun h => by rw [Bd.returns] at h; cases h)
          have hrun0 := k3914 _ (retOut X3896 hx Bd.returns (t := .boolean) rfl (Or.inl ⟨rfl, Or.inr (Or.inl rfl), _, rfl⟩) (hb hby at_391) hr)
          subst hE0
          refine ⟨_, _, hrun0, hrun, hended, _, _, rfl, ?_, ⟨_, rfl⟩, hW, hsame.mono (by decide) (by decide)⟩
          show Qrm0 Z p0 p1 p2 p3 h0 n0 _ T3892.heap _
          rw [e3909]
          exact ⟨rfl, N3911⟩
set_option maxRecDepth 65536 in
set_option maxHeartbeats 40000000 in
theorem comes_1 {Post : Tables → Env → Array Value → State → Outcome → State → Prop} (hpost : ∀ tb e args s v u, (limb_1_1.after args s (.returned v) u = true ∧ limb_1_2.after args s (.returned v) u = true ∧ True) → FrameEnd s (.returned v) u (Jvm.fieldLocs frame_1_writes args s ++ Jvm.arrayLocs frame_1_arrays args s ++ Jvm.staticLocs frame_1_statics s) 16 128 → Post tb e args s (.returned v) u) :
    ArmFor flags0 classFile x code maxLocals ret World_1 tables_1 room_1 Calls_1 rest_1 Pre_1 Post := by
  intro l hfl _ _ p e ha hc hk s m args below hf hA hF happ hP
  obtain ⟨hcalls, hrest, hpre⟩ := hP
  obtain ⟨-, -, -, hnamed, -, -, -, hat⟩ := (Spec.applies_iff hf).mp happ
  obtain ⟨hg, hn⟩ := and_e (Cond.before_iff.mp (show (Jvm.Cond.and given_1 narrow_1).before args s = true from hpre))
  obtain ⟨hct, hr0⟩ := and_e hg
  obtain ⟨ha0, hr1⟩ := and_e hr0
  obtain ⟨ha1, hr2⟩ := and_e hr1
  obtain ⟨ha2, hr3⟩ := and_e hr2
  obtain ⟨w0, w1, w2, w3, rfl⟩ : ∃ w0 w1 w2 w3 : Value, args = #[w0, w1, w2, w3] := by
    have hs : args.size = 4 := by simpa [Cond.value, given_1] using hct
    obtain ⟨L⟩ := args
    match L, hs with
    | [w0, w1, w2, w3], _ => exact ⟨w0, w1, w2, w3, rfl⟩
  have hw := fun d (hd : d ∈ tables_1) => atoms_spec (ws := Jvm.Cond.code x code maxLocals ret :: tables_1) hat d (List.mem_cons_of_mem _ hd)
  have hfit : Fit s := fun {y c} hc i hi => by
    obtain ⟨ha, rfl⟩ := Array.getElem?_eq_some_iff.mp hc
    have q := List.all_eq_true.mp ((Array.all_eq_true_iff_forall_mem.mp hF) _ (Array.getElem_mem ha)) i (List.mem_range.mpr hi)
    simpa [Array.getElem?_eq_getElem hi] using q
  obtain ⟨i0, ev0⟩ := is_v ha0
  obtain rfl : w0 = (.int i0) := Option.some.inj ev0
  obtain ⟨i1, ev1⟩ := is_v ha1
  obtain rfl : w1 = (.int i1) := Option.some.inj ev1
  obtain ⟨i2, ev2⟩ := is_v ha2
  obtain rfl : w2 = (.int i2) := Option.some.inj ev2
  obtain ⟨i3, ev3⟩ := is_v hr3
  obtain rfl : w3 = (.int i3) := Option.some.inj ev3
  obtain ⟨n, o, h1, h2, h3, _, L, rfl, ⟨rfl, N⟩, hq⟩ := rm0 l s _ hw tables_1 i0 i1 i2 i3 s.heap s.heap.size (Nat.le_refl _) p e ha hc hk s m _ below hf ((Spec.applies_iff_loose hf).mp happ).1 ⟨rfl, State.Warmed39.refl s, rfl⟩ trivial
  refine ⟨n, _, h1, h2, h3, hpost _ _ _ _ _ _ ⟨Cond.after_iff.mpr rfl, Cond.after_iff.mpr (eq_i res_at (Term.int_eval (1)) rfl), trivial⟩ ⟨hq.1, hq.2.1, (hq.2.2.sift fun y hy => Or.inr (N y hy)).mono (by decide) (by decide)⟩⟩
theorem main_1_1 : Claimed_1_1 := comes_1 fun _ _ _ _ _ _ h hF => ⟨h.1, hF⟩
theorem main_1_2 : Claimed_1_2 := comes_1 fun _ _ _ _ _ _ h hF => ⟨h.2.1, hF⟩
end Jvm.Pilot.@@N@@
namespace Jvm.Pilot.@@N@@
open Jvm Jvm.ClassFile Sem Op Lib Jvm.Free Jvm.Stand Jvm.Pilot.@@N@@.Jvm.D
/-! MADE BY PROGRAM (witnessworld.py) out of the Statement's table words and the real class files: 15 classes; the members and pool entries that the words name. The judged class is class 1, her method 2. -/
namespace start1
open Jvm.ClassFile
def u (s : String) : CpInfo := .utf8 (stringToUtf16 s)
/-- a pool by its gaps: so many unusable entries, then the entry; so many at the end -/
def gap : Nat → List CpInfo → List CpInfo
  | 0, r => r
  | n + 1, r => .unusable :: gap n r
def poolList (es : List (Nat × CpInfo)) (last : Nat) : List CpInfo := es.foldr (fun e r => gap e.1 (e.2 :: r)) (gap last [])
def pool (es : List (Nat × CpInfo)) (last : Nat) : Array CpInfo := ⟨poolList es last⟩
def fileOf (pool : Array CpInfo) (this : Nat) (attrs : Array Attribute := #[]) (ms : Array MethodInfo := #[]) (fl : Nat := 33) (sup : Nat := 0) (ifs : Array Nat := #[]) (fds : Array FieldInfo := #[]) : ClassFile where
  minorVersion := 0
  majorVersion := 65
  constantPool := pool
  accessFlags := fl
  thisClass := this
  superClass := sup
  interfaces := ifs
  fields := fds
  methods := ms
  attributes := attrs
def plain (name : String) (sup : Option ClassId) : Class where
  name := name
  kind := .ordinary
  loader := none
  accessFlags := 33
  super := sup
  interfaces := #[]
  cf := none
  fields := #[]
  methods := #[]
  instanceTypes := #[]
  staticTypes := #[]
  resolved := #[]
  callSites := []
  init := .initialized
  statics := none
  mirror := none

def pool0 : Array CpInfo := pool [(5, u "<init>"), (0, u "()V"), (1, .class_ 10), (1, u "java/lang/Object")] 113

def k0c0 : Code := { maxStack := 0, maxLocals := 1, code := object_method_1_code, exceptionTable := #[], attributes := #[] }
def k0m0 : Method := { name := "<init>", desc := "()V", sig := { parameters := [], returnType := none }, accessFlags := 1, code := some k0c0 }
/-- java/lang/Object -/
def k0 : Class := { plain "java/lang/Object" none with
  accessFlags := 33
  interfaces := #[]
  cf := some (fileOf pool0 8 #[] #[{ accessFlags := 1, nameIndex := 5, descriptorIndex := 6, attributes := #[] }] 33 0 #[] #[])
  fields := #[]
  methods := #[k0m0]
  instanceTypes := #[]
  staticTypes := #[]
  resolved := Array.replicate 124 none
  statics := none }

def pool1 : Array CpInfo := pool [(2, .class_ 4), (1, u "java/lang/Object"), (0, u "<init>"), (0, u "()V"), (0, .methodref 8 9), (0, .class_ 10), (0, .nameAndType 11 12), (0, u "java/lang/Math"), (0, u "max"), (0, u "(II)I"), (0, .integer 2147483647), (0, .class_ 15), (0, u "com/example/lampwork/lampwork/Glide"), (0, .methodref 14 17), (0, .nameAndType 5 18), (0, u "(DI)V"), (0, .methodref 14 20), (0, .nameAndType 21 22), (0, u "set"), (0, u "(DZ)V"), (0, .methodref 14 24), (0, .nameAndType 25 26), (0, u "next"), (0, u "()D"), (0, .methodref 28 29), (0, .class_ 30), (0, .nameAndType 31 32), (0, u "com/example/lampwork/lampwork/GlideNextPinLaw"), (0, u "expect"), (0, u "(DDIII)D"), (0, .methodref 14 34), (0, .nameAndType 35 36), (0, u "moving"), (0, u "()Z"), (0, .methodref 14 38), (0, .nameAndType 39 26), (0, u "value"), (3, u "law"), (0, u "(IIII)Z")] 2

def k1m0 : Method := { name := "<init>", desc := "()V", sig := { parameters := [], returnType := none }, accessFlags := 1, code := none }
def k1c1 : Code := { maxStack := 6, maxLocals := 10, code := method_2_code, exceptionTable := #[], attributes := #[] }
def k1m1 : Method := { name := "expect", desc := "(DDIII)D", sig := { parameters := [.double, .double, .int, .int, .int], returnType := some .double }, accessFlags := 10, code := some k1c1 }
def k1c2 : Code := { maxStack := 9, maxLocals := 24, code := code, exceptionTable := #[], attributes := #[] }
def k1m2 : Method := { name := "law", desc := "(IIII)Z", sig := { parameters := [.int, .int, .int, .int], returnType := some .boolean }, accessFlags := 9, code := some k1c2 }
/-- com/example/lampwork/lampwork/GlideNextPinLaw -/
def k1 : Class := { plain "com/example/lampwork/lampwork/GlideNextPinLaw" (some 0) with
  accessFlags := 49
  interfaces := #[]
  cf := some (fileOf pool1 28 #[] #[{ accessFlags := 1, nameIndex := 5, descriptorIndex := 6, attributes := #[] }, { accessFlags := 10, nameIndex := 31, descriptorIndex := 32, attributes := #[] }, { accessFlags := 9, nameIndex := 43, descriptorIndex := 44, attributes := #[] }] 49 2 #[] #[])
  fields := #[]
  methods := #[k1m0, k1m1, k1m2]
  instanceTypes := #[]
  staticTypes := #[]
  resolved := Array.replicate 47 none
  statics := none }

def pool2 : Array CpInfo := pool [(1, .class_ 2), (0, u "java/lang/Math"), (1, .class_ 6), (1, u "java/lang/Object"), (0, u "<init>"), (0, u "()V"), (70, .methodref 80 81), (0, .class_ 82), (0, .nameAndType 83 84), (0, u "java/lang/Double"), (0, u "doubleToRawLongBits"), (0, u "(D)J"), (2, .long 9218868437227405312), (1, .long 1074), (1, .long 18446744073709551552), (1, .long 4503599627370495), (1, .long 4503599627370496), (2, .class_ 100), (1, u "java/lang/Math$RandomNumberGeneratorHolder"), (20, u "(JJ)J"), (50, u "negativeZeroFloatBits"), (0, u "J"), (2, u "negativeZeroDoubleBits"), (21, u "max"), (46, u "$assertionsDisabled"), (0, u "Z"), (88, u "(II)I"), (2, u "twoToTheDoubleScaleDown"), (0, u "D"), (4, u "twoToTheDoubleScaleUp"), (9, u "E"), (3, u "PI"), (2, u "TAU"), (2, u "DEGREES_TO_RADIANS"), (0, u "RADIANS_TO_DEGREES"), (17, u "round")] 76

def k2m0 : Method := { name := "<init>", desc := "()V", sig := { parameters := [], returnType := none }, accessFlags := 2, code := none }
def k2c1 : Code := { maxStack := 4, maxLocals := 10, code := jdk_29_method_22_code, exceptionTable := #[], attributes := #[] }
def k2m1 : Method := { name := "round", desc := "(D)J", sig := { parameters := [.double], returnType := some .long }, accessFlags := 9, code := some k2c1 }
def k2c2 : Code := { maxStack := 2, maxLocals := 2, code := jdk_29_method_65_code, exceptionTable := #[], attributes := #[] }
def k2m2 : Method := { name := "max", desc := "(II)I", sig := { parameters := [.int, .int], returnType := some .int }, accessFlags := 9, code := some k2c2 }
def k2c3 : Code := { maxStack := 4, maxLocals := 4, code := jdk_29_method_66_code, exceptionTable := #[], attributes := #[] }
def k2m3 : Method := { name := "max", desc := "(JJ)J", sig := { parameters := [.long, .long], returnType := some .long }, accessFlags := 9, code := some k2c3 }
/-- java/lang/Math -/
def k2 : Class := { plain "java/lang/Math" (some 0) with
  accessFlags := 49
  interfaces := #[]
  cf := some (fileOf pool2 1 #[.nestMembers #[98]] #[{ accessFlags := 2, nameIndex := 7, descriptorIndex := 8, attributes := #[] }, { accessFlags := 9, nameIndex := 383, descriptorIndex := 84, attributes := #[] }, { accessFlags := 9, nameIndex := 198, descriptorIndex := 335, attributes := #[] }, { accessFlags := 9, nameIndex := 198, descriptorIndex := 121, attributes := #[] }] 49 4 #[] #[{ accessFlags := 25, nameIndex := 354, descriptorIndex := 339, attributes := #[] }, { accessFlags := 25, nameIndex := 358, descriptorIndex := 339, attributes := #[] }, { accessFlags := 25, nameIndex := 361, descriptorIndex := 339, attributes := #[] }, { accessFlags := 26, nameIndex := 364, descriptorIndex := 339, attributes := #[] }, { accessFlags := 26, nameIndex := 365, descriptorIndex := 339, attributes := #[] }, { accessFlags := 26, nameIndex := 172, descriptorIndex := 173, attributes := #[] }, { accessFlags := 26, nameIndex := 176, descriptorIndex := 173, attributes := #[] }, { accessFlags := 8, nameIndex := 344, descriptorIndex := 339, attributes := #[] }, { accessFlags := 8, nameIndex := 338, descriptorIndex := 339, attributes := #[] }, { accessFlags := 4120, nameIndex := 245, descriptorIndex := 246, attributes := #[] }])
  fields := #[{ name := "E", type := .double, accessFlags := 25, slot := 0, constantValue := 0 }, { name := "PI", type := .double, accessFlags := 25, slot := 1, constantValue := 0 }, { name := "TAU", type := .double, accessFlags := 25, slot := 2, constantValue := 0 }, { name := "DEGREES_TO_RADIANS", type := .double, accessFlags := 26, slot := 3, constantValue := 0 }, { name := "RADIANS_TO_DEGREES", type := .double, accessFlags := 26, slot := 4, constantValue := 0 }, { name := "negativeZeroFloatBits", type := .long, accessFlags := 26, slot := 5, constantValue := 0 }, { name := "negativeZeroDoubleBits", type := .long, accessFlags := 26, slot := 6, constantValue := 0 }, { name := "twoToTheDoubleScaleUp", type := .double, accessFlags := 8, slot := 7, constantValue := 0 }, { name := "twoToTheDoubleScaleDown", type := .double, accessFlags := 8, slot := 8, constantValue := 0 }, { name := "$assertionsDisabled", type := .boolean, accessFlags := 4120, slot := 9, constantValue := 0 }]
  methods := #[k2m0, k2m1, k2m2, k2m3]
  instanceTypes := #[]
  staticTypes := #[.double, .double, .double, .double, .double, .long, .long, .double, .double, .boolean]
  resolved := Array.replicate 460 none
  statics := none }

def pool3 : Array CpInfo := pool [(1, .methodref 2 3), (0, .class_ 4), (0, .nameAndType 5 6), (0, u "java/lang/Object"), (0, u "<init>"), (0, u "()V"), (0, .class_ 8), (0, u "com/example/lampwork/lampwork/Glide"), (0, .double 4581421828931458171), (1, .methodref 12 13), (0, .class_ 14), (0, .nameAndType 15 16), (0, u "java/lang/Math"), (0, u "round"), (0, u "(D)J"), (0, .methodref 12 18), (0, .nameAndType 19 20), (0, u "max"), (0, u "(JJ)J"), (0, .fieldref 7 22), (0, .nameAndType 23 24), (0, u "frames"), (0, u "I"), (0, .fieldref 7 26), (0, .nameAndType 27 28), (0, u "value"), (0, u "D"), (0, .fieldref 7 30), (0, .nameAndType 31 28), (0, u "target"), (0, .fieldref 7 33), (0, .nameAndType 34 24), (0, u "remaining"), (0, .fieldref 7 36), (0, .nameAndType 37 28), (0, u "step"), (0, u "SECONDS"), (1, u "(DI)V"), (2, u "set"), (0, u "(DZ)V"), (1, u "moving"), (0, u "()Z"), (0, u "()D"), (0, u "next")] 2

def k3c0 : Code := { maxStack := 7, maxLocals := 4, code := prog_12_method_1_code, exceptionTable := #[], attributes := #[] }
def k3m0 : Method := { name := "<init>", desc := "(DI)V", sig := { parameters := [.double, .int], returnType := none }, accessFlags := 0, code := some k3c0 }
def k3c1 : Code := { maxStack := 5, maxLocals := 4, code := prog_12_method_2_code, exceptionTable := #[], attributes := #[] }
def k3m1 : Method := { name := "set", desc := "(DZ)V", sig := { parameters := [.double, .boolean], returnType := none }, accessFlags := 0, code := some k3c1 }
def k3c2 : Code := { maxStack := 1, maxLocals := 1, code := prog_12_method_3_code, exceptionTable := #[], attributes := #[] }
def k3m2 : Method := { name := "moving", desc := "()Z", sig := { parameters := [], returnType := some .boolean }, accessFlags := 0, code := some k3c2 }
def k3c3 : Code := { maxStack := 2, maxLocals := 1, code := prog_12_method_4_code, exceptionTable := #[], attributes := #[] }
def k3m3 : Method := { name := "value", desc := "()D", sig := { parameters := [], returnType := some .double }, accessFlags := 0, code := some k3c3 }
def k3c4 : Code := { maxStack := 7, maxLocals := 1, code := prog_12_method_5_code, exceptionTable := #[], attributes := #[] }
def k3m4 : Method := { name := "next", desc := "()D", sig := { parameters := [], returnType := some .double }, accessFlags := 0, code := some k3c4 }
/-- com/example/lampwork/lampwork/Glide -/
def k3 : Class := { plain "com/example/lampwork/lampwork/Glide" (some 0) with
  accessFlags := 48
  interfaces := #[]
  cf := some (fileOf pool3 7 #[] #[{ accessFlags := 0, nameIndex := 5, descriptorIndex := 40, attributes := #[] }, { accessFlags := 0, nameIndex := 43, descriptorIndex := 44, attributes := #[] }, { accessFlags := 0, nameIndex := 46, descriptorIndex := 47, attributes := #[] }, { accessFlags := 0, nameIndex := 27, descriptorIndex := 48, attributes := #[] }, { accessFlags := 0, nameIndex := 49, descriptorIndex := 48, attributes := #[] }] 48 2 #[] #[{ accessFlags := 24, nameIndex := 38, descriptorIndex := 28, attributes := #[] }, { accessFlags := 18, nameIndex := 23, descriptorIndex := 24, attributes := #[] }, { accessFlags := 2, nameIndex := 27, descriptorIndex := 28, attributes := #[] }, { accessFlags := 2, nameIndex := 31, descriptorIndex := 28, attributes := #[] }, { accessFlags := 2, nameIndex := 37, descriptorIndex := 28, attributes := #[] }, { accessFlags := 2, nameIndex := 34, descriptorIndex := 24, attributes := #[] }])
  fields := #[{ name := "SECONDS", type := .double, accessFlags := 24, slot := 0, constantValue := 0 }, { name := "frames", type := .int, accessFlags := 18, slot := 0, constantValue := 0 }, { name := "value", type := .double, accessFlags := 2, slot := 1, constantValue := 0 }, { name := "target", type := .double, accessFlags := 2, slot := 2, constantValue := 0 }, { name := "step", type := .double, accessFlags := 2, slot := 3, constantValue := 0 }, { name := "remaining", type := .int, accessFlags := 2, slot := 4, constantValue := 0 }]
  methods := #[k3m0, k3m1, k3m2, k3m3, k3m4]
  instanceTypes := #[.int, .double, .double, .double, .int]
  staticTypes := #[.double]
  resolved := Array.replicate 52 none
  statics := none }

def pool4 : Array CpInfo := pool [(1, .class_ 2), (0, u "java/io/Serializable"), (0, .class_ 4), (0, u "java/lang/Object")] 2

/-- java/io/Serializable -/
def k4 : Class := { plain "java/io/Serializable" (some 0) with
  accessFlags := 1537
  interfaces := #[]
  cf := some (fileOf pool4 1 #[] #[] 1537 3 #[] #[])
  fields := #[]
  methods := #[]
  instanceTypes := #[]
  staticTypes := #[]
  resolved := Array.replicate 7 none
  statics := none }

def pool5 : Array CpInfo := pool [(2, .class_ 4), (1, u "java/lang/Object"), (0, u "<init>"), (0, u "()V"), (1, .class_ 10), (1, u "java/lang/Number"), (2, .class_ 14), (0, u "java/io/Serializable"), (0, u "serialVersionUID"), (0, u "J")] 20

def k5m0 : Method := { name := "<init>", desc := "()V", sig := { parameters := [], returnType := none }, accessFlags := 1, code := none }
/-- java/lang/Number -/
def k5 : Class := { plain "java/lang/Number" (some 0) with
  accessFlags := 1057
  interfaces := #[4]
  cf := some (fileOf pool5 8 #[] #[{ accessFlags := 1, nameIndex := 5, descriptorIndex := 6, attributes := #[] }] 1057 2 #[13] #[{ accessFlags := 26, nameIndex := 15, descriptorIndex := 16, attributes := #[] }])
  fields := #[{ name := "serialVersionUID", type := .long, accessFlags := 26, slot := 0, constantValue := 0 }]
  methods := #[k5m0]
  instanceTypes := #[]
  staticTypes := #[.long]
  resolved := Array.replicate 37 none
  statics := none }

def pool6 : Array CpInfo := pool [(1, .class_ 2), (0, u "java/lang/Comparable"), (0, .class_ 4), (0, u "java/lang/Object")] 7

/-- java/lang/Comparable -/
def k6 : Class := { plain "java/lang/Comparable" (some 0) with
  accessFlags := 1537
  interfaces := #[]
  cf := some (fileOf pool6 1 #[] #[] 1537 3 #[] #[])
  fields := #[]
  methods := #[]
  instanceTypes := #[]
  staticTypes := #[]
  resolved := Array.replicate 12 none
  statics := none }

def pool7 : Array CpInfo := pool [(1, .class_ 2), (0, u "java/lang/constant/Constable"), (0, .class_ 4), (0, u "java/lang/Object")] 6

/-- java/lang/constant/Constable -/
def k7 : Class := { plain "java/lang/constant/Constable" (some 0) with
  accessFlags := 1537
  interfaces := #[]
  cf := some (fileOf pool7 1 #[] #[] 1537 3 #[] #[])
  fields := #[]
  methods := #[]
  instanceTypes := #[]
  staticTypes := #[]
  resolved := Array.replicate 11 none
  statics := none }

def pool8 : Array CpInfo := pool [(1, .class_ 2), (0, u "java/lang/constant/ConstantDesc"), (0, .class_ 4), (0, u "java/lang/Object")] 32

/-- java/lang/constant/ConstantDesc -/
def k8 : Class := { plain "java/lang/constant/ConstantDesc" (some 0) with
  accessFlags := 1537
  interfaces := #[]
  cf := some (fileOf pool8 1 #[] #[] 1537 3 #[] #[])
  fields := #[]
  methods := #[]
  instanceTypes := #[]
  staticTypes := #[]
  resolved := Array.replicate 37 none
  statics := none }

def pool9 : Array CpInfo := pool [(1, .class_ 2), (0, u "java/lang/Double"), (46, u "(D)J"), (64, .class_ 116), (1, u "java/lang/Number"), (3, u "value"), (0, u "D"), (14, u "doubleToRawLongBits"), (36, u "TYPE"), (0, u "Ljava/lang/Class;"), (0, .class_ 176), (0, u "java/lang/Comparable"), (0, .class_ 178), (0, u "java/lang/constant/Constable"), (0, .class_ 180), (0, u "java/lang/constant/ConstantDesc"), (0, u "POSITIVE_INFINITY"), (3, u "NEGATIVE_INFINITY"), (2, u "NaN"), (2, u "MAX_VALUE"), (0, u "MIN_NORMAL"), (0, u "MIN_VALUE"), (2, u "SIZE"), (0, u "I"), (1, u "PRECISION"), (1, u "MAX_EXPONENT"), (1, u "MIN_EXPONENT"), (1, u "BYTES"), (3, u "serialVersionUID"), (0, u "J")] 79

def k9m0 : Method := { name := "doubleToRawLongBits", desc := "(D)J", sig := { parameters := [.double], returnType := some .long }, accessFlags := 265, code := none }
/-- java/lang/Double -/
def k9 : Class := { plain "java/lang/Double" (some 5) with
  accessFlags := 49
  interfaces := #[6, 7, 8]
  cf := some (fileOf pool9 1 #[] #[{ accessFlags := 265, nameIndex := 136, descriptorIndex := 49, attributes := #[] }] 49 114 #[175, 177, 179] #[{ accessFlags := 25, nameIndex := 181, descriptorIndex := 121, attributes := #[] }, { accessFlags := 25, nameIndex := 185, descriptorIndex := 121, attributes := #[] }, { accessFlags := 25, nameIndex := 188, descriptorIndex := 121, attributes := #[] }, { accessFlags := 25, nameIndex := 191, descriptorIndex := 121, attributes := #[] }, { accessFlags := 25, nameIndex := 192, descriptorIndex := 121, attributes := #[] }, { accessFlags := 25, nameIndex := 193, descriptorIndex := 121, attributes := #[] }, { accessFlags := 25, nameIndex := 196, descriptorIndex := 197, attributes := #[] }, { accessFlags := 25, nameIndex := 199, descriptorIndex := 197, attributes := #[] }, { accessFlags := 25, nameIndex := 201, descriptorIndex := 197, attributes := #[] }, { accessFlags := 25, nameIndex := 203, descriptorIndex := 197, attributes := #[] }, { accessFlags := 25, nameIndex := 205, descriptorIndex := 197, attributes := #[] }, { accessFlags := 25, nameIndex := 173, descriptorIndex := 174, attributes := #[] }, { accessFlags := 18, nameIndex := 120, descriptorIndex := 121, attributes := #[] }, { accessFlags := 26, nameIndex := 209, descriptorIndex := 210, attributes := #[] }])
  fields := #[{ name := "POSITIVE_INFINITY", type := .double, accessFlags := 25, slot := 0, constantValue := 0 }, { name := "NEGATIVE_INFINITY", type := .double, accessFlags := 25, slot := 1, constantValue := 0 }, { name := "NaN", type := .double, accessFlags := 25, slot := 2, constantValue := 0 }, { name := "MAX_VALUE", type := .double, accessFlags := 25, slot := 3, constantValue := 0 }, { name := "MIN_NORMAL", type := .double, accessFlags := 25, slot := 4, constantValue := 0 }, { name := "MIN_VALUE", type := .double, accessFlags := 25, slot := 5, constantValue := 0 }, { name := "SIZE", type := .int, accessFlags := 25, slot := 6, constantValue := 0 }, { name := "PRECISION", type := .int, accessFlags := 25, slot := 7, constantValue := 0 }, { name := "MAX_EXPONENT", type := .int, accessFlags := 25, slot := 8, constantValue := 0 }, { name := "MIN_EXPONENT", type := .int, accessFlags := 25, slot := 9, constantValue := 0 }, { name := "BYTES", type := .int, accessFlags := 25, slot := 10, constantValue := 0 }, { name := "TYPE", type := (.object "java/lang/Class"), accessFlags := 25, slot := 11, constantValue := 0 }, { name := "value", type := .double, accessFlags := 18, slot := 0, constantValue := 0 }, { name := "serialVersionUID", type := .long, accessFlags := 26, slot := 12, constantValue := 0 }]
  methods := #[k9m0]
  instanceTypes := #[.double]
  staticTypes := #[.double, .double, .double, .double, .double, .double, .int, .int, .int, .int, .int, (.object "java/lang/Class"), .long]
  resolved := Array.replicate 290 none
  statics := none }

def pool10 : Array CpInfo := pool [(1, u "java/lang/Cloneable"), (0, .class_ 1), (0, u "java/lang/Object"), (0, .class_ 3)] 3

/-- java/lang/Cloneable -/
def k10 : Class := { plain "java/lang/Cloneable" (some 0) with
  accessFlags := 1537
  interfaces := #[]
  cf := some (fileOf pool10 2 #[] #[] 1537 4 #[] #[])
  fields := #[]
  methods := #[]
  instanceTypes := #[]
  staticTypes := #[]
  resolved := Array.replicate 8 none
  statics := none }

/-- the primitive byte -/
def k11 : Class := { plain "byte" none with kind := .primitive 'B', accessFlags := 0x411 }
/-- [B -/
def k12 : Class := { plain "[B" (some 0) with kind := .array 11 .byte, interfaces := #[10, 4], accessFlags := 1041 }

/-- the primitive int -/
def k13 : Class := { plain "int" none with kind := .primitive 'I', accessFlags := 0x411 }
/-- [I -/
def k14 : Class := { plain "[I" (some 0) with kind := .array 13 .int, interfaces := #[10, 4], accessFlags := 1041 }

def heap : Heap := #[]
def classes : Array Class := #[k0, k1, k2, k3, k4, k5, k6, k7, k8, k9, k10, k11, k12, k13, k14]
def interned : List (Array UInt16 × Addr) := []
def slotsUsed : Nat := 0
def theMethod : MethodId := ⟨1, 2⟩
def args0 : Array Value := #[.int 3, .int 4, .int 5, .int 6]
def aboutOver (below : List Frame) : State where
  vm := { classes := classes, interned := interned.toArray }
  heap := heap
  slotsUsed := slotsUsed
  threads := #[{ frames := .invoking theMethod args0 :: below }]
def below0 : List Frame := [.native { method := ⟨0, 0⟩, args := #[] }]
def about1 : State := aboutOver below0
def p0 : Program := .bare "" "" ""
def e0 : Env := launch0.env 0 0 0
theorem w_frames : about1.frames = Frame.invoking theMethod args0 :: below0 := rfl
set_option maxRecDepth 65536 in
theorem w_args : argsFit about1.vm theMethod args0 = true := by decide +kernel
set_option maxRecDepth 65536 in
theorem w_heap : heapFits about1 = true := by decide +kernel
set_option maxRecDepth 65536 in
theorem w_runnable : about1.curStatus? = some .runnable := by decide +kernel
set_option maxRecDepth 65536 in
theorem w_alone : about1.alone = true := by decide +kernel
set_option maxRecDepth 65536 in
theorem w_named : about1.methodNamed? x = some theMethod := by decide +kernel
set_option maxRecDepth 65536 in
theorem w_hears : about1.hears theMethod below0 = true := by decide +kernel
set_option maxRecDepth 65536 in
theorem w_ripe : about1.ripe theMethod args0 below0 = true := by decide +kernel
theorem w_running : about1.status = .running := rfl
set_option maxRecDepth 65536 in
theorem w_room : about1.hasRoom e0.platform room_1 = true :=
  launch0.hasRoom_least _ room_1 (by decide +kernel) (by decide +kernel) (by decide +kernel) (by decide +kernel) (by decide +kernel) (by decide +kernel)
theorem allAtoms_all (ts : List Jvm.Cond) (a : Array Jvm.Value) (st : Jvm.State) : (allAtoms ts).before a st = ts.all (fun c => c.before a st) := by
  induction ts with
  | nil => rfl
  | cons c t ih =>
    show (Jvm.Cond.and c (allAtoms t)).before a st = _
    rw [Jvm.Cond.before_and, ih, List.all_cons]
def words1 : List Jvm.Cond := Jvm.Cond.code x code maxLocals ret :: tables_1
/-- a 'code' word, met by the world's own term for the bytes: nothing is compared byte by byte -/
theorem code_word {y : MethodName} {bytes : ByteArray} {mx : Nat} {rt : Option FieldType} {a : Array Value} {s : State} {m : MethodId} {meth : Method} {c : Code} (h1 : s.methodNamed? y = some m) (h2 : s.vm.method? m = some meth) (h3 : meth.code = some c) (h4 : c.code = bytes)
    (h5 : (c.maxLocals == mx && c.exceptionTable.isEmpty && decide (c.maxStack ≤ mostOperands) && decide (meth.sig.returnType = rt) && !meth.locks && decide (parseMethodDescriptor y.desc = some meth.sig)) = true) : (Jvm.Cond.code y bytes mx rt).before a s = true := by
  simp only [Bool.and_eq_true, beq_iff_eq, Bool.not_eq_true', decide_eq_true_eq] at h5
  obtain ⟨⟨⟨⟨⟨g1, g2⟩, g3⟩, g4⟩, g5⟩, g6⟩ := h5
  simp [Cond.before, Cond.holds, Cond.value, h1, h2, h3, h4, g1, g2, g3, g4, g5, g6]
def isCode : Jvm.Cond → Bool
  | .code _ _ _ _ => true
  | _ => false
theorem all_split {L : List Jvm.Cond} {P : Jvm.Cond → Bool} (h1 : L.all (fun c => isCode c || P c) = true) (h2 : ∀ c ∈ L.filter isCode, P c = true) : L.all P = true := by
  refine List.all_eq_true.mpr fun c hc => ?_
  have h := List.all_eq_true.mp h1 c hc
  rcases Bool.eq_false_or_eq_true (isCode c) with hi | hi
  · exact h2 c (List.mem_filter.mpr ⟨hc, hi⟩)
  · simpa [hi] using h
set_option maxRecDepth 65536 in
theorem w_c0 : (Jvm.Cond.code x code maxLocals ret).before args0 about1 = true := code_word (m := ⟨1, 2⟩) (meth := k1m2) (c := k1c2) (by decide +kernel) rfl rfl rfl (by decide +kernel)
set_option maxRecDepth 65536 in
theorem w_c1 : (Jvm.Cond.code ({ cls := "java/lang/Math", name := "max", desc := "(II)I" } : Jvm.MethodName) jdk_29_method_65_code (2 : Nat) (Option.some Jvm.ClassFile.FieldType.int)).before args0 about1 = true := code_word (m := ⟨2, 2⟩) (meth := k2m2) (c := k2c2) (by decide +kernel) rfl rfl rfl (by decide +kernel)
set_option maxRecDepth 65536 in
theorem w_c2 : (Jvm.Cond.code ({ cls := "com/example/lampwork/lampwork/Glide", name := "<init>", desc := "(DI)V" } : Jvm.MethodName) prog_12_method_1_code (4 : Nat) (Option.none : Option Jvm.ClassFile.FieldType)).before args0 about1 = true := code_word (m := ⟨3, 0⟩) (meth := k3m0) (c := k3c0) (by decide +kernel) rfl rfl rfl (by decide +kernel)
set_option maxRecDepth 65536 in
theorem w_c3 : (Jvm.Cond.code ({ cls := "java/lang/Object", name := "<init>", desc := "()V" } : Jvm.MethodName) object_method_1_code (1 : Nat) (Option.none : Option Jvm.ClassFile.FieldType)).before args0 about1 = true := code_word (m := ⟨0, 0⟩) (meth := k0m0) (c := k0c0) (by decide +kernel) rfl rfl rfl (by decide +kernel)
set_option maxRecDepth 65536 in
theorem w_c4 : (Jvm.Cond.code ({ cls := "java/lang/Math", name := "round", desc := "(D)J" } : Jvm.MethodName) jdk_29_method_22_code (10 : Nat) (Option.some Jvm.ClassFile.FieldType.long)).before args0 about1 = true := code_word (m := ⟨2, 1⟩) (meth := k2m1) (c := k2c1) (by decide +kernel) rfl rfl rfl (by decide +kernel)
set_option maxRecDepth 65536 in
theorem w_c5 : (Jvm.Cond.code ({ cls := "java/lang/Math", name := "max", desc := "(JJ)J" } : Jvm.MethodName) jdk_29_method_66_code (4 : Nat) (Option.some Jvm.ClassFile.FieldType.long)).before args0 about1 = true := code_word (m := ⟨2, 3⟩) (meth := k2m3) (c := k2c3) (by decide +kernel) rfl rfl rfl (by decide +kernel)
set_option maxRecDepth 65536 in
theorem w_c6 : (Jvm.Cond.code ({ cls := "com/example/lampwork/lampwork/Glide", name := "set", desc := "(DZ)V" } : Jvm.MethodName) prog_12_method_2_code (4 : Nat) (Option.none : Option Jvm.ClassFile.FieldType)).before args0 about1 = true := code_word (m := ⟨3, 1⟩) (meth := k3m1) (c := k3c1) (by decide +kernel) rfl rfl rfl (by decide +kernel)
set_option maxRecDepth 65536 in
theorem w_c7 : (Jvm.Cond.code ({ cls := "com/example/lampwork/lampwork/Glide", name := "next", desc := "()D" } : Jvm.MethodName) prog_12_method_5_code (1 : Nat) (Option.some Jvm.ClassFile.FieldType.double)).before args0 about1 = true := code_word (m := ⟨3, 4⟩) (meth := k3m4) (c := k3c4) (by decide +kernel) rfl rfl rfl (by decide +kernel)
set_option maxRecDepth 65536 in
theorem w_c8 : (Jvm.Cond.code ({ cls := "com/example/lampwork/lampwork/GlideNextPinLaw", name := "expect", desc := "(DDIII)D" } : Jvm.MethodName) method_2_code (10 : Nat) (Option.some Jvm.ClassFile.FieldType.double)).before args0 about1 = true := code_word (m := ⟨1, 1⟩) (meth := k1m1) (c := k1c1) (by decide +kernel) rfl rfl rfl (by decide +kernel)
set_option maxRecDepth 65536 in
theorem w_c9 : (Jvm.Cond.code ({ cls := "com/example/lampwork/lampwork/Glide", name := "moving", desc := "()Z" } : Jvm.MethodName) prog_12_method_3_code (1 : Nat) (Option.some Jvm.ClassFile.FieldType.boolean)).before args0 about1 = true := code_word (m := ⟨3, 2⟩) (meth := k3m2) (c := k3c2) (by decide +kernel) rfl rfl rfl (by decide +kernel)
set_option maxRecDepth 65536 in
theorem w_c10 : (Jvm.Cond.code ({ cls := "com/example/lampwork/lampwork/Glide", name := "value", desc := "()D" } : Jvm.MethodName) prog_12_method_4_code (1 : Nat) (Option.some Jvm.ClassFile.FieldType.double)).before args0 about1 = true := code_word (m := ⟨3, 3⟩) (meth := k3m3) (c := k3c3) (by decide +kernel) rfl rfl rfl (by decide +kernel)
def codes1 : List Jvm.Cond := [Jvm.Cond.code x code maxLocals ret, Jvm.Cond.code ({ cls := "java/lang/Math", name := "max", desc := "(II)I" } : Jvm.MethodName) jdk_29_method_65_code (2 : Nat) (Option.some Jvm.ClassFile.FieldType.int), Jvm.Cond.code ({ cls := "com/example/lampwork/lampwork/Glide", name := "<init>", desc := "(DI)V" } : Jvm.MethodName) prog_12_method_1_code (4 : Nat) (Option.none : Option Jvm.ClassFile.FieldType), Jvm.Cond.code ({ cls := "java/lang/Object", name := "<init>", desc := "()V" } : Jvm.MethodName) object_method_1_code (1 : Nat) (Option.none : Option Jvm.ClassFile.FieldType), Jvm.Cond.code ({ cls := "java/lang/Math", name := "round", desc := "(D)J" } : Jvm.MethodName) jdk_29_method_22_code (10 : Nat) (Option.some Jvm.ClassFile.FieldType.long), Jvm.Cond.code ({ cls := "java/lang/Math", name := "max", desc := "(JJ)J" } : Jvm.MethodName) jdk_29_method_66_code (4 : Nat) (Option.some Jvm.ClassFile.FieldType.long), Jvm.Cond.code ({ cls := "com/example/lampwork/lampwork/Glide", name := "set", desc := "(DZ)V" } : Jvm.MethodName) prog_12_method_2_code (4 : Nat) (Option.none : Option Jvm.ClassFile.FieldType), Jvm.Cond.code ({ cls := "com/example/lampwork/lampwork/Glide", name := "next", desc := "()D" } : Jvm.MethodName) prog_12_method_5_code (1 : Nat) (Option.some Jvm.ClassFile.FieldType.double), Jvm.Cond.code ({ cls := "com/example/lampwork/lampwork/GlideNextPinLaw", name := "expect", desc := "(DDIII)D" } : Jvm.MethodName) method_2_code (10 : Nat) (Option.some Jvm.ClassFile.FieldType.double), Jvm.Cond.code ({ cls := "com/example/lampwork/lampwork/Glide", name := "moving", desc := "()Z" } : Jvm.MethodName) prog_12_method_3_code (1 : Nat) (Option.some Jvm.ClassFile.FieldType.boolean), Jvm.Cond.code ({ cls := "com/example/lampwork/lampwork/Glide", name := "value", desc := "()D" } : Jvm.MethodName) prog_12_method_4_code (1 : Nat) (Option.some Jvm.ClassFile.FieldType.double)]
set_option maxRecDepth 65536 in
theorem codes_eq : words1.filter isCode = codes1 := rfl
theorem w_codes : ∀ c ∈ words1.filter isCode, c.before args0 about1 = true := by
  rw [codes_eq]
  intro c hc
  simp only [codes1, List.mem_cons, List.not_mem_nil, or_false] at hc
  rcases hc with rfl | rfl | rfl | rfl | rfl | rfl | rfl | rfl | rfl | rfl | rfl
  · exact w_c0
  · exact w_c1
  · exact w_c2
  · exact w_c3
  · exact w_c4
  · exact w_c5
  · exact w_c6
  · exact w_c7
  · exact w_c8
  · exact w_c9
  · exact w_c10
set_option maxRecDepth 65536 in
theorem w_t1 : (words1.take 24).all (fun c => isCode c || c.before args0 about1) = true := by decide +kernel
set_option maxRecDepth 65536 in
theorem w_t2 : ((words1.drop 24).take 24).all (fun c => isCode c || c.before args0 about1) = true := by decide +kernel
set_option maxRecDepth 65536 in
theorem w_t3 : ((words1.drop 24).drop 24).all (fun c => isCode c || c.before args0 about1) = true := by decide +kernel
theorem w_tables : (allAtoms (Jvm.Cond.code x code maxLocals ret :: tables_1)).before args0 about1 = true := by
  rw [allAtoms_all]
  show words1.all (fun c => c.before args0 about1) = true
  refine all_split ?_ w_codes
  rw [← List.take_append_drop 24 words1, List.all_append, w_t1, ← List.take_append_drop 24 (words1.drop 24), List.all_append, w_t2, w_t3]
  rfl
set_option maxRecDepth 65536 in
theorem w_case : (Jvm.Cond.and given_1 narrow_1).before args0 about1 = true := by decide +kernel
theorem w_applies : (headSpec (Jvm.Cond.code x code maxLocals ret :: tables_1) room_1).applies x e0.platform about1 = true :=
  (Spec.applies_iff w_frames).mpr ⟨w_running, w_runnable, w_alone, w_named, w_hears, w_ripe, w_room, w_tables⟩
theorem atStart : AtStart classFile x code maxLocals ret World_1 tables_1 room_1 Calls_1 rest_1 Pre_1 launch0 p0 e0 about1 theMethod args0 below0 :=
  ⟨lists_1, trivial, launch0.admits_env _ _ _, launch0.least_env, fairChoices_fair.cas, fairChoices_fair.clock, w_frames, w_args, w_heap, w_applies, trivial, trivial, w_case⟩
end start1
theorem witness_1 : WitnessClaimed_1 := ⟨start1.p0, start1.e0, start1.about1, start1.theMethod, start1.args0, start1.below0, start1.atStart⟩
end Jvm.Pilot.@@N@@
