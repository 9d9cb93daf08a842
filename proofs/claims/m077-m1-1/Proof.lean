import JvmDerived
import JvmDerived.Pilot.@@N@@Statement
import JvmDerived.Pilot.@@N@@Code
set_option linter.unusedVariables false
set_option linter.unusedSimpArgs false
@@BLOCK:NumsL.lean.txt@@
namespace Jvm.Pilot.@@N@@
open Jvm Jvm.ClassFile Sem Op Lib Jvm.Free Jvm.Stand Jvm.LawKit Jvm.RoadKit Bundle Jvm.Pilot.@@N@@.Jvm.D
open Jvm.Free.Fl (NoNaN64 Fin64 Nz64)
theorem own_lt_ne {a b n : Nat} (h : a < n) (g : b = n) : a ≠ b := by omega
theorem own_lt_ne2 {a b n : Nat} (h : a < n) (g : n ≤ b) : a ≠ b := by omega
theorem own_ge_of {k b n : Nat} (h : k ≤ n) (g : b = n) : k ≤ b := by omega
abbrev uu : Slot := .unset
abbrev ss : Slot := .second
abbrev vi (x : Int32) : Slot := .val (.int x)
abbrev vj (x : Int64) : Slot := .val (.long x)
abbrev vd (x : UInt64) : Slot := .val (.double x)
abbrev vr (x : Addr) : Slot := .val (.ref x)
/-- whatever is reached from here is reached from E -/
abbrev own_G (p : Program) (e : Env) (below : List Frame) (E T : State) (g : JFrame) : Prop := ∀ t, Steps p.tables e below (T.setTop g) t → Steps p.tables e below E t
theorem own_if_eqY {x : Int32} (h : x = 0) : ifCond.holds .eq x = true := by subst h; rfl
theorem own_if_eqN {x : Int32} (h : ¬ x = 0) : ifCond.holds .eq x = false := beq_false_of_ne h
theorem own_if_neY {x : Int32} (h : ¬ x = 0) : ifCond.holds .ne x = true := bne_iff_ne.mpr h
theorem own_if_neN {x : Int32} (h : x = 0) : ifCond.holds .ne x = false := by subst h; rfl
theorem own_if_ltY {x : Int32} (h : x < 0) : ifCond.holds .lt x = true := decide_eq_true h
theorem own_if_ltN {x : Int32} (h : ¬ x < 0) : ifCond.holds .lt x = false := decide_eq_false h
theorem own_if_geY {x : Int32} (h : ¬ x < 0) : ifCond.holds .ge x = true := decide_eq_true (Int32.not_lt.mp h)
theorem own_if_geN {x : Int32} (h : x < 0) : ifCond.holds .ge x = false := decide_eq_false (fun q => Int32.not_le.mpr h q)
theorem own_if_gtY {x : Int32} (h : 0 < x) : ifCond.holds .gt x = true := decide_eq_true h
theorem own_if_gtN {x : Int32} (h : ¬ 0 < x) : ifCond.holds .gt x = false := decide_eq_false h
theorem own_if_leY {x : Int32} (h : ¬ 0 < x) : ifCond.holds .le x = true := decide_eq_true (Int32.not_lt.mp h)
theorem own_if_leN {x : Int32} (h : 0 < x) : ifCond.holds .le x = false := decide_eq_false (fun q => Int32.not_le.mpr h q)
theorem own_ic_eqY {x y : Int32} (h : x = y) : if_icmp.holds .eq x y = true := beq_iff_eq.mpr h
theorem own_ic_eqN {x y : Int32} (h : ¬ x = y) : if_icmp.holds .eq x y = false := beq_false_of_ne h
theorem own_ic_neY {x y : Int32} (h : ¬ x = y) : if_icmp.holds .ne x y = true := bne_iff_ne.mpr h
theorem own_ic_neN {x y : Int32} (h : x = y) : if_icmp.holds .ne x y = false := by subst h; exact bne_self_eq_false x
theorem own_ic_ltY {x y : Int32} (h : x < y) : if_icmp.holds .lt x y = true := decide_eq_true h
theorem own_ic_ltN {x y : Int32} (h : ¬ x < y) : if_icmp.holds .lt x y = false := decide_eq_false h
theorem own_ic_geY {x y : Int32} (h : ¬ x < y) : if_icmp.holds .ge x y = true := decide_eq_true (Int32.not_lt.mp h)
theorem own_ic_geN {x y : Int32} (h : x < y) : if_icmp.holds .ge x y = false := decide_eq_false (fun q => Int32.not_le.mpr h q)
theorem own_ic_gtY {x y : Int32} (h : y < x) : if_icmp.holds .gt x y = true := decide_eq_true h
theorem own_ic_gtN {x y : Int32} (h : ¬ y < x) : if_icmp.holds .gt x y = false := decide_eq_false h
theorem own_ic_leY {x y : Int32} (h : ¬ y < x) : if_icmp.holds .le x y = true := decide_eq_true (Int32.not_lt.mp h)
theorem own_ic_leN {x y : Int32} (h : y < x) : if_icmp.holds .le x y = false := decide_eq_false (fun q => Int32.not_le.mpr h q)
/-- what a comparison of two whole or scaled values pushes -/
def own_c (i j : Int) : Int32 := if i < j then -1 else if i = j then 0 else 1
theorem own_cE (o : CmpOp) {x y : UInt64} {i j : Int} (h : FP.dcmp x y = some (compare i j)) : cmpValue (FP.dcmp x y) o = own_c i j := by
  rw [h, FP.Core.compare_ite, own_c]
  by_cases h1 : i < j
  · rw [if_pos h1, if_pos h1]; cases o <;> rfl
  · rw [if_neg h1, if_neg h1]
    by_cases h2 : i = j
    · rw [if_pos h2, if_pos h2]; cases o <;> rfl
    · rw [if_neg h2, if_neg h2]; cases o <;> rfl
theorem own_c_lt {i j : Int} (h : i < j) : own_c i j = -1 := by rw [own_c, if_pos h]
theorem own_c_eq {i j : Int} (h : i = j) : own_c i j = 0 := by rw [own_c, if_neg (by omega), if_pos h]
theorem own_c_gt {i j : Int} (h : j < i) : own_c i j = 1 := by rw [own_c, if_neg (by omega), if_neg (by omega)]
theorem own_c_cases (i j : Int) : (i < j ∧ own_c i j = -1) ∨ (i = j ∧ own_c i j = 0) ∨ (j < i ∧ own_c i j = 1) := by
  rcases Int.lt_trichotomy i j with h | h | h
  · exact Or.inl ⟨h, own_c_lt h⟩
  · exact Or.inr (Or.inl ⟨h, own_c_eq h⟩)
  · exact Or.inr (Or.inr ⟨h, own_c_gt h⟩)
theorem own_c_ltY {i j : Int} (h : i < j) : ifCond.holds .lt (own_c i j) = true := by rw [own_c_lt h]; rfl
theorem own_c_ltN {i j : Int} (h : ¬ i < j) : ifCond.holds .lt (own_c i j) = false := by rcases own_c_cases i j with q | q | q <;> first | exact absurd q.1 h | (rw [q.2]; rfl)
theorem own_c_geY {i j : Int} (h : ¬ i < j) : ifCond.holds .ge (own_c i j) = true := by rcases own_c_cases i j with q | q | q <;> first | exact absurd q.1 h | (rw [q.2]; rfl)
theorem own_c_geN {i j : Int} (h : i < j) : ifCond.holds .ge (own_c i j) = false := by rw [own_c_lt h]; rfl
theorem own_c_gtY {i j : Int} (h : j < i) : ifCond.holds .gt (own_c i j) = true := by rw [own_c_gt h]; rfl
theorem own_c_gtN {i j : Int} (h : ¬ j < i) : ifCond.holds .gt (own_c i j) = false := by rcases own_c_cases i j with q | q | q <;> first | exact absurd q.1 h | (rw [q.2]; rfl)
theorem own_c_leY {i j : Int} (h : ¬ j < i) : ifCond.holds .le (own_c i j) = true := by rcases own_c_cases i j with q | q | q <;> first | exact absurd q.1 h | (rw [q.2]; rfl)
theorem own_c_leN {i j : Int} (h : j < i) : ifCond.holds .le (own_c i j) = false := by rw [own_c_gt h]; rfl
theorem own_c_eqY {i j : Int} (h : i = j) : ifCond.holds .eq (own_c i j) = true := by rw [own_c_eq h]; rfl
theorem own_c_eqN {i j : Int} (h : ¬ i = j) : ifCond.holds .eq (own_c i j) = false := by rcases own_c_cases i j with q | q | q <;> first | exact absurd q.1 h | (rw [q.2]; rfl)
theorem own_c_neY {i j : Int} (h : ¬ i = j) : ifCond.holds .ne (own_c i j) = true := by rcases own_c_cases i j with q | q | q <;> first | exact absurd q.1 h | (rw [q.2]; rfl)
theorem own_c_neN {i j : Int} (h : i = j) : ifCond.holds .ne (own_c i j) = false := by rw [own_c_eq h]; rfl
theorem own_l_lt {i j : Int64} (h : i < j) : XT.cmpL i j = -1 := by
  rw [XT.cmpL, if_neg (fun q => Int64.lt_irrefl (Int64.lt_trans h q)), if_neg (fun q => Int64.lt_irrefl (q ▸ h))]
theorem own_l_eq {i j : Int64} (h : i = j) : XT.cmpL i j = 0 := by subst h; rw [XT.cmpL, if_neg Int64.lt_irrefl, if_pos rfl]
theorem own_l_gt {i j : Int64} (h : j < i) : XT.cmpL i j = 1 := by rw [XT.cmpL, if_pos h]
theorem own_l_cases (i j : Int64) : (i < j ∧ XT.cmpL i j = -1) ∨ (i = j ∧ XT.cmpL i j = 0) ∨ (j < i ∧ XT.cmpL i j = 1) := by
  by_cases h : i < j
  · exact Or.inl ⟨h, own_l_lt h⟩
  · by_cases h2 : i = j
    · exact Or.inr (Or.inl ⟨h2, own_l_eq h2⟩)
    · have h3 : j < i := by
        rw [Int64.lt_iff_toInt_lt] at h ⊢
        have h4 : i.toInt ≠ j.toInt := fun q => h2 (Int64.toInt_inj.mp q)
        omega
      exact Or.inr (Or.inr ⟨h3, own_l_gt h3⟩)
theorem own_l_ltY {i j : Int64} (h : i < j) : ifCond.holds .lt (XT.cmpL i j) = true := by rw [own_l_lt h]; rfl
theorem own_l_ltN {i j : Int64} (h : ¬ i < j) : ifCond.holds .lt (XT.cmpL i j) = false := by rcases own_l_cases i j with q | q | q <;> first | exact absurd q.1 h | (rw [q.2]; rfl)
theorem own_l_geY {i j : Int64} (h : ¬ i < j) : ifCond.holds .ge (XT.cmpL i j) = true := by rcases own_l_cases i j with q | q | q <;> first | exact absurd q.1 h | (rw [q.2]; rfl)
theorem own_l_geN {i j : Int64} (h : i < j) : ifCond.holds .ge (XT.cmpL i j) = false := by rw [own_l_lt h]; rfl
theorem own_l_gtY {i j : Int64} (h : j < i) : ifCond.holds .gt (XT.cmpL i j) = true := by rw [own_l_gt h]; rfl
theorem own_l_gtN {i j : Int64} (h : ¬ j < i) : ifCond.holds .gt (XT.cmpL i j) = false := by rcases own_l_cases i j with q | q | q <;> first | exact absurd q.1 h | (rw [q.2]; rfl)
theorem own_l_leY {i j : Int64} (h : ¬ j < i) : ifCond.holds .le (XT.cmpL i j) = true := by rcases own_l_cases i j with q | q | q <;> first | exact absurd q.1 h | (rw [q.2]; rfl)
theorem own_l_leN {i j : Int64} (h : j < i) : ifCond.holds .le (XT.cmpL i j) = false := by rw [own_l_gt h]; rfl
theorem own_l_eqY {i j : Int64} (h : i = j) : ifCond.holds .eq (XT.cmpL i j) = true := by rw [own_l_eq h]; rfl
theorem own_l_eqN {i j : Int64} (h : ¬ i = j) : ifCond.holds .eq (XT.cmpL i j) = false := by rcases own_l_cases i j with q | q | q <;> first | exact absurd q.1 h | (rw [q.2]; rfl)
theorem own_l_neY {i j : Int64} (h : ¬ i = j) : ifCond.holds .ne (XT.cmpL i j) = true := by rcases own_l_cases i j with q | q | q <;> first | exact absurd q.1 h | (rw [q.2]; rfl)
theorem own_l_neN {i j : Int64} (h : i = j) : ifCond.holds .ne (XT.cmpL i j) = false := by rw [own_l_eq h]; rfl
theorem own_ac_eq_Y {x y : Value} (h : x = y) : XT.acmp .eq x y = true := decide_eq_true h
theorem own_ac_eq_N {x y : Value} (h : ¬ x = y) : XT.acmp .eq x y = false := decide_eq_false h
theorem own_ac_ne_Y {x y : Value} (h : ¬ x = y) : XT.acmp .ne x y = true := decide_eq_true h
theorem own_ac_ne_N {x y : Value} (h : x = y) : XT.acmp .ne x y = false := decide_eq_false (fun q => q h)
theorem own_ar_eq_Y {x y : Addr} (h : x = y) : XT.acmp .eq (.ref x) (.ref y) = true := own_ac_eq_Y (congrArg Value.ref h)
theorem own_ar_eq_N {x y : Addr} (h : ¬ x = y) : XT.acmp .eq (.ref x) (.ref y) = false := own_ac_eq_N (fun q => h (Value.ref.inj q))
theorem own_ar_ne_Y {x y : Addr} (h : ¬ x = y) : XT.acmp .ne (.ref x) (.ref y) = true := own_ac_ne_Y (fun q => h (Value.ref.inj q))
theorem own_ar_ne_N {x y : Addr} (h : x = y) : XT.acmp .ne (.ref x) (.ref y) = false := own_ac_ne_N (congrArg Value.ref h)
/-- a static's object's field that the case names by a number -/
theorem own_ord {args : Array Value} {s : State} {t : Term} {C n d : String} {k : Int32} {x : Addr} (ev : t.eval args s none [] s = some (.ref x))
    (h : (Jvm.Cond.eq (Term.field t C n d) (Term.int k)).value args s none s [] = some true) : s.fieldOf? x C n d = some (.int k) := by
  obtain ⟨v, u, e1, e2, k1, k2⟩ := cmp_v (Or.inl h)
  have e3 : u = .int k := by have := (Term.int_eval (args := args) (first := s) (o := none) (idx := []) (s := s) k).symm.trans e2; exact (Option.some.inj this).symm
  subst e3
  obtain ⟨z, rfl⟩ := k2
  have q := gotT (Cond.eq_ints e1 e2) h
  rw [← fld_at ev, e1, q]
/-! doubles: exact values in units of the least double -/
def own_z (x : UInt64) : Int := FP.Core.zval FP.Core.b64 (FP.Core.val64 x)
theorem own_nn {i : Int} {x : UInt64} (h : FP.Core.DInt i x) : NoNaN64 x := Fl.val64_no.mpr (FP.Core.DInt_ne_nan h)
theorem own_cmpz {x y : UInt64} (hx : NoNaN64 x) (hy : NoNaN64 y) : FP.dcmp x y = some (compare (own_z x) (own_z y)) := FP.Core.dcmp_zval (Fl.val64_no.mp hx) (Fl.val64_no.mp hy)
theorem own_d0 : FP.Core.DInt 0 FP.dconst0 := by
  have h := FP.Core.l2d_int (a := 0) (by decide)
  rw [FP.Core.l2d_zero] at h; exact h
theorem own_d1 : FP.Core.DInt 1 FP.dconst1 := FP.Core.dint_one
theorem own_zi {i : Int} {x : UInt64} (h : FP.Core.DInt i x) : own_z x = i * (FP.Core.one64 : Int) := FP.Core.DInt_zval h
theorem own_fini {i : Int} {x : UInt64} (h : FP.Core.DInt i x) : Fin64 x := by
  have h' : FP.Core.Whole i (FP.Core.val64 x) := h
  cases hv : FP.Core.val64 x with
  | nan => rw [hv] at h'; exact h'.elim
  | inf s => rw [hv] at h'; exact h'.elim
  | fin s c q => exact Fl.fin64_core.mpr ⟨s, c, q, hv⟩
theorem own_one : (0 : Int) < (FP.Core.one64 : Int) := by have := FP.Core.one64_pos; omega
theorem own_nz {x : UInt64} (h : own_z x ≠ 0) : Nz64 x := Fl.nz64_core.mpr fun ⟨s, q, e⟩ => h (by
  show FP.Core.zval FP.Core.b64 (FP.Core.val64 x) = 0
  rw [e]; show FP.Core.signed s (0 * _) = 0; rw [Nat.zero_mul]; cases s <;> rfl)
theorem own_nzi {i : Int} {x : UInt64} (h : FP.Core.DInt i x) (hi : i ≠ 0) : Nz64 x := own_nz (by
  rw [own_zi h]; intro q; rcases Int.mul_eq_zero.mp q with r | r
  · exact hi r
  · have := own_one; omega)
theorem own_zn (x : UInt64) : (own_z x).natAbs = FP.Core.zmag FP.Core.b64 (FP.Core.val64 x) := FP.Core.natAbs_signed _ _
/-- the quotient, by the two values alone -/
theorem own_quot {x y : UInt64} (hx : Fin64 x) (hy : Fin64 y) (hz : own_z y ≠ 0) :
    FP.Core.val64 (FP.ddiv x y) = FP.Core.roundRatio FP.Core.b64 (FP.Core.sgn (FP.Core.val64 x) != FP.Core.sgn (FP.Core.val64 y)) (own_z x).natAbs (own_z y).natAbs 0 := by
  obtain ⟨s, c, q, ex⟩ := Fl.fin64_core.mp hx
  obtain ⟨t, d, r, ey⟩ := Fl.fin64_core.mp hy
  have fx : FP.Core.fits FP.Core.b64 (.fin s c q) := ex ▸ FP.Core.val64_fits x
  have fy : FP.Core.fits FP.Core.b64 (.fin t d r) := ey ▸ FP.Core.val64_fits y
  have hd : d ≠ 0 := fun h => hz (by
    show FP.Core.zval FP.Core.b64 (FP.Core.val64 y) = 0
    rw [ey, h]; show FP.Core.signed t (0 * _) = 0; rw [Nat.zero_mul]; cases t <;> rfl)
  rw [own_zn, own_zn, show FP.ddiv x y = FP.Core.ddiv x y from rfl, FP.Core.val64_ddiv, ex, ey]
  show (if d = 0 then _ else FP.Core.roundRatio FP.Core.b64 (s != t) c d (q - r)) = FP.Core.roundRatio FP.Core.b64 (s != t) (c * 2 ^ (q - FP.Core.b64.qmin).toNat) (d * 2 ^ (r - FP.Core.b64.qmin).toNat) 0
  rw [if_neg hd]
  refine FP.Core.roundRatio_congr (Nat.pos_of_ne_zero hd) (Nat.mul_pos (Nat.pos_of_ne_zero hd) (Nat.two_pow_pos _)) ?_
  have h1 := fx.2.1
  have h2 := fy.2.1
  have e1 : (r - FP.Core.b64.qmin).toNat + (q - r - 0).toNat = (q - FP.Core.b64.qmin).toNat + (0 - (q - r)).toNat := by omega
  calc c * (d * 2 ^ (r - FP.Core.b64.qmin).toNat) * 2 ^ (q - r - 0).toNat = c * d * (2 ^ (r - FP.Core.b64.qmin).toNat * 2 ^ (q - r - 0).toNat) := by
        rw [Nat.mul_assoc, Nat.mul_assoc, Nat.mul_assoc]
    _ = c * d * (2 ^ (q - FP.Core.b64.qmin).toNat * 2 ^ (0 - (q - r)).toNat) := by rw [← Nat.pow_add, ← Nat.pow_add, e1]
    _ = c * 2 ^ (q - FP.Core.b64.qmin).toNat * d * 2 ^ (0 - (q - r)).toNat := by
        rw [Nat.mul_right_comm c _ d, Nat.mul_assoc (c * d)]
theorem own_noNaN_of {x : UInt64} {s : Bool} {A B : Nat} {e : Int} (h : FP.Core.val64 x = FP.Core.roundRatio FP.Core.b64 s A B e) : NoNaN64 x :=
  Fl.val64_no.mpr (h ▸ FP.Core.roundRatio_ne_nan _ _ _ _ _)
theorem own_div_nn {x y : UInt64} (hx : Fin64 x) (hy : Fin64 y) (hz : own_z y ≠ 0) : NoNaN64 (FP.ddiv x y) := Fl.ddiv_out hx.noNaN hy (own_nz hz)
/-- what is rounded below (above) a double stays there -/
theorem own_rr_le {s : Bool} {A B : Nat} {V : UInt64} (hB : 0 < B) (hV : NoNaN64 V) (h : A * FP.Core.one64 ≤ (own_z V).natAbs * B) :
    FP.Core.zmag FP.Core.b64 (FP.Core.roundRatio FP.Core.b64 s A B 0) ≤ (own_z V).natAbs := by
  rw [own_zn] at h ⊢
  refine FP.Core.zmag_roundRatio_le FP.Core.good_b64 hB (FP.Core.val64_fits V) (Fl.val64_no.mp hV) (e0 := FP.Core.b64.qmin) (Int.le_refl _) (by decide +kernel) ?_
  rw [Int.sub_self]
  show A * 2 ^ (0 - FP.Core.b64.qmin).toNat ≤ _ * 1 * B
  rw [Nat.mul_one, Int.zero_sub, FP.Core.pow_qmin64]; exact h
theorem own_rr_ge {s : Bool} {A B : Nat} {V : UInt64} (hB : 0 < B) (h : (own_z V).natAbs * B ≤ A * FP.Core.one64) :
    (own_z V).natAbs ≤ FP.Core.zmag FP.Core.b64 (FP.Core.roundRatio FP.Core.b64 s A B 0) := by
  rw [own_zn] at h ⊢
  refine FP.Core.zmag_roundRatio_ge FP.Core.good_b64 hB (FP.Core.val64_fits V) (e0 := FP.Core.b64.qmin) (Int.le_refl _) (by decide +kernel) ?_
  rw [Int.sub_self]
  show _ * 1 * B ≤ A * 2 ^ (0 - FP.Core.b64.qmin).toNat
  rw [Nat.mul_one, Int.zero_sub, FP.Core.pow_qmin64]; exact h
theorem own_z_signed {x : UInt64} {s : Bool} {A B : Nat} (h : FP.Core.val64 x = FP.Core.roundRatio FP.Core.b64 s A B 0) :
    own_z x = FP.Core.signed s (FP.Core.zmag FP.Core.b64 (FP.Core.roundRatio FP.Core.b64 s A B 0)) := by
  show FP.Core.signed _ _ = _
  rw [h, FP.Core.sgn_roundRatio]
/-- a quotient of two that are not below nought -/
theorem own_div_ge0 {x y : UInt64} (hx : Fin64 x) (hy : Fin64 y) (hz : own_z y ≠ 0) (h0 : 0 ≤ own_z x) (h1 : 0 ≤ own_z y) : 0 ≤ own_z (FP.ddiv x y) := by
  have hq := own_quot hx hy hz
  rw [own_z_signed hq]
  cases hs : (FP.Core.sgn (FP.Core.val64 x) != FP.Core.sgn (FP.Core.val64 y)) with
  | false => exact Int.natCast_nonneg _
  | true =>
    have hy2 : FP.Core.sgn (FP.Core.val64 y) = false := by
      cases hs2 : FP.Core.sgn (FP.Core.val64 y) with
      | false => rfl
      | true =>
        exfalso; have : own_z y = -(FP.Core.zmag FP.Core.b64 (FP.Core.val64 y) : Int) := by show FP.Core.signed _ _ = _; rw [hs2]; rfl
        omega
    have hx2 : FP.Core.sgn (FP.Core.val64 x) = true := by rw [hy2] at hs; simpa using hs
    have hx3 : own_z x = -(FP.Core.zmag FP.Core.b64 (FP.Core.val64 x) : Int) := by show FP.Core.signed _ _ = _; rw [hx2]; rfl
    have hx4 : (own_z x).natAbs = 0 := by omega
    rw [hx4, FP.Core.roundRatio, if_pos rfl]
    show 0 ≤ FP.Core.signed true (0 * _); rw [Nat.zero_mul]; decide
theorem own_div_le {x y V : UInt64} (hx : Fin64 x) (hy : Fin64 y) (hz : own_z y ≠ 0) (hV : NoNaN64 V) (h0 : 0 ≤ own_z x) (h1 : 0 ≤ own_z y) (h2 : 0 ≤ own_z V)
    (h : own_z x * (FP.Core.one64 : Int) ≤ own_z V * own_z y) : own_z (FP.ddiv x y) ≤ own_z V := by
  have hq := own_quot hx hy hz
  have hge := own_div_ge0 hx hy hz h0 h1
  have hB : 0 < (own_z y).natAbs := by omega
  have h3 : (own_z x).natAbs * FP.Core.one64 ≤ (own_z V).natAbs * (own_z y).natAbs := by
    have e1 : ((own_z x).natAbs : Int) = own_z x := by omega
    have e2 : ((own_z y).natAbs : Int) = own_z y := by omega
    have e3 : ((own_z V).natAbs : Int) = own_z V := by omega
    have : (((own_z x).natAbs * FP.Core.one64 : Nat) : Int) ≤ (((own_z V).natAbs * (own_z y).natAbs : Nat) : Int) := by
      rw [Int.natCast_mul, Int.natCast_mul, e1, e2, e3]; exact h
    exact Int.ofNat_le.mp this
  have := own_rr_le (s := FP.Core.sgn (FP.Core.val64 x) != FP.Core.sgn (FP.Core.val64 y)) hB hV h3
  have h4 : (own_z (FP.ddiv x y)).natAbs ≤ (own_z V).natAbs := by rw [own_zn, hq]; exact this
  omega
/-- two doubles of the same whole value compare as equal -/
theorem own_eq0 {x y : UInt64} {i : Int} (o : CmpOp) (hx : FP.Core.DInt i x) (hy : FP.Core.DInt i y) : cmpValue (FP.dcmp x y) o = 0 := by
  rw [own_cE o (FP.Core.dcmp_int hx hy), own_c_eq rfl]
theorem own_mb {a b A B : Int} (h1 : -A ≤ a) (h2 : a ≤ A) (h3 : -B ≤ b) (h4 : b ≤ B) (h : A * B ≤ 9007199254740992) : (a * b).natAbs ≤ 2 ^ 53 := by
  rw [Int.natAbs_mul]
  have e1 : a.natAbs ≤ A.toNat := by omega
  have e2 : b.natAbs ≤ B.toNat := by omega
  have e3 : a.natAbs * b.natAbs ≤ A.toNat * B.toNat := Nat.mul_le_mul e1 e2
  have e4 : ((A.toNat * B.toNat : Nat) : Int) = A * B := by rw [Int.natCast_mul, Int.toNat_of_nonneg (by omega), Int.toNat_of_nonneg (by omega)]
  have e5 : (2 : Nat) ^ 53 = 9007199254740992 := by decide
  omega
theorem own_dl (a : Int64) {i : Int} (h : a.toInt = i) (hb : i.natAbs ≤ 2 ^ 53) : FP.Core.DInt i (FP.l2d a) := by subst h; exact FP.Core.l2d_int hb
theorem own_lm {a b : Int64} (h : (a.toInt * b.toInt).natAbs ≤ 2 ^ 53) : (a * b).toInt = a.toInt * b.toInt := by
  have e5 : (2 : Nat) ^ 53 = 9007199254740992 := by decide
  exact Jvm.Kit.i64_mul (by omega) (by omega)
theorem own_sgn_mul {s t : Bool} {b : Nat} {k : Int} (hb : 0 < b) (h : FP.Core.signed s (k.natAbs * b) = k * FP.Core.signed t b) : FP.Core.signed (s != t) k.natAbs = k := by
  have hb' : (0 : Int) < (b : Int) := by omega
  have e : ((k.natAbs * b : Nat) : Int) = (k.natAbs : Int) * (b : Int) := Int.natCast_mul _ _
  have key : ∀ z : Int, (k.natAbs : Int) * (b : Int) = z * (b : Int) → (k.natAbs : Int) = z := fun z q => Int.eq_of_mul_eq_mul_right (by omega) q
  cases s <;> cases t
  · show (k.natAbs : Int) = k
    apply key; rw [← e]; exact h
  · show -(k.natAbs : Int) = k
    have h' : ((k.natAbs * b : Nat) : Int) = k * -(b : Int) := h
    have := key (-k) (by rw [← e, h', Int.mul_neg, Int.neg_mul]); omega
  · show -(k.natAbs : Int) = k
    have h' : -((k.natAbs * b : Nat) : Int) = k * (b : Int) := h
    have := key (-k) (by rw [← e, Int.neg_mul, ← h', Int.neg_neg]); omega
  · show (k.natAbs : Int) = k
    have h' : -((k.natAbs * b : Nat) : Int) = k * -(b : Int) := h
    apply key; rw [← e]
    have : -((k.natAbs * b : Nat) : Int) = -(k * (b : Int)) := by rw [h', Int.mul_neg]
    omega
/-- a quotient of whole values that comes out even -/
theorem own_ddiv_int {k j : Int} {x y : UInt64} (hx : FP.Core.DInt (k * j) x) (hy : FP.Core.DInt j y) (hj : j ≠ 0) (hk : k.natAbs ≤ 2 ^ 53) : FP.Core.DInt k (FP.ddiv x y) := by
  have zx := own_zi hx
  have zy := own_zi hy
  have hz : own_z y ≠ 0 := by rw [zy]; exact Int.mul_ne_zero hj (by have := own_one; omega)
  have hq := own_quot (own_fini hx) (own_fini hy) hz
  have ha : (own_z x).natAbs = k.natAbs * (own_z y).natAbs := by rw [zx, zy, Int.mul_assoc, Int.natAbs_mul]
  have hb : 0 < (own_z y).natAbs := by omega
  show FP.Core.Whole k (FP.Core.val64 (FP.ddiv x y))
  rw [hq, ha, FP.Core.roundRatio_congr (A' := k.natAbs) (B' := 1) (e' := 0) hb (by decide) (by rw [Nat.mul_one])]
  refine FP.Core.whole_round FP.Core.good_b64 FP.Core.wide_b64 hk (d := .fin (FP.Core.sgn (FP.Core.val64 x) != FP.Core.sgn (FP.Core.val64 y)) k.natAbs 0) ?_
  show FP.Core.signed _ (k.natAbs * 1) = k * ((1 : Nat) : Int)
  rw [Nat.mul_one, show ((1 : Nat) : Int) = 1 from rfl, Int.mul_one]
  refine own_sgn_mul hb ?_
  have e1 : FP.Core.signed (FP.Core.sgn (FP.Core.val64 x)) (own_z x).natAbs = own_z x := by rw [own_zn]; rfl
  have e2 : FP.Core.signed (FP.Core.sgn (FP.Core.val64 y)) (own_z y).natAbs = own_z y := by rw [own_zn]; rfl
  rw [← ha, e1, e2, zx, zy, Int.mul_assoc]
theorem own_zmag_s (s : Bool) (A B : Nat) (e : Int) : FP.Core.zmag FP.Core.b64 (FP.Core.roundRatio FP.Core.b64 s A B e) = FP.Core.zmag FP.Core.b64 (FP.Core.roundRatio FP.Core.b64 false A B e) := by
  cases s with
  | false => rfl
  | true =>
    rw [show FP.Core.roundRatio FP.Core.b64 true A B e = FP.Core.negate (FP.Core.roundRatio FP.Core.b64 false A B e) from (FP.Core.negate_roundRatio FP.Core.b64 false A B e).symm]
    cases FP.Core.roundRatio FP.Core.b64 false A B e <;> rfl
theorem own_div_n {x y : UInt64} (hx : Fin64 x) (hy : Fin64 y) (hz : own_z y ≠ 0) : (own_z (FP.ddiv x y)).natAbs = FP.Core.zmag FP.Core.b64 (FP.Core.roundRatio FP.Core.b64 false (own_z x).natAbs (own_z y).natAbs 0) := by
  rw [own_zn, own_quot hx hy hz, own_zmag_s]
/-- two quotients of the same ratio, none below nought -/
theorem own_div_congr {x y x' y' : UInt64} (hx : Fin64 x) (hy : Fin64 y) (hz : own_z y ≠ 0) (hx' : Fin64 x') (hy' : Fin64 y') (hz' : own_z y' ≠ 0)
    (g1 : 0 ≤ own_z x) (g2 : 0 ≤ own_z y) (g3 : 0 ≤ own_z x') (g4 : 0 ≤ own_z y') (h : own_z x * own_z y' = own_z x' * own_z y) : own_z (FP.ddiv x y) = own_z (FP.ddiv x' y') := by
  have e1 := own_div_n hx hy hz
  have e2 := own_div_n hx' hy' hz'
  have k1 := own_div_ge0 hx hy hz g1 g2
  have k2 := own_div_ge0 hx' hy' hz' g3 g4
  have h' : (own_z x).natAbs * (own_z y').natAbs = (own_z x').natAbs * (own_z y).natAbs := by rw [← Int.natAbs_mul, ← Int.natAbs_mul, h]
  rw [FP.Core.roundRatio_congr (A' := (own_z x').natAbs) (B' := (own_z y').natAbs) (e' := 0) (by omega) (by omega) (by rw [h'])] at e1
  omega
/-- m * 2^k units is a double -/
theorem own_rep (m k : Nat) (hm : m < 2 ^ 53) (hk : k ≤ 2045) : ∃ V : UInt64, Fin64 V ∧ own_z V = ((m * 2 ^ k : Nat) : Int) := by
  have hq : FP.Core.b64.qmin = -1074 := FP.Core.qmin_b64
  have hq2 : FP.Core.b64.qmax = 971 := by decide
  obtain ⟨c, q, e1, e2⟩ := FP.Core.round_exact FP.Core.good_b64 false (c := m) (q := (k : Int) - 1074) hm (by rw [hq]; omega) (by rw [hq2]; omega)
  have hv : FP.Core.val64 (FP.Core.of64 (FP.Core.round FP.Core.b64 (.fin false m ((k : Int) - 1074)))) = .fin false c q := by
    rw [FP.Core.val64_of64 (FP.Core.round_fits FP.Core.good_b64 _), e1]
  refine ⟨_, Fl.fin64_core.mpr ⟨_, _, _, hv⟩, ?_⟩
  show FP.Core.zval FP.Core.b64 _ = _
  rw [hv]
  show ((FP.Core.inUnits c q FP.Core.b64.qmin : Nat) : Int) = _
  rw [e2, FP.Core.inUnits, hq, show ((k : Int) - 1074 - -1074).toNat = k by omega]
/-- a quotient that comes out even in some binary place -/
theorem own_div_exact {x y : UInt64} (hx : Fin64 x) (hy : Fin64 y) (hz : own_z y ≠ 0) (g1 : 0 ≤ own_z x) (g2 : 0 ≤ own_z y) (m k : Nat) (hm : m < 2 ^ 53) (hk : k ≤ 2045)
    (h : own_z x * (FP.Core.one64 : Int) = ((m * 2 ^ k : Nat) : Int) * own_z y) : own_z (FP.ddiv x y) = ((m * 2 ^ k : Nat) : Int) := by
  obtain ⟨V, fV, zV⟩ := own_rep m k hm hk
  have k1 := own_div_ge0 hx hy hz g1 g2
  have e1 := own_div_n hx hy hz
  have h3 : (own_z x).natAbs * FP.Core.one64 = (own_z V).natAbs * (own_z y).natAbs := by
    have := congrArg Int.natAbs h
    rw [Int.natAbs_mul, Int.natAbs_mul, ← zV] at this
    exact this
  have l1 := own_rr_le (s := false) (A := (own_z x).natAbs) (B := (own_z y).natAbs) (V := V) (by omega) fV.noNaN (Nat.le_of_eq h3)
  have l2 := own_rr_ge (s := false) (A := (own_z x).natAbs) (B := (own_z y).natAbs) (V := V) (by omega) (Nat.le_of_eq h3.symm)
  omega
theorem own_eqz {x y : UInt64} (o : CmpOp) (hx : NoNaN64 x) (hy : NoNaN64 y) (h : own_z x = own_z y) : cmpValue (FP.dcmp x y) o = 0 := by
  rw [own_cE o (own_cmpz hx hy), own_c_eq h]
theorem own_ge0 {x : UInt64} (h : 0 ≤ own_z x) : ¬ own_z x < own_z FP.dconst0 := by rw [own_zi own_d0, Int.zero_mul]; exact Int.not_lt.mpr h
theorem own_le1 {x : UInt64} (h : own_z x ≤ own_z FP.dconst1) : ¬ own_z FP.dconst1 < own_z x := Int.not_lt.mpr h
/-! arrays by the list of what they hold -/
def own_A (Z : State) (h : Heap) (a : Addr) (ty : FieldType) (vs : List Value) : Prop := ∃ c : Cell, Arr Z h a c ty ∧ c.slots.toList = vs
section OwnArr
variable {p : Program} {l : Launch} {e : Env} {R : Room} {s : State} {m : MethodId} {args : Array Value} {below : List Frame} {meth : Method} {c : Code} {T : State} {locs : List Loc} {cells slots : Nat} {Z : State} {h h' : Heap} {a b : Addr} {ty : FieldType} {vs : List Value} {sl : Nat} {v : Value} {ws : List Addr}
theorem own_A.lt (F : own_A Z h a ty vs) : a < h.size := by obtain ⟨c, A, -⟩ := F; exact A.lt
theorem own_A.ext (F : own_A Z h a ty vs) (E : Ext h h') : own_A Z h' a ty vs := by obtain ⟨c, A, r⟩ := F; exact ⟨c, A.ext E, r⟩
theorem own_A.other (F : own_A Z h b ty vs) (W : Wr h h' a sl v) (q : b ≠ a) : own_A Z h' b ty vs := by obtain ⟨c, A, r⟩ := F; exact ⟨c, A.other W q, r⟩
theorem own_A.keep (F : own_A Z h a ty vs) (K : Keep h h' ws) (q : a ∉ ws) : own_A Z h' a ty vs := by obtain ⟨c, A, r⟩ := F; exact ⟨c, ⟨K.2.1 a c A.1 q, A.2⟩, r⟩
theorem own_A.new {k : ClassId} {n : Int32} (A : Arr Z h a (newA k ty n) ty) : own_A Z h a ty (List.replicate n.toNatClampNeg (defaultValue ty)) := ⟨_, A, by simp [newA]⟩
theorem own_A.len (X : Stand p l e R s m args below meth c T locs cells slots) (hx : p.tables.exec = Jvm.exec) (hZ : Z.Warmed39 s.vm) (eT : T.heap = h) (F : own_A Z h a ty vs)
    {g : JFrame} (hg : g.method = m) {rest : List Value} (hs : g.stack = .ref a :: rest) (hd : decode c.code g.pc = .ok (.arraylength, 1)) (target : State)
    (hr : Steps p.tables e below (T.setTop { g with pc := g.pc + 1, stack := .int vs.length.toInt32 :: rest }) target) : Steps p.tables e below (T.setTop g) target := by
  obtain ⟨cl, A, rfl⟩ := F
  refine X.arraylength hx (cell := cl) (by rw [eT]; exact A.1) (State.isArrayOf_alike hZ.alike A.2.1) hg hs hd _ ?_
  rw [Array.length_toList] at hr; exact hr
theorem own_A.inb {cl : Cell} {j : Int32} (hj : ¬ j < 0) (hv : cl.slots.toList[j.toNatClampNeg]? = some v) : ¬ (j < 0 ∨ cl.slots.size ≤ j.toNatClampNeg) := by
  rintro (q | q)
  · exact hj q
  · rw [List.getElem?_eq_none (by rw [Array.length_toList]; exact q)] at hv; cases hv
theorem own_A.dld (X : Stand p l e R s m args below meth c T locs cells slots) (hx : p.tables.exec = Jvm.exec) (hZ : Z.Warmed39 s.vm) (eT : T.heap = h) (F : own_A Z h a .double vs) {j : Int32} (hj : ¬ j < 0) (hv : vs[j.toNatClampNeg]? = some v)
    {g : JFrame} (hg : g.method = m) {rest : List Value} (hs : g.stack = .int j :: .ref a :: rest) (hd : decode c.code g.pc = .ok (.daload, 1)) (target : State)
    (hr : Steps p.tables e below (T.setTop { g with pc := g.pc + 1, stack := v :: rest }) target) : Steps p.tables e below (T.setTop g) target := by
  obtain ⟨cl, A, rfl⟩ := F
  exact X.daload hx (by rw [eT]; exact A.1) (State.isArrayOf_alike hZ.alike A.2.1) A.2.2 (own_A.inb hj hv) (by rw [← Array.getElem?_toList]; exact hv) hg hs hd _ hr
theorem own_A.ild (X : Stand p l e R s m args below meth c T locs cells slots) (hx : p.tables.exec = Jvm.exec) (hZ : Z.Warmed39 s.vm) (eT : T.heap = h) (F : own_A Z h a .int vs) {j : Int32} (hj : ¬ j < 0) (hv : vs[j.toNatClampNeg]? = some v)
    {g : JFrame} (hg : g.method = m) {rest : List Value} (hs : g.stack = .int j :: .ref a :: rest) (hd : decode c.code g.pc = .ok (.iaload, 1)) (target : State)
    (hr : Steps p.tables e below (T.setTop { g with pc := g.pc + 1, stack := v :: rest }) target) : Steps p.tables e below (T.setTop g) target := by
  obtain ⟨cl, A, rfl⟩ := F
  exact X.iaload hx (by rw [eT]; exact A.1) (State.isArrayOf_alike hZ.alike A.2.1) A.2.2 (own_A.inb hj hv) (by rw [← Array.getElem?_toList]; exact hv) hg hs hd _ hr
theorem own_A.lld (X : Stand p l e R s m args below meth c T locs cells slots) (hx : p.tables.exec = Jvm.exec) (hZ : Z.Warmed39 s.vm) (eT : T.heap = h) (F : own_A Z h a .long vs) {j : Int32} (hj : ¬ j < 0) (hv : vs[j.toNatClampNeg]? = some v)
    {g : JFrame} (hg : g.method = m) {rest : List Value} (hs : g.stack = .int j :: .ref a :: rest) (hd : decode c.code g.pc = .ok (.laload, 1)) (target : State)
    (hr : Steps p.tables e below (T.setTop { g with pc := g.pc + 1, stack := v :: rest }) target) : Steps p.tables e below (T.setTop g) target := by
  obtain ⟨cl, A, rfl⟩ := F
  exact X.laload hx (by rw [eT]; exact A.1) (State.isArrayOf_alike hZ.alike A.2.1) A.2.2 (own_A.inb hj hv) (by rw [← Array.getElem?_toList]; exact hv) hg hs hd _ hr
theorem own_A.same {cl : Cell} (A : Arr Z h a cl ty) (W : Wr h h' a sl v) : own_A Z h' a ty (cl.slots.toList.set sl v) := ⟨_, A.same W, by simp [Cell.setSlot]⟩
theorem own_A.dst (X : Stand p l e R s m args below meth c T locs cells slots) (hx : p.tables.exec = Jvm.exec) (hZ : Z.Warmed39 s.vm) (eT : T.heap = h) (F : own_A Z h a .double vs) {j : Int32} {x : UInt64} (hj : ¬ j < 0) {o : Value} (hv : vs[j.toNatClampNeg]? = some o)
    {g : JFrame} (hg : g.method = m) {rest : List Value} (hs : g.stack = .double x :: .int j :: .ref a :: rest) (hd : decode c.code g.pc = .ok (.dastore, 1)) :
    ∃ T' h', Stand p l e R s m args below meth c T' (locs ++ [⟨a, j.toNatClampNeg⟩]) cells slots ∧ T'.heap = h' ∧ Wr h h' a j.toNatClampNeg (.double x) ∧ own_A Z h' a .double (vs.set j.toNatClampNeg (.double x)) ∧
      ∀ target, Steps p.tables e below (T'.setTop { g with pc := g.pc + 1, stack := rest }) target → Steps p.tables e below (T.setTop g) target := by
  obtain ⟨cl, A, rfl⟩ := F
  obtain ⟨T', h', X', e', W, st⟩ := stD X hx hZ eT A (own_A.inb hj hv) hg hs hd
  exact ⟨T', h', X', e', W, own_A.same A W, st⟩
theorem own_A.ist (X : Stand p l e R s m args below meth c T locs cells slots) (hx : p.tables.exec = Jvm.exec) (hZ : Z.Warmed39 s.vm) (eT : T.heap = h) (F : own_A Z h a .int vs) {j : Int32} {x : Int32} (hj : ¬ j < 0) {o : Value} (hv : vs[j.toNatClampNeg]? = some o)
    {g : JFrame} (hg : g.method = m) {rest : List Value} (hs : g.stack = .int x :: .int j :: .ref a :: rest) (hd : decode c.code g.pc = .ok (.iastore, 1)) :
    ∃ T' h', Stand p l e R s m args below meth c T' (locs ++ [⟨a, j.toNatClampNeg⟩]) cells slots ∧ T'.heap = h' ∧ Wr h h' a j.toNatClampNeg (.int x) ∧ own_A Z h' a .int (vs.set j.toNatClampNeg (.int x)) ∧
      ∀ target, Steps p.tables e below (T'.setTop { g with pc := g.pc + 1, stack := rest }) target → Steps p.tables e below (T.setTop g) target := by
  obtain ⟨cl, A, rfl⟩ := F
  obtain ⟨T', h', X', e', W, st⟩ := stI X hx hZ eT A (own_A.inb hj hv) hg hs hd
  exact ⟨T', h', X', e', W, own_A.same A W, st⟩
theorem own_A.lst (X : Stand p l e R s m args below meth c T locs cells slots) (hx : p.tables.exec = Jvm.exec) (hZ : Z.Warmed39 s.vm) (eT : T.heap = h) (F : own_A Z h a .long vs) {j : Int32} {x : Int64} (hj : ¬ j < 0) {o : Value} (hv : vs[j.toNatClampNeg]? = some o)
    {g : JFrame} (hg : g.method = m) {rest : List Value} (hs : g.stack = .long x :: .int j :: .ref a :: rest) (hd : decode c.code g.pc = .ok (.lastore, 1)) :
    ∃ T' h', Stand p l e R s m args below meth c T' (locs ++ [⟨a, j.toNatClampNeg⟩]) cells slots ∧ T'.heap = h' ∧ Wr h h' a j.toNatClampNeg (.long x) ∧ own_A Z h' a .long (vs.set j.toNatClampNeg (.long x)) ∧
      ∀ target, Steps p.tables e below (T'.setTop { g with pc := g.pc + 1, stack := rest }) target → Steps p.tables e below (T.setTop g) target := by
  obtain ⟨cl, A, rfl⟩ := F
  obtain ⟨T', h', X', e', W, st⟩ := stJ X hx hZ eT A (own_A.inb hj hv) hg hs hd
  exact ⟨T', h', X', e', W, own_A.same A W, st⟩
end OwnArr
section OwnCopy
variable {p : Program} {l : Launch} {e : Env} {R : Room} {s : State} {m : MethodId} {args : Array Value} {below : List Frame} {meth : Method} {c : Code} {T : State} {locs : List Loc} {cells slots : Nat} {Z : State} {h h' : Heap} {a b : Addr} {ty : FieldType} {vs vd : List Value}
theorem own_A.arv (F : own_A Z h a ty vs) (n : Int32) (hn : n.toNatClampNeg = vs.length) (h0 : ¬ n < 0) (d : Value) (hf : ∀ v ∈ vs, fits ty v = true) : ∃ k, Arv Z h a k ty n vs d := by
  obtain ⟨cl, A, rfl⟩ := F
  have hs : cl.slots.size = n.toNatClampNeg := by rw [hn, Array.length_toList]
  refine ⟨cl.cls, cl, A, rfl, hs, h0, fun i hi => ?_, fun i hi => ?_⟩
  · rw [List.getD_eq_getElem?_getD, Array.getElem?_toList, Array.getElem?_eq_getElem hi]; rfl
  · rw [List.getD_eq_getElem?_getD, Array.getElem?_toList, Array.getElem?_eq_getElem hi]
    exact hf _ (Array.mem_toList_iff.mpr (Array.getElem_mem hi))
theorem own_A.of_arv {k : ClassId} {n : Int32} {d : Value} (F : Arv Z h a k ty n vs d) (hn : n.toNatClampNeg = vs.length) : own_A Z h a ty vs := by
  obtain ⟨cl, A, -, hs, -, H, -⟩ := F
  refine ⟨cl, A, ?_⟩
  apply List.ext_getElem?
  intro i
  by_cases hi : i < cl.slots.size
  · rw [Array.getElem?_toList, H i hi, List.getD_eq_getElem?_getD, List.getElem?_eq_getElem (by omega)]; rfl
  · rw [Array.getElem?_toList, Array.getElem?_eq_none (by omega), List.getElem?_eq_none (by omega)]
theorem own_A.copy (X : Stand p l e R s m args below meth c T locs cells slots) (hx : p.tables.exec = Jvm.exec) (hZ : Z.Warmed39 s.vm) {a0 : Array Value} {own : String} {index : Nat} (hown : s.vm.findClass own = some m.cls)
    (w1 : (Jvm.Cond.methodLink own index Jvm.Stand.acN).before a0 Z = true) (w2 : (Jvm.Cond.native Jvm.Stand.acN).before a0 Z = true) (w3 : (Jvm.Cond.static Jvm.Stand.acN).before a0 Z = true) (w4 : (Jvm.Cond.initialized "java/lang/System").before a0 Z = true) (eT : T.heap = h)
    (A : own_A Z h a ty vs) (B : own_A Z h b ty vd) (hty : refKind ty = false) {na nb nn : Int32} (ha : na.toNatClampNeg = vs.length) (hb : nb.toNatClampNeg = vd.length) (ga : ¬ na < 0) (gb : ¬ nb < 0) (gn : ¬ nn < 0) (la : nn.toNatClampNeg ≤ vs.length) (lb : nn.toNatClampNeg ≤ vd.length)
    (fa : ∀ v ∈ vs, fits ty v = true) (fb : ∀ v ∈ vd, fits ty v = true) {n0 : Nat} (N : Fr n0 locs) (ge : n0 ≤ b)
    {g : JFrame} (hg : g.method = m) (hsize : g.locals.size = c.maxLocals) {rest : List Value} (hs : g.stack = .int nn :: .int 0 :: .ref b :: .int 0 :: .ref a :: rest) (hd : decode c.code g.pc = .ok (.invokestatic index, 3))
    (hf : 1 ≤ R.frames) {W : Nat} (hW : 2 * g.monitorRoom + (rest.map fun v => v.category).sum ≤ W) (hlo : W + (nativeFrameWords "java/lang/System" "arraycopy" 5 + 11) ≤ R.locals) :
    ∃ T' h' L, Stand p l e R s m args below meth c T' L cells slots ∧ T'.heap = h' ∧ Fr n0 L ∧ Keep h h' [b] ∧ own_A Z h' b ty (vs.take nn.toNatClampNeg ++ vd.drop nn.toNatClampNeg) ∧
      ∀ target, Steps p.tables e below (T'.setTop { g with pc := g.pc + 3, stack := rest }) target → Steps p.tables e below (T.setTop g) target := by
  obtain ⟨ka, A'⟩ := A.arv na ha ga (.int 0) fa
  obtain ⟨kb, B'⟩ := B.arv nb hb gb (.int 0) fb
  obtain ⟨T', h', L, X', e', N', K, Q, st⟩ := cpA X hx hZ hown w1 w2 w3 w4 eT (sp := 0) (dp := 0) (nn := nn) (us := vs.take nn.toNatClampNeg) A' B' (Or.inl ⟨rfl, hty⟩) (by decide) (by decide) gn (by show 0 + _ ≤ _; omega) (by show 0 + _ ≤ _; omega) (by
      apply List.ext_getElem?
      intro i
      show (vs.take nn.toNatClampNeg)[i]? = ((List.range nn.toNatClampNeg).map fun i => vs.getD (0 + i) (.int 0))[i]?
      by_cases hi : i < nn.toNatClampNeg
      · rw [List.getElem?_take_of_lt hi, List.getElem?_map, List.getElem?_range hi]
        show _ = some (vs.getD (0 + i) (.int 0))
        rw [Nat.zero_add, List.getD_eq_getElem?_getD, List.getElem?_eq_getElem (by omega)]; rfl
      · rw [List.getElem?_eq_none (by rw [List.length_take]; omega), List.getElem?_eq_none (by rw [List.length_map, List.length_range]; omega)]) (by show 0 + _ ≤ _; omega) N ge hg hsize hs hd hf hW hlo
  refine ⟨T', h', L, X', e', N', K, ?_, st⟩
  refine own_A.of_arv (by simpa using Q) ?_
  rw [List.length_append, List.length_take, List.length_drop, hb]; omega
end OwnCopy

def own_val (x : Int64) (k : Int32) : Int32 := (((XT.ushrL x ((10 : Int32) * k)) &&& (1023 : Int64)).toInt32 - (512 : Int32))
def own_row (x : Int64) (k : Int32) : Int32 := ((XT.ushrL x ((2 : Int32) * k)) &&& (3 : Int64)).toInt32
def own_sel (b0 b1 b2 b3 : Int64) (r : Int32) : Int64 := if r = 0 then b0 else if r = 1 then b1 else if r = 2 then b2 else b3
def own_selD (b0 b1 b2 b3 : UInt64) (r : Int32) : UInt64 := if r = 0 then b0 else if r = 1 then b1 else if r = 2 then b2 else b3
theorem own_vb (x : Int64) (k : Int32) : -512 ≤ (own_val x k).toInt ∧ (own_val x k).toInt ≤ 512 := by
  have h := Jvm.Kit.i64_mask (XT.ushrL x ((10 : Int32) * k)) 1023 (k := 10) (by decide) (by decide)
  have h2 := Jvm.Kit.i32_of_i64 (x := (XT.ushrL x ((10 : Int32) * k)) &&& (1023 : Int64)) (by omega) (by omega)
  have h3 : (own_val x k).toInt = ((XT.ushrL x ((10 : Int32) * k)) &&& (1023 : Int64)).toInt32.toInt - 512 := Jvm.Kit.i32_sub (q := 512) (by rw [h2]; show _ ≤ _ - (512 : Int); omega) (by rw [h2]; show _ - (512 : Int) < _; omega)
  omega
theorem own_rowc (x : Int64) (k : Int32) : own_row x k = 0 ∨ own_row x k = 1 ∨ own_row x k = 2 ∨ own_row x k = 3 := by
  have h := Jvm.Kit.i64_mask (XT.ushrL x ((2 : Int32) * k)) 3 (k := 2) (by decide) (by decide)
  have h2 : (own_row x k).toInt = _ := Jvm.Kit.i32_of_i64 (x := (XT.ushrL x ((2 : Int32) * k)) &&& (3 : Int64)) (by omega) (by omega)
  have h3 : (own_row x k).toInt = 0 ∨ (own_row x k).toInt = 1 ∨ (own_row x k).toInt = 2 ∨ (own_row x k).toInt = 3 := by omega
  rcases h3 with q | q | q | q
  · exact Or.inl (Int32.toInt_inj.mp q)
  · exact Or.inr (Or.inl (Int32.toInt_inj.mp q))
  · exact Or.inr (Or.inr (Or.inl (Int32.toInt_inj.mp q)))
  · exact Or.inr (Or.inr (Or.inr (Int32.toInt_inj.mp q)))
theorem own_rn {r : Int32} (h : r = 0 ∨ r = 1 ∨ r = 2 ∨ r = 3) : ¬ r < 0 := by rcases h with rfl | rfl | rfl | rfl <;> decide
theorem own_rown (x : Int64) (k : Int32) : ¬ own_row x k < 0 := own_rn (own_rowc x k)
theorem own_selp (b0 b1 b2 b3 : Int64) {r : Int32} (h : r = 0 ∨ r = 1 ∨ r = 2 ∨ r = 3) : ([(.long b0), (.long b1), (.long b2), (.long b3)] : List Value)[r.toNatClampNeg]? = some (.long (own_sel b0 b1 b2 b3 r)) := by
  rcases h with rfl | rfl | rfl | rfl <;> rfl
theorem own_selDp (b0 b1 b2 b3 : UInt64) {r : Int32} (h : r = 0 ∨ r = 1 ∨ r = 2 ∨ r = 3) : ([(.double b0), (.double b1), (.double b2), (.double b3)] : List Value)[r.toNatClampNeg]? = some (.double (own_selD b0 b1 b2 b3 r)) := by
  rcases h with rfl | rfl | rfl | rfl <;> rfl
theorem own_vl (x : Int64) (k : Int32) : FP.Core.DInt ((own_val x k).toInt64).toInt (FP.l2d (own_val x k).toInt64) := own_dl _ rfl (by
  have h := own_vb x k; rw [Jvm.Kit.i64_of_i32]; have e5 : (2 : Nat) ^ 53 = 9007199254740992 := by decide
  omega)
theorem own_selDI (x : Int64) {r : Int32} (h : r = 0 ∨ r = 1 ∨ r = 2 ∨ r = 3) : FP.Core.DInt (own_sel (own_val x (0 : Int32)).toInt64 (own_val x (1 : Int32)).toInt64 (own_val x (2 : Int32)).toInt64 (own_val x (3 : Int32)).toInt64 r).toInt (own_selD (FP.l2d (own_val x (0 : Int32)).toInt64) (FP.l2d (own_val x (1 : Int32)).toInt64) (FP.l2d (own_val x (2 : Int32)).toInt64) (FP.l2d (own_val x (3 : Int32)).toInt64) r) := by
  rcases h with rfl | rfl | rfl | rfl
  · exact own_vl x 0
  · exact own_vl x 1
  · exact own_vl x 2
  · exact own_vl x 3
theorem own_selb (x : Int64) {r : Int32} (h : r = 0 ∨ r = 1 ∨ r = 2 ∨ r = 3) : -512 ≤ (own_sel (own_val x (0 : Int32)).toInt64 (own_val x (1 : Int32)).toInt64 (own_val x (2 : Int32)).toInt64 (own_val x (3 : Int32)).toInt64 r).toInt ∧ (own_sel (own_val x (0 : Int32)).toInt64 (own_val x (1 : Int32)).toInt64 (own_val x (2 : Int32)).toInt64 (own_val x (3 : Int32)).toInt64 r).toInt ≤ 512 := by
  rcases h with rfl | rfl | rfl | rfl
  · have := own_vb x 0; show -512 ≤ ((own_val x 0).toInt64).toInt ∧ ((own_val x 0).toInt64).toInt ≤ 512; rw [Jvm.Kit.i64_of_i32]; exact this
  · have := own_vb x 1; show -512 ≤ ((own_val x 1).toInt64).toInt ∧ ((own_val x 1).toInt64).toInt ≤ 512; rw [Jvm.Kit.i64_of_i32]; exact this
  · have := own_vb x 2; show -512 ≤ ((own_val x 2).toInt64).toInt ∧ ((own_val x 2).toInt64).toInt ≤ 512; rw [Jvm.Kit.i64_of_i32]; exact this
  · have := own_vb x 3; show -512 ≤ ((own_val x 3).toInt64).toInt ∧ ((own_val x 3).toInt64).toInt ≤ 512; rw [Jvm.Kit.i64_of_i32]; exact this
theorem own_m9 {i j : Int} (h1 : -512 ≤ i ∧ i ≤ 512) (h2 : -512 ≤ j ∧ j ≤ 512) : (i * j).natAbs ≤ 2 ^ 53 := own_mb (A := 512) (B := 512) h1.1 h1.2 h2.1 h2.2 (by decide)
theorem own_p9 {i j : Int} (h1 : -512 ≤ i ∧ i ≤ 512) (h2 : -512 ≤ j ∧ j ≤ 512) : -262144 ≤ i * j ∧ i * j ≤ 262144 := by
  have h : (i * j).natAbs ≤ 512 * 512 := by rw [Int.natAbs_mul]; exact Nat.mul_le_mul (by omega) (by omega)
  omega
theorem own_s7 {i : Int} (h1 : -10000000 ≤ i) (h2 : i ≤ 10000000) : i.natAbs ≤ 2 ^ 53 := by
  have e5 : (2 : Nat) ^ 53 = 9007199254740992 := by decide
  omega
theorem own_ra {r : Int64} {i : Int} (h : r.toInt = i) (hi : -10000000 ≤ i ∧ i ≤ 10000000) {a : Int32} {b : Int64} (ha : -512 ≤ a.toInt ∧ a.toInt ≤ 512) (hb : -512 ≤ b.toInt ∧ b.toInt ≤ 512) : (r + (a.toInt64 * b)).toInt = i + a.toInt * b.toInt := by
  have q := own_p9 ha hb
  have h1 := own_lm (a := a.toInt64) (b := b) (by rw [Jvm.Kit.i64_of_i32]; exact own_m9 ha hb)
  rw [Jvm.Kit.i64_of_i32] at h1
  rw [Jvm.Kit.i64_add (by rw [h1, h]; omega) (by rw [h1, h]; omega), h1, h]
theorem own_len6 (p : Int32) {N : Int32} (h : N = (p &&& (2147483647 : Int32)) % (6 : Int32)) : N = 0 ∨ N = 1 ∨ N = 2 ∨ N = 3 ∨ N = 4 ∨ N = 5 := by
  have h1 := Jvm.Kit.i32_mask p 2147483647 (k := 31) (by decide) (by decide)
  have h3 : N.toInt = (p &&& (2147483647 : Int32)).toInt % 6 := by rw [h, Jvm.Kit.i32_rem_nonneg (by omega)]; rfl
  have h2 : N.toInt = 0 ∨ N.toInt = 1 ∨ N.toInt = 2 ∨ N.toInt = 3 ∨ N.toInt = 4 ∨ N.toInt = 5 := by omega
  rcases h2 with q | q | q | q | q | q
  · exact Or.inl (Int32.toInt_inj.mp q)
  · exact Or.inr (Or.inl (Int32.toInt_inj.mp q))
  · exact Or.inr (Or.inr (Or.inl (Int32.toInt_inj.mp q)))
  · exact Or.inr (Or.inr (Or.inr (Or.inl (Int32.toInt_inj.mp q))))
  · exact Or.inr (Or.inr (Or.inr (Or.inr (Or.inl (Int32.toInt_inj.mp q)))))
  · exact Or.inr (Or.inr (Or.inr (Or.inr (Or.inr (Int32.toInt_inj.mp q)))))

def QrmVa (Z : State) (x : Int64) (k : Int32) (h0 : Heap) (n0 : Nat) (vQ : Option Value) (hQ : Heap) (LQ : List Loc) : Prop := vQ = some (.int (own_val x k)) ∧ Fr n0 LQ ∧ hQ = h0
theorem ef_rmVa (m : MethodId) (x : Int64) (k : Int32) : entryFrame m #[(.long x), (.int k)] 3 = mkF m 0 #[vj x, ss, vi k] [] := by first | (simp [entryFrame, mkF, argsToLocals, Value.category]; done) | rfl
abbrev mn0 : MethodName := ⟨"com/example/netloom/netloom/embed/SparseColumnDotPinLaw", "val", "(JI)I"⟩
theorem pn_com_example_netloom_netloom_embed_SparseColumnDotPinLaw : plainName "com/example/netloom/netloom/embed/SparseColumnDotPinLaw" = true := by first | (simp [plainName, overriddenIn]; done) | decide +kernel
theorem d_method_2_code_0 : decode method_2_code 0 = .ok (.lload_n 0, 1) := by decide +kernel
theorem d_method_2_code_1 : decode method_2_code 1 = .ok (.bipush 10, 2) := by decide +kernel
theorem d_method_2_code_3 : decode method_2_code 3 = .ok (.iload_n 2, 1) := by decide +kernel
theorem d_method_2_code_4 : decode method_2_code 4 = .ok (.imul, 1) := by decide +kernel
theorem d_method_2_code_5 : decode method_2_code 5 = .ok (.lushr, 1) := by decide +kernel
theorem d_method_2_code_6 : decode method_2_code 6 = .ok (.ldc2_w 7, 3) := by decide +kernel
def tw6 {Z : State} {a0 : Array Value} (hw : ∀ d ∈ tables_1, d.before a0 Z = true) := hw _ (List.mem_of_getElem? (i := 6) rfl)
theorem d_method_2_code_9 : decode method_2_code 9 = .ok (.land, 1) := by decide +kernel
theorem d_method_2_code_10 : decode method_2_code 10 = .ok (.l2i, 1) := by decide +kernel
theorem d_method_2_code_11 : decode method_2_code 11 = .ok (.sipush 512, 3) := by decide +kernel
theorem d_method_2_code_14 : decode method_2_code 14 = .ok (.isub, 1) := by decide +kernel
theorem d_method_2_code_15 : decode method_2_code 15 = .ok (.ireturn, 1) := by decide +kernel
set_option maxRecDepth 65536 in
set_option maxHeartbeats 40000000 in
theorem rmVa (l : Launch) (Z : State) (a0 : Array Value) (hw : ∀ d ∈ tables_1, d.before a0 Z = true) (ws : List Jvm.Cond) (x : Int64) (k : Int32) (h0 : Heap) (n0 : Nat) (Z0 : n0 ≤ h0.size)  :
    MetFree l mn0 (head1 (Jvm.Cond.code mn0 method_2_code 3 (some .int) :: ws) ({ frames := 0, cells := 0, slots := 0, locals := 0 } : Room)) (fun aA U => aA = #[(.long x), (.int k)] ∧ Z.Warmed39 U.vm ∧ U.heap = h0) (fun _ _ _ _ _ => True) (fun _ U o U' => ∃ vR LR, o = .returned vR ∧ QrmVa Z x k h0 n0 vR U'.heap LR ∧ FrameEnd U o U' LR ({ frames := 0, cells := 0, slots := 0, locals := 0 } : Room).cells ({ frames := 0, cells := 0, slots := 0, locals := 0 } : Room).slots) := by
  refine MetFree.of_bodySF (plainFor_of_name pn_com_example_netloom_netloom_embed_SparseColumnDotPinLaw) hisR ?_
  intro p e s m args below meth c s₁ Bd hml0 hPre hKk
  obtain ⟨rfl, hZ, hh⟩ := hPre
  have hx := Bd.exec
  have hby := Bd.bytes
  have hml : c.maxLocals = 3 := hml0
  have hown : s.vm.findClass "com/example/netloom/netloom/embed/SparseColumnDotPinLaw" = some m.cls := findClass_of_methodNamed Bd.named
  have hnm := (name_of_methodNamed Bd.named Bd.method).1
  have X0 : Stand p l e ({ frames := 0, cells := 0, slots := 0, locals := 0 } : Room) s m #[(.long x), (.int k)] below meth c s₁ [] 0 0 := Stand.of_body Bd
  have e0 : s₁.heap = h0 := by rw [← hh, Bd.state]; rfl
  have N0 := Fr.nil n0
  obtain ⟨E0, hE0⟩ : ∃ zE : State, zE = s₁.setTop (entryFrame m #[(.long x), (.int k)] 3) := ⟨_, rfl⟩
  have k0 : own_G p e below E0 s₁ (mkF m 0 #[vj x, ss, vi k] []) := fun tz kz => hE0 ▸ castTop (ef_rmVa m x k) kz
  have k1 : own_G p e below E0 s₁ (mkF m 6 #[vj x, ss, vi k] [(.long (XT.ushrL x ((10 : Int32) * k)))]) := by
    intro tQ kk
    refine k0 tQ ?_
    refine XT.lloadN X0.here hx rfl (hb hby d_method_2_code_0) rfl ?_
    refine XS.bipush X0.here hx rfl (hb hby d_method_2_code_1) ?_
    refine XS.iloadN X0.here hx rfl (hb hby d_method_2_code_3) rfl ?_
    refine XS.imul X0.here hx rfl (hb hby d_method_2_code_4) rfl ?_
    show Steps p.tables e below (s₁.setTop (mkF m 5 #[vj x, ss, vi k] [(.int ((10 : Int32) * k)), (.long x)])) tQ
    refine XT.lushr X0.here hx rfl (hb hby d_method_2_code_5) rfl ?_
    exact kk
  clear k0
  have st2 := X0.ldc2Long hx hown (mvT hZ (tw6 hw)) (g := (mkF m 6 #[vj x, ss, vi k] [(.long (XT.ushrL x ((10 : Int32) * k)))])) rfl (hb hby d_method_2_code_6)
  have k3 : own_G p e below E0 s₁ (mkF m 9 #[vj x, ss, vi k] [(.long (1023 : Int64)), (.long (XT.ushrL x ((10 : Int32) * k)))]) := fun tQ kk => k1 tQ (st2 _ kk)
  clear k1 st2
  have k4 : own_G p e below E0 s₁ (mkF m 15 #[vj x, ss, vi k] [(.int ((((XT.ushrL x ((10 : Int32) * k)) &&& (1023 : Int64)).toInt32) - (512 : Int32)))]) := by
    intro tQ kk
    refine k3 tQ ?_
    refine XT.land X0.here hx rfl (hb hby d_method_2_code_9) rfl ?_
    refine XT.l2i X0.here hx rfl (hb hby d_method_2_code_10) rfl ?_
    refine XS.sipush X0.here hx rfl (hb hby d_method_2_code_11) ?_
    refine XS.isub X0.here hx rfl (hb hby d_method_2_code_14) rfl ?_
    exact kk
  clear k3
  obtain ⟨fs, hr, hrun, hended, hW, hsame⟩ := X0.leave (v := some (.int ((((XT.ushrL x ((10 : Int32) * k)) &&& (1023 : Int64)).toInt32) - (512 : Int32)))) (fun h => by rw [Bd.returns] at h; cases h)
  have hrun0 := k4 _ (retOut X0 hx Bd.returns (t := .int) rfl (Or.inl ⟨rfl, Or.inl rfl, _, rfl⟩) (hb hby d_method_2_code_15) hr)
  subst hE0
  refine ⟨_, _, hrun0, hrun, hended, _, _, rfl, ?_, ⟨_, rfl⟩, hW, hsame.mono (by decide) (by decide)⟩
  show QrmVa Z x k h0 n0 _ s₁.heap _
  rw [e0]
  exact ⟨rfl, N0, rfl⟩
def QrmRo (Z : State) (x : Int64) (k : Int32) (h0 : Heap) (n0 : Nat) (vQ : Option Value) (hQ : Heap) (LQ : List Loc) : Prop := vQ = some (.int (own_row x k)) ∧ Fr n0 LQ ∧ hQ = h0
theorem ef_rmRo (m : MethodId) (x : Int64) (k : Int32) : entryFrame m #[(.long x), (.int k)] 3 = mkF m 0 #[vj x, ss, vi k] [] := by first | (simp [entryFrame, mkF, argsToLocals, Value.category]; done) | rfl
abbrev mn1 : MethodName := ⟨"com/example/netloom/netloom/embed/SparseColumnDotPinLaw", "row", "(JI)I"⟩
theorem d_method_3_code_0 : decode method_3_code 0 = .ok (.lload_n 0, 1) := by decide +kernel
theorem d_method_3_code_1 : decode method_3_code 1 = .ok (.iconst 2, 1) := by decide +kernel
theorem d_method_3_code_2 : decode method_3_code 2 = .ok (.iload_n 2, 1) := by decide +kernel
theorem d_method_3_code_3 : decode method_3_code 3 = .ok (.imul, 1) := by decide +kernel
theorem d_method_3_code_4 : decode method_3_code 4 = .ok (.lushr, 1) := by decide +kernel
theorem d_method_3_code_5 : decode method_3_code 5 = .ok (.ldc2_w 9, 3) := by decide +kernel
def tw35 {Z : State} {a0 : Array Value} (hw : ∀ d ∈ tables_1, d.before a0 Z = true) := hw _ (List.mem_of_getElem? (i := 35) rfl)
theorem d_method_3_code_8 : decode method_3_code 8 = .ok (.land, 1) := by decide +kernel
theorem d_method_3_code_9 : decode method_3_code 9 = .ok (.l2i, 1) := by decide +kernel
theorem d_method_3_code_10 : decode method_3_code 10 = .ok (.ireturn, 1) := by decide +kernel
set_option maxRecDepth 65536 in
set_option maxHeartbeats 40000000 in
theorem rmRo (l : Launch) (Z : State) (a0 : Array Value) (hw : ∀ d ∈ tables_1, d.before a0 Z = true) (ws : List Jvm.Cond) (x : Int64) (k : Int32) (h0 : Heap) (n0 : Nat) (Z0 : n0 ≤ h0.size)  :
    MetFree l mn1 (head1 (Jvm.Cond.code mn1 method_3_code 3 (some .int) :: ws) ({ frames := 0, cells := 0, slots := 0, locals := 0 } : Room)) (fun aA U => aA = #[(.long x), (.int k)] ∧ Z.Warmed39 U.vm ∧ U.heap = h0) (fun _ _ _ _ _ => True) (fun _ U o U' => ∃ vR LR, o = .returned vR ∧ QrmRo Z x k h0 n0 vR U'.heap LR ∧ FrameEnd U o U' LR ({ frames := 0, cells := 0, slots := 0, locals := 0 } : Room).cells ({ frames := 0, cells := 0, slots := 0, locals := 0 } : Room).slots) := by
  refine MetFree.of_bodySF (plainFor_of_name pn_com_example_netloom_netloom_embed_SparseColumnDotPinLaw) hisR ?_
  intro p e s m args below meth c s₁ Bd hml0 hPre hKk
  obtain ⟨rfl, hZ, hh⟩ := hPre
  have hx := Bd.exec
  have hby := Bd.bytes
  have hml : c.maxLocals = 3 := hml0
  have hown : s.vm.findClass "com/example/netloom/netloom/embed/SparseColumnDotPinLaw" = some m.cls := findClass_of_methodNamed Bd.named
  have hnm := (name_of_methodNamed Bd.named Bd.method).1
  have X0 : Stand p l e ({ frames := 0, cells := 0, slots := 0, locals := 0 } : Room) s m #[(.long x), (.int k)] below meth c s₁ [] 0 0 := Stand.of_body Bd
  have e0 : s₁.heap = h0 := by rw [← hh, Bd.state]; rfl
  have N0 := Fr.nil n0
  obtain ⟨E0, hE0⟩ : ∃ zE : State, zE = s₁.setTop (entryFrame m #[(.long x), (.int k)] 3) := ⟨_, rfl⟩
  have k0 : own_G p e below E0 s₁ (mkF m 0 #[vj x, ss, vi k] []) := fun tz kz => hE0 ▸ castTop (ef_rmRo m x k) kz
  have k5 : own_G p e below E0 s₁ (mkF m 5 #[vj x, ss, vi k] [(.long (XT.ushrL x ((2 : Int32) * k)))]) := by
    intro tQ kk
    refine k0 tQ ?_
    refine XT.lloadN X0.here hx rfl (hb hby d_method_3_code_0) rfl ?_
    refine XS.iconst X0.here hx rfl (hb hby d_method_3_code_1) ?_
    refine XS.iloadN X0.here hx rfl (hb hby d_method_3_code_2) rfl ?_
    refine XS.imul X0.here hx rfl (hb hby d_method_3_code_3) rfl ?_
    show Steps p.tables e below (s₁.setTop (mkF m 4 #[vj x, ss, vi k] [(.int ((2 : Int32) * k)), (.long x)])) tQ
    refine XT.lushr X0.here hx rfl (hb hby d_method_3_code_4) rfl ?_
    exact kk
  clear k0
  have st6 := X0.ldc2Long hx hown (mvT hZ (tw35 hw)) (g := (mkF m 5 #[vj x, ss, vi k] [(.long (XT.ushrL x ((2 : Int32) * k)))])) rfl (hb hby d_method_3_code_5)
  have k7 : own_G p e below E0 s₁ (mkF m 8 #[vj x, ss, vi k] [(.long (3 : Int64)), (.long (XT.ushrL x ((2 : Int32) * k)))]) := fun tQ kk => k5 tQ (st6 _ kk)
  clear k5 st6
  have k8 : own_G p e below E0 s₁ (mkF m 10 #[vj x, ss, vi k] [(.int (((XT.ushrL x ((2 : Int32) * k)) &&& (3 : Int64)).toInt32))]) := by
    intro tQ kk
    refine k7 tQ ?_
    refine XT.land X0.here hx rfl (hb hby d_method_3_code_8) rfl ?_
    refine XT.l2i X0.here hx rfl (hb hby d_method_3_code_9) rfl ?_
    exact kk
  clear k7
  obtain ⟨fs, hr, hrun, hended, hW, hsame⟩ := X0.leave (v := some (.int (((XT.ushrL x ((2 : Int32) * k)) &&& (3 : Int64)).toInt32))) (fun h => by rw [Bd.returns] at h; cases h)
  have hrun0 := k8 _ (retOut X0 hx Bd.returns (t := .int) rfl (Or.inl ⟨rfl, Or.inl rfl, _, rfl⟩) (hb hby d_method_3_code_10) hr)
  subst hE0
  refine ⟨_, _, hrun0, hrun, hended, _, _, rfl, ?_, ⟨_, rfl⟩, hW, hsame.mono (by decide) (by decide)⟩
  show QrmRo Z x k h0 n0 _ s₁.heap _
  rw [e0]
  exact ⟨rfl, N0, rfl⟩
abbrev fd2 (Z : State) (h : Heap) (a : Addr) (v : Value) : Prop := Fld Z h a "com/example/netloom/netloom/embed/SparseColumn" "rows" "[I" v
abbrev fd3 (Z : State) (h : Heap) (a : Addr) (v : Value) : Prop := Fld Z h a "com/example/netloom/netloom/embed/SparseColumn" "values" "[D" v
abbrev fd4 (Z : State) (h : Heap) (a : Addr) (v : Value) : Prop := Fld Z h a "com/example/netloom/netloom/embed/SparseColumn" "size" "I" v
def QrmI (Z : State) (a : Addr) (h0 : Heap) (n0 : Nat) (vQ : Option Value) (hQ : Heap) (LQ : List Loc) : Prop := ∃ (r : Addr), ∃ (q : Addr), vQ = none ∧ Fr n0 LQ ∧ Keep h0 hQ [a] ∧ (fd2 Z hQ a (.ref r)) ∧ (fd3 Z hQ a (.ref q)) ∧ (fd4 Z hQ a (.int (0 : Int32))) ∧ (own_A Z hQ r .int [(.int (0 : Int32)), (.int (0 : Int32)), (.int (0 : Int32)), (.int (0 : Int32))]) ∧ (own_A Z hQ q .double [(.double (0 : UInt64)), (.double (0 : UInt64)), (.double (0 : UInt64)), (.double (0 : UInt64))]) ∧ (h0.size ≤ r) ∧ (h0.size ≤ q) ∧ (r ≠ q)
theorem ef_rmI (m : MethodId) (a : Addr) : entryFrame m #[(.ref a)] 1 = mkF m 0 #[vr a] [] := by first | (simp [entryFrame, mkF, argsToLocals, Value.category]; done) | rfl
abbrev xa5 (Z : State) (h : Heap) (a : Addr) : Prop := Exa Z h a "com/example/netloom/netloom/embed/SparseColumn"
abbrev mn6 : MethodName := ⟨"com/example/netloom/netloom/embed/SparseColumn", "<init>", "()V"⟩
theorem pn_com_example_netloom_netloom_embed_SparseColumn : plainName "com/example/netloom/netloom/embed/SparseColumn" = true := by first | (simp [plainName, overriddenIn]; done) | decide +kernel
theorem d_prog_50_method_1_code_0 : decode prog_50_method_1_code 0 = .ok (.aload_n 0, 1) := by decide +kernel
theorem d_prog_50_method_1_code_1 : decode prog_50_method_1_code 1 = .ok (.invokespecial 1, 3) := by decide +kernel
def tw14 {Z : State} {a0 : Array Value} (hw : ∀ d ∈ tables_1, d.before a0 Z = true) := hw _ (List.mem_of_getElem? (i := 14) rfl)
def tw15 {Z : State} {a0 : Array Value} (hw : ∀ d ∈ tables_1, d.before a0 Z = true) := hw _ (List.mem_of_getElem? (i := 15) rfl)
def tw16 {Z : State} {a0 : Array Value} (hw : ∀ d ∈ tables_1, d.before a0 Z = true) := hw _ (List.mem_of_getElem? (i := 16) rfl)
theorem d_prog_50_method_1_code_4 : decode prog_50_method_1_code 4 = .ok (.aload_n 0, 1) := by decide +kernel
theorem d_prog_50_method_1_code_5 : decode prog_50_method_1_code 5 = .ok (.iconst 4, 1) := by decide +kernel
theorem d_prog_50_method_1_code_6 : decode prog_50_method_1_code 6 = .ok (.newarray .int, 2) := by decide +kernel
def tw17 {Z : State} {a0 : Array Value} (hw : ∀ d ∈ tables_1, d.before a0 Z = true) := hw _ (List.mem_of_getElem? (i := 17) rfl)
theorem d_prog_50_method_1_code_8 : decode prog_50_method_1_code 8 = .ok (.putfield 7, 3) := by decide +kernel
def tw18 {Z : State} {a0 : Array Value} (hw : ∀ d ∈ tables_1, d.before a0 Z = true) := hw _ (List.mem_of_getElem? (i := 18) rfl)
def tw19 {Z : State} {a0 : Array Value} (hw : ∀ d ∈ tables_1, d.before a0 Z = true) := hw _ (List.mem_of_getElem? (i := 19) rfl)
def tw9 {Z : State} {a0 : Array Value} (hw : ∀ d ∈ tables_1, d.before a0 Z = true) := hw _ (List.mem_of_getElem? (i := 9) rfl)
def tw21 {Z : State} {a0 : Array Value} (hw : ∀ d ∈ tables_1, d.before a0 Z = true) := hw _ (List.mem_of_getElem? (i := 21) rfl)
def tw28 {Z : State} {a0 : Array Value} (hw : ∀ d ∈ tables_1, d.before a0 Z = true) := hw _ (List.mem_of_getElem? (i := 28) rfl)
theorem d_prog_50_method_1_code_11 : decode prog_50_method_1_code 11 = .ok (.aload_n 0, 1) := by decide +kernel
theorem d_prog_50_method_1_code_12 : decode prog_50_method_1_code 12 = .ok (.iconst 4, 1) := by decide +kernel
theorem d_prog_50_method_1_code_13 : decode prog_50_method_1_code 13 = .ok (.newarray .double, 2) := by decide +kernel
def tw7 {Z : State} {a0 : Array Value} (hw : ∀ d ∈ tables_1, d.before a0 Z = true) := hw _ (List.mem_of_getElem? (i := 7) rfl)
theorem d_prog_50_method_1_code_15 : decode prog_50_method_1_code 15 = .ok (.putfield 13, 3) := by decide +kernel
def tw20 {Z : State} {a0 : Array Value} (hw : ∀ d ∈ tables_1, d.before a0 Z = true) := hw _ (List.mem_of_getElem? (i := 20) rfl)
theorem d_prog_50_method_1_code_18 : decode prog_50_method_1_code 18 = .ok (.return_, 1) := by decide +kernel
set_option maxRecDepth 65536 in
set_option maxHeartbeats 40000000 in
theorem rmI (l : Launch) (Z : State) (a0 : Array Value) (hw : ∀ d ∈ tables_1, d.before a0 Z = true) (ws : List Jvm.Cond) (a : Addr) (h0 : Heap) (n0 : Nat) (Z0 : n0 ≤ h0.size) (E1 : xa5 Z h0 a) (F1 : fd2 Z h0 a .null) (F2 : fd3 Z h0 a .null) (F3 : fd4 Z h0 a (.int (0 : Int32))) (ge_a : n0 ≤ a) :
    MetFree l mn6 (head1 (Jvm.Cond.code mn6 prog_50_method_1_code 1 none :: ws) ({ frames := 1, cells := 2, slots := 8, locals := 12 } : Room)) (fun aA U => aA = #[(.ref a)] ∧ Z.Warmed39 U.vm ∧ U.heap = h0) (fun _ _ _ _ _ => True) (fun _ U o U' => ∃ vR LR, o = .returned vR ∧ QrmI Z a h0 n0 vR U'.heap LR ∧ FrameEnd U o U' LR ({ frames := 1, cells := 2, slots := 8, locals := 12 } : Room).cells ({ frames := 1, cells := 2, slots := 8, locals := 12 } : Room).slots) := by
  refine MetFree.of_bodySF (plainFor_of_name pn_com_example_netloom_netloom_embed_SparseColumn) hisR ?_
  intro p e s m args below meth c s₁ Bd hml0 hPre hKk
  obtain ⟨rfl, hZ, hh⟩ := hPre
  have hx := Bd.exec
  have hby := Bd.bytes
  have hml : c.maxLocals = 1 := hml0
  have hown : s.vm.findClass "com/example/netloom/netloom/embed/SparseColumn" = some m.cls := findClass_of_methodNamed Bd.named
  have hnm := (name_of_methodNamed Bd.named Bd.method).1
  have X0 : Stand p l e ({ frames := 1, cells := 2, slots := 8, locals := 12 } : Room) s m #[(.ref a)] below meth c s₁ [] 0 0 := Stand.of_body Bd
  have e0 : s₁.heap = h0 := by rw [← hh, Bd.state]; rfl
  have N0 := Fr.nil n0
  obtain ⟨E0, hE0⟩ : ∃ zE : State, zE = s₁.setTop (entryFrame m #[(.ref a)] 1) := ⟨_, rfl⟩
  have k0 : own_G p e below E0 s₁ (mkF m 0 #[vr a] []) := fun tz kz => hE0 ▸ castTop (ef_rmI m a) kz
  have K0 : Keep h0 h0 [a] := Keep.refl _ _
  have k9 : own_G p e below E0 s₁ (mkF m 1 #[vr a] [(.ref a)]) := by
    intro tQ kk
    refine k0 tQ ?_
    refine XS.aloadN X0.here hx rfl (hb hby d_prog_50_method_1_code_0) rfl rfl ?_
    exact kk
  clear k0
  obtain ⟨T10, X11, e12, st13⟩ := initO X0 hx hZ hown (tw14 hw) (tw15 hw) (tw16 hw) e0 (g := (mkF m 1 #[vr a] [(.ref a)])) rfl (by rw [hml]; rfl) rfl (hb hby d_prog_50_method_1_code_1) (by decide) (W := 0) (by show 2 * 0 + _ ≤ _; exact Nat.le_of_eq rfl) (by decide)
  have k14 : own_G p e below E0 T10 (mkF m 4 #[vr a] []) := fun tQ kk => k9 tQ (st13 _ kk)
  clear k9 st13
  have k15 : own_G p e below E0 T10 (mkF m 6 #[vr a] [(.int (4 : Int32)), (.ref a)]) := by
    intro tQ kk
    refine k14 tQ ?_
    refine XS.aloadN X11.here hx rfl (hb hby d_prog_50_method_1_code_4) rfl rfl ?_
    refine XS.iconst X11.here hx rfl (hb hby d_prog_50_method_1_code_5) ?_
    exact kk
  clear k14
  obtain ⟨T16, h17, cA18, X19, e20, E21, A22, st23⟩ := newP (aty := .int) X11 hx hZ (tw17 hw) e12 (g := (mkF m 6 #[vr a] [(.int (4 : Int32)), (.ref a)])) rfl (hb hby d_prog_50_method_1_code_6) rfl (by decide) (cap := 4) (by decide) (by decide) (by decide) (by decide)
  obtain ⟨a24, g25⟩ : ∃ zA : Nat, zA = h0.size := ⟨_, rfl⟩
  rw [← g25] at A22 st23
  have n26 : a ≠ a24 := own_lt_ne E1.lt g25
  have n27 : a24 ≠ a := fun q => n26 q.symm
  have nw28 : h0.size ≤ a24 := own_ge_of K0.1 g25
  have ge29 : n0 ≤ a24 := own_ge_of Z0 g25
  have Z30 : n0 ≤ h17.size := Nat.le_trans Z0 E21.1
  have F31 : xa5 Z h17 a := E1.ext E21
  clear E1
  have F32 : fd2 Z h17 a .null := F1.ext E21
  clear F1
  have F33 : fd3 Z h17 a .null := F2.ext E21
  clear F2
  have F34 : fd4 Z h17 a (.int (0 : Int32)) := F3.ext E21
  clear F3
  have K35 : Keep h0 h17 [a] := K0.ext E21
  have F36 : own_A Z h17 a24 .int [(.int (0 : Int32)), (.int (0 : Int32)), (.int (0 : Int32)), (.int (0 : Int32))] := own_A.new A22
  have k37 : own_G p e below E0 T16 (mkF m 8 #[vr a] [(.ref a24), (.ref a)]) := fun tQ kk => k15 tQ (st23 _ kk)
  clear k15 st23
  obtain ⟨T38, h39, X40, e41, W42, st43⟩ := putF X19 hx hZ hown (host := "") (Or.inl (tw18 hw)) Via.refl e20 F32 F31 (Or.inl (tw19 hw)) (tw9 hw) (ty := (.array .int)) (by decide) rfl rfl (g := (mkF m 8 #[vr a] [(.ref a24), (.ref a)])) rfl rfl (hb hby d_prog_50_method_1_code_8)
  have N44 := Fr.snoc X40 N0 ge_a
  have k45 : own_G p e below E0 T38 (mkF m 11 #[vr a] []) := fun tQ kk => k37 tQ (st43 _ kk)
  clear k37 st43
  have F46 : xa5 Z h39 a := F31.wr W42
  clear F31
  have F47 : fd2 Z h39 a (.ref a24) := F32.same W42
  clear F32
  have F48 : fd3 Z h39 a .null := F33.other W42 (Or.inr (slot_ne (C := "com/example/netloom/netloom/embed/SparseColumn") (Or.inl (tw21 hw)) (Or.inl (tw19 hw)) (by decide) (t := (.array .double)) (t' := (.array .int)) (by decide) (by decide)))
  clear F33
  have F49 : fd4 Z h39 a (.int (0 : Int32)) := F34.other W42 (Or.inr (slot_ne (C := "com/example/netloom/netloom/embed/SparseColumn") (Or.inl (tw28 hw)) (Or.inl (tw19 hw)) (by decide) (t := .int) (t' := (.array .int)) (by decide) (by decide)))
  clear F34
  have F50 : own_A Z h39 a24 .int [(.int (0 : Int32)), (.int (0 : Int32)), (.int (0 : Int32)), (.int (0 : Int32))] := F36.other W42 n27
  clear F36
  have Z51 : n0 ≤ h39.size := by rw [W42.size]; exact Z30
  have K52 : Keep h0 h39 [a] := K35.wr W42 (Or.inl (List.mem_of_getElem? (i := 0) rfl))
  have k53 : own_G p e below E0 T38 (mkF m 13 #[vr a] [(.int (4 : Int32)), (.ref a)]) := by
    intro tQ kk
    refine k45 tQ ?_
    refine XS.aloadN X40.here hx rfl (hb hby d_prog_50_method_1_code_11) rfl rfl ?_
    refine XS.iconst X40.here hx rfl (hb hby d_prog_50_method_1_code_12) ?_
    exact kk
  clear k45
  obtain ⟨T54, h55, cA56, X57, e58, E59, A60, st61⟩ := newP (aty := .double) X40 hx hZ (tw7 hw) e41 (g := (mkF m 13 #[vr a] [(.int (4 : Int32)), (.ref a)])) rfl (hb hby d_prog_50_method_1_code_13) rfl (by decide) (cap := 4) (by decide) (by decide) (by decide) (by decide)
  obtain ⟨a62, g63⟩ : ∃ zA : Nat, zA = h39.size := ⟨_, rfl⟩
  rw [← g63] at A60 st61
  have n64 : a ≠ a62 := own_lt_ne F46.lt g63
  have n65 : a62 ≠ a := fun q => n64 q.symm
  have n66 : a24 ≠ a62 := own_lt_ne F50.lt g63
  have n67 : a62 ≠ a24 := fun q => n66 q.symm
  have nw68 : h0.size ≤ a62 := own_ge_of K52.1 g63
  have ge69 : n0 ≤ a62 := own_ge_of Z51 g63
  have Z70 : n0 ≤ h55.size := Nat.le_trans Z51 E59.1
  have F71 : xa5 Z h55 a := F46.ext E59
  clear F46
  have F72 : fd2 Z h55 a (.ref a24) := F47.ext E59
  clear F47
  have F73 : fd3 Z h55 a .null := F48.ext E59
  clear F48
  have F74 : fd4 Z h55 a (.int (0 : Int32)) := F49.ext E59
  clear F49
  have F75 : own_A Z h55 a24 .int [(.int (0 : Int32)), (.int (0 : Int32)), (.int (0 : Int32)), (.int (0 : Int32))] := F50.ext E59
  clear F50
  have K76 : Keep h0 h55 [a] := K52.ext E59
  have F77 : own_A Z h55 a62 .double [(.double (0 : UInt64)), (.double (0 : UInt64)), (.double (0 : UInt64)), (.double (0 : UInt64))] := own_A.new A60
  have k78 : own_G p e below E0 T54 (mkF m 15 #[vr a] [(.ref a62), (.ref a)]) := fun tQ kk => k53 tQ (st61 _ kk)
  clear k53 st61
  obtain ⟨T79, h80, X81, e82, W83, st84⟩ := putF X57 hx hZ hown (host := "") (Or.inl (tw20 hw)) Via.refl e58 F73 F71 (Or.inl (tw21 hw)) (tw9 hw) (ty := (.array .double)) (by decide) rfl rfl (g := (mkF m 15 #[vr a] [(.ref a62), (.ref a)])) rfl rfl (hb hby d_prog_50_method_1_code_15)
  have N85 := Fr.snoc X81 N44 ge_a
  have k86 : own_G p e below E0 T79 (mkF m 18 #[vr a] []) := fun tQ kk => k78 tQ (st84 _ kk)
  clear k78 st84
  have F87 : xa5 Z h80 a := F71.wr W83
  clear F71
  have F88 : fd2 Z h80 a (.ref a24) := F72.other W83 (Or.inr (slot_ne (C := "com/example/netloom/netloom/embed/SparseColumn") (Or.inl (tw19 hw)) (Or.inl (tw21 hw)) (by decide) (t := (.array .int)) (t' := (.array .double)) (by decide) (by decide)))
  clear F72
  have F89 : fd3 Z h80 a (.ref a62) := F73.same W83
  clear F73
  have F90 : fd4 Z h80 a (.int (0 : Int32)) := F74.other W83 (Or.inr (slot_ne (C := "com/example/netloom/netloom/embed/SparseColumn") (Or.inl (tw28 hw)) (Or.inl (tw21 hw)) (by decide) (t := .int) (t' := (.array .double)) (by decide) (by decide)))
  clear F74
  have F91 : own_A Z h80 a24 .int [(.int (0 : Int32)), (.int (0 : Int32)), (.int (0 : Int32)), (.int (0 : Int32))] := F75.other W83 n27
  clear F75
  have F92 : own_A Z h80 a62 .double [(.double (0 : UInt64)), (.double (0 : UInt64)), (.double (0 : UInt64)), (.double (0 : UInt64))] := F77.other W83 n65
  clear F77
  have Z93 : n0 ≤ h80.size := by rw [W83.size]; exact Z70
  have K94 : Keep h0 h80 [a] := K76.wr W83 (Or.inl (List.mem_of_getElem? (i := 0) rfl))
  obtain ⟨fs, hr, hrun, hended, hW, hsame⟩ := X81.leave (v := none) (fun _ => rfl)
  have hrun0 := k86 _ (X81.returnOut hx Bd.returns (hb hby d_prog_50_method_1_code_18) hr)
  subst hE0
  refine ⟨_, _, hrun0, hrun, hended, _, _, rfl, ?_, ⟨_, rfl⟩, hW, hsame.mono (by decide) (by decide)⟩
  show QrmI Z a h0 n0 _ T79.heap _
  rw [e82]
  exact ⟨a24, a62, rfl, N85, K94, F88, F89, F90, F91, F92, nw28, nw68, n66⟩
def QrmMn (Z : State)  (h0 : Heap) (n0 : Nat) (vQ : Option Value) (hQ : Heap) (LQ : List Loc) : Prop := vQ = some (.int (4 : Int32)) ∧ Fr n0 LQ ∧ hQ = h0
theorem ef_rmMn (m : MethodId)  : entryFrame m #[(.int (4 : Int32)), (.int (8 : Int32))] 2 = mkF m 0 #[vi (4 : Int32), vi (8 : Int32)] [] := by first | (simp [entryFrame, mkF, argsToLocals, Value.category]; done) | rfl
abbrev mn7 : MethodName := ⟨"java/lang/Math", "min", "(II)I"⟩
theorem d_jdk_29_method_69_code_0 : decode jdk_29_method_69_code 0 = .ok (.iload_n 0, 1) := by decide +kernel
theorem d_jdk_29_method_69_code_1 : decode jdk_29_method_69_code 1 = .ok (.iload_n 1, 1) := by decide +kernel
theorem d_jdk_29_method_69_code_2 : decode jdk_29_method_69_code 2 = .ok (.if_icmp .gt 7, 3) := by decide +kernel
theorem d_jdk_29_method_69_code_5 : decode jdk_29_method_69_code 5 = .ok (.iload_n 0, 1) := by decide +kernel
theorem d_jdk_29_method_69_code_6 : decode jdk_29_method_69_code 6 = .ok (.goto 4, 3) := by decide +kernel
theorem d_jdk_29_method_69_code_10 : decode jdk_29_method_69_code 10 = .ok (.ireturn, 1) := by decide +kernel
set_option maxRecDepth 65536 in
set_option maxHeartbeats 40000000 in
theorem rmMn (l : Launch) (Z : State) (a0 : Array Value) (hw : ∀ d ∈ tables_1, d.before a0 Z = true) (ws : List Jvm.Cond)  (h0 : Heap) (n0 : Nat) (Z0 : n0 ≤ h0.size)  :
    MetFree l mn7 (head1 (Jvm.Cond.code mn7 jdk_29_method_69_code 2 (some .int) :: ws) ({ frames := 0, cells := 0, slots := 0, locals := 0 } : Room)) (fun aA U => aA = #[(.int (4 : Int32)), (.int (8 : Int32))] ∧ Z.Warmed39 U.vm ∧ U.heap = h0) (fun _ _ _ _ _ => True) (fun _ U o U' => ∃ vR LR, o = .returned vR ∧ QrmMn Z  h0 n0 vR U'.heap LR ∧ FrameEnd U o U' LR ({ frames := 0, cells := 0, slots := 0, locals := 0 } : Room).cells ({ frames := 0, cells := 0, slots := 0, locals := 0 } : Room).slots) := by
  refine MetFree.of_bodySF (Jvm.Free.JP.mathPlain rfl (by decide +kernel)) hisR ?_
  intro p e s m args below meth c s₁ Bd hml0 hPre hKk
  obtain ⟨rfl, hZ, hh⟩ := hPre
  have hx := Bd.exec
  have hby := Bd.bytes
  have hml : c.maxLocals = 2 := hml0
  have hown : s.vm.findClass "java/lang/Math" = some m.cls := findClass_of_methodNamed Bd.named
  have hnm := (name_of_methodNamed Bd.named Bd.method).1
  have X0 : Stand p l e ({ frames := 0, cells := 0, slots := 0, locals := 0 } : Room) s m #[(.int (4 : Int32)), (.int (8 : Int32))] below meth c s₁ [] 0 0 := Stand.of_body Bd
  have e0 : s₁.heap = h0 := by rw [← hh, Bd.state]; rfl
  have N0 := Fr.nil n0
  obtain ⟨E0, hE0⟩ : ∃ zE : State, zE = s₁.setTop (entryFrame m #[(.int (4 : Int32)), (.int (8 : Int32))] 2) := ⟨_, rfl⟩
  have k0 : own_G p e below E0 s₁ (mkF m 0 #[vi (4 : Int32), vi (8 : Int32)] []) := fun tz kz => hE0 ▸ castTop (ef_rmMn m ) kz
  have k95 : own_G p e below E0 s₁ (mkF m 10 #[vi (4 : Int32), vi (8 : Int32)] [(.int (4 : Int32))]) := by
    intro tQ kk
    refine k0 tQ ?_
    refine XS.iloadN X0.here hx rfl (hb hby d_jdk_29_method_69_code_0) rfl ?_
    refine XS.iloadN X0.here hx rfl (hb hby d_jdk_29_method_69_code_1) rfl ?_
    refine XS.icmpNo X0.here hx rfl (hb hby d_jdk_29_method_69_code_2) rfl (own_ic_gtN (by decide)) ?_
    refine XS.iloadN X0.here hx rfl (hb hby d_jdk_29_method_69_code_5) rfl ?_
    show Steps p.tables e below (s₁.setTop (mkF m 6 #[vi (4 : Int32), vi (8 : Int32)] [(.int (4 : Int32))])) tQ
    refine XS.goto X0.here hx rfl (pc0 := 6) (pc' := 10) rfl (hb hby d_jdk_29_method_69_code_6) (by decide) (by decide) ?_
    exact kk
  clear k0
  obtain ⟨fs, hr, hrun, hended, hW, hsame⟩ := X0.leave (v := some (.int (4 : Int32))) (fun h => by rw [Bd.returns] at h; cases h)
  have hrun0 := k95 _ (retOut X0 hx Bd.returns (t := .int) rfl (Or.inl ⟨rfl, Or.inl rfl, _, rfl⟩) (hb hby d_jdk_29_method_69_code_10) hr)
  subst hE0
  refine ⟨_, _, hrun0, hrun, hended, _, _, rfl, ?_, ⟨_, rfl⟩, hW, hsame.mono (by decide) (by decide)⟩
  show QrmMn Z  h0 n0 _ s₁.heap _
  rw [e0]
  exact ⟨rfl, N0, rfl⟩
def QrmCI (Z : State) (a : Addr) (x0 : Int32) (x1 : Int32) (x2 : Int32) (x3 : Int32) (h0 : Heap) (n0 : Nat) (vQ : Option Value) (hQ : Heap) (LQ : List Loc) : Prop := ∃ (r : Addr), vQ = some (.ref r) ∧ Fr n0 LQ ∧ Keep h0 hQ [] ∧ (own_A Z hQ r .int [(.int x0), (.int x1), (.int x2), (.int x3), (.int (0 : Int32)), (.int (0 : Int32)), (.int (0 : Int32)), (.int (0 : Int32))]) ∧ (h0.size ≤ r)
theorem ef_rmCI (m : MethodId) (a : Addr) (x0 : Int32) (x1 : Int32) (x2 : Int32) (x3 : Int32) : entryFrame m #[(.ref a), (.int (8 : Int32))] 3 = mkF m 0 #[vr a, vi (8 : Int32), uu] [] := by first | (simp [entryFrame, mkF, argsToLocals, Value.category]; done) | rfl
abbrev mn8 : MethodName := ⟨"java/util/Arrays", "copyOf", "([II)[I"⟩
theorem pn_java_util_Arrays : plainName "java/util/Arrays" = true := by first | (simp [plainName, overriddenIn]; done) | decide +kernel
theorem d_jdk_65_method_123_code_0 : decode jdk_65_method_123_code 0 = .ok (.iload_n 1, 1) := by decide +kernel
theorem d_jdk_65_method_123_code_1 : decode jdk_65_method_123_code 1 = .ok (.aload_n 0, 1) := by decide +kernel
theorem d_jdk_65_method_123_code_2 : decode jdk_65_method_123_code 2 = .ok (.arraylength, 1) := by decide +kernel
theorem d_jdk_65_method_123_code_3 : decode jdk_65_method_123_code 3 = .ok (.if_icmp .ne 11, 3) := by decide +kernel
theorem d_jdk_65_method_123_code_14 : decode jdk_65_method_123_code 14 = .ok (.iload_n 1, 1) := by decide +kernel
theorem d_jdk_65_method_123_code_15 : decode jdk_65_method_123_code 15 = .ok (.newarray .int, 2) := by decide +kernel
theorem d_jdk_65_method_123_code_17 : decode jdk_65_method_123_code 17 = .ok (.astore_n 2, 1) := by decide +kernel
theorem d_jdk_65_method_123_code_18 : decode jdk_65_method_123_code 18 = .ok (.aload_n 0, 1) := by decide +kernel
theorem d_jdk_65_method_123_code_19 : decode jdk_65_method_123_code 19 = .ok (.iconst 0, 1) := by decide +kernel
theorem d_jdk_65_method_123_code_20 : decode jdk_65_method_123_code 20 = .ok (.aload_n 2, 1) := by decide +kernel
theorem d_jdk_65_method_123_code_21 : decode jdk_65_method_123_code 21 = .ok (.iconst 0, 1) := by decide +kernel
theorem d_jdk_65_method_123_code_22 : decode jdk_65_method_123_code 22 = .ok (.aload_n 0, 1) := by decide +kernel
theorem d_jdk_65_method_123_code_23 : decode jdk_65_method_123_code 23 = .ok (.arraylength, 1) := by decide +kernel
theorem d_jdk_65_method_123_code_24 : decode jdk_65_method_123_code 24 = .ok (.iload_n 1, 1) := by decide +kernel
theorem d_jdk_65_method_123_code_25 : decode jdk_65_method_123_code 25 = .ok (.invokestatic 304, 3) := by decide +kernel
def tw45 {Z : State} {a0 : Array Value} (hw : ∀ d ∈ tables_1, d.before a0 Z = true) := hw _ (List.mem_of_getElem? (i := 45) rfl)
def tw48 {Z : State} {a0 : Array Value} (hw : ∀ d ∈ tables_1, d.before a0 Z = true) := hw _ (List.mem_of_getElem? (i := 48) rfl)
def tw47 {Z : State} {a0 : Array Value} (hw : ∀ d ∈ tables_1, d.before a0 Z = true) := hw _ (List.mem_of_getElem? (i := 47) rfl)
theorem pd_9 : parseMethodDescriptor "(II)I" = some ⟨[.int, .int], some .int⟩ := by decide +kernel
def tw46 {Z : State} {a0 : Array Value} (hw : ∀ d ∈ tables_1, d.before a0 Z = true) := hw _ (List.mem_of_getElem? (i := 46) rfl)
theorem d_jdk_65_method_123_code_28 : decode jdk_65_method_123_code 28 = .ok (.invokestatic 150, 3) := by decide +kernel
def tw49 {Z : State} {a0 : Array Value} (hw : ∀ d ∈ tables_1, d.before a0 Z = true) := hw _ (List.mem_of_getElem? (i := 49) rfl)
def tw52 {Z : State} {a0 : Array Value} (hw : ∀ d ∈ tables_1, d.before a0 Z = true) := hw _ (List.mem_of_getElem? (i := 52) rfl)
def tw50 {Z : State} {a0 : Array Value} (hw : ∀ d ∈ tables_1, d.before a0 Z = true) := hw _ (List.mem_of_getElem? (i := 50) rfl)
def tw51 {Z : State} {a0 : Array Value} (hw : ∀ d ∈ tables_1, d.before a0 Z = true) := hw _ (List.mem_of_getElem? (i := 51) rfl)
theorem d_jdk_65_method_123_code_31 : decode jdk_65_method_123_code 31 = .ok (.aload_n 2, 1) := by decide +kernel
theorem d_jdk_65_method_123_code_32 : decode jdk_65_method_123_code 32 = .ok (.areturn, 1) := by decide +kernel
set_option maxRecDepth 65536 in
set_option maxHeartbeats 40000000 in
theorem rmCI (l : Launch) (Z : State) (a0 : Array Value) (hw : ∀ d ∈ tables_1, d.before a0 Z = true) (ws : List Jvm.Cond) (a : Addr) (x0 : Int32) (x1 : Int32) (x2 : Int32) (x3 : Int32) (h0 : Heap) (n0 : Nat) (Z0 : n0 ≤ h0.size) (A1 : own_A Z h0 a .int [(.int x0), (.int x1), (.int x2), (.int x3)]) :
    MetFree l mn8 (head1 (Jvm.Cond.code mn8 jdk_65_method_123_code 3 (some (.array .int)) :: ws) ({ frames := 1, cells := 1, slots := 8, locals := 30 } : Room)) (fun aA U => aA = #[(.ref a), (.int (8 : Int32))] ∧ Z.Warmed39 U.vm ∧ U.heap = h0) (fun _ _ _ _ _ => True) (fun _ U o U' => ∃ vR LR, o = .returned vR ∧ QrmCI Z a x0 x1 x2 x3 h0 n0 vR U'.heap LR ∧ FrameEnd U o U' LR ({ frames := 1, cells := 1, slots := 8, locals := 30 } : Room).cells ({ frames := 1, cells := 1, slots := 8, locals := 30 } : Room).slots) := by
  refine MetFree.of_bodySF (plainFor_of_name pn_java_util_Arrays) hisR ?_
  intro p e s m args below meth c s₁ Bd hml0 hPre hKk
  obtain ⟨rfl, hZ, hh⟩ := hPre
  have hx := Bd.exec
  have hby := Bd.bytes
  have hml : c.maxLocals = 3 := hml0
  have hown : s.vm.findClass "java/util/Arrays" = some m.cls := findClass_of_methodNamed Bd.named
  have hnm := (name_of_methodNamed Bd.named Bd.method).1
  have X0 : Stand p l e ({ frames := 1, cells := 1, slots := 8, locals := 30 } : Room) s m #[(.ref a), (.int (8 : Int32))] below meth c s₁ [] 0 0 := Stand.of_body Bd
  have e0 : s₁.heap = h0 := by rw [← hh, Bd.state]; rfl
  have N0 := Fr.nil n0
  obtain ⟨E0, hE0⟩ : ∃ zE : State, zE = s₁.setTop (entryFrame m #[(.ref a), (.int (8 : Int32))] 3) := ⟨_, rfl⟩
  have k0 : own_G p e below E0 s₁ (mkF m 0 #[vr a, vi (8 : Int32), uu] []) := fun tz kz => hE0 ▸ castTop (ef_rmCI m a x0 x1 x2 x3) kz
  have K0 : Keep h0 h0 [] := Keep.refl _ _
  have k96 : own_G p e below E0 s₁ (mkF m 2 #[vr a, vi (8 : Int32), uu] [(.ref a), (.int (8 : Int32))]) := by
    intro tQ kk
    refine k0 tQ ?_
    refine XS.iloadN X0.here hx rfl (hb hby d_jdk_65_method_123_code_0) rfl ?_
    refine XS.aloadN X0.here hx rfl (hb hby d_jdk_65_method_123_code_1) rfl rfl ?_
    exact kk
  clear k0
  have st97 := fun tQ => own_A.len X0 hx hZ e0 A1 (g := (mkF m 2 #[vr a, vi (8 : Int32), uu] [(.ref a), (.int (8 : Int32))])) rfl rfl (hb hby d_jdk_65_method_123_code_2) tQ
  have k98 : own_G p e below E0 s₁ (mkF m 3 #[vr a, vi (8 : Int32), uu] [(.int (4 : Int32)), (.int (8 : Int32))]) := fun tQ kk => k96 tQ (st97 _ kk)
  clear k96 st97
  have k99 : own_G p e below E0 s₁ (mkF m 15 #[vr a, vi (8 : Int32), uu] [(.int (8 : Int32))]) := by
    intro tQ kk
    refine k98 tQ ?_
    refine XS.icmpYes X0.here hx rfl (pc0 := 3) (pc' := 14) rfl (hb hby d_jdk_65_method_123_code_3) rfl (own_ic_neY (by decide)) (by decide) (by decide) ?_
    refine XS.iloadN X0.here hx rfl (hb hby d_jdk_65_method_123_code_14) rfl ?_
    exact kk
  clear k98
  obtain ⟨T100, h101, cA102, X103, e104, E105, A106, st107⟩ := newP (aty := .int) X0 hx hZ (tw17 hw) e0 (g := (mkF m 15 #[vr a, vi (8 : Int32), uu] [(.int (8 : Int32))])) rfl (hb hby d_jdk_65_method_123_code_15) rfl (by decide) (cap := 8) (by decide) (by decide) (by decide) (by decide)
  obtain ⟨a108, g109⟩ : ∃ zA : Nat, zA = h0.size := ⟨_, rfl⟩
  rw [← g109] at A106 st107
  have n110 : a ≠ a108 := own_lt_ne A1.lt g109
  have n111 : a108 ≠ a := fun q => n110 q.symm
  have nw112 : h0.size ≤ a108 := own_ge_of K0.1 g109
  have ge113 : n0 ≤ a108 := own_ge_of Z0 g109
  have Z114 : n0 ≤ h101.size := Nat.le_trans Z0 E105.1
  have F115 : own_A Z h101 a .int [(.int x0), (.int x1), (.int x2), (.int x3)] := A1.ext E105
  clear A1
  have K116 : Keep h0 h101 [] := K0.ext E105
  have F117 : own_A Z h101 a108 .int [(.int (0 : Int32)), (.int (0 : Int32)), (.int (0 : Int32)), (.int (0 : Int32)), (.int (0 : Int32)), (.int (0 : Int32)), (.int (0 : Int32)), (.int (0 : Int32))] := own_A.new A106
  have k118 : own_G p e below E0 T100 (mkF m 17 #[vr a, vi (8 : Int32), uu] [(.ref a108)]) := fun tQ kk => k99 tQ (st107 _ kk)
  clear k99 st107
  have k119 : own_G p e below E0 T100 (mkF m 23 #[vr a, vi (8 : Int32), vr a108] [(.ref a), (.int (0 : Int32)), (.ref a108), (.int (0 : Int32)), (.ref a)]) := by
    intro tQ kk
    refine k118 tQ ?_
    refine XS.astoreN X103.here hx rfl (hb hby d_jdk_65_method_123_code_17) rfl rfl (l' := #[vr a, vi (8 : Int32), vr a108]) rfl ?_
    refine XS.aloadN X103.here hx rfl (hb hby d_jdk_65_method_123_code_18) rfl rfl ?_
    refine XS.iconst X103.here hx rfl (hb hby d_jdk_65_method_123_code_19) ?_
    refine XS.aloadN X103.here hx rfl (hb hby d_jdk_65_method_123_code_20) rfl rfl ?_
    show Steps p.tables e below (T100.setTop (mkF m 21 #[vr a, vi (8 : Int32), vr a108] [(.ref a108), (.int (0 : Int32)), (.ref a)])) tQ
    refine XS.iconst X103.here hx rfl (hb hby d_jdk_65_method_123_code_21) ?_
    refine XS.aloadN X103.here hx rfl (hb hby d_jdk_65_method_123_code_22) rfl rfl ?_
    exact kk
  clear k118
  have st120 := fun tQ => own_A.len X103 hx hZ e104 F115 (g := (mkF m 23 #[vr a, vi (8 : Int32), vr a108] [(.ref a), (.int (0 : Int32)), (.ref a108), (.int (0 : Int32)), (.ref a)])) rfl rfl (hb hby d_jdk_65_method_123_code_23) tQ
  have k121 : own_G p e below E0 T100 (mkF m 24 #[vr a, vi (8 : Int32), vr a108] [(.int (4 : Int32)), (.int (0 : Int32)), (.ref a108), (.int (0 : Int32)), (.ref a)]) := fun tQ kk => k119 tQ (st120 _ kk)
  clear k119 st120
  have k122 : own_G p e below E0 T100 (mkF m 25 #[vr a, vi (8 : Int32), vr a108] [(.int (8 : Int32)), (.int (4 : Int32)), (.int (0 : Int32)), (.ref a108), (.int (0 : Int32)), (.ref a)]) := by
    intro tQ kk
    refine k121 tQ ?_
    refine XS.iloadN X103.here hx rfl (hb hby d_jdk_65_method_123_code_24) rfl ?_
    exact kk
  clear k121
  obtain ⟨_, _, ⟨T123, L124, kc125, nc126⟩, -, X127, ⟨Lc128, hQ129, l130, y131, z132⟩, st133⟩ := Jvm.LawKit.callS X103 hx (y := mn7) hown (mvT hZ (tw45 hw)) (mvT hZ (tw46 hw)) (mvT hZ (tw47 hw)) (mvT hZ (tw48 hw)) (by decide) (backOf (W := 4) (rmMn l Z a0 hw []  h101 n0 Z114 ) hZ (tw48 hw) (tw47 hw) (by decide) (by decide)) (g := (mkF m 25 #[vr a, vi (8 : Int32), vr a108] [(.int (8 : Int32)), (.int (4 : Int32)), (.int (0 : Int32)), (.ref a108), (.int (0 : Int32)), (.ref a)])) rfl (by rw [hml]; rfl) (argsL := [(.int (4 : Int32)), (.int (8 : Int32))]) (rest := [(.int (0 : Int32)), (.ref a108), (.int (0 : Int32)), (.ref a)]) (lenOf pd_9 rfl) rfl (by show 2 * 0 + _ ≤ _; exact Nat.le_of_eq rfl) (hb hby d_jdk_65_method_123_code_25) (fun _ _ => ⟨rfl, e104, (by decide : 1 + 0 ≤ _), (by decide : 8 + 0 ≤ _)⟩)
  dsimp only [Pt.U, Pt.locs, Pt.cells, Pt.slots] at X127 l130 y131 z132 st133 hQ129
  subst l130 y131 z132
  obtain ⟨rfl, N134, e135⟩ := hQ129
  have N137 := Fr.app N0 N134
  have k138 : own_G p e below E0 T123 (mkF m 28 #[vr a, vi (8 : Int32), vr a108] [(.int (4 : Int32)), (.int (0 : Int32)), (.ref a108), (.int (0 : Int32)), (.ref a)]) := fun tQ kk => k122 tQ (st133 _ kk)
  clear k122 st133
  obtain ⟨T139, h140, L141, X142, e143, N144, K145, F146, st147⟩ := own_A.copy X127 hx hZ hown (tw49 hw) (tw52 hw) (tw50 hw) (tw51 hw) e135 F115 F117 rfl (na := 4) (nb := 8) rfl rfl (by decide) (by decide) (by decide) (Nat.le_of_ble_eq_true rfl) (Nat.le_of_ble_eq_true rfl) (by intro v hv; simp only [List.mem_cons, List.not_mem_nil, or_false] at hv; rcases hv with rfl | rfl | rfl | rfl <;> rfl) (by intro v hv; simp only [List.mem_cons, List.not_mem_nil, or_false] at hv; rcases hv with rfl | rfl | rfl | rfl | rfl | rfl | rfl | rfl <;> rfl) N137 ge113 (g := (mkF m 28 #[vr a, vi (8 : Int32), vr a108] [(.int (4 : Int32)), (.int (0 : Int32)), (.ref a108), (.int (0 : Int32)), (.ref a)])) rfl (by rw [hml]; rfl) (rest := []) rfl (hb hby d_jdk_65_method_123_code_28) (by decide) (W := 0) (by show 2 * 0 + _ ≤ _; exact Nat.le_of_eq rfl) (by decide)
  have k148 : own_G p e below E0 T139 (mkF m 31 #[vr a, vi (8 : Int32), vr a108] []) := fun tQ kk => k138 tQ (st147 _ kk)
  clear k138 st147
  have Z149 : n0 ≤ h140.size := Nat.le_trans Z114 K145.1
  have F150 : own_A Z h140 a .int [(.int x0), (.int x1), (.int x2), (.int x3)] := F115.keep K145 (ninS n110 nin0)
  clear F115
  have K151 : Keep h0 h140 [] := K116.trans K145 (allS (Or.inr nw112) all0)
  have F152 : own_A Z h140 a108 .int [(.int x0), (.int x1), (.int x2), (.int x3), (.int (0 : Int32)), (.int (0 : Int32)), (.int (0 : Int32)), (.int (0 : Int32))] := F146
  have k153 : own_G p e below E0 T139 (mkF m 32 #[vr a, vi (8 : Int32), vr a108] [(.ref a108)]) := by
    intro tQ kk
    refine k148 tQ ?_
    refine XS.aloadN X142.here hx rfl (hb hby d_jdk_65_method_123_code_31) rfl rfl ?_
    exact kk
  clear k148
  obtain ⟨fs, hr, hrun, hended, hW, hsame⟩ := X142.leave (v := some (.ref a108)) (fun h => by rw [Bd.returns] at h; cases h)
  have hrun0 := k153 _ (retOut X142 hx Bd.returns (t := (.array .int)) rfl (Or.inr (Or.inr (Or.inr (Or.inr ⟨rfl, rfl, rfl⟩)))) (hb hby d_jdk_65_method_123_code_32) hr)
  subst hE0
  refine ⟨_, _, hrun0, hrun, hended, _, _, rfl, ?_, ⟨_, rfl⟩, hW, hsame.mono (by decide) (by decide)⟩
  show QrmCI Z a x0 x1 x2 x3 h0 n0 _ T139.heap _
  rw [e143]
  exact ⟨a108, rfl, N144, K151, F152, nw112⟩
def QrmCD (Z : State) (a : Addr) (x0 : UInt64) (x1 : UInt64) (x2 : UInt64) (x3 : UInt64) (h0 : Heap) (n0 : Nat) (vQ : Option Value) (hQ : Heap) (LQ : List Loc) : Prop := ∃ (r : Addr), vQ = some (.ref r) ∧ Fr n0 LQ ∧ Keep h0 hQ [] ∧ (own_A Z hQ r .double [(.double x0), (.double x1), (.double x2), (.double x3), (.double (0 : UInt64)), (.double (0 : UInt64)), (.double (0 : UInt64)), (.double (0 : UInt64))]) ∧ (h0.size ≤ r)
theorem ef_rmCD (m : MethodId) (a : Addr) (x0 : UInt64) (x1 : UInt64) (x2 : UInt64) (x3 : UInt64) : entryFrame m #[(.ref a), (.int (8 : Int32))] 3 = mkF m 0 #[vr a, vi (8 : Int32), uu] [] := by first | (simp [entryFrame, mkF, argsToLocals, Value.category]; done) | rfl
abbrev mn10 : MethodName := ⟨"java/util/Arrays", "copyOf", "([DI)[D"⟩
theorem d_jdk_65_method_127_code_0 : decode jdk_65_method_127_code 0 = .ok (.iload_n 1, 1) := by decide +kernel
theorem d_jdk_65_method_127_code_1 : decode jdk_65_method_127_code 1 = .ok (.aload_n 0, 1) := by decide +kernel
theorem d_jdk_65_method_127_code_2 : decode jdk_65_method_127_code 2 = .ok (.arraylength, 1) := by decide +kernel
theorem d_jdk_65_method_127_code_3 : decode jdk_65_method_127_code 3 = .ok (.if_icmp .ne 11, 3) := by decide +kernel
theorem d_jdk_65_method_127_code_14 : decode jdk_65_method_127_code 14 = .ok (.iload_n 1, 1) := by decide +kernel
theorem d_jdk_65_method_127_code_15 : decode jdk_65_method_127_code 15 = .ok (.newarray .double, 2) := by decide +kernel
theorem d_jdk_65_method_127_code_17 : decode jdk_65_method_127_code 17 = .ok (.astore_n 2, 1) := by decide +kernel
theorem d_jdk_65_method_127_code_18 : decode jdk_65_method_127_code 18 = .ok (.aload_n 0, 1) := by decide +kernel
theorem d_jdk_65_method_127_code_19 : decode jdk_65_method_127_code 19 = .ok (.iconst 0, 1) := by decide +kernel
theorem d_jdk_65_method_127_code_20 : decode jdk_65_method_127_code 20 = .ok (.aload_n 2, 1) := by decide +kernel
theorem d_jdk_65_method_127_code_21 : decode jdk_65_method_127_code 21 = .ok (.iconst 0, 1) := by decide +kernel
theorem d_jdk_65_method_127_code_22 : decode jdk_65_method_127_code 22 = .ok (.aload_n 0, 1) := by decide +kernel
theorem d_jdk_65_method_127_code_23 : decode jdk_65_method_127_code 23 = .ok (.arraylength, 1) := by decide +kernel
theorem d_jdk_65_method_127_code_24 : decode jdk_65_method_127_code 24 = .ok (.iload_n 1, 1) := by decide +kernel
theorem d_jdk_65_method_127_code_25 : decode jdk_65_method_127_code 25 = .ok (.invokestatic 304, 3) := by decide +kernel
theorem d_jdk_65_method_127_code_28 : decode jdk_65_method_127_code 28 = .ok (.invokestatic 150, 3) := by decide +kernel
theorem d_jdk_65_method_127_code_31 : decode jdk_65_method_127_code 31 = .ok (.aload_n 2, 1) := by decide +kernel
theorem d_jdk_65_method_127_code_32 : decode jdk_65_method_127_code 32 = .ok (.areturn, 1) := by decide +kernel
set_option maxRecDepth 65536 in
set_option maxHeartbeats 40000000 in
theorem rmCD (l : Launch) (Z : State) (a0 : Array Value) (hw : ∀ d ∈ tables_1, d.before a0 Z = true) (ws : List Jvm.Cond) (a : Addr) (x0 : UInt64) (x1 : UInt64) (x2 : UInt64) (x3 : UInt64) (h0 : Heap) (n0 : Nat) (Z0 : n0 ≤ h0.size) (A1 : own_A Z h0 a .double [(.double x0), (.double x1), (.double x2), (.double x3)]) :
    MetFree l mn10 (head1 (Jvm.Cond.code mn10 jdk_65_method_127_code 3 (some (.array .double)) :: ws) ({ frames := 1, cells := 1, slots := 8, locals := 30 } : Room)) (fun aA U => aA = #[(.ref a), (.int (8 : Int32))] ∧ Z.Warmed39 U.vm ∧ U.heap = h0) (fun _ _ _ _ _ => True) (fun _ U o U' => ∃ vR LR, o = .returned vR ∧ QrmCD Z a x0 x1 x2 x3 h0 n0 vR U'.heap LR ∧ FrameEnd U o U' LR ({ frames := 1, cells := 1, slots := 8, locals := 30 } : Room).cells ({ frames := 1, cells := 1, slots := 8, locals := 30 } : Room).slots) := by
  refine MetFree.of_bodySF (plainFor_of_name pn_java_util_Arrays) hisR ?_
  intro p e s m args below meth c s₁ Bd hml0 hPre hKk
  obtain ⟨rfl, hZ, hh⟩ := hPre
  have hx := Bd.exec
  have hby := Bd.bytes
  have hml : c.maxLocals = 3 := hml0
  have hown : s.vm.findClass "java/util/Arrays" = some m.cls := findClass_of_methodNamed Bd.named
  have hnm := (name_of_methodNamed Bd.named Bd.method).1
  have X0 : Stand p l e ({ frames := 1, cells := 1, slots := 8, locals := 30 } : Room) s m #[(.ref a), (.int (8 : Int32))] below meth c s₁ [] 0 0 := Stand.of_body Bd
  have e0 : s₁.heap = h0 := by rw [← hh, Bd.state]; rfl
  have N0 := Fr.nil n0
  obtain ⟨E0, hE0⟩ : ∃ zE : State, zE = s₁.setTop (entryFrame m #[(.ref a), (.int (8 : Int32))] 3) := ⟨_, rfl⟩
  have k0 : own_G p e below E0 s₁ (mkF m 0 #[vr a, vi (8 : Int32), uu] []) := fun tz kz => hE0 ▸ castTop (ef_rmCD m a x0 x1 x2 x3) kz
  have K0 : Keep h0 h0 [] := Keep.refl _ _
  have k154 : own_G p e below E0 s₁ (mkF m 2 #[vr a, vi (8 : Int32), uu] [(.ref a), (.int (8 : Int32))]) := by
    intro tQ kk
    refine k0 tQ ?_
    refine XS.iloadN X0.here hx rfl (hb hby d_jdk_65_method_127_code_0) rfl ?_
    refine XS.aloadN X0.here hx rfl (hb hby d_jdk_65_method_127_code_1) rfl rfl ?_
    exact kk
  clear k0
  have st155 := fun tQ => own_A.len X0 hx hZ e0 A1 (g := (mkF m 2 #[vr a, vi (8 : Int32), uu] [(.ref a), (.int (8 : Int32))])) rfl rfl (hb hby d_jdk_65_method_127_code_2) tQ
  have k156 : own_G p e below E0 s₁ (mkF m 3 #[vr a, vi (8 : Int32), uu] [(.int (4 : Int32)), (.int (8 : Int32))]) := fun tQ kk => k154 tQ (st155 _ kk)
  clear k154 st155
  have k157 : own_G p e below E0 s₁ (mkF m 15 #[vr a, vi (8 : Int32), uu] [(.int (8 : Int32))]) := by
    intro tQ kk
    refine k156 tQ ?_
    refine XS.icmpYes X0.here hx rfl (pc0 := 3) (pc' := 14) rfl (hb hby d_jdk_65_method_127_code_3) rfl (own_ic_neY (by decide)) (by decide) (by decide) ?_
    refine XS.iloadN X0.here hx rfl (hb hby d_jdk_65_method_127_code_14) rfl ?_
    exact kk
  clear k156
  obtain ⟨T158, h159, cA160, X161, e162, E163, A164, st165⟩ := newP (aty := .double) X0 hx hZ (tw7 hw) e0 (g := (mkF m 15 #[vr a, vi (8 : Int32), uu] [(.int (8 : Int32))])) rfl (hb hby d_jdk_65_method_127_code_15) rfl (by decide) (cap := 8) (by decide) (by decide) (by decide) (by decide)
  obtain ⟨a166, g167⟩ : ∃ zA : Nat, zA = h0.size := ⟨_, rfl⟩
  rw [← g167] at A164 st165
  have n168 : a ≠ a166 := own_lt_ne A1.lt g167
  have n169 : a166 ≠ a := fun q => n168 q.symm
  have nw170 : h0.size ≤ a166 := own_ge_of K0.1 g167
  have ge171 : n0 ≤ a166 := own_ge_of Z0 g167
  have Z172 : n0 ≤ h159.size := Nat.le_trans Z0 E163.1
  have F173 : own_A Z h159 a .double [(.double x0), (.double x1), (.double x2), (.double x3)] := A1.ext E163
  clear A1
  have K174 : Keep h0 h159 [] := K0.ext E163
  have F175 : own_A Z h159 a166 .double [(.double (0 : UInt64)), (.double (0 : UInt64)), (.double (0 : UInt64)), (.double (0 : UInt64)), (.double (0 : UInt64)), (.double (0 : UInt64)), (.double (0 : UInt64)), (.double (0 : UInt64))] := own_A.new A164
  have k176 : own_G p e below E0 T158 (mkF m 17 #[vr a, vi (8 : Int32), uu] [(.ref a166)]) := fun tQ kk => k157 tQ (st165 _ kk)
  clear k157 st165
  have k177 : own_G p e below E0 T158 (mkF m 23 #[vr a, vi (8 : Int32), vr a166] [(.ref a), (.int (0 : Int32)), (.ref a166), (.int (0 : Int32)), (.ref a)]) := by
    intro tQ kk
    refine k176 tQ ?_
    refine XS.astoreN X161.here hx rfl (hb hby d_jdk_65_method_127_code_17) rfl rfl (l' := #[vr a, vi (8 : Int32), vr a166]) rfl ?_
    refine XS.aloadN X161.here hx rfl (hb hby d_jdk_65_method_127_code_18) rfl rfl ?_
    refine XS.iconst X161.here hx rfl (hb hby d_jdk_65_method_127_code_19) ?_
    refine XS.aloadN X161.here hx rfl (hb hby d_jdk_65_method_127_code_20) rfl rfl ?_
    show Steps p.tables e below (T158.setTop (mkF m 21 #[vr a, vi (8 : Int32), vr a166] [(.ref a166), (.int (0 : Int32)), (.ref a)])) tQ
    refine XS.iconst X161.here hx rfl (hb hby d_jdk_65_method_127_code_21) ?_
    refine XS.aloadN X161.here hx rfl (hb hby d_jdk_65_method_127_code_22) rfl rfl ?_
    exact kk
  clear k176
  have st178 := fun tQ => own_A.len X161 hx hZ e162 F173 (g := (mkF m 23 #[vr a, vi (8 : Int32), vr a166] [(.ref a), (.int (0 : Int32)), (.ref a166), (.int (0 : Int32)), (.ref a)])) rfl rfl (hb hby d_jdk_65_method_127_code_23) tQ
  have k179 : own_G p e below E0 T158 (mkF m 24 #[vr a, vi (8 : Int32), vr a166] [(.int (4 : Int32)), (.int (0 : Int32)), (.ref a166), (.int (0 : Int32)), (.ref a)]) := fun tQ kk => k177 tQ (st178 _ kk)
  clear k177 st178
  have k180 : own_G p e below E0 T158 (mkF m 25 #[vr a, vi (8 : Int32), vr a166] [(.int (8 : Int32)), (.int (4 : Int32)), (.int (0 : Int32)), (.ref a166), (.int (0 : Int32)), (.ref a)]) := by
    intro tQ kk
    refine k179 tQ ?_
    refine XS.iloadN X161.here hx rfl (hb hby d_jdk_65_method_127_code_24) rfl ?_
    exact kk
  clear k179
  obtain ⟨_, _, ⟨T181, L182, kc183, nc184⟩, -, X185, ⟨Lc186, hQ187, l188, y189, z190⟩, st191⟩ := Jvm.LawKit.callS X161 hx (y := mn7) hown (mvT hZ (tw45 hw)) (mvT hZ (tw46 hw)) (mvT hZ (tw47 hw)) (mvT hZ (tw48 hw)) (by decide) (backOf (W := 4) (rmMn l Z a0 hw []  h159 n0 Z172 ) hZ (tw48 hw) (tw47 hw) (by decide) (by decide)) (g := (mkF m 25 #[vr a, vi (8 : Int32), vr a166] [(.int (8 : Int32)), (.int (4 : Int32)), (.int (0 : Int32)), (.ref a166), (.int (0 : Int32)), (.ref a)])) rfl (by rw [hml]; rfl) (argsL := [(.int (4 : Int32)), (.int (8 : Int32))]) (rest := [(.int (0 : Int32)), (.ref a166), (.int (0 : Int32)), (.ref a)]) (lenOf pd_9 rfl) rfl (by show 2 * 0 + _ ≤ _; exact Nat.le_of_eq rfl) (hb hby d_jdk_65_method_127_code_25) (fun _ _ => ⟨rfl, e162, (by decide : 1 + 0 ≤ _), (by decide : 8 + 0 ≤ _)⟩)
  dsimp only [Pt.U, Pt.locs, Pt.cells, Pt.slots] at X185 l188 y189 z190 st191 hQ187
  subst l188 y189 z190
  obtain ⟨rfl, N192, e193⟩ := hQ187
  have N195 := Fr.app N0 N192
  have k196 : own_G p e below E0 T181 (mkF m 28 #[vr a, vi (8 : Int32), vr a166] [(.int (4 : Int32)), (.int (0 : Int32)), (.ref a166), (.int (0 : Int32)), (.ref a)]) := fun tQ kk => k180 tQ (st191 _ kk)
  clear k180 st191
  obtain ⟨T197, h198, L199, X200, e201, N202, K203, F204, st205⟩ := own_A.copy X185 hx hZ hown (tw49 hw) (tw52 hw) (tw50 hw) (tw51 hw) e193 F173 F175 rfl (na := 4) (nb := 8) rfl rfl (by decide) (by decide) (by decide) (Nat.le_of_ble_eq_true rfl) (Nat.le_of_ble_eq_true rfl) (by intro v hv; simp only [List.mem_cons, List.not_mem_nil, or_false] at hv; rcases hv with rfl | rfl | rfl | rfl <;> rfl) (by intro v hv; simp only [List.mem_cons, List.not_mem_nil, or_false] at hv; rcases hv with rfl | rfl | rfl | rfl | rfl | rfl | rfl | rfl <;> rfl) N195 ge171 (g := (mkF m 28 #[vr a, vi (8 : Int32), vr a166] [(.int (4 : Int32)), (.int (0 : Int32)), (.ref a166), (.int (0 : Int32)), (.ref a)])) rfl (by rw [hml]; rfl) (rest := []) rfl (hb hby d_jdk_65_method_127_code_28) (by decide) (W := 0) (by show 2 * 0 + _ ≤ _; exact Nat.le_of_eq rfl) (by decide)
  have k206 : own_G p e below E0 T197 (mkF m 31 #[vr a, vi (8 : Int32), vr a166] []) := fun tQ kk => k196 tQ (st205 _ kk)
  clear k196 st205
  have Z207 : n0 ≤ h198.size := Nat.le_trans Z172 K203.1
  have F208 : own_A Z h198 a .double [(.double x0), (.double x1), (.double x2), (.double x3)] := F173.keep K203 (ninS n168 nin0)
  clear F173
  have K209 : Keep h0 h198 [] := K174.trans K203 (allS (Or.inr nw170) all0)
  have F210 : own_A Z h198 a166 .double [(.double x0), (.double x1), (.double x2), (.double x3), (.double (0 : UInt64)), (.double (0 : UInt64)), (.double (0 : UInt64)), (.double (0 : UInt64))] := F204
  have k211 : own_G p e below E0 T197 (mkF m 32 #[vr a, vi (8 : Int32), vr a166] [(.ref a166)]) := by
    intro tQ kk
    refine k206 tQ ?_
    refine XS.aloadN X200.here hx rfl (hb hby d_jdk_65_method_127_code_31) rfl rfl ?_
    exact kk
  clear k206
  obtain ⟨fs, hr, hrun, hended, hW, hsame⟩ := X200.leave (v := some (.ref a166)) (fun h => by rw [Bd.returns] at h; cases h)
  have hrun0 := k211 _ (retOut X200 hx Bd.returns (t := (.array .double)) rfl (Or.inr (Or.inr (Or.inr (Or.inr ⟨rfl, rfl, rfl⟩)))) (hb hby d_jdk_65_method_127_code_32) hr)
  subst hE0
  refine ⟨_, _, hrun0, hrun, hended, _, _, rfl, ?_, ⟨_, rfl⟩, hW, hsame.mono (by decide) (by decide)⟩
  show QrmCD Z a x0 x1 x2 x3 h0 n0 _ T197.heap _
  rw [e201]
  exact ⟨a166, rfl, N202, K209, F210, nw170⟩
def QrmA0 (Z : State) (a : Addr) (n : Int32) (y : UInt64) (r : Addr) (q : Addr) (i0 : Int32) (i1 : Int32) (i2 : Int32) (i3 : Int32) (x0 : UInt64) (x1 : UInt64) (x2 : UInt64) (x3 : UInt64) (h0 : Heap) (n0 : Nat) (vQ : Option Value) (hQ : Heap) (LQ : List Loc) : Prop := vQ = none ∧ Fr n0 LQ ∧ Keep h0 hQ [a, r, q] ∧ (fd2 Z hQ a (.ref r)) ∧ (fd3 Z hQ a (.ref q)) ∧ (fd4 Z hQ a (.int (1 : Int32))) ∧ (own_A Z hQ r .int [(.int n), (.int i1), (.int i2), (.int i3)]) ∧ (own_A Z hQ q .double [(.double y), (.double x1), (.double x2), (.double x3)])
theorem ef_rmA0 (m : MethodId) (a : Addr) (n : Int32) (y : UInt64) (r : Addr) (q : Addr) (i0 : Int32) (i1 : Int32) (i2 : Int32) (i3 : Int32) (x0 : UInt64) (x1 : UInt64) (x2 : UInt64) (x3 : UInt64) : entryFrame m #[(.ref a), (.int n), (.double y)] 4 = mkF m 0 #[vr a, vi n, vd y, ss] [] := by first | (simp [entryFrame, mkF, argsToLocals, Value.category]; done) | rfl
abbrev mn11 : MethodName := ⟨"com/example/netloom/netloom/embed/SparseColumn", "add", "(ID)V"⟩
theorem d_prog_50_method_2_code_0 : decode prog_50_method_2_code 0 = .ok (.aload_n 0, 1) := by decide +kernel
theorem d_prog_50_method_2_code_1 : decode prog_50_method_2_code 1 = .ok (.getfield 17, 3) := by decide +kernel
def tw27 {Z : State} {a0 : Array Value} (hw : ∀ d ∈ tables_1, d.before a0 Z = true) := hw _ (List.mem_of_getElem? (i := 27) rfl)
theorem d_prog_50_method_2_code_4 : decode prog_50_method_2_code 4 = .ok (.aload_n 0, 1) := by decide +kernel
theorem d_prog_50_method_2_code_5 : decode prog_50_method_2_code 5 = .ok (.getfield 7, 3) := by decide +kernel
theorem d_prog_50_method_2_code_8 : decode prog_50_method_2_code 8 = .ok (.arraylength, 1) := by decide +kernel
theorem d_prog_50_method_2_code_9 : decode prog_50_method_2_code 9 = .ok (.if_icmp .ne 37, 3) := by decide +kernel
theorem d_prog_50_method_2_code_46 : decode prog_50_method_2_code 46 = .ok (.aload_n 0, 1) := by decide +kernel
theorem d_prog_50_method_2_code_47 : decode prog_50_method_2_code 47 = .ok (.getfield 7, 3) := by decide +kernel
theorem d_prog_50_method_2_code_50 : decode prog_50_method_2_code 50 = .ok (.aload_n 0, 1) := by decide +kernel
theorem d_prog_50_method_2_code_51 : decode prog_50_method_2_code 51 = .ok (.getfield 17, 3) := by decide +kernel
theorem d_prog_50_method_2_code_54 : decode prog_50_method_2_code 54 = .ok (.iload_n 1, 1) := by decide +kernel
theorem d_prog_50_method_2_code_55 : decode prog_50_method_2_code 55 = .ok (.iastore, 1) := by decide +kernel
theorem d_prog_50_method_2_code_56 : decode prog_50_method_2_code 56 = .ok (.aload_n 0, 1) := by decide +kernel
theorem d_prog_50_method_2_code_57 : decode prog_50_method_2_code 57 = .ok (.getfield 13, 3) := by decide +kernel
theorem d_prog_50_method_2_code_60 : decode prog_50_method_2_code 60 = .ok (.aload_n 0, 1) := by decide +kernel
theorem d_prog_50_method_2_code_61 : decode prog_50_method_2_code 61 = .ok (.getfield 17, 3) := by decide +kernel
theorem d_prog_50_method_2_code_64 : decode prog_50_method_2_code 64 = .ok (.dload_n 2, 1) := by decide +kernel
theorem d_prog_50_method_2_code_65 : decode prog_50_method_2_code 65 = .ok (.dastore, 1) := by decide +kernel
theorem d_prog_50_method_2_code_66 : decode prog_50_method_2_code 66 = .ok (.aload_n 0, 1) := by decide +kernel
theorem d_prog_50_method_2_code_67 : decode prog_50_method_2_code 67 = .ok (.dup, 1) := by decide +kernel
theorem d_prog_50_method_2_code_68 : decode prog_50_method_2_code 68 = .ok (.getfield 17, 3) := by decide +kernel
theorem d_prog_50_method_2_code_71 : decode prog_50_method_2_code 71 = .ok (.iconst 1, 1) := by decide +kernel
theorem d_prog_50_method_2_code_72 : decode prog_50_method_2_code 72 = .ok (.iadd, 1) := by decide +kernel
theorem d_prog_50_method_2_code_73 : decode prog_50_method_2_code 73 = .ok (.putfield 17, 3) := by decide +kernel
theorem d_prog_50_method_2_code_76 : decode prog_50_method_2_code 76 = .ok (.return_, 1) := by decide +kernel
set_option maxRecDepth 65536 in
set_option maxHeartbeats 40000000 in
theorem rmA0 (l : Launch) (Z : State) (a0 : Array Value) (hw : ∀ d ∈ tables_1, d.before a0 Z = true) (ws : List Jvm.Cond) (a : Addr) (n : Int32) (y : UInt64) (r : Addr) (q : Addr) (i0 : Int32) (i1 : Int32) (i2 : Int32) (i3 : Int32) (x0 : UInt64) (x1 : UInt64) (x2 : UInt64) (x3 : UInt64) (h0 : Heap) (n0 : Nat) (Z0 : n0 ≤ h0.size) (E1 : xa5 Z h0 a) (F1 : fd2 Z h0 a (.ref r)) (F2 : fd3 Z h0 a (.ref q)) (F3 : fd4 Z h0 a (.int (0 : Int32))) (A1 : own_A Z h0 r .int [(.int i0), (.int i1), (.int i2), (.int i3)]) (A2 : own_A Z h0 q .double [(.double x0), (.double x1), (.double x2), (.double x3)]) (n1 : a ≠ r) (n2 : a ≠ q) (n3 : r ≠ q) (ge_a : n0 ≤ a) (ge_r : n0 ≤ r) (ge_q : n0 ≤ q) :
    MetFree l mn11 (head1 (Jvm.Cond.code mn11 prog_50_method_2_code 4 none :: ws) ({ frames := 2, cells := 0, slots := 0, locals := 60 } : Room)) (fun aA U => aA = #[(.ref a), (.int n), (.double y)] ∧ Z.Warmed39 U.vm ∧ U.heap = h0) (fun _ _ _ _ _ => True) (fun _ U o U' => ∃ vR LR, o = .returned vR ∧ QrmA0 Z a n y r q i0 i1 i2 i3 x0 x1 x2 x3 h0 n0 vR U'.heap LR ∧ FrameEnd U o U' LR ({ frames := 2, cells := 0, slots := 0, locals := 60 } : Room).cells ({ frames := 2, cells := 0, slots := 0, locals := 60 } : Room).slots) := by
  refine MetFree.of_bodySF (plainFor_of_name pn_com_example_netloom_netloom_embed_SparseColumn) hisR ?_
  intro p e s m args below meth c s₁ Bd hml0 hPre hKk
  obtain ⟨rfl, hZ, hh⟩ := hPre
  have hx := Bd.exec
  have hby := Bd.bytes
  have hml : c.maxLocals = 4 := hml0
  have hown : s.vm.findClass "com/example/netloom/netloom/embed/SparseColumn" = some m.cls := findClass_of_methodNamed Bd.named
  have hnm := (name_of_methodNamed Bd.named Bd.method).1
  have X0 : Stand p l e ({ frames := 2, cells := 0, slots := 0, locals := 60 } : Room) s m #[(.ref a), (.int n), (.double y)] below meth c s₁ [] 0 0 := Stand.of_body Bd
  have e0 : s₁.heap = h0 := by rw [← hh, Bd.state]; rfl
  have N0 := Fr.nil n0
  obtain ⟨E0, hE0⟩ : ∃ zE : State, zE = s₁.setTop (entryFrame m #[(.ref a), (.int n), (.double y)] 4) := ⟨_, rfl⟩
  have k0 : own_G p e below E0 s₁ (mkF m 0 #[vr a, vi n, vd y, ss] []) := fun tz kz => hE0 ▸ castTop (ef_rmA0 m a n y r q i0 i1 i2 i3 x0 x1 x2 x3) kz
  have K0 : Keep h0 h0 [a, r, q] := Keep.refl _ _
  have k212 : own_G p e below E0 s₁ (mkF m 1 #[vr a, vi n, vd y, ss] [(.ref a)]) := by
    intro tQ kk
    refine k0 tQ ?_
    refine XS.aloadN X0.here hx rfl (hb hby d_prog_50_method_2_code_0) rfl rfl ?_
    exact kk
  clear k0
  obtain ⟨T213, X214, e215, st216⟩ := getF X0 hx hZ hown (host := "") (Or.inl (tw27 hw)) Via.refl e0 F3 (g := (mkF m 1 #[vr a, vi n, vd y, ss] [(.ref a)])) rfl rfl (hb hby d_prog_50_method_2_code_1)
  have k217 : own_G p e below E0 T213 (mkF m 4 #[vr a, vi n, vd y, ss] [(.int (0 : Int32))]) := fun tQ kk => k212 tQ (st216 _ kk)
  clear k212 st216
  have k218 : own_G p e below E0 T213 (mkF m 5 #[vr a, vi n, vd y, ss] [(.ref a), (.int (0 : Int32))]) := by
    intro tQ kk
    refine k217 tQ ?_
    refine XS.aloadN X214.here hx rfl (hb hby d_prog_50_method_2_code_4) rfl rfl ?_
    exact kk
  clear k217
  obtain ⟨T219, X220, e221, st222⟩ := getF X214 hx hZ hown (host := "") (Or.inl (tw18 hw)) Via.refl e215 F1 (g := (mkF m 5 #[vr a, vi n, vd y, ss] [(.ref a), (.int (0 : Int32))])) rfl rfl (hb hby d_prog_50_method_2_code_5)
  have k223 : own_G p e below E0 T219 (mkF m 8 #[vr a, vi n, vd y, ss] [(.ref r), (.int (0 : Int32))]) := fun tQ kk => k218 tQ (st222 _ kk)
  clear k218 st222
  have st224 := fun tQ => own_A.len X220 hx hZ e221 A1 (g := (mkF m 8 #[vr a, vi n, vd y, ss] [(.ref r), (.int (0 : Int32))])) rfl rfl (hb hby d_prog_50_method_2_code_8) tQ
  have k225 : own_G p e below E0 T219 (mkF m 9 #[vr a, vi n, vd y, ss] [(.int (4 : Int32)), (.int (0 : Int32))]) := fun tQ kk => k223 tQ (st224 _ kk)
  clear k223 st224
  have k226 : own_G p e below E0 T219 (mkF m 47 #[vr a, vi n, vd y, ss] [(.ref a)]) := by
    intro tQ kk
    refine k225 tQ ?_
    refine XS.icmpYes X220.here hx rfl (pc0 := 9) (pc' := 46) rfl (hb hby d_prog_50_method_2_code_9) rfl (own_ic_neY (by decide)) (by decide) (by decide) ?_
    refine XS.aloadN X220.here hx rfl (hb hby d_prog_50_method_2_code_46) rfl rfl ?_
    exact kk
  clear k225
  obtain ⟨T227, X228, e229, st230⟩ := getF X220 hx hZ hown (host := "") (Or.inl (tw18 hw)) Via.refl e221 F1 (g := (mkF m 47 #[vr a, vi n, vd y, ss] [(.ref a)])) rfl rfl (hb hby d_prog_50_method_2_code_47)
  have k231 : own_G p e below E0 T227 (mkF m 50 #[vr a, vi n, vd y, ss] [(.ref r)]) := fun tQ kk => k226 tQ (st230 _ kk)
  clear k226 st230
  have k232 : own_G p e below E0 T227 (mkF m 51 #[vr a, vi n, vd y, ss] [(.ref a), (.ref r)]) := by
    intro tQ kk
    refine k231 tQ ?_
    refine XS.aloadN X228.here hx rfl (hb hby d_prog_50_method_2_code_50) rfl rfl ?_
    exact kk
  clear k231
  obtain ⟨T233, X234, e235, st236⟩ := getF X228 hx hZ hown (host := "") (Or.inl (tw27 hw)) Via.refl e229 F3 (g := (mkF m 51 #[vr a, vi n, vd y, ss] [(.ref a), (.ref r)])) rfl rfl (hb hby d_prog_50_method_2_code_51)
  have k237 : own_G p e below E0 T233 (mkF m 54 #[vr a, vi n, vd y, ss] [(.int (0 : Int32)), (.ref r)]) := fun tQ kk => k232 tQ (st236 _ kk)
  clear k232 st236
  have k238 : own_G p e below E0 T233 (mkF m 55 #[vr a, vi n, vd y, ss] [(.int n), (.int (0 : Int32)), (.ref r)]) := by
    intro tQ kk
    refine k237 tQ ?_
    refine XS.iloadN X234.here hx rfl (hb hby d_prog_50_method_2_code_54) rfl ?_
    exact kk
  clear k237
  obtain ⟨T239, h240, X241, e242, W243, F244, st245⟩ := own_A.ist X234 hx hZ e235 A1 (j := (0 : Int32)) (by decide) rfl (g := (mkF m 55 #[vr a, vi n, vd y, ss] [(.int n), (.int (0 : Int32)), (.ref r)])) rfl rfl (hb hby d_prog_50_method_2_code_55)
  have N246 := Fr.snoc X241 N0 ge_r
  have k247 : own_G p e below E0 T239 (mkF m 56 #[vr a, vi n, vd y, ss] []) := fun tQ kk => k238 tQ (st245 _ kk)
  clear k238 st245
  have F248 : xa5 Z h240 a := E1.wr W243
  clear E1
  have F249 : fd2 Z h240 a (.ref r) := F1.other W243 (Or.inl n1)
  clear F1
  have F250 : fd3 Z h240 a (.ref q) := F2.other W243 (Or.inl n1)
  clear F2
  have F251 : fd4 Z h240 a (.int (0 : Int32)) := F3.other W243 (Or.inl n1)
  clear F3
  have F252 : own_A Z h240 q .double [(.double x0), (.double x1), (.double x2), (.double x3)] := A2.other W243 (fun q => n3 q.symm)
  clear A2
  have Z253 : n0 ≤ h240.size := by rw [W243.size]; exact Z0
  have K254 : Keep h0 h240 [a, r, q] := K0.wr W243 (Or.inl (List.mem_of_getElem? (i := 1) rfl))
  have F255 : own_A Z h240 r .int [(.int n), (.int i1), (.int i2), (.int i3)] := F244
  have k256 : own_G p e below E0 T239 (mkF m 57 #[vr a, vi n, vd y, ss] [(.ref a)]) := by
    intro tQ kk
    refine k247 tQ ?_
    refine XS.aloadN X241.here hx rfl (hb hby d_prog_50_method_2_code_56) rfl rfl ?_
    exact kk
  clear k247
  obtain ⟨T257, X258, e259, st260⟩ := getF X241 hx hZ hown (host := "") (Or.inl (tw20 hw)) Via.refl e242 F250 (g := (mkF m 57 #[vr a, vi n, vd y, ss] [(.ref a)])) rfl rfl (hb hby d_prog_50_method_2_code_57)
  have k261 : own_G p e below E0 T257 (mkF m 60 #[vr a, vi n, vd y, ss] [(.ref q)]) := fun tQ kk => k256 tQ (st260 _ kk)
  clear k256 st260
  have k262 : own_G p e below E0 T257 (mkF m 61 #[vr a, vi n, vd y, ss] [(.ref a), (.ref q)]) := by
    intro tQ kk
    refine k261 tQ ?_
    refine XS.aloadN X258.here hx rfl (hb hby d_prog_50_method_2_code_60) rfl rfl ?_
    exact kk
  clear k261
  obtain ⟨T263, X264, e265, st266⟩ := getF X258 hx hZ hown (host := "") (Or.inl (tw27 hw)) Via.refl e259 F251 (g := (mkF m 61 #[vr a, vi n, vd y, ss] [(.ref a), (.ref q)])) rfl rfl (hb hby d_prog_50_method_2_code_61)
  have k267 : own_G p e below E0 T263 (mkF m 64 #[vr a, vi n, vd y, ss] [(.int (0 : Int32)), (.ref q)]) := fun tQ kk => k262 tQ (st266 _ kk)
  clear k262 st266
  have k268 : own_G p e below E0 T263 (mkF m 65 #[vr a, vi n, vd y, ss] [(.double y), (.int (0 : Int32)), (.ref q)]) := by
    intro tQ kk
    refine k267 tQ ?_
    refine XS.dloadN X264.here hx rfl (hb hby d_prog_50_method_2_code_64) rfl ?_
    exact kk
  clear k267
  obtain ⟨T269, h270, X271, e272, W273, F274, st275⟩ := own_A.dst X264 hx hZ e265 F252 (j := (0 : Int32)) (by decide) rfl (g := (mkF m 65 #[vr a, vi n, vd y, ss] [(.double y), (.int (0 : Int32)), (.ref q)])) rfl rfl (hb hby d_prog_50_method_2_code_65)
  have N276 := Fr.snoc X271 N246 ge_q
  have k277 : own_G p e below E0 T269 (mkF m 66 #[vr a, vi n, vd y, ss] []) := fun tQ kk => k268 tQ (st275 _ kk)
  clear k268 st275
  have F278 : xa5 Z h270 a := F248.wr W273
  clear F248
  have F279 : fd2 Z h270 a (.ref r) := F249.other W273 (Or.inl n2)
  clear F249
  have F280 : fd3 Z h270 a (.ref q) := F250.other W273 (Or.inl n2)
  clear F250
  have F281 : fd4 Z h270 a (.int (0 : Int32)) := F251.other W273 (Or.inl n2)
  clear F251
  have F282 : own_A Z h270 r .int [(.int n), (.int i1), (.int i2), (.int i3)] := F255.other W273 n3
  clear F255
  have Z283 : n0 ≤ h270.size := by rw [W273.size]; exact Z253
  have K284 : Keep h0 h270 [a, r, q] := K254.wr W273 (Or.inl (List.mem_of_getElem? (i := 2) rfl))
  have F285 : own_A Z h270 q .double [(.double y), (.double x1), (.double x2), (.double x3)] := F274
  have k286 : own_G p e below E0 T269 (mkF m 68 #[vr a, vi n, vd y, ss] [(.ref a), (.ref a)]) := by
    intro tQ kk
    refine k277 tQ ?_
    refine XS.aloadN X271.here hx rfl (hb hby d_prog_50_method_2_code_66) rfl rfl ?_
    refine XS.dup X271.here hx rfl (hb hby d_prog_50_method_2_code_67) rfl rfl ?_
    exact kk
  clear k277
  obtain ⟨T287, X288, e289, st290⟩ := getF X271 hx hZ hown (host := "") (Or.inl (tw27 hw)) Via.refl e272 F281 (g := (mkF m 68 #[vr a, vi n, vd y, ss] [(.ref a), (.ref a)])) rfl rfl (hb hby d_prog_50_method_2_code_68)
  have k291 : own_G p e below E0 T287 (mkF m 71 #[vr a, vi n, vd y, ss] [(.int (0 : Int32)), (.ref a)]) := fun tQ kk => k286 tQ (st290 _ kk)
  clear k286 st290
  have k292 : own_G p e below E0 T287 (mkF m 73 #[vr a, vi n, vd y, ss] [(.int (1 : Int32)), (.ref a)]) := by
    intro tQ kk
    refine k291 tQ ?_
    refine XS.iconst X288.here hx rfl (hb hby d_prog_50_method_2_code_71) ?_
    refine XS.iadd X288.here hx rfl (hb hby d_prog_50_method_2_code_72) rfl ?_
    exact kk
  clear k291
  obtain ⟨T293, h294, X295, e296, W297, st298⟩ := putF X288 hx hZ hown (host := "") (Or.inl (tw27 hw)) Via.refl e289 F281 F278 (Or.inl (tw28 hw)) (tw9 hw) (ty := .int) (by decide) rfl rfl (g := (mkF m 73 #[vr a, vi n, vd y, ss] [(.int (1 : Int32)), (.ref a)])) rfl rfl (hb hby d_prog_50_method_2_code_73)
  have N299 := Fr.snoc X295 N276 ge_a
  have k300 : own_G p e below E0 T293 (mkF m 76 #[vr a, vi n, vd y, ss] []) := fun tQ kk => k292 tQ (st298 _ kk)
  clear k292 st298
  have F301 : xa5 Z h294 a := F278.wr W297
  clear F278
  have F302 : fd2 Z h294 a (.ref r) := F279.other W297 (Or.inr (slot_ne (C := "com/example/netloom/netloom/embed/SparseColumn") (Or.inl (tw19 hw)) (Or.inl (tw28 hw)) (by decide) (t := (.array .int)) (t' := .int) (by decide) (by decide)))
  clear F279
  have F303 : fd3 Z h294 a (.ref q) := F280.other W297 (Or.inr (slot_ne (C := "com/example/netloom/netloom/embed/SparseColumn") (Or.inl (tw21 hw)) (Or.inl (tw28 hw)) (by decide) (t := (.array .double)) (t' := .int) (by decide) (by decide)))
  clear F280
  have F304 : fd4 Z h294 a (.int (1 : Int32)) := F281.same W297
  clear F281
  have F305 : own_A Z h294 r .int [(.int n), (.int i1), (.int i2), (.int i3)] := F282.other W297 (fun q => n1 q.symm)
  clear F282
  have F306 : own_A Z h294 q .double [(.double y), (.double x1), (.double x2), (.double x3)] := F285.other W297 (fun q => n2 q.symm)
  clear F285
  have Z307 : n0 ≤ h294.size := by rw [W297.size]; exact Z283
  have K308 : Keep h0 h294 [a, r, q] := K284.wr W297 (Or.inl (List.mem_of_getElem? (i := 0) rfl))
  obtain ⟨fs, hr, hrun, hended, hW, hsame⟩ := X295.leave (v := none) (fun _ => rfl)
  have hrun0 := k300 _ (X295.returnOut hx Bd.returns (hb hby d_prog_50_method_2_code_76) hr)
  subst hE0
  refine ⟨_, _, hrun0, hrun, hended, _, _, rfl, ?_, ⟨_, rfl⟩, hW, hsame.mono (by decide) (by decide)⟩
  show QrmA0 Z a n y r q i0 i1 i2 i3 x0 x1 x2 x3 h0 n0 _ T293.heap _
  rw [e296]
  exact ⟨rfl, N299, K308, F302, F303, F304, F305, F306⟩
def QrmA1 (Z : State) (a : Addr) (n : Int32) (y : UInt64) (r : Addr) (q : Addr) (i0 : Int32) (i1 : Int32) (i2 : Int32) (i3 : Int32) (x0 : UInt64) (x1 : UInt64) (x2 : UInt64) (x3 : UInt64) (h0 : Heap) (n0 : Nat) (vQ : Option Value) (hQ : Heap) (LQ : List Loc) : Prop := vQ = none ∧ Fr n0 LQ ∧ Keep h0 hQ [a, r, q] ∧ (fd2 Z hQ a (.ref r)) ∧ (fd3 Z hQ a (.ref q)) ∧ (fd4 Z hQ a (.int (2 : Int32))) ∧ (own_A Z hQ r .int [(.int i0), (.int n), (.int i2), (.int i3)]) ∧ (own_A Z hQ q .double [(.double x0), (.double y), (.double x2), (.double x3)])
theorem ef_rmA1 (m : MethodId) (a : Addr) (n : Int32) (y : UInt64) (r : Addr) (q : Addr) (i0 : Int32) (i1 : Int32) (i2 : Int32) (i3 : Int32) (x0 : UInt64) (x1 : UInt64) (x2 : UInt64) (x3 : UInt64) : entryFrame m #[(.ref a), (.int n), (.double y)] 4 = mkF m 0 #[vr a, vi n, vd y, ss] [] := by first | (simp [entryFrame, mkF, argsToLocals, Value.category]; done) | rfl
set_option maxRecDepth 65536 in
set_option maxHeartbeats 40000000 in
theorem rmA1 (l : Launch) (Z : State) (a0 : Array Value) (hw : ∀ d ∈ tables_1, d.before a0 Z = true) (ws : List Jvm.Cond) (a : Addr) (n : Int32) (y : UInt64) (r : Addr) (q : Addr) (i0 : Int32) (i1 : Int32) (i2 : Int32) (i3 : Int32) (x0 : UInt64) (x1 : UInt64) (x2 : UInt64) (x3 : UInt64) (h0 : Heap) (n0 : Nat) (Z0 : n0 ≤ h0.size) (E1 : xa5 Z h0 a) (F1 : fd2 Z h0 a (.ref r)) (F2 : fd3 Z h0 a (.ref q)) (F3 : fd4 Z h0 a (.int (1 : Int32))) (A1 : own_A Z h0 r .int [(.int i0), (.int i1), (.int i2), (.int i3)]) (A2 : own_A Z h0 q .double [(.double x0), (.double x1), (.double x2), (.double x3)]) (n1 : a ≠ r) (n2 : a ≠ q) (n3 : r ≠ q) (ge_a : n0 ≤ a) (ge_r : n0 ≤ r) (ge_q : n0 ≤ q) :
    MetFree l mn11 (head1 (Jvm.Cond.code mn11 prog_50_method_2_code 4 none :: ws) ({ frames := 2, cells := 0, slots := 0, locals := 60 } : Room)) (fun aA U => aA = #[(.ref a), (.int n), (.double y)] ∧ Z.Warmed39 U.vm ∧ U.heap = h0) (fun _ _ _ _ _ => True) (fun _ U o U' => ∃ vR LR, o = .returned vR ∧ QrmA1 Z a n y r q i0 i1 i2 i3 x0 x1 x2 x3 h0 n0 vR U'.heap LR ∧ FrameEnd U o U' LR ({ frames := 2, cells := 0, slots := 0, locals := 60 } : Room).cells ({ frames := 2, cells := 0, slots := 0, locals := 60 } : Room).slots) := by
  refine MetFree.of_bodySF (plainFor_of_name pn_com_example_netloom_netloom_embed_SparseColumn) hisR ?_
  intro p e s m args below meth c s₁ Bd hml0 hPre hKk
  obtain ⟨rfl, hZ, hh⟩ := hPre
  have hx := Bd.exec
  have hby := Bd.bytes
  have hml : c.maxLocals = 4 := hml0
  have hown : s.vm.findClass "com/example/netloom/netloom/embed/SparseColumn" = some m.cls := findClass_of_methodNamed Bd.named
  have hnm := (name_of_methodNamed Bd.named Bd.method).1
  have X0 : Stand p l e ({ frames := 2, cells := 0, slots := 0, locals := 60 } : Room) s m #[(.ref a), (.int n), (.double y)] below meth c s₁ [] 0 0 := Stand.of_body Bd
  have e0 : s₁.heap = h0 := by rw [← hh, Bd.state]; rfl
  have N0 := Fr.nil n0
  obtain ⟨E0, hE0⟩ : ∃ zE : State, zE = s₁.setTop (entryFrame m #[(.ref a), (.int n), (.double y)] 4) := ⟨_, rfl⟩
  have k0 : own_G p e below E0 s₁ (mkF m 0 #[vr a, vi n, vd y, ss] []) := fun tz kz => hE0 ▸ castTop (ef_rmA1 m a n y r q i0 i1 i2 i3 x0 x1 x2 x3) kz
  have K0 : Keep h0 h0 [a, r, q] := Keep.refl _ _
  have k309 : own_G p e below E0 s₁ (mkF m 1 #[vr a, vi n, vd y, ss] [(.ref a)]) := by
    intro tQ kk
    refine k0 tQ ?_
    refine XS.aloadN X0.here hx rfl (hb hby d_prog_50_method_2_code_0) rfl rfl ?_
    exact kk
  clear k0
  obtain ⟨T310, X311, e312, st313⟩ := getF X0 hx hZ hown (host := "") (Or.inl (tw27 hw)) Via.refl e0 F3 (g := (mkF m 1 #[vr a, vi n, vd y, ss] [(.ref a)])) rfl rfl (hb hby d_prog_50_method_2_code_1)
  have k314 : own_G p e below E0 T310 (mkF m 4 #[vr a, vi n, vd y, ss] [(.int (1 : Int32))]) := fun tQ kk => k309 tQ (st313 _ kk)
  clear k309 st313
  have k315 : own_G p e below E0 T310 (mkF m 5 #[vr a, vi n, vd y, ss] [(.ref a), (.int (1 : Int32))]) := by
    intro tQ kk
    refine k314 tQ ?_
    refine XS.aloadN X311.here hx rfl (hb hby d_prog_50_method_2_code_4) rfl rfl ?_
    exact kk
  clear k314
  obtain ⟨T316, X317, e318, st319⟩ := getF X311 hx hZ hown (host := "") (Or.inl (tw18 hw)) Via.refl e312 F1 (g := (mkF m 5 #[vr a, vi n, vd y, ss] [(.ref a), (.int (1 : Int32))])) rfl rfl (hb hby d_prog_50_method_2_code_5)
  have k320 : own_G p e below E0 T316 (mkF m 8 #[vr a, vi n, vd y, ss] [(.ref r), (.int (1 : Int32))]) := fun tQ kk => k315 tQ (st319 _ kk)
  clear k315 st319
  have st321 := fun tQ => own_A.len X317 hx hZ e318 A1 (g := (mkF m 8 #[vr a, vi n, vd y, ss] [(.ref r), (.int (1 : Int32))])) rfl rfl (hb hby d_prog_50_method_2_code_8) tQ
  have k322 : own_G p e below E0 T316 (mkF m 9 #[vr a, vi n, vd y, ss] [(.int (4 : Int32)), (.int (1 : Int32))]) := fun tQ kk => k320 tQ (st321 _ kk)
  clear k320 st321
  have k323 : own_G p e below E0 T316 (mkF m 47 #[vr a, vi n, vd y, ss] [(.ref a)]) := by
    intro tQ kk
    refine k322 tQ ?_
    refine XS.icmpYes X317.here hx rfl (pc0 := 9) (pc' := 46) rfl (hb hby d_prog_50_method_2_code_9) rfl (own_ic_neY (by decide)) (by decide) (by decide) ?_
    refine XS.aloadN X317.here hx rfl (hb hby d_prog_50_method_2_code_46) rfl rfl ?_
    exact kk
  clear k322
  obtain ⟨T324, X325, e326, st327⟩ := getF X317 hx hZ hown (host := "") (Or.inl (tw18 hw)) Via.refl e318 F1 (g := (mkF m 47 #[vr a, vi n, vd y, ss] [(.ref a)])) rfl rfl (hb hby d_prog_50_method_2_code_47)
  have k328 : own_G p e below E0 T324 (mkF m 50 #[vr a, vi n, vd y, ss] [(.ref r)]) := fun tQ kk => k323 tQ (st327 _ kk)
  clear k323 st327
  have k329 : own_G p e below E0 T324 (mkF m 51 #[vr a, vi n, vd y, ss] [(.ref a), (.ref r)]) := by
    intro tQ kk
    refine k328 tQ ?_
    refine XS.aloadN X325.here hx rfl (hb hby d_prog_50_method_2_code_50) rfl rfl ?_
    exact kk
  clear k328
  obtain ⟨T330, X331, e332, st333⟩ := getF X325 hx hZ hown (host := "") (Or.inl (tw27 hw)) Via.refl e326 F3 (g := (mkF m 51 #[vr a, vi n, vd y, ss] [(.ref a), (.ref r)])) rfl rfl (hb hby d_prog_50_method_2_code_51)
  have k334 : own_G p e below E0 T330 (mkF m 54 #[vr a, vi n, vd y, ss] [(.int (1 : Int32)), (.ref r)]) := fun tQ kk => k329 tQ (st333 _ kk)
  clear k329 st333
  have k335 : own_G p e below E0 T330 (mkF m 55 #[vr a, vi n, vd y, ss] [(.int n), (.int (1 : Int32)), (.ref r)]) := by
    intro tQ kk
    refine k334 tQ ?_
    refine XS.iloadN X331.here hx rfl (hb hby d_prog_50_method_2_code_54) rfl ?_
    exact kk
  clear k334
  obtain ⟨T336, h337, X338, e339, W340, F341, st342⟩ := own_A.ist X331 hx hZ e332 A1 (j := (1 : Int32)) (by decide) rfl (g := (mkF m 55 #[vr a, vi n, vd y, ss] [(.int n), (.int (1 : Int32)), (.ref r)])) rfl rfl (hb hby d_prog_50_method_2_code_55)
  have N343 := Fr.snoc X338 N0 ge_r
  have k344 : own_G p e below E0 T336 (mkF m 56 #[vr a, vi n, vd y, ss] []) := fun tQ kk => k335 tQ (st342 _ kk)
  clear k335 st342
  have F345 : xa5 Z h337 a := E1.wr W340
  clear E1
  have F346 : fd2 Z h337 a (.ref r) := F1.other W340 (Or.inl n1)
  clear F1
  have F347 : fd3 Z h337 a (.ref q) := F2.other W340 (Or.inl n1)
  clear F2
  have F348 : fd4 Z h337 a (.int (1 : Int32)) := F3.other W340 (Or.inl n1)
  clear F3
  have F349 : own_A Z h337 q .double [(.double x0), (.double x1), (.double x2), (.double x3)] := A2.other W340 (fun q => n3 q.symm)
  clear A2
  have Z350 : n0 ≤ h337.size := by rw [W340.size]; exact Z0
  have K351 : Keep h0 h337 [a, r, q] := K0.wr W340 (Or.inl (List.mem_of_getElem? (i := 1) rfl))
  have F352 : own_A Z h337 r .int [(.int i0), (.int n), (.int i2), (.int i3)] := F341
  have k353 : own_G p e below E0 T336 (mkF m 57 #[vr a, vi n, vd y, ss] [(.ref a)]) := by
    intro tQ kk
    refine k344 tQ ?_
    refine XS.aloadN X338.here hx rfl (hb hby d_prog_50_method_2_code_56) rfl rfl ?_
    exact kk
  clear k344
  obtain ⟨T354, X355, e356, st357⟩ := getF X338 hx hZ hown (host := "") (Or.inl (tw20 hw)) Via.refl e339 F347 (g := (mkF m 57 #[vr a, vi n, vd y, ss] [(.ref a)])) rfl rfl (hb hby d_prog_50_method_2_code_57)
  have k358 : own_G p e below E0 T354 (mkF m 60 #[vr a, vi n, vd y, ss] [(.ref q)]) := fun tQ kk => k353 tQ (st357 _ kk)
  clear k353 st357
  have k359 : own_G p e below E0 T354 (mkF m 61 #[vr a, vi n, vd y, ss] [(.ref a), (.ref q)]) := by
    intro tQ kk
    refine k358 tQ ?_
    refine XS.aloadN X355.here hx rfl (hb hby d_prog_50_method_2_code_60) rfl rfl ?_
    exact kk
  clear k358
  obtain ⟨T360, X361, e362, st363⟩ := getF X355 hx hZ hown (host := "") (Or.inl (tw27 hw)) Via.refl e356 F348 (g := (mkF m 61 #[vr a, vi n, vd y, ss] [(.ref a), (.ref q)])) rfl rfl (hb hby d_prog_50_method_2_code_61)
  have k364 : own_G p e below E0 T360 (mkF m 64 #[vr a, vi n, vd y, ss] [(.int (1 : Int32)), (.ref q)]) := fun tQ kk => k359 tQ (st363 _ kk)
  clear k359 st363
  have k365 : own_G p e below E0 T360 (mkF m 65 #[vr a, vi n, vd y, ss] [(.double y), (.int (1 : Int32)), (.ref q)]) := by
    intro tQ kk
    refine k364 tQ ?_
    refine XS.dloadN X361.here hx rfl (hb hby d_prog_50_method_2_code_64) rfl ?_
    exact kk
  clear k364
  obtain ⟨T366, h367, X368, e369, W370, F371, st372⟩ := own_A.dst X361 hx hZ e362 F349 (j := (1 : Int32)) (by decide) rfl (g := (mkF m 65 #[vr a, vi n, vd y, ss] [(.double y), (.int (1 : Int32)), (.ref q)])) rfl rfl (hb hby d_prog_50_method_2_code_65)
  have N373 := Fr.snoc X368 N343 ge_q
  have k374 : own_G p e below E0 T366 (mkF m 66 #[vr a, vi n, vd y, ss] []) := fun tQ kk => k365 tQ (st372 _ kk)
  clear k365 st372
  have F375 : xa5 Z h367 a := F345.wr W370
  clear F345
  have F376 : fd2 Z h367 a (.ref r) := F346.other W370 (Or.inl n2)
  clear F346
  have F377 : fd3 Z h367 a (.ref q) := F347.other W370 (Or.inl n2)
  clear F347
  have F378 : fd4 Z h367 a (.int (1 : Int32)) := F348.other W370 (Or.inl n2)
  clear F348
  have F379 : own_A Z h367 r .int [(.int i0), (.int n), (.int i2), (.int i3)] := F352.other W370 n3
  clear F352
  have Z380 : n0 ≤ h367.size := by rw [W370.size]; exact Z350
  have K381 : Keep h0 h367 [a, r, q] := K351.wr W370 (Or.inl (List.mem_of_getElem? (i := 2) rfl))
  have F382 : own_A Z h367 q .double [(.double x0), (.double y), (.double x2), (.double x3)] := F371
  have k383 : own_G p e below E0 T366 (mkF m 68 #[vr a, vi n, vd y, ss] [(.ref a), (.ref a)]) := by
    intro tQ kk
    refine k374 tQ ?_
    refine XS.aloadN X368.here hx rfl (hb hby d_prog_50_method_2_code_66) rfl rfl ?_
    refine XS.dup X368.here hx rfl (hb hby d_prog_50_method_2_code_67) rfl rfl ?_
    exact kk
  clear k374
  obtain ⟨T384, X385, e386, st387⟩ := getF X368 hx hZ hown (host := "") (Or.inl (tw27 hw)) Via.refl e369 F378 (g := (mkF m 68 #[vr a, vi n, vd y, ss] [(.ref a), (.ref a)])) rfl rfl (hb hby d_prog_50_method_2_code_68)
  have k388 : own_G p e below E0 T384 (mkF m 71 #[vr a, vi n, vd y, ss] [(.int (1 : Int32)), (.ref a)]) := fun tQ kk => k383 tQ (st387 _ kk)
  clear k383 st387
  have k389 : own_G p e below E0 T384 (mkF m 73 #[vr a, vi n, vd y, ss] [(.int (2 : Int32)), (.ref a)]) := by
    intro tQ kk
    refine k388 tQ ?_
    refine XS.iconst X385.here hx rfl (hb hby d_prog_50_method_2_code_71) ?_
    refine XS.iadd X385.here hx rfl (hb hby d_prog_50_method_2_code_72) rfl ?_
    exact kk
  clear k388
  obtain ⟨T390, h391, X392, e393, W394, st395⟩ := putF X385 hx hZ hown (host := "") (Or.inl (tw27 hw)) Via.refl e386 F378 F375 (Or.inl (tw28 hw)) (tw9 hw) (ty := .int) (by decide) rfl rfl (g := (mkF m 73 #[vr a, vi n, vd y, ss] [(.int (2 : Int32)), (.ref a)])) rfl rfl (hb hby d_prog_50_method_2_code_73)
  have N396 := Fr.snoc X392 N373 ge_a
  have k397 : own_G p e below E0 T390 (mkF m 76 #[vr a, vi n, vd y, ss] []) := fun tQ kk => k389 tQ (st395 _ kk)
  clear k389 st395
  have F398 : xa5 Z h391 a := F375.wr W394
  clear F375
  have F399 : fd2 Z h391 a (.ref r) := F376.other W394 (Or.inr (slot_ne (C := "com/example/netloom/netloom/embed/SparseColumn") (Or.inl (tw19 hw)) (Or.inl (tw28 hw)) (by decide) (t := (.array .int)) (t' := .int) (by decide) (by decide)))
  clear F376
  have F400 : fd3 Z h391 a (.ref q) := F377.other W394 (Or.inr (slot_ne (C := "com/example/netloom/netloom/embed/SparseColumn") (Or.inl (tw21 hw)) (Or.inl (tw28 hw)) (by decide) (t := (.array .double)) (t' := .int) (by decide) (by decide)))
  clear F377
  have F401 : fd4 Z h391 a (.int (2 : Int32)) := F378.same W394
  clear F378
  have F402 : own_A Z h391 r .int [(.int i0), (.int n), (.int i2), (.int i3)] := F379.other W394 (fun q => n1 q.symm)
  clear F379
  have F403 : own_A Z h391 q .double [(.double x0), (.double y), (.double x2), (.double x3)] := F382.other W394 (fun q => n2 q.symm)
  clear F382
  have Z404 : n0 ≤ h391.size := by rw [W394.size]; exact Z380
  have K405 : Keep h0 h391 [a, r, q] := K381.wr W394 (Or.inl (List.mem_of_getElem? (i := 0) rfl))
  obtain ⟨fs, hr, hrun, hended, hW, hsame⟩ := X392.leave (v := none) (fun _ => rfl)
  have hrun0 := k397 _ (X392.returnOut hx Bd.returns (hb hby d_prog_50_method_2_code_76) hr)
  subst hE0
  refine ⟨_, _, hrun0, hrun, hended, _, _, rfl, ?_, ⟨_, rfl⟩, hW, hsame.mono (by decide) (by decide)⟩
  show QrmA1 Z a n y r q i0 i1 i2 i3 x0 x1 x2 x3 h0 n0 _ T390.heap _
  rw [e393]
  exact ⟨rfl, N396, K405, F399, F400, F401, F402, F403⟩
def QrmA2 (Z : State) (a : Addr) (n : Int32) (y : UInt64) (r : Addr) (q : Addr) (i0 : Int32) (i1 : Int32) (i2 : Int32) (i3 : Int32) (x0 : UInt64) (x1 : UInt64) (x2 : UInt64) (x3 : UInt64) (h0 : Heap) (n0 : Nat) (vQ : Option Value) (hQ : Heap) (LQ : List Loc) : Prop := vQ = none ∧ Fr n0 LQ ∧ Keep h0 hQ [a, r, q] ∧ (fd2 Z hQ a (.ref r)) ∧ (fd3 Z hQ a (.ref q)) ∧ (fd4 Z hQ a (.int (3 : Int32))) ∧ (own_A Z hQ r .int [(.int i0), (.int i1), (.int n), (.int i3)]) ∧ (own_A Z hQ q .double [(.double x0), (.double x1), (.double y), (.double x3)])
theorem ef_rmA2 (m : MethodId) (a : Addr) (n : Int32) (y : UInt64) (r : Addr) (q : Addr) (i0 : Int32) (i1 : Int32) (i2 : Int32) (i3 : Int32) (x0 : UInt64) (x1 : UInt64) (x2 : UInt64) (x3 : UInt64) : entryFrame m #[(.ref a), (.int n), (.double y)] 4 = mkF m 0 #[vr a, vi n, vd y, ss] [] := by first | (simp [entryFrame, mkF, argsToLocals, Value.category]; done) | rfl
set_option maxRecDepth 65536 in
set_option maxHeartbeats 40000000 in
theorem rmA2 (l : Launch) (Z : State) (a0 : Array Value) (hw : ∀ d ∈ tables_1, d.before a0 Z = true) (ws : List Jvm.Cond) (a : Addr) (n : Int32) (y : UInt64) (r : Addr) (q : Addr) (i0 : Int32) (i1 : Int32) (i2 : Int32) (i3 : Int32) (x0 : UInt64) (x1 : UInt64) (x2 : UInt64) (x3 : UInt64) (h0 : Heap) (n0 : Nat) (Z0 : n0 ≤ h0.size) (E1 : xa5 Z h0 a) (F1 : fd2 Z h0 a (.ref r)) (F2 : fd3 Z h0 a (.ref q)) (F3 : fd4 Z h0 a (.int (2 : Int32))) (A1 : own_A Z h0 r .int [(.int i0), (.int i1), (.int i2), (.int i3)]) (A2 : own_A Z h0 q .double [(.double x0), (.double x1), (.double x2), (.double x3)]) (n1 : a ≠ r) (n2 : a ≠ q) (n3 : r ≠ q) (ge_a : n0 ≤ a) (ge_r : n0 ≤ r) (ge_q : n0 ≤ q) :
    MetFree l mn11 (head1 (Jvm.Cond.code mn11 prog_50_method_2_code 4 none :: ws) ({ frames := 2, cells := 0, slots := 0, locals := 60 } : Room)) (fun aA U => aA = #[(.ref a), (.int n), (.double y)] ∧ Z.Warmed39 U.vm ∧ U.heap = h0) (fun _ _ _ _ _ => True) (fun _ U o U' => ∃ vR LR, o = .returned vR ∧ QrmA2 Z a n y r q i0 i1 i2 i3 x0 x1 x2 x3 h0 n0 vR U'.heap LR ∧ FrameEnd U o U' LR ({ frames := 2, cells := 0, slots := 0, locals := 60 } : Room).cells ({ frames := 2, cells := 0, slots := 0, locals := 60 } : Room).slots) := by
  refine MetFree.of_bodySF (plainFor_of_name pn_com_example_netloom_netloom_embed_SparseColumn) hisR ?_
  intro p e s m args below meth c s₁ Bd hml0 hPre hKk
  obtain ⟨rfl, hZ, hh⟩ := hPre
  have hx := Bd.exec
  have hby := Bd.bytes
  have hml : c.maxLocals = 4 := hml0
  have hown : s.vm.findClass "com/example/netloom/netloom/embed/SparseColumn" = some m.cls := findClass_of_methodNamed Bd.named
  have hnm := (name_of_methodNamed Bd.named Bd.method).1
  have X0 : Stand p l e ({ frames := 2, cells := 0, slots := 0, locals := 60 } : Room) s m #[(.ref a), (.int n), (.double y)] below meth c s₁ [] 0 0 := Stand.of_body Bd
  have e0 : s₁.heap = h0 := by rw [← hh, Bd.state]; rfl
  have N0 := Fr.nil n0
  obtain ⟨E0, hE0⟩ : ∃ zE : State, zE = s₁.setTop (entryFrame m #[(.ref a), (.int n), (.double y)] 4) := ⟨_, rfl⟩
  have k0 : own_G p e below E0 s₁ (mkF m 0 #[vr a, vi n, vd y, ss] []) := fun tz kz => hE0 ▸ castTop (ef_rmA2 m a n y r q i0 i1 i2 i3 x0 x1 x2 x3) kz
  have K0 : Keep h0 h0 [a, r, q] := Keep.refl _ _
  have k406 : own_G p e below E0 s₁ (mkF m 1 #[vr a, vi n, vd y, ss] [(.ref a)]) := by
    intro tQ kk
    refine k0 tQ ?_
    refine XS.aloadN X0.here hx rfl (hb hby d_prog_50_method_2_code_0) rfl rfl ?_
    exact kk
  clear k0
  obtain ⟨T407, X408, e409, st410⟩ := getF X0 hx hZ hown (host := "") (Or.inl (tw27 hw)) Via.refl e0 F3 (g := (mkF m 1 #[vr a, vi n, vd y, ss] [(.ref a)])) rfl rfl (hb hby d_prog_50_method_2_code_1)
  have k411 : own_G p e below E0 T407 (mkF m 4 #[vr a, vi n, vd y, ss] [(.int (2 : Int32))]) := fun tQ kk => k406 tQ (st410 _ kk)
  clear k406 st410
  have k412 : own_G p e below E0 T407 (mkF m 5 #[vr a, vi n, vd y, ss] [(.ref a), (.int (2 : Int32))]) := by
    intro tQ kk
    refine k411 tQ ?_
    refine XS.aloadN X408.here hx rfl (hb hby d_prog_50_method_2_code_4) rfl rfl ?_
    exact kk
  clear k411
  obtain ⟨T413, X414, e415, st416⟩ := getF X408 hx hZ hown (host := "") (Or.inl (tw18 hw)) Via.refl e409 F1 (g := (mkF m 5 #[vr a, vi n, vd y, ss] [(.ref a), (.int (2 : Int32))])) rfl rfl (hb hby d_prog_50_method_2_code_5)
  have k417 : own_G p e below E0 T413 (mkF m 8 #[vr a, vi n, vd y, ss] [(.ref r), (.int (2 : Int32))]) := fun tQ kk => k412 tQ (st416 _ kk)
  clear k412 st416
  have st418 := fun tQ => own_A.len X414 hx hZ e415 A1 (g := (mkF m 8 #[vr a, vi n, vd y, ss] [(.ref r), (.int (2 : Int32))])) rfl rfl (hb hby d_prog_50_method_2_code_8) tQ
  have k419 : own_G p e below E0 T413 (mkF m 9 #[vr a, vi n, vd y, ss] [(.int (4 : Int32)), (.int (2 : Int32))]) := fun tQ kk => k417 tQ (st418 _ kk)
  clear k417 st418
  have k420 : own_G p e below E0 T413 (mkF m 47 #[vr a, vi n, vd y, ss] [(.ref a)]) := by
    intro tQ kk
    refine k419 tQ ?_
    refine XS.icmpYes X414.here hx rfl (pc0 := 9) (pc' := 46) rfl (hb hby d_prog_50_method_2_code_9) rfl (own_ic_neY (by decide)) (by decide) (by decide) ?_
    refine XS.aloadN X414.here hx rfl (hb hby d_prog_50_method_2_code_46) rfl rfl ?_
    exact kk
  clear k419
  obtain ⟨T421, X422, e423, st424⟩ := getF X414 hx hZ hown (host := "") (Or.inl (tw18 hw)) Via.refl e415 F1 (g := (mkF m 47 #[vr a, vi n, vd y, ss] [(.ref a)])) rfl rfl (hb hby d_prog_50_method_2_code_47)
  have k425 : own_G p e below E0 T421 (mkF m 50 #[vr a, vi n, vd y, ss] [(.ref r)]) := fun tQ kk => k420 tQ (st424 _ kk)
  clear k420 st424
  have k426 : own_G p e below E0 T421 (mkF m 51 #[vr a, vi n, vd y, ss] [(.ref a), (.ref r)]) := by
    intro tQ kk
    refine k425 tQ ?_
    refine XS.aloadN X422.here hx rfl (hb hby d_prog_50_method_2_code_50) rfl rfl ?_
    exact kk
  clear k425
  obtain ⟨T427, X428, e429, st430⟩ := getF X422 hx hZ hown (host := "") (Or.inl (tw27 hw)) Via.refl e423 F3 (g := (mkF m 51 #[vr a, vi n, vd y, ss] [(.ref a), (.ref r)])) rfl rfl (hb hby d_prog_50_method_2_code_51)
  have k431 : own_G p e below E0 T427 (mkF m 54 #[vr a, vi n, vd y, ss] [(.int (2 : Int32)), (.ref r)]) := fun tQ kk => k426 tQ (st430 _ kk)
  clear k426 st430
  have k432 : own_G p e below E0 T427 (mkF m 55 #[vr a, vi n, vd y, ss] [(.int n), (.int (2 : Int32)), (.ref r)]) := by
    intro tQ kk
    refine k431 tQ ?_
    refine XS.iloadN X428.here hx rfl (hb hby d_prog_50_method_2_code_54) rfl ?_
    exact kk
  clear k431
  obtain ⟨T433, h434, X435, e436, W437, F438, st439⟩ := own_A.ist X428 hx hZ e429 A1 (j := (2 : Int32)) (by decide) rfl (g := (mkF m 55 #[vr a, vi n, vd y, ss] [(.int n), (.int (2 : Int32)), (.ref r)])) rfl rfl (hb hby d_prog_50_method_2_code_55)
  have N440 := Fr.snoc X435 N0 ge_r
  have k441 : own_G p e below E0 T433 (mkF m 56 #[vr a, vi n, vd y, ss] []) := fun tQ kk => k432 tQ (st439 _ kk)
  clear k432 st439
  have F442 : xa5 Z h434 a := E1.wr W437
  clear E1
  have F443 : fd2 Z h434 a (.ref r) := F1.other W437 (Or.inl n1)
  clear F1
  have F444 : fd3 Z h434 a (.ref q) := F2.other W437 (Or.inl n1)
  clear F2
  have F445 : fd4 Z h434 a (.int (2 : Int32)) := F3.other W437 (Or.inl n1)
  clear F3
  have F446 : own_A Z h434 q .double [(.double x0), (.double x1), (.double x2), (.double x3)] := A2.other W437 (fun q => n3 q.symm)
  clear A2
  have Z447 : n0 ≤ h434.size := by rw [W437.size]; exact Z0
  have K448 : Keep h0 h434 [a, r, q] := K0.wr W437 (Or.inl (List.mem_of_getElem? (i := 1) rfl))
  have F449 : own_A Z h434 r .int [(.int i0), (.int i1), (.int n), (.int i3)] := F438
  have k450 : own_G p e below E0 T433 (mkF m 57 #[vr a, vi n, vd y, ss] [(.ref a)]) := by
    intro tQ kk
    refine k441 tQ ?_
    refine XS.aloadN X435.here hx rfl (hb hby d_prog_50_method_2_code_56) rfl rfl ?_
    exact kk
  clear k441
  obtain ⟨T451, X452, e453, st454⟩ := getF X435 hx hZ hown (host := "") (Or.inl (tw20 hw)) Via.refl e436 F444 (g := (mkF m 57 #[vr a, vi n, vd y, ss] [(.ref a)])) rfl rfl (hb hby d_prog_50_method_2_code_57)
  have k455 : own_G p e below E0 T451 (mkF m 60 #[vr a, vi n, vd y, ss] [(.ref q)]) := fun tQ kk => k450 tQ (st454 _ kk)
  clear k450 st454
  have k456 : own_G p e below E0 T451 (mkF m 61 #[vr a, vi n, vd y, ss] [(.ref a), (.ref q)]) := by
    intro tQ kk
    refine k455 tQ ?_
    refine XS.aloadN X452.here hx rfl (hb hby d_prog_50_method_2_code_60) rfl rfl ?_
    exact kk
  clear k455
  obtain ⟨T457, X458, e459, st460⟩ := getF X452 hx hZ hown (host := "") (Or.inl (tw27 hw)) Via.refl e453 F445 (g := (mkF m 61 #[vr a, vi n, vd y, ss] [(.ref a), (.ref q)])) rfl rfl (hb hby d_prog_50_method_2_code_61)
  have k461 : own_G p e below E0 T457 (mkF m 64 #[vr a, vi n, vd y, ss] [(.int (2 : Int32)), (.ref q)]) := fun tQ kk => k456 tQ (st460 _ kk)
  clear k456 st460
  have k462 : own_G p e below E0 T457 (mkF m 65 #[vr a, vi n, vd y, ss] [(.double y), (.int (2 : Int32)), (.ref q)]) := by
    intro tQ kk
    refine k461 tQ ?_
    refine XS.dloadN X458.here hx rfl (hb hby d_prog_50_method_2_code_64) rfl ?_
    exact kk
  clear k461
  obtain ⟨T463, h464, X465, e466, W467, F468, st469⟩ := own_A.dst X458 hx hZ e459 F446 (j := (2 : Int32)) (by decide) rfl (g := (mkF m 65 #[vr a, vi n, vd y, ss] [(.double y), (.int (2 : Int32)), (.ref q)])) rfl rfl (hb hby d_prog_50_method_2_code_65)
  have N470 := Fr.snoc X465 N440 ge_q
  have k471 : own_G p e below E0 T463 (mkF m 66 #[vr a, vi n, vd y, ss] []) := fun tQ kk => k462 tQ (st469 _ kk)
  clear k462 st469
  have F472 : xa5 Z h464 a := F442.wr W467
  clear F442
  have F473 : fd2 Z h464 a (.ref r) := F443.other W467 (Or.inl n2)
  clear F443
  have F474 : fd3 Z h464 a (.ref q) := F444.other W467 (Or.inl n2)
  clear F444
  have F475 : fd4 Z h464 a (.int (2 : Int32)) := F445.other W467 (Or.inl n2)
  clear F445
  have F476 : own_A Z h464 r .int [(.int i0), (.int i1), (.int n), (.int i3)] := F449.other W467 n3
  clear F449
  have Z477 : n0 ≤ h464.size := by rw [W467.size]; exact Z447
  have K478 : Keep h0 h464 [a, r, q] := K448.wr W467 (Or.inl (List.mem_of_getElem? (i := 2) rfl))
  have F479 : own_A Z h464 q .double [(.double x0), (.double x1), (.double y), (.double x3)] := F468
  have k480 : own_G p e below E0 T463 (mkF m 68 #[vr a, vi n, vd y, ss] [(.ref a), (.ref a)]) := by
    intro tQ kk
    refine k471 tQ ?_
    refine XS.aloadN X465.here hx rfl (hb hby d_prog_50_method_2_code_66) rfl rfl ?_
    refine XS.dup X465.here hx rfl (hb hby d_prog_50_method_2_code_67) rfl rfl ?_
    exact kk
  clear k471
  obtain ⟨T481, X482, e483, st484⟩ := getF X465 hx hZ hown (host := "") (Or.inl (tw27 hw)) Via.refl e466 F475 (g := (mkF m 68 #[vr a, vi n, vd y, ss] [(.ref a), (.ref a)])) rfl rfl (hb hby d_prog_50_method_2_code_68)
  have k485 : own_G p e below E0 T481 (mkF m 71 #[vr a, vi n, vd y, ss] [(.int (2 : Int32)), (.ref a)]) := fun tQ kk => k480 tQ (st484 _ kk)
  clear k480 st484
  have k486 : own_G p e below E0 T481 (mkF m 73 #[vr a, vi n, vd y, ss] [(.int (3 : Int32)), (.ref a)]) := by
    intro tQ kk
    refine k485 tQ ?_
    refine XS.iconst X482.here hx rfl (hb hby d_prog_50_method_2_code_71) ?_
    refine XS.iadd X482.here hx rfl (hb hby d_prog_50_method_2_code_72) rfl ?_
    exact kk
  clear k485
  obtain ⟨T487, h488, X489, e490, W491, st492⟩ := putF X482 hx hZ hown (host := "") (Or.inl (tw27 hw)) Via.refl e483 F475 F472 (Or.inl (tw28 hw)) (tw9 hw) (ty := .int) (by decide) rfl rfl (g := (mkF m 73 #[vr a, vi n, vd y, ss] [(.int (3 : Int32)), (.ref a)])) rfl rfl (hb hby d_prog_50_method_2_code_73)
  have N493 := Fr.snoc X489 N470 ge_a
  have k494 : own_G p e below E0 T487 (mkF m 76 #[vr a, vi n, vd y, ss] []) := fun tQ kk => k486 tQ (st492 _ kk)
  clear k486 st492
  have F495 : xa5 Z h488 a := F472.wr W491
  clear F472
  have F496 : fd2 Z h488 a (.ref r) := F473.other W491 (Or.inr (slot_ne (C := "com/example/netloom/netloom/embed/SparseColumn") (Or.inl (tw19 hw)) (Or.inl (tw28 hw)) (by decide) (t := (.array .int)) (t' := .int) (by decide) (by decide)))
  clear F473
  have F497 : fd3 Z h488 a (.ref q) := F474.other W491 (Or.inr (slot_ne (C := "com/example/netloom/netloom/embed/SparseColumn") (Or.inl (tw21 hw)) (Or.inl (tw28 hw)) (by decide) (t := (.array .double)) (t' := .int) (by decide) (by decide)))
  clear F474
  have F498 : fd4 Z h488 a (.int (3 : Int32)) := F475.same W491
  clear F475
  have F499 : own_A Z h488 r .int [(.int i0), (.int i1), (.int n), (.int i3)] := F476.other W491 (fun q => n1 q.symm)
  clear F476
  have F500 : own_A Z h488 q .double [(.double x0), (.double x1), (.double y), (.double x3)] := F479.other W491 (fun q => n2 q.symm)
  clear F479
  have Z501 : n0 ≤ h488.size := by rw [W491.size]; exact Z477
  have K502 : Keep h0 h488 [a, r, q] := K478.wr W491 (Or.inl (List.mem_of_getElem? (i := 0) rfl))
  obtain ⟨fs, hr, hrun, hended, hW, hsame⟩ := X489.leave (v := none) (fun _ => rfl)
  have hrun0 := k494 _ (X489.returnOut hx Bd.returns (hb hby d_prog_50_method_2_code_76) hr)
  subst hE0
  refine ⟨_, _, hrun0, hrun, hended, _, _, rfl, ?_, ⟨_, rfl⟩, hW, hsame.mono (by decide) (by decide)⟩
  show QrmA2 Z a n y r q i0 i1 i2 i3 x0 x1 x2 x3 h0 n0 _ T487.heap _
  rw [e490]
  exact ⟨rfl, N493, K502, F496, F497, F498, F499, F500⟩
def QrmA3 (Z : State) (a : Addr) (n : Int32) (y : UInt64) (r : Addr) (q : Addr) (i0 : Int32) (i1 : Int32) (i2 : Int32) (i3 : Int32) (x0 : UInt64) (x1 : UInt64) (x2 : UInt64) (x3 : UInt64) (h0 : Heap) (n0 : Nat) (vQ : Option Value) (hQ : Heap) (LQ : List Loc) : Prop := vQ = none ∧ Fr n0 LQ ∧ Keep h0 hQ [a, r, q] ∧ (fd2 Z hQ a (.ref r)) ∧ (fd3 Z hQ a (.ref q)) ∧ (fd4 Z hQ a (.int (4 : Int32))) ∧ (own_A Z hQ r .int [(.int i0), (.int i1), (.int i2), (.int n)]) ∧ (own_A Z hQ q .double [(.double x0), (.double x1), (.double x2), (.double y)])
theorem ef_rmA3 (m : MethodId) (a : Addr) (n : Int32) (y : UInt64) (r : Addr) (q : Addr) (i0 : Int32) (i1 : Int32) (i2 : Int32) (i3 : Int32) (x0 : UInt64) (x1 : UInt64) (x2 : UInt64) (x3 : UInt64) : entryFrame m #[(.ref a), (.int n), (.double y)] 4 = mkF m 0 #[vr a, vi n, vd y, ss] [] := by first | (simp [entryFrame, mkF, argsToLocals, Value.category]; done) | rfl
set_option maxRecDepth 65536 in
set_option maxHeartbeats 40000000 in
theorem rmA3 (l : Launch) (Z : State) (a0 : Array Value) (hw : ∀ d ∈ tables_1, d.before a0 Z = true) (ws : List Jvm.Cond) (a : Addr) (n : Int32) (y : UInt64) (r : Addr) (q : Addr) (i0 : Int32) (i1 : Int32) (i2 : Int32) (i3 : Int32) (x0 : UInt64) (x1 : UInt64) (x2 : UInt64) (x3 : UInt64) (h0 : Heap) (n0 : Nat) (Z0 : n0 ≤ h0.size) (E1 : xa5 Z h0 a) (F1 : fd2 Z h0 a (.ref r)) (F2 : fd3 Z h0 a (.ref q)) (F3 : fd4 Z h0 a (.int (3 : Int32))) (A1 : own_A Z h0 r .int [(.int i0), (.int i1), (.int i2), (.int i3)]) (A2 : own_A Z h0 q .double [(.double x0), (.double x1), (.double x2), (.double x3)]) (n1 : a ≠ r) (n2 : a ≠ q) (n3 : r ≠ q) (ge_a : n0 ≤ a) (ge_r : n0 ≤ r) (ge_q : n0 ≤ q) :
    MetFree l mn11 (head1 (Jvm.Cond.code mn11 prog_50_method_2_code 4 none :: ws) ({ frames := 2, cells := 0, slots := 0, locals := 60 } : Room)) (fun aA U => aA = #[(.ref a), (.int n), (.double y)] ∧ Z.Warmed39 U.vm ∧ U.heap = h0) (fun _ _ _ _ _ => True) (fun _ U o U' => ∃ vR LR, o = .returned vR ∧ QrmA3 Z a n y r q i0 i1 i2 i3 x0 x1 x2 x3 h0 n0 vR U'.heap LR ∧ FrameEnd U o U' LR ({ frames := 2, cells := 0, slots := 0, locals := 60 } : Room).cells ({ frames := 2, cells := 0, slots := 0, locals := 60 } : Room).slots) := by
  refine MetFree.of_bodySF (plainFor_of_name pn_com_example_netloom_netloom_embed_SparseColumn) hisR ?_
  intro p e s m args below meth c s₁ Bd hml0 hPre hKk
  obtain ⟨rfl, hZ, hh⟩ := hPre
  have hx := Bd.exec
  have hby := Bd.bytes
  have hml : c.maxLocals = 4 := hml0
  have hown : s.vm.findClass "com/example/netloom/netloom/embed/SparseColumn" = some m.cls := findClass_of_methodNamed Bd.named
  have hnm := (name_of_methodNamed Bd.named Bd.method).1
  have X0 : Stand p l e ({ frames := 2, cells := 0, slots := 0, locals := 60 } : Room) s m #[(.ref a), (.int n), (.double y)] below meth c s₁ [] 0 0 := Stand.of_body Bd
  have e0 : s₁.heap = h0 := by rw [← hh, Bd.state]; rfl
  have N0 := Fr.nil n0
  obtain ⟨E0, hE0⟩ : ∃ zE : State, zE = s₁.setTop (entryFrame m #[(.ref a), (.int n), (.double y)] 4) := ⟨_, rfl⟩
  have k0 : own_G p e below E0 s₁ (mkF m 0 #[vr a, vi n, vd y, ss] []) := fun tz kz => hE0 ▸ castTop (ef_rmA3 m a n y r q i0 i1 i2 i3 x0 x1 x2 x3) kz
  have K0 : Keep h0 h0 [a, r, q] := Keep.refl _ _
  have k503 : own_G p e below E0 s₁ (mkF m 1 #[vr a, vi n, vd y, ss] [(.ref a)]) := by
    intro tQ kk
    refine k0 tQ ?_
    refine XS.aloadN X0.here hx rfl (hb hby d_prog_50_method_2_code_0) rfl rfl ?_
    exact kk
  clear k0
  obtain ⟨T504, X505, e506, st507⟩ := getF X0 hx hZ hown (host := "") (Or.inl (tw27 hw)) Via.refl e0 F3 (g := (mkF m 1 #[vr a, vi n, vd y, ss] [(.ref a)])) rfl rfl (hb hby d_prog_50_method_2_code_1)
  have k508 : own_G p e below E0 T504 (mkF m 4 #[vr a, vi n, vd y, ss] [(.int (3 : Int32))]) := fun tQ kk => k503 tQ (st507 _ kk)
  clear k503 st507
  have k509 : own_G p e below E0 T504 (mkF m 5 #[vr a, vi n, vd y, ss] [(.ref a), (.int (3 : Int32))]) := by
    intro tQ kk
    refine k508 tQ ?_
    refine XS.aloadN X505.here hx rfl (hb hby d_prog_50_method_2_code_4) rfl rfl ?_
    exact kk
  clear k508
  obtain ⟨T510, X511, e512, st513⟩ := getF X505 hx hZ hown (host := "") (Or.inl (tw18 hw)) Via.refl e506 F1 (g := (mkF m 5 #[vr a, vi n, vd y, ss] [(.ref a), (.int (3 : Int32))])) rfl rfl (hb hby d_prog_50_method_2_code_5)
  have k514 : own_G p e below E0 T510 (mkF m 8 #[vr a, vi n, vd y, ss] [(.ref r), (.int (3 : Int32))]) := fun tQ kk => k509 tQ (st513 _ kk)
  clear k509 st513
  have st515 := fun tQ => own_A.len X511 hx hZ e512 A1 (g := (mkF m 8 #[vr a, vi n, vd y, ss] [(.ref r), (.int (3 : Int32))])) rfl rfl (hb hby d_prog_50_method_2_code_8) tQ
  have k516 : own_G p e below E0 T510 (mkF m 9 #[vr a, vi n, vd y, ss] [(.int (4 : Int32)), (.int (3 : Int32))]) := fun tQ kk => k514 tQ (st515 _ kk)
  clear k514 st515
  have k517 : own_G p e below E0 T510 (mkF m 47 #[vr a, vi n, vd y, ss] [(.ref a)]) := by
    intro tQ kk
    refine k516 tQ ?_
    refine XS.icmpYes X511.here hx rfl (pc0 := 9) (pc' := 46) rfl (hb hby d_prog_50_method_2_code_9) rfl (own_ic_neY (by decide)) (by decide) (by decide) ?_
    refine XS.aloadN X511.here hx rfl (hb hby d_prog_50_method_2_code_46) rfl rfl ?_
    exact kk
  clear k516
  obtain ⟨T518, X519, e520, st521⟩ := getF X511 hx hZ hown (host := "") (Or.inl (tw18 hw)) Via.refl e512 F1 (g := (mkF m 47 #[vr a, vi n, vd y, ss] [(.ref a)])) rfl rfl (hb hby d_prog_50_method_2_code_47)
  have k522 : own_G p e below E0 T518 (mkF m 50 #[vr a, vi n, vd y, ss] [(.ref r)]) := fun tQ kk => k517 tQ (st521 _ kk)
  clear k517 st521
  have k523 : own_G p e below E0 T518 (mkF m 51 #[vr a, vi n, vd y, ss] [(.ref a), (.ref r)]) := by
    intro tQ kk
    refine k522 tQ ?_
    refine XS.aloadN X519.here hx rfl (hb hby d_prog_50_method_2_code_50) rfl rfl ?_
    exact kk
  clear k522
  obtain ⟨T524, X525, e526, st527⟩ := getF X519 hx hZ hown (host := "") (Or.inl (tw27 hw)) Via.refl e520 F3 (g := (mkF m 51 #[vr a, vi n, vd y, ss] [(.ref a), (.ref r)])) rfl rfl (hb hby d_prog_50_method_2_code_51)
  have k528 : own_G p e below E0 T524 (mkF m 54 #[vr a, vi n, vd y, ss] [(.int (3 : Int32)), (.ref r)]) := fun tQ kk => k523 tQ (st527 _ kk)
  clear k523 st527
  have k529 : own_G p e below E0 T524 (mkF m 55 #[vr a, vi n, vd y, ss] [(.int n), (.int (3 : Int32)), (.ref r)]) := by
    intro tQ kk
    refine k528 tQ ?_
    refine XS.iloadN X525.here hx rfl (hb hby d_prog_50_method_2_code_54) rfl ?_
    exact kk
  clear k528
  obtain ⟨T530, h531, X532, e533, W534, F535, st536⟩ := own_A.ist X525 hx hZ e526 A1 (j := (3 : Int32)) (by decide) rfl (g := (mkF m 55 #[vr a, vi n, vd y, ss] [(.int n), (.int (3 : Int32)), (.ref r)])) rfl rfl (hb hby d_prog_50_method_2_code_55)
  have N537 := Fr.snoc X532 N0 ge_r
  have k538 : own_G p e below E0 T530 (mkF m 56 #[vr a, vi n, vd y, ss] []) := fun tQ kk => k529 tQ (st536 _ kk)
  clear k529 st536
  have F539 : xa5 Z h531 a := E1.wr W534
  clear E1
  have F540 : fd2 Z h531 a (.ref r) := F1.other W534 (Or.inl n1)
  clear F1
  have F541 : fd3 Z h531 a (.ref q) := F2.other W534 (Or.inl n1)
  clear F2
  have F542 : fd4 Z h531 a (.int (3 : Int32)) := F3.other W534 (Or.inl n1)
  clear F3
  have F543 : own_A Z h531 q .double [(.double x0), (.double x1), (.double x2), (.double x3)] := A2.other W534 (fun q => n3 q.symm)
  clear A2
  have Z544 : n0 ≤ h531.size := by rw [W534.size]; exact Z0
  have K545 : Keep h0 h531 [a, r, q] := K0.wr W534 (Or.inl (List.mem_of_getElem? (i := 1) rfl))
  have F546 : own_A Z h531 r .int [(.int i0), (.int i1), (.int i2), (.int n)] := F535
  have k547 : own_G p e below E0 T530 (mkF m 57 #[vr a, vi n, vd y, ss] [(.ref a)]) := by
    intro tQ kk
    refine k538 tQ ?_
    refine XS.aloadN X532.here hx rfl (hb hby d_prog_50_method_2_code_56) rfl rfl ?_
    exact kk
  clear k538
  obtain ⟨T548, X549, e550, st551⟩ := getF X532 hx hZ hown (host := "") (Or.inl (tw20 hw)) Via.refl e533 F541 (g := (mkF m 57 #[vr a, vi n, vd y, ss] [(.ref a)])) rfl rfl (hb hby d_prog_50_method_2_code_57)
  have k552 : own_G p e below E0 T548 (mkF m 60 #[vr a, vi n, vd y, ss] [(.ref q)]) := fun tQ kk => k547 tQ (st551 _ kk)
  clear k547 st551
  have k553 : own_G p e below E0 T548 (mkF m 61 #[vr a, vi n, vd y, ss] [(.ref a), (.ref q)]) := by
    intro tQ kk
    refine k552 tQ ?_
    refine XS.aloadN X549.here hx rfl (hb hby d_prog_50_method_2_code_60) rfl rfl ?_
    exact kk
  clear k552
  obtain ⟨T554, X555, e556, st557⟩ := getF X549 hx hZ hown (host := "") (Or.inl (tw27 hw)) Via.refl e550 F542 (g := (mkF m 61 #[vr a, vi n, vd y, ss] [(.ref a), (.ref q)])) rfl rfl (hb hby d_prog_50_method_2_code_61)
  have k558 : own_G p e below E0 T554 (mkF m 64 #[vr a, vi n, vd y, ss] [(.int (3 : Int32)), (.ref q)]) := fun tQ kk => k553 tQ (st557 _ kk)
  clear k553 st557
  have k559 : own_G p e below E0 T554 (mkF m 65 #[vr a, vi n, vd y, ss] [(.double y), (.int (3 : Int32)), (.ref q)]) := by
    intro tQ kk
    refine k558 tQ ?_
    refine XS.dloadN X555.here hx rfl (hb hby d_prog_50_method_2_code_64) rfl ?_
    exact kk
  clear k558
  obtain ⟨T560, h561, X562, e563, W564, F565, st566⟩ := own_A.dst X555 hx hZ e556 F543 (j := (3 : Int32)) (by decide) rfl (g := (mkF m 65 #[vr a, vi n, vd y, ss] [(.double y), (.int (3 : Int32)), (.ref q)])) rfl rfl (hb hby d_prog_50_method_2_code_65)
  have N567 := Fr.snoc X562 N537 ge_q
  have k568 : own_G p e below E0 T560 (mkF m 66 #[vr a, vi n, vd y, ss] []) := fun tQ kk => k559 tQ (st566 _ kk)
  clear k559 st566
  have F569 : xa5 Z h561 a := F539.wr W564
  clear F539
  have F570 : fd2 Z h561 a (.ref r) := F540.other W564 (Or.inl n2)
  clear F540
  have F571 : fd3 Z h561 a (.ref q) := F541.other W564 (Or.inl n2)
  clear F541
  have F572 : fd4 Z h561 a (.int (3 : Int32)) := F542.other W564 (Or.inl n2)
  clear F542
  have F573 : own_A Z h561 r .int [(.int i0), (.int i1), (.int i2), (.int n)] := F546.other W564 n3
  clear F546
  have Z574 : n0 ≤ h561.size := by rw [W564.size]; exact Z544
  have K575 : Keep h0 h561 [a, r, q] := K545.wr W564 (Or.inl (List.mem_of_getElem? (i := 2) rfl))
  have F576 : own_A Z h561 q .double [(.double x0), (.double x1), (.double x2), (.double y)] := F565
  have k577 : own_G p e below E0 T560 (mkF m 68 #[vr a, vi n, vd y, ss] [(.ref a), (.ref a)]) := by
    intro tQ kk
    refine k568 tQ ?_
    refine XS.aloadN X562.here hx rfl (hb hby d_prog_50_method_2_code_66) rfl rfl ?_
    refine XS.dup X562.here hx rfl (hb hby d_prog_50_method_2_code_67) rfl rfl ?_
    exact kk
  clear k568
  obtain ⟨T578, X579, e580, st581⟩ := getF X562 hx hZ hown (host := "") (Or.inl (tw27 hw)) Via.refl e563 F572 (g := (mkF m 68 #[vr a, vi n, vd y, ss] [(.ref a), (.ref a)])) rfl rfl (hb hby d_prog_50_method_2_code_68)
  have k582 : own_G p e below E0 T578 (mkF m 71 #[vr a, vi n, vd y, ss] [(.int (3 : Int32)), (.ref a)]) := fun tQ kk => k577 tQ (st581 _ kk)
  clear k577 st581
  have k583 : own_G p e below E0 T578 (mkF m 73 #[vr a, vi n, vd y, ss] [(.int (4 : Int32)), (.ref a)]) := by
    intro tQ kk
    refine k582 tQ ?_
    refine XS.iconst X579.here hx rfl (hb hby d_prog_50_method_2_code_71) ?_
    refine XS.iadd X579.here hx rfl (hb hby d_prog_50_method_2_code_72) rfl ?_
    exact kk
  clear k582
  obtain ⟨T584, h585, X586, e587, W588, st589⟩ := putF X579 hx hZ hown (host := "") (Or.inl (tw27 hw)) Via.refl e580 F572 F569 (Or.inl (tw28 hw)) (tw9 hw) (ty := .int) (by decide) rfl rfl (g := (mkF m 73 #[vr a, vi n, vd y, ss] [(.int (4 : Int32)), (.ref a)])) rfl rfl (hb hby d_prog_50_method_2_code_73)
  have N590 := Fr.snoc X586 N567 ge_a
  have k591 : own_G p e below E0 T584 (mkF m 76 #[vr a, vi n, vd y, ss] []) := fun tQ kk => k583 tQ (st589 _ kk)
  clear k583 st589
  have F592 : xa5 Z h585 a := F569.wr W588
  clear F569
  have F593 : fd2 Z h585 a (.ref r) := F570.other W588 (Or.inr (slot_ne (C := "com/example/netloom/netloom/embed/SparseColumn") (Or.inl (tw19 hw)) (Or.inl (tw28 hw)) (by decide) (t := (.array .int)) (t' := .int) (by decide) (by decide)))
  clear F570
  have F594 : fd3 Z h585 a (.ref q) := F571.other W588 (Or.inr (slot_ne (C := "com/example/netloom/netloom/embed/SparseColumn") (Or.inl (tw21 hw)) (Or.inl (tw28 hw)) (by decide) (t := (.array .double)) (t' := .int) (by decide) (by decide)))
  clear F571
  have F595 : fd4 Z h585 a (.int (4 : Int32)) := F572.same W588
  clear F572
  have F596 : own_A Z h585 r .int [(.int i0), (.int i1), (.int i2), (.int n)] := F573.other W588 (fun q => n1 q.symm)
  clear F573
  have F597 : own_A Z h585 q .double [(.double x0), (.double x1), (.double x2), (.double y)] := F576.other W588 (fun q => n2 q.symm)
  clear F576
  have Z598 : n0 ≤ h585.size := by rw [W588.size]; exact Z574
  have K599 : Keep h0 h585 [a, r, q] := K575.wr W588 (Or.inl (List.mem_of_getElem? (i := 0) rfl))
  obtain ⟨fs, hr, hrun, hended, hW, hsame⟩ := X586.leave (v := none) (fun _ => rfl)
  have hrun0 := k591 _ (X586.returnOut hx Bd.returns (hb hby d_prog_50_method_2_code_76) hr)
  subst hE0
  refine ⟨_, _, hrun0, hrun, hended, _, _, rfl, ?_, ⟨_, rfl⟩, hW, hsame.mono (by decide) (by decide)⟩
  show QrmA3 Z a n y r q i0 i1 i2 i3 x0 x1 x2 x3 h0 n0 _ T584.heap _
  rw [e587]
  exact ⟨rfl, N590, K599, F593, F594, F595, F596, F597⟩
def QrmA4 (Z : State) (a : Addr) (n : Int32) (y : UInt64) (r : Addr) (q : Addr) (i0 : Int32) (i1 : Int32) (i2 : Int32) (i3 : Int32) (x0 : UInt64) (x1 : UInt64) (x2 : UInt64) (x3 : UInt64) (h0 : Heap) (n0 : Nat) (vQ : Option Value) (hQ : Heap) (LQ : List Loc) : Prop := ∃ (u : Addr), ∃ (v : Addr), vQ = none ∧ Fr n0 LQ ∧ Keep h0 hQ [a] ∧ (fd2 Z hQ a (.ref u)) ∧ (fd3 Z hQ a (.ref v)) ∧ (fd4 Z hQ a (.int (5 : Int32))) ∧ (own_A Z hQ u .int [(.int i0), (.int i1), (.int i2), (.int i3), (.int n), (.int (0 : Int32)), (.int (0 : Int32)), (.int (0 : Int32))]) ∧ (own_A Z hQ v .double [(.double x0), (.double x1), (.double x2), (.double x3), (.double y), (.double (0 : UInt64)), (.double (0 : UInt64)), (.double (0 : UInt64))]) ∧ (h0.size ≤ u) ∧ (h0.size ≤ v) ∧ (u ≠ v)
theorem ef_rmA4 (m : MethodId) (a : Addr) (n : Int32) (y : UInt64) (r : Addr) (q : Addr) (i0 : Int32) (i1 : Int32) (i2 : Int32) (i3 : Int32) (x0 : UInt64) (x1 : UInt64) (x2 : UInt64) (x3 : UInt64) : entryFrame m #[(.ref a), (.int n), (.double y)] 4 = mkF m 0 #[vr a, vi n, vd y, ss] [] := by first | (simp [entryFrame, mkF, argsToLocals, Value.category]; done) | rfl
theorem d_prog_50_method_2_code_12 : decode prog_50_method_2_code 12 = .ok (.aload_n 0, 1) := by decide +kernel
theorem d_prog_50_method_2_code_13 : decode prog_50_method_2_code 13 = .ok (.aload_n 0, 1) := by decide +kernel
theorem d_prog_50_method_2_code_14 : decode prog_50_method_2_code 14 = .ok (.getfield 7, 3) := by decide +kernel
theorem d_prog_50_method_2_code_17 : decode prog_50_method_2_code 17 = .ok (.iconst 2, 1) := by decide +kernel
theorem d_prog_50_method_2_code_18 : decode prog_50_method_2_code 18 = .ok (.aload_n 0, 1) := by decide +kernel
theorem d_prog_50_method_2_code_19 : decode prog_50_method_2_code 19 = .ok (.getfield 17, 3) := by decide +kernel
theorem d_prog_50_method_2_code_22 : decode prog_50_method_2_code 22 = .ok (.imul, 1) := by decide +kernel
theorem d_prog_50_method_2_code_23 : decode prog_50_method_2_code 23 = .ok (.invokestatic 21, 3) := by decide +kernel
def tw41 {Z : State} {a0 : Array Value} (hw : ∀ d ∈ tables_1, d.before a0 Z = true) := hw _ (List.mem_of_getElem? (i := 41) rfl)
def tw44 {Z : State} {a0 : Array Value} (hw : ∀ d ∈ tables_1, d.before a0 Z = true) := hw _ (List.mem_of_getElem? (i := 44) rfl)
def tw43 {Z : State} {a0 : Array Value} (hw : ∀ d ∈ tables_1, d.before a0 Z = true) := hw _ (List.mem_of_getElem? (i := 43) rfl)
theorem pd_12 : parseMethodDescriptor "([II)[I" = some ⟨[(.array .int), .int], some (.array .int)⟩ := by decide +kernel
def tw42 {Z : State} {a0 : Array Value} (hw : ∀ d ∈ tables_1, d.before a0 Z = true) := hw _ (List.mem_of_getElem? (i := 42) rfl)
theorem d_prog_50_method_2_code_26 : decode prog_50_method_2_code 26 = .ok (.putfield 7, 3) := by decide +kernel
theorem d_prog_50_method_2_code_29 : decode prog_50_method_2_code 29 = .ok (.aload_n 0, 1) := by decide +kernel
theorem d_prog_50_method_2_code_30 : decode prog_50_method_2_code 30 = .ok (.aload_n 0, 1) := by decide +kernel
theorem d_prog_50_method_2_code_31 : decode prog_50_method_2_code 31 = .ok (.getfield 13, 3) := by decide +kernel
theorem d_prog_50_method_2_code_34 : decode prog_50_method_2_code 34 = .ok (.iconst 2, 1) := by decide +kernel
theorem d_prog_50_method_2_code_35 : decode prog_50_method_2_code 35 = .ok (.aload_n 0, 1) := by decide +kernel
theorem d_prog_50_method_2_code_36 : decode prog_50_method_2_code 36 = .ok (.getfield 17, 3) := by decide +kernel
theorem d_prog_50_method_2_code_39 : decode prog_50_method_2_code 39 = .ok (.imul, 1) := by decide +kernel
theorem d_prog_50_method_2_code_40 : decode prog_50_method_2_code 40 = .ok (.invokestatic 27, 3) := by decide +kernel
def tw53 {Z : State} {a0 : Array Value} (hw : ∀ d ∈ tables_1, d.before a0 Z = true) := hw _ (List.mem_of_getElem? (i := 53) rfl)
def tw55 {Z : State} {a0 : Array Value} (hw : ∀ d ∈ tables_1, d.before a0 Z = true) := hw _ (List.mem_of_getElem? (i := 55) rfl)
theorem pd_13 : parseMethodDescriptor "([DI)[D" = some ⟨[(.array .double), .int], some (.array .double)⟩ := by decide +kernel
def tw54 {Z : State} {a0 : Array Value} (hw : ∀ d ∈ tables_1, d.before a0 Z = true) := hw _ (List.mem_of_getElem? (i := 54) rfl)
theorem d_prog_50_method_2_code_43 : decode prog_50_method_2_code 43 = .ok (.putfield 13, 3) := by decide +kernel
set_option maxRecDepth 65536 in
set_option maxHeartbeats 40000000 in
theorem rmA4 (l : Launch) (Z : State) (a0 : Array Value) (hw : ∀ d ∈ tables_1, d.before a0 Z = true) (ws : List Jvm.Cond) (a : Addr) (n : Int32) (y : UInt64) (r : Addr) (q : Addr) (i0 : Int32) (i1 : Int32) (i2 : Int32) (i3 : Int32) (x0 : UInt64) (x1 : UInt64) (x2 : UInt64) (x3 : UInt64) (h0 : Heap) (n0 : Nat) (Z0 : n0 ≤ h0.size) (E1 : xa5 Z h0 a) (F1 : fd2 Z h0 a (.ref r)) (F2 : fd3 Z h0 a (.ref q)) (F3 : fd4 Z h0 a (.int (4 : Int32))) (A1 : own_A Z h0 r .int [(.int i0), (.int i1), (.int i2), (.int i3)]) (A2 : own_A Z h0 q .double [(.double x0), (.double x1), (.double x2), (.double x3)]) (n1 : a ≠ r) (n2 : a ≠ q) (n3 : r ≠ q) (ge_a : n0 ≤ a) :
    MetFree l mn11 (head1 (Jvm.Cond.code mn11 prog_50_method_2_code 4 none :: ws) ({ frames := 2, cells := 2, slots := 16, locals := 60 } : Room)) (fun aA U => aA = #[(.ref a), (.int n), (.double y)] ∧ Z.Warmed39 U.vm ∧ U.heap = h0) (fun _ _ _ _ _ => True) (fun _ U o U' => ∃ vR LR, o = .returned vR ∧ QrmA4 Z a n y r q i0 i1 i2 i3 x0 x1 x2 x3 h0 n0 vR U'.heap LR ∧ FrameEnd U o U' LR ({ frames := 2, cells := 2, slots := 16, locals := 60 } : Room).cells ({ frames := 2, cells := 2, slots := 16, locals := 60 } : Room).slots) := by
  refine MetFree.of_bodySF (plainFor_of_name pn_com_example_netloom_netloom_embed_SparseColumn) hisR ?_
  intro p e s m args below meth c s₁ Bd hml0 hPre hKk
  obtain ⟨rfl, hZ, hh⟩ := hPre
  have hx := Bd.exec
  have hby := Bd.bytes
  have hml : c.maxLocals = 4 := hml0
  have hown : s.vm.findClass "com/example/netloom/netloom/embed/SparseColumn" = some m.cls := findClass_of_methodNamed Bd.named
  have hnm := (name_of_methodNamed Bd.named Bd.method).1
  have X0 : Stand p l e ({ frames := 2, cells := 2, slots := 16, locals := 60 } : Room) s m #[(.ref a), (.int n), (.double y)] below meth c s₁ [] 0 0 := Stand.of_body Bd
  have e0 : s₁.heap = h0 := by rw [← hh, Bd.state]; rfl
  have N0 := Fr.nil n0
  obtain ⟨E0, hE0⟩ : ∃ zE : State, zE = s₁.setTop (entryFrame m #[(.ref a), (.int n), (.double y)] 4) := ⟨_, rfl⟩
  have k0 : own_G p e below E0 s₁ (mkF m 0 #[vr a, vi n, vd y, ss] []) := fun tz kz => hE0 ▸ castTop (ef_rmA4 m a n y r q i0 i1 i2 i3 x0 x1 x2 x3) kz
  have K0 : Keep h0 h0 [a] := Keep.refl _ _
  have k600 : own_G p e below E0 s₁ (mkF m 1 #[vr a, vi n, vd y, ss] [(.ref a)]) := by
    intro tQ kk
    refine k0 tQ ?_
    refine XS.aloadN X0.here hx rfl (hb hby d_prog_50_method_2_code_0) rfl rfl ?_
    exact kk
  clear k0
  obtain ⟨T601, X602, e603, st604⟩ := getF X0 hx hZ hown (host := "") (Or.inl (tw27 hw)) Via.refl e0 F3 (g := (mkF m 1 #[vr a, vi n, vd y, ss] [(.ref a)])) rfl rfl (hb hby d_prog_50_method_2_code_1)
  have k605 : own_G p e below E0 T601 (mkF m 4 #[vr a, vi n, vd y, ss] [(.int (4 : Int32))]) := fun tQ kk => k600 tQ (st604 _ kk)
  clear k600 st604
  have k606 : own_G p e below E0 T601 (mkF m 5 #[vr a, vi n, vd y, ss] [(.ref a), (.int (4 : Int32))]) := by
    intro tQ kk
    refine k605 tQ ?_
    refine XS.aloadN X602.here hx rfl (hb hby d_prog_50_method_2_code_4) rfl rfl ?_
    exact kk
  clear k605
  obtain ⟨T607, X608, e609, st610⟩ := getF X602 hx hZ hown (host := "") (Or.inl (tw18 hw)) Via.refl e603 F1 (g := (mkF m 5 #[vr a, vi n, vd y, ss] [(.ref a), (.int (4 : Int32))])) rfl rfl (hb hby d_prog_50_method_2_code_5)
  have k611 : own_G p e below E0 T607 (mkF m 8 #[vr a, vi n, vd y, ss] [(.ref r), (.int (4 : Int32))]) := fun tQ kk => k606 tQ (st610 _ kk)
  clear k606 st610
  have st612 := fun tQ => own_A.len X608 hx hZ e609 A1 (g := (mkF m 8 #[vr a, vi n, vd y, ss] [(.ref r), (.int (4 : Int32))])) rfl rfl (hb hby d_prog_50_method_2_code_8) tQ
  have k613 : own_G p e below E0 T607 (mkF m 9 #[vr a, vi n, vd y, ss] [(.int (4 : Int32)), (.int (4 : Int32))]) := fun tQ kk => k611 tQ (st612 _ kk)
  clear k611 st612
  have k614 : own_G p e below E0 T607 (mkF m 14 #[vr a, vi n, vd y, ss] [(.ref a), (.ref a)]) := by
    intro tQ kk
    refine k613 tQ ?_
    refine XS.icmpNo X608.here hx rfl (hb hby d_prog_50_method_2_code_9) rfl (own_ic_neN (by decide)) ?_
    refine XS.aloadN X608.here hx rfl (hb hby d_prog_50_method_2_code_12) rfl rfl ?_
    refine XS.aloadN X608.here hx rfl (hb hby d_prog_50_method_2_code_13) rfl rfl ?_
    exact kk
  clear k613
  obtain ⟨T615, X616, e617, st618⟩ := getF X608 hx hZ hown (host := "") (Or.inl (tw18 hw)) Via.refl e609 F1 (g := (mkF m 14 #[vr a, vi n, vd y, ss] [(.ref a), (.ref a)])) rfl rfl (hb hby d_prog_50_method_2_code_14)
  have k619 : own_G p e below E0 T615 (mkF m 17 #[vr a, vi n, vd y, ss] [(.ref r), (.ref a)]) := fun tQ kk => k614 tQ (st618 _ kk)
  clear k614 st618
  have k620 : own_G p e below E0 T615 (mkF m 19 #[vr a, vi n, vd y, ss] [(.ref a), (.int (2 : Int32)), (.ref r), (.ref a)]) := by
    intro tQ kk
    refine k619 tQ ?_
    refine XS.iconst X616.here hx rfl (hb hby d_prog_50_method_2_code_17) ?_
    refine XS.aloadN X616.here hx rfl (hb hby d_prog_50_method_2_code_18) rfl rfl ?_
    exact kk
  clear k619
  obtain ⟨T621, X622, e623, st624⟩ := getF X616 hx hZ hown (host := "") (Or.inl (tw27 hw)) Via.refl e617 F3 (g := (mkF m 19 #[vr a, vi n, vd y, ss] [(.ref a), (.int (2 : Int32)), (.ref r), (.ref a)])) rfl rfl (hb hby d_prog_50_method_2_code_19)
  have k625 : own_G p e below E0 T621 (mkF m 22 #[vr a, vi n, vd y, ss] [(.int (4 : Int32)), (.int (2 : Int32)), (.ref r), (.ref a)]) := fun tQ kk => k620 tQ (st624 _ kk)
  clear k620 st624
  have k626 : own_G p e below E0 T621 (mkF m 23 #[vr a, vi n, vd y, ss] [(.int (8 : Int32)), (.ref r), (.ref a)]) := by
    intro tQ kk
    refine k625 tQ ?_
    refine XS.imul X622.here hx rfl (hb hby d_prog_50_method_2_code_22) rfl ?_
    exact kk
  clear k625
  obtain ⟨_, _, ⟨T627, L628, kc629, nc630⟩, -, X631, ⟨Lc632, hQ633, l634, y635, z636⟩, st637⟩ := Jvm.LawKit.callS X622 hx (y := mn8) hown (mvT hZ (tw41 hw)) (mvT hZ (tw42 hw)) (mvT hZ (tw43 hw)) (mvT hZ (tw44 hw)) (by decide) (backOf (W := 1) (rmCI l Z a0 hw [] r i0 i1 i2 i3 h0 n0 Z0 A1) hZ (tw44 hw) (tw43 hw) (by decide) (by decide)) (g := (mkF m 23 #[vr a, vi n, vd y, ss] [(.int (8 : Int32)), (.ref r), (.ref a)])) rfl (by rw [hml]; rfl) (argsL := [(.ref r), (.int (8 : Int32))]) (rest := [(.ref a)]) (lenOf pd_12 rfl) rfl (by show 2 * 0 + _ ≤ _; exact Nat.le_of_eq rfl) (hb hby d_prog_50_method_2_code_23) (fun _ _ => ⟨rfl, e623, (by decide : 0 + 1 ≤ _), (by decide : 0 + 8 ≤ _)⟩)
  dsimp only [Pt.U, Pt.locs, Pt.cells, Pt.slots] at X631 l634 y635 z636 st637 hQ633
  subst l634 y635 z636
  obtain ⟨r641, rfl, N638, K642, g643, nw644⟩ := hQ633
  have N645 := Fr.app N0 N638
  have ge646 : n0 ≤ r641 := Nat.le_trans Z0 nw644
  have nw647 : h0.size ≤ r641 := Nat.le_trans K0.1 nw644
  have n648 : a ≠ r641 := own_lt_ne2 E1.lt nw644
  have n649 : r ≠ r641 := own_lt_ne2 A1.lt nw644
  have n650 : q ≠ r641 := own_lt_ne2 A2.lt nw644
  have Z651 : n0 ≤ T627.heap.size := Nat.le_trans Z0 K642.1
  have F652 : xa5 Z T627.heap a := E1.keep K642
  clear E1
  have F653 : fd2 Z T627.heap a (.ref r) := F1.keep K642 nin0
  clear F1
  have F654 : fd3 Z T627.heap a (.ref q) := F2.keep K642 nin0
  clear F2
  have F655 : fd4 Z T627.heap a (.int (4 : Int32)) := F3.keep K642 nin0
  clear F3
  have F656 : own_A Z T627.heap r .int [(.int i0), (.int i1), (.int i2), (.int i3)] := A1.keep K642 nin0
  clear A1
  have F657 : own_A Z T627.heap q .double [(.double x0), (.double x1), (.double x2), (.double x3)] := A2.keep K642 nin0
  clear A2
  have K658 : Keep h0 T627.heap [a] := K0.trans K642 all0
  have k659 : own_G p e below E0 T627 (mkF m 26 #[vr a, vi n, vd y, ss] [(.ref r641), (.ref a)]) := fun tQ kk => k626 tQ (st637 _ kk)
  clear k626 st637
  obtain ⟨T660, h661, X662, e663, W664, st665⟩ := putF X631 hx hZ hown (host := "") (Or.inl (tw18 hw)) Via.refl rfl F653 F652 (Or.inl (tw19 hw)) (tw9 hw) (ty := (.array .int)) (by decide) rfl rfl (g := (mkF m 26 #[vr a, vi n, vd y, ss] [(.ref r641), (.ref a)])) rfl rfl (hb hby d_prog_50_method_2_code_26)
  have N666 := Fr.snoc X662 N645 ge_a
  have k667 : own_G p e below E0 T660 (mkF m 29 #[vr a, vi n, vd y, ss] []) := fun tQ kk => k659 tQ (st665 _ kk)
  clear k659 st665
  have F668 : xa5 Z h661 a := F652.wr W664
  clear F652
  have F669 : fd2 Z h661 a (.ref r641) := F653.same W664
  clear F653
  have F670 : fd3 Z h661 a (.ref q) := F654.other W664 (Or.inr (slot_ne (C := "com/example/netloom/netloom/embed/SparseColumn") (Or.inl (tw21 hw)) (Or.inl (tw19 hw)) (by decide) (t := (.array .double)) (t' := (.array .int)) (by decide) (by decide)))
  clear F654
  have F671 : fd4 Z h661 a (.int (4 : Int32)) := F655.other W664 (Or.inr (slot_ne (C := "com/example/netloom/netloom/embed/SparseColumn") (Or.inl (tw28 hw)) (Or.inl (tw19 hw)) (by decide) (t := .int) (t' := (.array .int)) (by decide) (by decide)))
  clear F655
  have F672 : own_A Z h661 r .int [(.int i0), (.int i1), (.int i2), (.int i3)] := F656.other W664 (fun q => n1 q.symm)
  clear F656
  have F673 : own_A Z h661 q .double [(.double x0), (.double x1), (.double x2), (.double x3)] := F657.other W664 (fun q => n2 q.symm)
  clear F657
  have F674 : own_A Z h661 r641 .int [(.int i0), (.int i1), (.int i2), (.int i3), (.int (0 : Int32)), (.int (0 : Int32)), (.int (0 : Int32)), (.int (0 : Int32))] := g643.other W664 (Ne.symm n648)
  clear g643
  have Z675 : n0 ≤ h661.size := by rw [W664.size]; exact Z651
  have K676 : Keep h0 h661 [a] := K658.wr W664 (Or.inl (List.mem_of_getElem? (i := 0) rfl))
  have k677 : own_G p e below E0 T660 (mkF m 31 #[vr a, vi n, vd y, ss] [(.ref a), (.ref a)]) := by
    intro tQ kk
    refine k667 tQ ?_
    refine XS.aloadN X662.here hx rfl (hb hby d_prog_50_method_2_code_29) rfl rfl ?_
    refine XS.aloadN X662.here hx rfl (hb hby d_prog_50_method_2_code_30) rfl rfl ?_
    exact kk
  clear k667
  obtain ⟨T678, X679, e680, st681⟩ := getF X662 hx hZ hown (host := "") (Or.inl (tw20 hw)) Via.refl e663 F670 (g := (mkF m 31 #[vr a, vi n, vd y, ss] [(.ref a), (.ref a)])) rfl rfl (hb hby d_prog_50_method_2_code_31)
  have k682 : own_G p e below E0 T678 (mkF m 34 #[vr a, vi n, vd y, ss] [(.ref q), (.ref a)]) := fun tQ kk => k677 tQ (st681 _ kk)
  clear k677 st681
  have k683 : own_G p e below E0 T678 (mkF m 36 #[vr a, vi n, vd y, ss] [(.ref a), (.int (2 : Int32)), (.ref q), (.ref a)]) := by
    intro tQ kk
    refine k682 tQ ?_
    refine XS.iconst X679.here hx rfl (hb hby d_prog_50_method_2_code_34) ?_
    refine XS.aloadN X679.here hx rfl (hb hby d_prog_50_method_2_code_35) rfl rfl ?_
    exact kk
  clear k682
  obtain ⟨T684, X685, e686, st687⟩ := getF X679 hx hZ hown (host := "") (Or.inl (tw27 hw)) Via.refl e680 F671 (g := (mkF m 36 #[vr a, vi n, vd y, ss] [(.ref a), (.int (2 : Int32)), (.ref q), (.ref a)])) rfl rfl (hb hby d_prog_50_method_2_code_36)
  have k688 : own_G p e below E0 T684 (mkF m 39 #[vr a, vi n, vd y, ss] [(.int (4 : Int32)), (.int (2 : Int32)), (.ref q), (.ref a)]) := fun tQ kk => k683 tQ (st687 _ kk)
  clear k683 st687
  have k689 : own_G p e below E0 T684 (mkF m 40 #[vr a, vi n, vd y, ss] [(.int (8 : Int32)), (.ref q), (.ref a)]) := by
    intro tQ kk
    refine k688 tQ ?_
    refine XS.imul X685.here hx rfl (hb hby d_prog_50_method_2_code_39) rfl ?_
    exact kk
  clear k688
  obtain ⟨_, _, ⟨T690, L691, kc692, nc693⟩, -, X694, ⟨Lc695, hQ696, l697, y698, z699⟩, st700⟩ := Jvm.LawKit.callS X685 hx (y := mn10) hown (mvT hZ (tw53 hw)) (mvT hZ (tw54 hw)) (mvT hZ (tw43 hw)) (mvT hZ (tw55 hw)) (by decide) (backOf (W := 1) (rmCD l Z a0 hw [] q x0 x1 x2 x3 h661 n0 Z675 F673) hZ (tw55 hw) (tw43 hw) (by decide) (by decide)) (g := (mkF m 40 #[vr a, vi n, vd y, ss] [(.int (8 : Int32)), (.ref q), (.ref a)])) rfl (by rw [hml]; rfl) (argsL := [(.ref q), (.int (8 : Int32))]) (rest := [(.ref a)]) (lenOf pd_13 rfl) rfl (by show 2 * 0 + _ ≤ _; exact Nat.le_of_eq rfl) (hb hby d_prog_50_method_2_code_40) (fun _ _ => ⟨rfl, e686, (by decide : 1 + 1 ≤ _), (by decide : 8 + 8 ≤ _)⟩)
  dsimp only [Pt.U, Pt.locs, Pt.cells, Pt.slots] at X694 l697 y698 z699 st700 hQ696
  subst l697 y698 z699
  obtain ⟨r704, rfl, N701, K705, g706, nw707⟩ := hQ696
  have N708 := Fr.app N666 N701
  have ge709 : n0 ≤ r704 := Nat.le_trans Z675 nw707
  have nw710 : h0.size ≤ r704 := Nat.le_trans K676.1 nw707
  have n711 : a ≠ r704 := own_lt_ne2 F668.lt nw707
  have n712 : r ≠ r704 := own_lt_ne2 F672.lt nw707
  have n713 : q ≠ r704 := own_lt_ne2 F673.lt nw707
  have n714 : r641 ≠ r704 := own_lt_ne2 F674.lt nw707
  have Z715 : n0 ≤ T690.heap.size := Nat.le_trans Z675 K705.1
  have F716 : xa5 Z T690.heap a := F668.keep K705
  clear F668
  have F717 : fd2 Z T690.heap a (.ref r641) := F669.keep K705 nin0
  clear F669
  have F718 : fd3 Z T690.heap a (.ref q) := F670.keep K705 nin0
  clear F670
  have F719 : fd4 Z T690.heap a (.int (4 : Int32)) := F671.keep K705 nin0
  clear F671
  have F720 : own_A Z T690.heap r .int [(.int i0), (.int i1), (.int i2), (.int i3)] := F672.keep K705 nin0
  clear F672
  have F721 : own_A Z T690.heap q .double [(.double x0), (.double x1), (.double x2), (.double x3)] := F673.keep K705 nin0
  clear F673
  have F722 : own_A Z T690.heap r641 .int [(.int i0), (.int i1), (.int i2), (.int i3), (.int (0 : Int32)), (.int (0 : Int32)), (.int (0 : Int32)), (.int (0 : Int32))] := F674.keep K705 nin0
  clear F674
  have K723 : Keep h0 T690.heap [a] := K676.trans K705 all0
  have k724 : own_G p e below E0 T690 (mkF m 43 #[vr a, vi n, vd y, ss] [(.ref r704), (.ref a)]) := fun tQ kk => k689 tQ (st700 _ kk)
  clear k689 st700
  obtain ⟨T725, h726, X727, e728, W729, st730⟩ := putF X694 hx hZ hown (host := "") (Or.inl (tw20 hw)) Via.refl rfl F718 F716 (Or.inl (tw21 hw)) (tw9 hw) (ty := (.array .double)) (by decide) rfl rfl (g := (mkF m 43 #[vr a, vi n, vd y, ss] [(.ref r704), (.ref a)])) rfl rfl (hb hby d_prog_50_method_2_code_43)
  have N731 := Fr.snoc X727 N708 ge_a
  have k732 : own_G p e below E0 T725 (mkF m 46 #[vr a, vi n, vd y, ss] []) := fun tQ kk => k724 tQ (st730 _ kk)
  clear k724 st730
  have F733 : xa5 Z h726 a := F716.wr W729
  clear F716
  have F734 : fd2 Z h726 a (.ref r641) := F717.other W729 (Or.inr (slot_ne (C := "com/example/netloom/netloom/embed/SparseColumn") (Or.inl (tw19 hw)) (Or.inl (tw21 hw)) (by decide) (t := (.array .int)) (t' := (.array .double)) (by decide) (by decide)))
  clear F717
  have F735 : fd3 Z h726 a (.ref r704) := F718.same W729
  clear F718
  have F736 : fd4 Z h726 a (.int (4 : Int32)) := F719.other W729 (Or.inr (slot_ne (C := "com/example/netloom/netloom/embed/SparseColumn") (Or.inl (tw28 hw)) (Or.inl (tw21 hw)) (by decide) (t := .int) (t' := (.array .double)) (by decide) (by decide)))
  clear F719
  have F737 : own_A Z h726 r .int [(.int i0), (.int i1), (.int i2), (.int i3)] := F720.other W729 (fun q => n1 q.symm)
  clear F720
  have F738 : own_A Z h726 q .double [(.double x0), (.double x1), (.double x2), (.double x3)] := F721.other W729 (fun q => n2 q.symm)
  clear F721
  have F739 : own_A Z h726 r641 .int [(.int i0), (.int i1), (.int i2), (.int i3), (.int (0 : Int32)), (.int (0 : Int32)), (.int (0 : Int32)), (.int (0 : Int32))] := F722.other W729 (Ne.symm n648)
  clear F722
  have F740 : own_A Z h726 r704 .double [(.double x0), (.double x1), (.double x2), (.double x3), (.double (0 : UInt64)), (.double (0 : UInt64)), (.double (0 : UInt64)), (.double (0 : UInt64))] := g706.other W729 (Ne.symm n711)
  clear g706
  have Z741 : n0 ≤ h726.size := by rw [W729.size]; exact Z715
  have K742 : Keep h0 h726 [a] := K723.wr W729 (Or.inl (List.mem_of_getElem? (i := 0) rfl))
  have k743 : own_G p e below E0 T725 (mkF m 47 #[vr a, vi n, vd y, ss] [(.ref a)]) := by
    intro tQ kk
    refine k732 tQ ?_
    refine XS.aloadN X727.here hx rfl (hb hby d_prog_50_method_2_code_46) rfl rfl ?_
    exact kk
  clear k732
  obtain ⟨T744, X745, e746, st747⟩ := getF X727 hx hZ hown (host := "") (Or.inl (tw18 hw)) Via.refl e728 F734 (g := (mkF m 47 #[vr a, vi n, vd y, ss] [(.ref a)])) rfl rfl (hb hby d_prog_50_method_2_code_47)
  have k748 : own_G p e below E0 T744 (mkF m 50 #[vr a, vi n, vd y, ss] [(.ref r641)]) := fun tQ kk => k743 tQ (st747 _ kk)
  clear k743 st747
  have k749 : own_G p e below E0 T744 (mkF m 51 #[vr a, vi n, vd y, ss] [(.ref a), (.ref r641)]) := by
    intro tQ kk
    refine k748 tQ ?_
    refine XS.aloadN X745.here hx rfl (hb hby d_prog_50_method_2_code_50) rfl rfl ?_
    exact kk
  clear k748
  obtain ⟨T750, X751, e752, st753⟩ := getF X745 hx hZ hown (host := "") (Or.inl (tw27 hw)) Via.refl e746 F736 (g := (mkF m 51 #[vr a, vi n, vd y, ss] [(.ref a), (.ref r641)])) rfl rfl (hb hby d_prog_50_method_2_code_51)
  have k754 : own_G p e below E0 T750 (mkF m 54 #[vr a, vi n, vd y, ss] [(.int (4 : Int32)), (.ref r641)]) := fun tQ kk => k749 tQ (st753 _ kk)
  clear k749 st753
  have k755 : own_G p e below E0 T750 (mkF m 55 #[vr a, vi n, vd y, ss] [(.int n), (.int (4 : Int32)), (.ref r641)]) := by
    intro tQ kk
    refine k754 tQ ?_
    refine XS.iloadN X751.here hx rfl (hb hby d_prog_50_method_2_code_54) rfl ?_
    exact kk
  clear k754
  obtain ⟨T756, h757, X758, e759, W760, F761, st762⟩ := own_A.ist X751 hx hZ e752 F739 (j := (4 : Int32)) (by decide) rfl (g := (mkF m 55 #[vr a, vi n, vd y, ss] [(.int n), (.int (4 : Int32)), (.ref r641)])) rfl rfl (hb hby d_prog_50_method_2_code_55)
  have N763 := Fr.snoc X758 N731 ge646
  have k764 : own_G p e below E0 T756 (mkF m 56 #[vr a, vi n, vd y, ss] []) := fun tQ kk => k755 tQ (st762 _ kk)
  clear k755 st762
  have F765 : xa5 Z h757 a := F733.wr W760
  clear F733
  have F766 : fd2 Z h757 a (.ref r641) := F734.other W760 (Or.inl n648)
  clear F734
  have F767 : fd3 Z h757 a (.ref r704) := F735.other W760 (Or.inl n648)
  clear F735
  have F768 : fd4 Z h757 a (.int (4 : Int32)) := F736.other W760 (Or.inl n648)
  clear F736
  have F769 : own_A Z h757 r .int [(.int i0), (.int i1), (.int i2), (.int i3)] := F737.other W760 n649
  clear F737
  have F770 : own_A Z h757 q .double [(.double x0), (.double x1), (.double x2), (.double x3)] := F738.other W760 n650
  clear F738
  have F771 : own_A Z h757 r704 .double [(.double x0), (.double x1), (.double x2), (.double x3), (.double (0 : UInt64)), (.double (0 : UInt64)), (.double (0 : UInt64)), (.double (0 : UInt64))] := F740.other W760 (Ne.symm n714)
  clear F740
  have Z772 : n0 ≤ h757.size := by rw [W760.size]; exact Z741
  have K773 : Keep h0 h757 [a] := K742.wr W760 (Or.inr nw647)
  have F774 : own_A Z h757 r641 .int [(.int i0), (.int i1), (.int i2), (.int i3), (.int n), (.int (0 : Int32)), (.int (0 : Int32)), (.int (0 : Int32))] := F761
  have k775 : own_G p e below E0 T756 (mkF m 57 #[vr a, vi n, vd y, ss] [(.ref a)]) := by
    intro tQ kk
    refine k764 tQ ?_
    refine XS.aloadN X758.here hx rfl (hb hby d_prog_50_method_2_code_56) rfl rfl ?_
    exact kk
  clear k764
  obtain ⟨T776, X777, e778, st779⟩ := getF X758 hx hZ hown (host := "") (Or.inl (tw20 hw)) Via.refl e759 F767 (g := (mkF m 57 #[vr a, vi n, vd y, ss] [(.ref a)])) rfl rfl (hb hby d_prog_50_method_2_code_57)
  have k780 : own_G p e below E0 T776 (mkF m 60 #[vr a, vi n, vd y, ss] [(.ref r704)]) := fun tQ kk => k775 tQ (st779 _ kk)
  clear k775 st779
  have k781 : own_G p e below E0 T776 (mkF m 61 #[vr a, vi n, vd y, ss] [(.ref a), (.ref r704)]) := by
    intro tQ kk
    refine k780 tQ ?_
    refine XS.aloadN X777.here hx rfl (hb hby d_prog_50_method_2_code_60) rfl rfl ?_
    exact kk
  clear k780
  obtain ⟨T782, X783, e784, st785⟩ := getF X777 hx hZ hown (host := "") (Or.inl (tw27 hw)) Via.refl e778 F768 (g := (mkF m 61 #[vr a, vi n, vd y, ss] [(.ref a), (.ref r704)])) rfl rfl (hb hby d_prog_50_method_2_code_61)
  have k786 : own_G p e below E0 T782 (mkF m 64 #[vr a, vi n, vd y, ss] [(.int (4 : Int32)), (.ref r704)]) := fun tQ kk => k781 tQ (st785 _ kk)
  clear k781 st785
  have k787 : own_G p e below E0 T782 (mkF m 65 #[vr a, vi n, vd y, ss] [(.double y), (.int (4 : Int32)), (.ref r704)]) := by
    intro tQ kk
    refine k786 tQ ?_
    refine XS.dloadN X783.here hx rfl (hb hby d_prog_50_method_2_code_64) rfl ?_
    exact kk
  clear k786
  obtain ⟨T788, h789, X790, e791, W792, F793, st794⟩ := own_A.dst X783 hx hZ e784 F771 (j := (4 : Int32)) (by decide) rfl (g := (mkF m 65 #[vr a, vi n, vd y, ss] [(.double y), (.int (4 : Int32)), (.ref r704)])) rfl rfl (hb hby d_prog_50_method_2_code_65)
  have N795 := Fr.snoc X790 N763 ge709
  have k796 : own_G p e below E0 T788 (mkF m 66 #[vr a, vi n, vd y, ss] []) := fun tQ kk => k787 tQ (st794 _ kk)
  clear k787 st794
  have F797 : xa5 Z h789 a := F765.wr W792
  clear F765
  have F798 : fd2 Z h789 a (.ref r641) := F766.other W792 (Or.inl n711)
  clear F766
  have F799 : fd3 Z h789 a (.ref r704) := F767.other W792 (Or.inl n711)
  clear F767
  have F800 : fd4 Z h789 a (.int (4 : Int32)) := F768.other W792 (Or.inl n711)
  clear F768
  have F801 : own_A Z h789 r .int [(.int i0), (.int i1), (.int i2), (.int i3)] := F769.other W792 n712
  clear F769
  have F802 : own_A Z h789 q .double [(.double x0), (.double x1), (.double x2), (.double x3)] := F770.other W792 n713
  clear F770
  have F803 : own_A Z h789 r641 .int [(.int i0), (.int i1), (.int i2), (.int i3), (.int n), (.int (0 : Int32)), (.int (0 : Int32)), (.int (0 : Int32))] := F774.other W792 n714
  clear F774
  have Z804 : n0 ≤ h789.size := by rw [W792.size]; exact Z772
  have K805 : Keep h0 h789 [a] := K773.wr W792 (Or.inr nw710)
  have F806 : own_A Z h789 r704 .double [(.double x0), (.double x1), (.double x2), (.double x3), (.double y), (.double (0 : UInt64)), (.double (0 : UInt64)), (.double (0 : UInt64))] := F793
  have k807 : own_G p e below E0 T788 (mkF m 68 #[vr a, vi n, vd y, ss] [(.ref a), (.ref a)]) := by
    intro tQ kk
    refine k796 tQ ?_
    refine XS.aloadN X790.here hx rfl (hb hby d_prog_50_method_2_code_66) rfl rfl ?_
    refine XS.dup X790.here hx rfl (hb hby d_prog_50_method_2_code_67) rfl rfl ?_
    exact kk
  clear k796
  obtain ⟨T808, X809, e810, st811⟩ := getF X790 hx hZ hown (host := "") (Or.inl (tw27 hw)) Via.refl e791 F800 (g := (mkF m 68 #[vr a, vi n, vd y, ss] [(.ref a), (.ref a)])) rfl rfl (hb hby d_prog_50_method_2_code_68)
  have k812 : own_G p e below E0 T808 (mkF m 71 #[vr a, vi n, vd y, ss] [(.int (4 : Int32)), (.ref a)]) := fun tQ kk => k807 tQ (st811 _ kk)
  clear k807 st811
  have k813 : own_G p e below E0 T808 (mkF m 73 #[vr a, vi n, vd y, ss] [(.int (5 : Int32)), (.ref a)]) := by
    intro tQ kk
    refine k812 tQ ?_
    refine XS.iconst X809.here hx rfl (hb hby d_prog_50_method_2_code_71) ?_
    refine XS.iadd X809.here hx rfl (hb hby d_prog_50_method_2_code_72) rfl ?_
    exact kk
  clear k812
  obtain ⟨T814, h815, X816, e817, W818, st819⟩ := putF X809 hx hZ hown (host := "") (Or.inl (tw27 hw)) Via.refl e810 F800 F797 (Or.inl (tw28 hw)) (tw9 hw) (ty := .int) (by decide) rfl rfl (g := (mkF m 73 #[vr a, vi n, vd y, ss] [(.int (5 : Int32)), (.ref a)])) rfl rfl (hb hby d_prog_50_method_2_code_73)
  have N820 := Fr.snoc X816 N795 ge_a
  have k821 : own_G p e below E0 T814 (mkF m 76 #[vr a, vi n, vd y, ss] []) := fun tQ kk => k813 tQ (st819 _ kk)
  clear k813 st819
  have F822 : xa5 Z h815 a := F797.wr W818
  clear F797
  have F823 : fd2 Z h815 a (.ref r641) := F798.other W818 (Or.inr (slot_ne (C := "com/example/netloom/netloom/embed/SparseColumn") (Or.inl (tw19 hw)) (Or.inl (tw28 hw)) (by decide) (t := (.array .int)) (t' := .int) (by decide) (by decide)))
  clear F798
  have F824 : fd3 Z h815 a (.ref r704) := F799.other W818 (Or.inr (slot_ne (C := "com/example/netloom/netloom/embed/SparseColumn") (Or.inl (tw21 hw)) (Or.inl (tw28 hw)) (by decide) (t := (.array .double)) (t' := .int) (by decide) (by decide)))
  clear F799
  have F825 : fd4 Z h815 a (.int (5 : Int32)) := F800.same W818
  clear F800
  have F826 : own_A Z h815 r .int [(.int i0), (.int i1), (.int i2), (.int i3)] := F801.other W818 (fun q => n1 q.symm)
  clear F801
  have F827 : own_A Z h815 q .double [(.double x0), (.double x1), (.double x2), (.double x3)] := F802.other W818 (fun q => n2 q.symm)
  clear F802
  have F828 : own_A Z h815 r641 .int [(.int i0), (.int i1), (.int i2), (.int i3), (.int n), (.int (0 : Int32)), (.int (0 : Int32)), (.int (0 : Int32))] := F803.other W818 (Ne.symm n648)
  clear F803
  have F829 : own_A Z h815 r704 .double [(.double x0), (.double x1), (.double x2), (.double x3), (.double y), (.double (0 : UInt64)), (.double (0 : UInt64)), (.double (0 : UInt64))] := F806.other W818 (Ne.symm n711)
  clear F806
  have Z830 : n0 ≤ h815.size := by rw [W818.size]; exact Z804
  have K831 : Keep h0 h815 [a] := K805.wr W818 (Or.inl (List.mem_of_getElem? (i := 0) rfl))
  obtain ⟨fs, hr, hrun, hended, hW, hsame⟩ := X816.leave (v := none) (fun _ => rfl)
  have hrun0 := k821 _ (X816.returnOut hx Bd.returns (hb hby d_prog_50_method_2_code_76) hr)
  subst hE0
  refine ⟨_, _, hrun0, hrun, hended, _, _, rfl, ?_, ⟨_, rfl⟩, hW, hsame.mono (by decide) (by decide)⟩
  show QrmA4 Z a n y r q i0 i1 i2 i3 x0 x1 x2 x3 h0 n0 _ T814.heap _
  rw [e817]
  exact ⟨r641, r704, rfl, N820, K831, F823, F824, F825, F828, F829, nw647, nw710, n714⟩
def QrmO0 (Z : State) (co : Addr) (ro : Int64) (va : Int64) (bA : Addr) (r : Addr) (q : Addr) (i0 : Int32) (i1 : Int32) (i2 : Int32) (i3 : Int32) (x0 : UInt64) (x1 : UInt64) (x2 : UInt64) (x3 : UInt64) (b0 : Int64) (b1 : Int64) (b2 : Int64) (b3 : Int64) (h0 : Heap) (n0 : Nat) (vQ : Option Value) (hQ : Heap) (LQ : List Loc) : Prop := vQ = some (.long ((own_val va (0 : Int32)).toInt64 * (own_sel b0 b1 b2 b3 (own_row ro (0 : Int32))))) ∧ Fr n0 LQ ∧ Keep h0 hQ [co, r, q] ∧ (fd2 Z hQ co (.ref r)) ∧ (fd3 Z hQ co (.ref q)) ∧ (fd4 Z hQ co (.int (1 : Int32))) ∧ (own_A Z hQ r .int [(.int (own_row ro (0 : Int32))), (.int i1), (.int i2), (.int i3)]) ∧ (own_A Z hQ q .double [(.double (FP.i2d (own_val va (0 : Int32)))), (.double x1), (.double x2), (.double x3)])
theorem ef_rmO0 (m : MethodId) (co : Addr) (ro : Int64) (va : Int64) (bA : Addr) (r : Addr) (q : Addr) (i0 : Int32) (i1 : Int32) (i2 : Int32) (i3 : Int32) (x0 : UInt64) (x1 : UInt64) (x2 : UInt64) (x3 : UInt64) (b0 : Int64) (b1 : Int64) (b2 : Int64) (b3 : Int64) : entryFrame m #[(.ref co), (.long ro), (.long va), (.ref bA), (.int (0 : Int32))] 9 = mkF m 0 #[vr co, vj ro, ss, vj va, ss, vr bA, vi (0 : Int32), uu, uu] [] := by first | (simp [entryFrame, mkF, argsToLocals, Value.category]; done) | rfl
abbrev mn14 : MethodName := ⟨"com/example/netloom/netloom/embed/SparseColumnDotPinLaw", "addOne", "(Lcom/example/netloom/netloom/embed/SparseColumn;JJ[JI)J"⟩
theorem d_method_4_code_0 : decode method_4_code 0 = .ok (.lload_n 1, 1) := by decide +kernel
theorem d_method_4_code_1 : decode method_4_code 1 = .ok (.iload 6, 2) := by decide +kernel
theorem d_method_4_code_3 : decode method_4_code 3 = .ok (.invokestatic 11, 3) := by decide +kernel
def tw32 {Z : State} {a0 : Array Value} (hw : ∀ d ∈ tables_1, d.before a0 Z = true) := hw _ (List.mem_of_getElem? (i := 32) rfl)
def tw34 {Z : State} {a0 : Array Value} (hw : ∀ d ∈ tables_1, d.before a0 Z = true) := hw _ (List.mem_of_getElem? (i := 34) rfl)
def tw4 {Z : State} {a0 : Array Value} (hw : ∀ d ∈ tables_1, d.before a0 Z = true) := hw _ (List.mem_of_getElem? (i := 4) rfl)
theorem pd_15 : parseMethodDescriptor "(JI)I" = some ⟨[.long, .int], some .int⟩ := by decide +kernel
def tw33 {Z : State} {a0 : Array Value} (hw : ∀ d ∈ tables_1, d.before a0 Z = true) := hw _ (List.mem_of_getElem? (i := 33) rfl)
theorem d_method_4_code_6 : decode method_4_code 6 = .ok (.istore 7, 2) := by decide +kernel
theorem d_method_4_code_8 : decode method_4_code 8 = .ok (.lload_n 3, 1) := by decide +kernel
theorem d_method_4_code_9 : decode method_4_code 9 = .ok (.iload 6, 2) := by decide +kernel
theorem d_method_4_code_11 : decode method_4_code 11 = .ok (.invokestatic 17, 3) := by decide +kernel
def tw2 {Z : State} {a0 : Array Value} (hw : ∀ d ∈ tables_1, d.before a0 Z = true) := hw _ (List.mem_of_getElem? (i := 2) rfl)
def tw5 {Z : State} {a0 : Array Value} (hw : ∀ d ∈ tables_1, d.before a0 Z = true) := hw _ (List.mem_of_getElem? (i := 5) rfl)
def tw3 {Z : State} {a0 : Array Value} (hw : ∀ d ∈ tables_1, d.before a0 Z = true) := hw _ (List.mem_of_getElem? (i := 3) rfl)
theorem d_method_4_code_14 : decode method_4_code 14 = .ok (.istore 8, 2) := by decide +kernel
theorem d_method_4_code_16 : decode method_4_code 16 = .ok (.aload_n 0, 1) := by decide +kernel
theorem d_method_4_code_17 : decode method_4_code 17 = .ok (.iload 7, 2) := by decide +kernel
theorem d_method_4_code_19 : decode method_4_code 19 = .ok (.iload 8, 2) := by decide +kernel
theorem d_method_4_code_21 : decode method_4_code 21 = .ok (.i2d, 1) := by decide +kernel
theorem d_method_4_code_22 : decode method_4_code 22 = .ok (.invokevirtual 20, 3) := by decide +kernel
def tw36 {Z : State} {a0 : Array Value} (hw : ∀ d ∈ tables_1, d.before a0 Z = true) := hw _ (List.mem_of_getElem? (i := 36) rfl)
def tw39 {Z : State} {a0 : Array Value} (hw : ∀ d ∈ tables_1, d.before a0 Z = true) := hw _ (List.mem_of_getElem? (i := 39) rfl)
def tw40 {Z : State} {a0 : Array Value} (hw : ∀ d ∈ tables_1, d.before a0 Z = true) := hw _ (List.mem_of_getElem? (i := 40) rfl)
def tw10 {Z : State} {a0 : Array Value} (hw : ∀ d ∈ tables_1, d.before a0 Z = true) := hw _ (List.mem_of_getElem? (i := 10) rfl)
theorem pd_16 : parseMethodDescriptor "(ID)V" = some ⟨[.int, .double], none⟩ := by decide +kernel
def tw37 {Z : State} {a0 : Array Value} (hw : ∀ d ∈ tables_1, d.before a0 Z = true) := hw _ (List.mem_of_getElem? (i := 37) rfl)
def tw38 {Z : State} {a0 : Array Value} (hw : ∀ d ∈ tables_1, d.before a0 Z = true) := hw _ (List.mem_of_getElem? (i := 38) rfl)
theorem d_method_4_code_25 : decode method_4_code 25 = .ok (.iload 8, 2) := by decide +kernel
theorem d_method_4_code_27 : decode method_4_code 27 = .ok (.i2l, 1) := by decide +kernel
theorem d_method_4_code_28 : decode method_4_code 28 = .ok (.aload 5, 2) := by decide +kernel
theorem d_method_4_code_30 : decode method_4_code 30 = .ok (.iload 7, 2) := by decide +kernel
theorem d_method_4_code_32 : decode method_4_code 32 = .ok (.laload, 1) := by decide +kernel
theorem d_method_4_code_33 : decode method_4_code 33 = .ok (.lmul, 1) := by decide +kernel
theorem d_method_4_code_34 : decode method_4_code 34 = .ok (.lreturn, 1) := by decide +kernel
set_option maxRecDepth 65536 in
set_option maxHeartbeats 40000000 in
theorem rmO0 (l : Launch) (Z : State) (a0 : Array Value) (hw : ∀ d ∈ tables_1, d.before a0 Z = true) (ws : List Jvm.Cond) (co : Addr) (ro : Int64) (va : Int64) (bA : Addr) (r : Addr) (q : Addr) (i0 : Int32) (i1 : Int32) (i2 : Int32) (i3 : Int32) (x0 : UInt64) (x1 : UInt64) (x2 : UInt64) (x3 : UInt64) (b0 : Int64) (b1 : Int64) (b2 : Int64) (b3 : Int64) (h0 : Heap) (n0 : Nat) (Z0 : n0 ≤ h0.size) (E1 : xa5 Z h0 co) (F1 : fd2 Z h0 co (.ref r)) (F2 : fd3 Z h0 co (.ref q)) (F3 : fd4 Z h0 co (.int (0 : Int32))) (A1 : own_A Z h0 r .int [(.int i0), (.int i1), (.int i2), (.int i3)]) (A2 : own_A Z h0 q .double [(.double x0), (.double x1), (.double x2), (.double x3)]) (A3 : own_A Z h0 bA .long [(.long b0), (.long b1), (.long b2), (.long b3)]) (n1 : co ≠ r) (n2 : co ≠ q) (n3 : r ≠ q) (n4 : bA ≠ co) (n5 : bA ≠ r) (n6 : bA ≠ q) (ge_co : n0 ≤ co) (ge_r : n0 ≤ r) (ge_q : n0 ≤ q) :
    MetFree l mn14 (head1 (Jvm.Cond.code mn14 method_4_code 9 (some .long) :: ws) ({ frames := 3, cells := 0, slots := 0, locals := 80 } : Room)) (fun aA U => aA = #[(.ref co), (.long ro), (.long va), (.ref bA), (.int (0 : Int32))] ∧ Z.Warmed39 U.vm ∧ U.heap = h0) (fun _ _ _ _ _ => True) (fun _ U o U' => ∃ vR LR, o = .returned vR ∧ QrmO0 Z co ro va bA r q i0 i1 i2 i3 x0 x1 x2 x3 b0 b1 b2 b3 h0 n0 vR U'.heap LR ∧ FrameEnd U o U' LR ({ frames := 3, cells := 0, slots := 0, locals := 80 } : Room).cells ({ frames := 3, cells := 0, slots := 0, locals := 80 } : Room).slots) := by
  refine MetFree.of_bodySF (plainFor_of_name pn_com_example_netloom_netloom_embed_SparseColumnDotPinLaw) hisR ?_
  intro p e s m args below meth c s₁ Bd hml0 hPre hKk
  obtain ⟨rfl, hZ, hh⟩ := hPre
  have hx := Bd.exec
  have hby := Bd.bytes
  have hml : c.maxLocals = 9 := hml0
  have hown : s.vm.findClass "com/example/netloom/netloom/embed/SparseColumnDotPinLaw" = some m.cls := findClass_of_methodNamed Bd.named
  have hnm := (name_of_methodNamed Bd.named Bd.method).1
  have X0 : Stand p l e ({ frames := 3, cells := 0, slots := 0, locals := 80 } : Room) s m #[(.ref co), (.long ro), (.long va), (.ref bA), (.int (0 : Int32))] below meth c s₁ [] 0 0 := Stand.of_body Bd
  have e0 : s₁.heap = h0 := by rw [← hh, Bd.state]; rfl
  have N0 := Fr.nil n0
  obtain ⟨E0, hE0⟩ : ∃ zE : State, zE = s₁.setTop (entryFrame m #[(.ref co), (.long ro), (.long va), (.ref bA), (.int (0 : Int32))] 9) := ⟨_, rfl⟩
  have k0 : own_G p e below E0 s₁ (mkF m 0 #[vr co, vj ro, ss, vj va, ss, vr bA, vi (0 : Int32), uu, uu] []) := fun tz kz => hE0 ▸ castTop (ef_rmO0 m co ro va bA r q i0 i1 i2 i3 x0 x1 x2 x3 b0 b1 b2 b3) kz
  have K0 : Keep h0 h0 [co, r, q] := Keep.refl _ _
  have k832 : own_G p e below E0 s₁ (mkF m 3 #[vr co, vj ro, ss, vj va, ss, vr bA, vi (0 : Int32), uu, uu] [(.int (0 : Int32)), (.long ro)]) := by
    intro tQ kk
    refine k0 tQ ?_
    refine XT.lloadN X0.here hx rfl (hb hby d_method_4_code_0) rfl ?_
    refine XS.iload X0.here hx rfl (hb hby d_method_4_code_1) rfl ?_
    exact kk
  clear k0
  obtain ⟨_, _, ⟨T833, L834, kc835, nc836⟩, -, X837, ⟨Lc838, hQ839, l840, y841, z842⟩, st843⟩ := Jvm.LawKit.callS X0 hx (y := mn1) hown (mvT hZ (tw32 hw)) (mvT hZ (tw33 hw)) (mvT hZ (tw4 hw)) (mvT hZ (tw34 hw)) (by decide) (backOf (W := 0) (rmRo l Z a0 hw [] ro (0 : Int32) h0 n0 Z0 ) hZ (tw34 hw) (tw4 hw) (by decide) (by decide)) (g := (mkF m 3 #[vr co, vj ro, ss, vj va, ss, vr bA, vi (0 : Int32), uu, uu] [(.int (0 : Int32)), (.long ro)])) rfl (by rw [hml]; rfl) (argsL := [(.long ro), (.int (0 : Int32))]) (rest := []) (lenOf pd_15 rfl) rfl (by show 2 * 0 + _ ≤ _; exact Nat.le_of_eq rfl) (hb hby d_method_4_code_3) (fun _ _ => ⟨rfl, e0, (by decide : 0 + 0 ≤ _), (by decide : 0 + 0 ≤ _)⟩)
  dsimp only [Pt.U, Pt.locs, Pt.cells, Pt.slots] at X837 l840 y841 z842 st843 hQ839
  subst l840 y841 z842
  obtain ⟨rfl, N844, e845⟩ := hQ839
  have N847 := Fr.app N0 N844
  have k848 : own_G p e below E0 T833 (mkF m 6 #[vr co, vj ro, ss, vj va, ss, vr bA, vi (0 : Int32), uu, uu] [(.int (own_row ro (0 : Int32)))]) := fun tQ kk => k832 tQ (st843 _ kk)
  clear k832 st843
  have k849 : own_G p e below E0 T833 (mkF m 11 #[vr co, vj ro, ss, vj va, ss, vr bA, vi (0 : Int32), vi (own_row ro (0 : Int32)), uu] [(.int (0 : Int32)), (.long va)]) := by
    intro tQ kk
    refine k848 tQ ?_
    refine XS.istore X837.here hx rfl (hb hby d_method_4_code_6) rfl (l' := #[vr co, vj ro, ss, vj va, ss, vr bA, vi (0 : Int32), vi (own_row ro (0 : Int32)), uu]) rfl ?_
    refine XT.lloadN X837.here hx rfl (hb hby d_method_4_code_8) rfl ?_
    refine XS.iload X837.here hx rfl (hb hby d_method_4_code_9) rfl ?_
    exact kk
  clear k848
  obtain ⟨_, _, ⟨T850, L851, kc852, nc853⟩, -, X854, ⟨Lc855, hQ856, l857, y858, z859⟩, st860⟩ := Jvm.LawKit.callS X837 hx (y := mn0) hown (mvT hZ (tw2 hw)) (mvT hZ (tw3 hw)) (mvT hZ (tw4 hw)) (mvT hZ (tw5 hw)) (by decide) (backOf (W := 0) (rmVa l Z a0 hw [] va (0 : Int32) h0 n0 Z0 ) hZ (tw5 hw) (tw4 hw) (by decide) (by decide)) (g := (mkF m 11 #[vr co, vj ro, ss, vj va, ss, vr bA, vi (0 : Int32), vi (own_row ro (0 : Int32)), uu] [(.int (0 : Int32)), (.long va)])) rfl (by rw [hml]; rfl) (argsL := [(.long va), (.int (0 : Int32))]) (rest := []) (lenOf pd_15 rfl) rfl (by show 2 * 0 + _ ≤ _; exact Nat.le_of_eq rfl) (hb hby d_method_4_code_11) (fun _ _ => ⟨rfl, e845, (by decide : 0 + 0 ≤ _), (by decide : 0 + 0 ≤ _)⟩)
  dsimp only [Pt.U, Pt.locs, Pt.cells, Pt.slots] at X854 l857 y858 z859 st860 hQ856
  subst l857 y858 z859
  obtain ⟨rfl, N861, e862⟩ := hQ856
  have N864 := Fr.app N847 N861
  have k865 : own_G p e below E0 T850 (mkF m 14 #[vr co, vj ro, ss, vj va, ss, vr bA, vi (0 : Int32), vi (own_row ro (0 : Int32)), uu] [(.int (own_val va (0 : Int32)))]) := fun tQ kk => k849 tQ (st860 _ kk)
  clear k849 st860
  have k866 : own_G p e below E0 T850 (mkF m 22 #[vr co, vj ro, ss, vj va, ss, vr bA, vi (0 : Int32), vi (own_row ro (0 : Int32)), vi (own_val va (0 : Int32))] [(.double (FP.i2d (own_val va (0 : Int32)))), (.int (own_row ro (0 : Int32))), (.ref co)]) := by
    intro tQ kk
    refine k865 tQ ?_
    refine XS.istore X854.here hx rfl (hb hby d_method_4_code_14) rfl (l' := #[vr co, vj ro, ss, vj va, ss, vr bA, vi (0 : Int32), vi (own_row ro (0 : Int32)), vi (own_val va (0 : Int32))]) rfl ?_
    refine XS.aloadN X854.here hx rfl (hb hby d_method_4_code_16) rfl rfl ?_
    refine XS.iload X854.here hx rfl (hb hby d_method_4_code_17) rfl ?_
    refine XS.iload X854.here hx rfl (hb hby d_method_4_code_19) rfl ?_
    show Steps p.tables e below (T850.setTop (mkF m 21 #[vr co, vj ro, ss, vj va, ss, vr bA, vi (0 : Int32), vi (own_row ro (0 : Int32)), vi (own_val va (0 : Int32))] [(.int (own_val va (0 : Int32))), (.int (own_row ro (0 : Int32))), (.ref co)])) tQ
    refine XS.i2dS X854.here hx rfl (hb hby d_method_4_code_21) rfl rfl ?_
    exact kk
  clear k865
  obtain ⟨cq878, kq879, qa880, qb881, qc882⟩ := isOf hZ e862 E1
  obtain ⟨_, _, ⟨T867, L868, kc869, nc870⟩, -, X871, ⟨Lc872, hQ873, l874, y875, z876⟩, st877⟩ := X854.virtualBack hx (y := mn11) (z := mn11) hown (mvT hZ (tw36 hw)) (mvT hZ (tw37 hw)) (notFace_of_selects (args := #[]) (mvT hZ (tw39 hw))) (mvT hZ (tw39 hw)) (mvT hZ (tw38 hw)) (by decide) (backOf (W := 0) (rmA0 l Z a0 hw [] co (own_row ro (0 : Int32)) (FP.i2d (own_val va (0 : Int32))) r q i0 i1 i2 i3 x0 x1 x2 x3 h0 n0 Z0 E1 F1 F2 F3 A1 A2 n1 n2 n3 ge_co ge_r ge_q) hZ (tw40 hw) (tw10 hw) (by decide) (by decide)) qa880 qc882 (g := (mkF m 22 #[vr co, vj ro, ss, vj va, ss, vr bA, vi (0 : Int32), vi (own_row ro (0 : Int32)), vi (own_val va (0 : Int32))] [(.double (FP.i2d (own_val va (0 : Int32)))), (.int (own_row ro (0 : Int32))), (.ref co)])) rfl (by rw [hml]; rfl) (Steps.refl _) (argsL := [(.int (own_row ro (0 : Int32))), (.double (FP.i2d (own_val va (0 : Int32))))]) (rest := []) (lenOf pd_16 rfl) rfl (by show 2 * 0 + _ ≤ _; exact Nat.le_of_eq rfl) (hb hby d_method_4_code_22) (fun _ _ => ⟨rfl, e862, (by decide : 0 + 0 ≤ _), (by decide : 0 + 0 ≤ _)⟩)
  dsimp only [Pt.U, Pt.locs, Pt.cells, Pt.slots] at X871 l874 y875 z876 st877 hQ873
  subst l874 y875 z876
  obtain ⟨rfl, N883, K886, g887, g888, g889, g890, g891⟩ := hQ873
  have N892 := Fr.app N864 N883
  have Z893 : n0 ≤ T867.heap.size := Nat.le_trans Z0 K886.1
  have F894 : xa5 Z T867.heap co := E1.keep K886
  clear E1
  clear F1
  clear F2
  clear F3
  clear A1
  clear A2
  have F900 : own_A Z T867.heap bA .long [(.long b0), (.long b1), (.long b2), (.long b3)] := A3.keep K886 (ninS n4 (ninS n5 (ninS n6 nin0)))
  clear A3
  have K901 : Keep h0 T867.heap [co, r, q] := K0.trans K886 (allS (Or.inl (List.mem_of_getElem? (i := 0) rfl)) (allS (Or.inl (List.mem_of_getElem? (i := 1) rfl)) (allS (Or.inl (List.mem_of_getElem? (i := 2) rfl)) all0)))
  have k902 : own_G p e below E0 T867 (mkF m 25 #[vr co, vj ro, ss, vj va, ss, vr bA, vi (0 : Int32), vi (own_row ro (0 : Int32)), vi (own_val va (0 : Int32))] []) := fun tQ kk => k866 tQ (st877.trans kk)
  clear k866 st877
  have k903 : own_G p e below E0 T867 (mkF m 32 #[vr co, vj ro, ss, vj va, ss, vr bA, vi (0 : Int32), vi (own_row ro (0 : Int32)), vi (own_val va (0 : Int32))] [(.int (own_row ro (0 : Int32))), (.ref bA), (.long ((own_val va (0 : Int32)).toInt64))]) := by
    intro tQ kk
    refine k902 tQ ?_
    refine XS.iload X871.here hx rfl (hb hby d_method_4_code_25) rfl ?_
    refine XT.i2l X871.here hx rfl (hb hby d_method_4_code_27) rfl ?_
    refine XS.aload X871.here hx rfl (hb hby d_method_4_code_28) rfl rfl ?_
    refine XS.iload X871.here hx rfl (hb hby d_method_4_code_30) rfl ?_
    exact kk
  clear k902
  have st904 := fun tQ => own_A.lld X871 hx hZ rfl F900 (j := (own_row ro (0 : Int32))) (v := (.long (own_sel b0 b1 b2 b3 (own_row ro (0 : Int32))))) (own_rown ro (0 : Int32)) (own_selp _ _ _ _ (own_rowc ro (0 : Int32))) (g := (mkF m 32 #[vr co, vj ro, ss, vj va, ss, vr bA, vi (0 : Int32), vi (own_row ro (0 : Int32)), vi (own_val va (0 : Int32))] [(.int (own_row ro (0 : Int32))), (.ref bA), (.long ((own_val va (0 : Int32)).toInt64))])) rfl rfl (hb hby d_method_4_code_32) tQ
  have k905 : own_G p e below E0 T867 (mkF m 33 #[vr co, vj ro, ss, vj va, ss, vr bA, vi (0 : Int32), vi (own_row ro (0 : Int32)), vi (own_val va (0 : Int32))] [(.long (own_sel b0 b1 b2 b3 (own_row ro (0 : Int32)))), (.long ((own_val va (0 : Int32)).toInt64))]) := fun tQ kk => k903 tQ (st904 _ kk)
  clear k903 st904
  have k906 : own_G p e below E0 T867 (mkF m 34 #[vr co, vj ro, ss, vj va, ss, vr bA, vi (0 : Int32), vi (own_row ro (0 : Int32)), vi (own_val va (0 : Int32))] [(.long (((own_val va (0 : Int32)).toInt64) * (own_sel b0 b1 b2 b3 (own_row ro (0 : Int32)))))]) := by
    intro tQ kk
    refine k905 tQ ?_
    refine XT.lmul X871.here hx rfl (hb hby d_method_4_code_33) rfl ?_
    exact kk
  clear k905
  obtain ⟨fs, hr, hrun, hended, hW, hsame⟩ := X871.leave (v := some (.long (((own_val va (0 : Int32)).toInt64) * (own_sel b0 b1 b2 b3 (own_row ro (0 : Int32)))))) (fun h => by rw [Bd.returns] at h; cases h)
  have hrun0 := k906 _ (retOut X871 hx Bd.returns (t := .long) rfl (Or.inr (Or.inl ⟨rfl, rfl, _, rfl⟩)) (hb hby d_method_4_code_34) hr)
  subst hE0
  refine ⟨_, _, hrun0, hrun, hended, _, _, rfl, ?_, ⟨_, rfl⟩, hW, hsame.mono (by decide) (by decide)⟩
  show QrmO0 Z co ro va bA r q i0 i1 i2 i3 x0 x1 x2 x3 b0 b1 b2 b3 h0 n0 _ T867.heap _
  exact ⟨rfl, N892, K901, g887, g888, g889, g890, g891⟩
def QrmO1 (Z : State) (co : Addr) (ro : Int64) (va : Int64) (bA : Addr) (r : Addr) (q : Addr) (i0 : Int32) (i1 : Int32) (i2 : Int32) (i3 : Int32) (x0 : UInt64) (x1 : UInt64) (x2 : UInt64) (x3 : UInt64) (b0 : Int64) (b1 : Int64) (b2 : Int64) (b3 : Int64) (h0 : Heap) (n0 : Nat) (vQ : Option Value) (hQ : Heap) (LQ : List Loc) : Prop := vQ = some (.long ((own_val va (1 : Int32)).toInt64 * (own_sel b0 b1 b2 b3 (own_row ro (1 : Int32))))) ∧ Fr n0 LQ ∧ Keep h0 hQ [co, r, q] ∧ (fd2 Z hQ co (.ref r)) ∧ (fd3 Z hQ co (.ref q)) ∧ (fd4 Z hQ co (.int (2 : Int32))) ∧ (own_A Z hQ r .int [(.int i0), (.int (own_row ro (1 : Int32))), (.int i2), (.int i3)]) ∧ (own_A Z hQ q .double [(.double x0), (.double (FP.i2d (own_val va (1 : Int32)))), (.double x2), (.double x3)])
theorem ef_rmO1 (m : MethodId) (co : Addr) (ro : Int64) (va : Int64) (bA : Addr) (r : Addr) (q : Addr) (i0 : Int32) (i1 : Int32) (i2 : Int32) (i3 : Int32) (x0 : UInt64) (x1 : UInt64) (x2 : UInt64) (x3 : UInt64) (b0 : Int64) (b1 : Int64) (b2 : Int64) (b3 : Int64) : entryFrame m #[(.ref co), (.long ro), (.long va), (.ref bA), (.int (1 : Int32))] 9 = mkF m 0 #[vr co, vj ro, ss, vj va, ss, vr bA, vi (1 : Int32), uu, uu] [] := by first | (simp [entryFrame, mkF, argsToLocals, Value.category]; done) | rfl
set_option maxRecDepth 65536 in
set_option maxHeartbeats 40000000 in
theorem rmO1 (l : Launch) (Z : State) (a0 : Array Value) (hw : ∀ d ∈ tables_1, d.before a0 Z = true) (ws : List Jvm.Cond) (co : Addr) (ro : Int64) (va : Int64) (bA : Addr) (r : Addr) (q : Addr) (i0 : Int32) (i1 : Int32) (i2 : Int32) (i3 : Int32) (x0 : UInt64) (x1 : UInt64) (x2 : UInt64) (x3 : UInt64) (b0 : Int64) (b1 : Int64) (b2 : Int64) (b3 : Int64) (h0 : Heap) (n0 : Nat) (Z0 : n0 ≤ h0.size) (E1 : xa5 Z h0 co) (F1 : fd2 Z h0 co (.ref r)) (F2 : fd3 Z h0 co (.ref q)) (F3 : fd4 Z h0 co (.int (1 : Int32))) (A1 : own_A Z h0 r .int [(.int i0), (.int i1), (.int i2), (.int i3)]) (A2 : own_A Z h0 q .double [(.double x0), (.double x1), (.double x2), (.double x3)]) (A3 : own_A Z h0 bA .long [(.long b0), (.long b1), (.long b2), (.long b3)]) (n1 : co ≠ r) (n2 : co ≠ q) (n3 : r ≠ q) (n4 : bA ≠ co) (n5 : bA ≠ r) (n6 : bA ≠ q) (ge_co : n0 ≤ co) (ge_r : n0 ≤ r) (ge_q : n0 ≤ q) :
    MetFree l mn14 (head1 (Jvm.Cond.code mn14 method_4_code 9 (some .long) :: ws) ({ frames := 3, cells := 0, slots := 0, locals := 80 } : Room)) (fun aA U => aA = #[(.ref co), (.long ro), (.long va), (.ref bA), (.int (1 : Int32))] ∧ Z.Warmed39 U.vm ∧ U.heap = h0) (fun _ _ _ _ _ => True) (fun _ U o U' => ∃ vR LR, o = .returned vR ∧ QrmO1 Z co ro va bA r q i0 i1 i2 i3 x0 x1 x2 x3 b0 b1 b2 b3 h0 n0 vR U'.heap LR ∧ FrameEnd U o U' LR ({ frames := 3, cells := 0, slots := 0, locals := 80 } : Room).cells ({ frames := 3, cells := 0, slots := 0, locals := 80 } : Room).slots) := by
  refine MetFree.of_bodySF (plainFor_of_name pn_com_example_netloom_netloom_embed_SparseColumnDotPinLaw) hisR ?_
  intro p e s m args below meth c s₁ Bd hml0 hPre hKk
  obtain ⟨rfl, hZ, hh⟩ := hPre
  have hx := Bd.exec
  have hby := Bd.bytes
  have hml : c.maxLocals = 9 := hml0
  have hown : s.vm.findClass "com/example/netloom/netloom/embed/SparseColumnDotPinLaw" = some m.cls := findClass_of_methodNamed Bd.named
  have hnm := (name_of_methodNamed Bd.named Bd.method).1
  have X0 : Stand p l e ({ frames := 3, cells := 0, slots := 0, locals := 80 } : Room) s m #[(.ref co), (.long ro), (.long va), (.ref bA), (.int (1 : Int32))] below meth c s₁ [] 0 0 := Stand.of_body Bd
  have e0 : s₁.heap = h0 := by rw [← hh, Bd.state]; rfl
  have N0 := Fr.nil n0
  obtain ⟨E0, hE0⟩ : ∃ zE : State, zE = s₁.setTop (entryFrame m #[(.ref co), (.long ro), (.long va), (.ref bA), (.int (1 : Int32))] 9) := ⟨_, rfl⟩
  have k0 : own_G p e below E0 s₁ (mkF m 0 #[vr co, vj ro, ss, vj va, ss, vr bA, vi (1 : Int32), uu, uu] []) := fun tz kz => hE0 ▸ castTop (ef_rmO1 m co ro va bA r q i0 i1 i2 i3 x0 x1 x2 x3 b0 b1 b2 b3) kz
  have K0 : Keep h0 h0 [co, r, q] := Keep.refl _ _
  have k907 : own_G p e below E0 s₁ (mkF m 3 #[vr co, vj ro, ss, vj va, ss, vr bA, vi (1 : Int32), uu, uu] [(.int (1 : Int32)), (.long ro)]) := by
    intro tQ kk
    refine k0 tQ ?_
    refine XT.lloadN X0.here hx rfl (hb hby d_method_4_code_0) rfl ?_
    refine XS.iload X0.here hx rfl (hb hby d_method_4_code_1) rfl ?_
    exact kk
  clear k0
  obtain ⟨_, _, ⟨T908, L909, kc910, nc911⟩, -, X912, ⟨Lc913, hQ914, l915, y916, z917⟩, st918⟩ := Jvm.LawKit.callS X0 hx (y := mn1) hown (mvT hZ (tw32 hw)) (mvT hZ (tw33 hw)) (mvT hZ (tw4 hw)) (mvT hZ (tw34 hw)) (by decide) (backOf (W := 0) (rmRo l Z a0 hw [] ro (1 : Int32) h0 n0 Z0 ) hZ (tw34 hw) (tw4 hw) (by decide) (by decide)) (g := (mkF m 3 #[vr co, vj ro, ss, vj va, ss, vr bA, vi (1 : Int32), uu, uu] [(.int (1 : Int32)), (.long ro)])) rfl (by rw [hml]; rfl) (argsL := [(.long ro), (.int (1 : Int32))]) (rest := []) (lenOf pd_15 rfl) rfl (by show 2 * 0 + _ ≤ _; exact Nat.le_of_eq rfl) (hb hby d_method_4_code_3) (fun _ _ => ⟨rfl, e0, (by decide : 0 + 0 ≤ _), (by decide : 0 + 0 ≤ _)⟩)
  dsimp only [Pt.U, Pt.locs, Pt.cells, Pt.slots] at X912 l915 y916 z917 st918 hQ914
  subst l915 y916 z917
  obtain ⟨rfl, N919, e920⟩ := hQ914
  have N922 := Fr.app N0 N919
  have k923 : own_G p e below E0 T908 (mkF m 6 #[vr co, vj ro, ss, vj va, ss, vr bA, vi (1 : Int32), uu, uu] [(.int (own_row ro (1 : Int32)))]) := fun tQ kk => k907 tQ (st918 _ kk)
  clear k907 st918
  have k924 : own_G p e below E0 T908 (mkF m 11 #[vr co, vj ro, ss, vj va, ss, vr bA, vi (1 : Int32), vi (own_row ro (1 : Int32)), uu] [(.int (1 : Int32)), (.long va)]) := by
    intro tQ kk
    refine k923 tQ ?_
    refine XS.istore X912.here hx rfl (hb hby d_method_4_code_6) rfl (l' := #[vr co, vj ro, ss, vj va, ss, vr bA, vi (1 : Int32), vi (own_row ro (1 : Int32)), uu]) rfl ?_
    refine XT.lloadN X912.here hx rfl (hb hby d_method_4_code_8) rfl ?_
    refine XS.iload X912.here hx rfl (hb hby d_method_4_code_9) rfl ?_
    exact kk
  clear k923
  obtain ⟨_, _, ⟨T925, L926, kc927, nc928⟩, -, X929, ⟨Lc930, hQ931, l932, y933, z934⟩, st935⟩ := Jvm.LawKit.callS X912 hx (y := mn0) hown (mvT hZ (tw2 hw)) (mvT hZ (tw3 hw)) (mvT hZ (tw4 hw)) (mvT hZ (tw5 hw)) (by decide) (backOf (W := 0) (rmVa l Z a0 hw [] va (1 : Int32) h0 n0 Z0 ) hZ (tw5 hw) (tw4 hw) (by decide) (by decide)) (g := (mkF m 11 #[vr co, vj ro, ss, vj va, ss, vr bA, vi (1 : Int32), vi (own_row ro (1 : Int32)), uu] [(.int (1 : Int32)), (.long va)])) rfl (by rw [hml]; rfl) (argsL := [(.long va), (.int (1 : Int32))]) (rest := []) (lenOf pd_15 rfl) rfl (by show 2 * 0 + _ ≤ _; exact Nat.le_of_eq rfl) (hb hby d_method_4_code_11) (fun _ _ => ⟨rfl, e920, (by decide : 0 + 0 ≤ _), (by decide : 0 + 0 ≤ _)⟩)
  dsimp only [Pt.U, Pt.locs, Pt.cells, Pt.slots] at X929 l932 y933 z934 st935 hQ931
  subst l932 y933 z934
  obtain ⟨rfl, N936, e937⟩ := hQ931
  have N939 := Fr.app N922 N936
  have k940 : own_G p e below E0 T925 (mkF m 14 #[vr co, vj ro, ss, vj va, ss, vr bA, vi (1 : Int32), vi (own_row ro (1 : Int32)), uu] [(.int (own_val va (1 : Int32)))]) := fun tQ kk => k924 tQ (st935 _ kk)
  clear k924 st935
  have k941 : own_G p e below E0 T925 (mkF m 22 #[vr co, vj ro, ss, vj va, ss, vr bA, vi (1 : Int32), vi (own_row ro (1 : Int32)), vi (own_val va (1 : Int32))] [(.double (FP.i2d (own_val va (1 : Int32)))), (.int (own_row ro (1 : Int32))), (.ref co)]) := by
    intro tQ kk
    refine k940 tQ ?_
    refine XS.istore X929.here hx rfl (hb hby d_method_4_code_14) rfl (l' := #[vr co, vj ro, ss, vj va, ss, vr bA, vi (1 : Int32), vi (own_row ro (1 : Int32)), vi (own_val va (1 : Int32))]) rfl ?_
    refine XS.aloadN X929.here hx rfl (hb hby d_method_4_code_16) rfl rfl ?_
    refine XS.iload X929.here hx rfl (hb hby d_method_4_code_17) rfl ?_
    refine XS.iload X929.here hx rfl (hb hby d_method_4_code_19) rfl ?_
    show Steps p.tables e below (T925.setTop (mkF m 21 #[vr co, vj ro, ss, vj va, ss, vr bA, vi (1 : Int32), vi (own_row ro (1 : Int32)), vi (own_val va (1 : Int32))] [(.int (own_val va (1 : Int32))), (.int (own_row ro (1 : Int32))), (.ref co)])) tQ
    refine XS.i2dS X929.here hx rfl (hb hby d_method_4_code_21) rfl rfl ?_
    exact kk
  clear k940
  obtain ⟨cq953, kq954, qa955, qb956, qc957⟩ := isOf hZ e937 E1
  obtain ⟨_, _, ⟨T942, L943, kc944, nc945⟩, -, X946, ⟨Lc947, hQ948, l949, y950, z951⟩, st952⟩ := X929.virtualBack hx (y := mn11) (z := mn11) hown (mvT hZ (tw36 hw)) (mvT hZ (tw37 hw)) (notFace_of_selects (args := #[]) (mvT hZ (tw39 hw))) (mvT hZ (tw39 hw)) (mvT hZ (tw38 hw)) (by decide) (backOf (W := 0) (rmA1 l Z a0 hw [] co (own_row ro (1 : Int32)) (FP.i2d (own_val va (1 : Int32))) r q i0 i1 i2 i3 x0 x1 x2 x3 h0 n0 Z0 E1 F1 F2 F3 A1 A2 n1 n2 n3 ge_co ge_r ge_q) hZ (tw40 hw) (tw10 hw) (by decide) (by decide)) qa955 qc957 (g := (mkF m 22 #[vr co, vj ro, ss, vj va, ss, vr bA, vi (1 : Int32), vi (own_row ro (1 : Int32)), vi (own_val va (1 : Int32))] [(.double (FP.i2d (own_val va (1 : Int32)))), (.int (own_row ro (1 : Int32))), (.ref co)])) rfl (by rw [hml]; rfl) (Steps.refl _) (argsL := [(.int (own_row ro (1 : Int32))), (.double (FP.i2d (own_val va (1 : Int32))))]) (rest := []) (lenOf pd_16 rfl) rfl (by show 2 * 0 + _ ≤ _; exact Nat.le_of_eq rfl) (hb hby d_method_4_code_22) (fun _ _ => ⟨rfl, e937, (by decide : 0 + 0 ≤ _), (by decide : 0 + 0 ≤ _)⟩)
  dsimp only [Pt.U, Pt.locs, Pt.cells, Pt.slots] at X946 l949 y950 z951 st952 hQ948
  subst l949 y950 z951
  obtain ⟨rfl, N958, K961, g962, g963, g964, g965, g966⟩ := hQ948
  have N967 := Fr.app N939 N958
  have Z968 : n0 ≤ T942.heap.size := Nat.le_trans Z0 K961.1
  have F969 : xa5 Z T942.heap co := E1.keep K961
  clear E1
  clear F1
  clear F2
  clear F3
  clear A1
  clear A2
  have F975 : own_A Z T942.heap bA .long [(.long b0), (.long b1), (.long b2), (.long b3)] := A3.keep K961 (ninS n4 (ninS n5 (ninS n6 nin0)))
  clear A3
  have K976 : Keep h0 T942.heap [co, r, q] := K0.trans K961 (allS (Or.inl (List.mem_of_getElem? (i := 0) rfl)) (allS (Or.inl (List.mem_of_getElem? (i := 1) rfl)) (allS (Or.inl (List.mem_of_getElem? (i := 2) rfl)) all0)))
  have k977 : own_G p e below E0 T942 (mkF m 25 #[vr co, vj ro, ss, vj va, ss, vr bA, vi (1 : Int32), vi (own_row ro (1 : Int32)), vi (own_val va (1 : Int32))] []) := fun tQ kk => k941 tQ (st952.trans kk)
  clear k941 st952
  have k978 : own_G p e below E0 T942 (mkF m 32 #[vr co, vj ro, ss, vj va, ss, vr bA, vi (1 : Int32), vi (own_row ro (1 : Int32)), vi (own_val va (1 : Int32))] [(.int (own_row ro (1 : Int32))), (.ref bA), (.long ((own_val va (1 : Int32)).toInt64))]) := by
    intro tQ kk
    refine k977 tQ ?_
    refine XS.iload X946.here hx rfl (hb hby d_method_4_code_25) rfl ?_
    refine XT.i2l X946.here hx rfl (hb hby d_method_4_code_27) rfl ?_
    refine XS.aload X946.here hx rfl (hb hby d_method_4_code_28) rfl rfl ?_
    refine XS.iload X946.here hx rfl (hb hby d_method_4_code_30) rfl ?_
    exact kk
  clear k977
  have st979 := fun tQ => own_A.lld X946 hx hZ rfl F975 (j := (own_row ro (1 : Int32))) (v := (.long (own_sel b0 b1 b2 b3 (own_row ro (1 : Int32))))) (own_rown ro (1 : Int32)) (own_selp _ _ _ _ (own_rowc ro (1 : Int32))) (g := (mkF m 32 #[vr co, vj ro, ss, vj va, ss, vr bA, vi (1 : Int32), vi (own_row ro (1 : Int32)), vi (own_val va (1 : Int32))] [(.int (own_row ro (1 : Int32))), (.ref bA), (.long ((own_val va (1 : Int32)).toInt64))])) rfl rfl (hb hby d_method_4_code_32) tQ
  have k980 : own_G p e below E0 T942 (mkF m 33 #[vr co, vj ro, ss, vj va, ss, vr bA, vi (1 : Int32), vi (own_row ro (1 : Int32)), vi (own_val va (1 : Int32))] [(.long (own_sel b0 b1 b2 b3 (own_row ro (1 : Int32)))), (.long ((own_val va (1 : Int32)).toInt64))]) := fun tQ kk => k978 tQ (st979 _ kk)
  clear k978 st979
  have k981 : own_G p e below E0 T942 (mkF m 34 #[vr co, vj ro, ss, vj va, ss, vr bA, vi (1 : Int32), vi (own_row ro (1 : Int32)), vi (own_val va (1 : Int32))] [(.long (((own_val va (1 : Int32)).toInt64) * (own_sel b0 b1 b2 b3 (own_row ro (1 : Int32)))))]) := by
    intro tQ kk
    refine k980 tQ ?_
    refine XT.lmul X946.here hx rfl (hb hby d_method_4_code_33) rfl ?_
    exact kk
  clear k980
  obtain ⟨fs, hr, hrun, hended, hW, hsame⟩ := X946.leave (v := some (.long (((own_val va (1 : Int32)).toInt64) * (own_sel b0 b1 b2 b3 (own_row ro (1 : Int32)))))) (fun h => by rw [Bd.returns] at h; cases h)
  have hrun0 := k981 _ (retOut X946 hx Bd.returns (t := .long) rfl (Or.inr (Or.inl ⟨rfl, rfl, _, rfl⟩)) (hb hby d_method_4_code_34) hr)
  subst hE0
  refine ⟨_, _, hrun0, hrun, hended, _, _, rfl, ?_, ⟨_, rfl⟩, hW, hsame.mono (by decide) (by decide)⟩
  show QrmO1 Z co ro va bA r q i0 i1 i2 i3 x0 x1 x2 x3 b0 b1 b2 b3 h0 n0 _ T942.heap _
  exact ⟨rfl, N967, K976, g962, g963, g964, g965, g966⟩
def QrmO2 (Z : State) (co : Addr) (ro : Int64) (va : Int64) (bA : Addr) (r : Addr) (q : Addr) (i0 : Int32) (i1 : Int32) (i2 : Int32) (i3 : Int32) (x0 : UInt64) (x1 : UInt64) (x2 : UInt64) (x3 : UInt64) (b0 : Int64) (b1 : Int64) (b2 : Int64) (b3 : Int64) (h0 : Heap) (n0 : Nat) (vQ : Option Value) (hQ : Heap) (LQ : List Loc) : Prop := vQ = some (.long ((own_val va (2 : Int32)).toInt64 * (own_sel b0 b1 b2 b3 (own_row ro (2 : Int32))))) ∧ Fr n0 LQ ∧ Keep h0 hQ [co, r, q] ∧ (fd2 Z hQ co (.ref r)) ∧ (fd3 Z hQ co (.ref q)) ∧ (fd4 Z hQ co (.int (3 : Int32))) ∧ (own_A Z hQ r .int [(.int i0), (.int i1), (.int (own_row ro (2 : Int32))), (.int i3)]) ∧ (own_A Z hQ q .double [(.double x0), (.double x1), (.double (FP.i2d (own_val va (2 : Int32)))), (.double x3)])
theorem ef_rmO2 (m : MethodId) (co : Addr) (ro : Int64) (va : Int64) (bA : Addr) (r : Addr) (q : Addr) (i0 : Int32) (i1 : Int32) (i2 : Int32) (i3 : Int32) (x0 : UInt64) (x1 : UInt64) (x2 : UInt64) (x3 : UInt64) (b0 : Int64) (b1 : Int64) (b2 : Int64) (b3 : Int64) : entryFrame m #[(.ref co), (.long ro), (.long va), (.ref bA), (.int (2 : Int32))] 9 = mkF m 0 #[vr co, vj ro, ss, vj va, ss, vr bA, vi (2 : Int32), uu, uu] [] := by first | (simp [entryFrame, mkF, argsToLocals, Value.category]; done) | rfl
set_option maxRecDepth 65536 in
set_option maxHeartbeats 40000000 in
theorem rmO2 (l : Launch) (Z : State) (a0 : Array Value) (hw : ∀ d ∈ tables_1, d.before a0 Z = true) (ws : List Jvm.Cond) (co : Addr) (ro : Int64) (va : Int64) (bA : Addr) (r : Addr) (q : Addr) (i0 : Int32) (i1 : Int32) (i2 : Int32) (i3 : Int32) (x0 : UInt64) (x1 : UInt64) (x2 : UInt64) (x3 : UInt64) (b0 : Int64) (b1 : Int64) (b2 : Int64) (b3 : Int64) (h0 : Heap) (n0 : Nat) (Z0 : n0 ≤ h0.size) (E1 : xa5 Z h0 co) (F1 : fd2 Z h0 co (.ref r)) (F2 : fd3 Z h0 co (.ref q)) (F3 : fd4 Z h0 co (.int (2 : Int32))) (A1 : own_A Z h0 r .int [(.int i0), (.int i1), (.int i2), (.int i3)]) (A2 : own_A Z h0 q .double [(.double x0), (.double x1), (.double x2), (.double x3)]) (A3 : own_A Z h0 bA .long [(.long b0), (.long b1), (.long b2), (.long b3)]) (n1 : co ≠ r) (n2 : co ≠ q) (n3 : r ≠ q) (n4 : bA ≠ co) (n5 : bA ≠ r) (n6 : bA ≠ q) (ge_co : n0 ≤ co) (ge_r : n0 ≤ r) (ge_q : n0 ≤ q) :
    MetFree l mn14 (head1 (Jvm.Cond.code mn14 method_4_code 9 (some .long) :: ws) ({ frames := 3, cells := 0, slots := 0, locals := 80 } : Room)) (fun aA U => aA = #[(.ref co), (.long ro), (.long va), (.ref bA), (.int (2 : Int32))] ∧ Z.Warmed39 U.vm ∧ U.heap = h0) (fun _ _ _ _ _ => True) (fun _ U o U' => ∃ vR LR, o = .returned vR ∧ QrmO2 Z co ro va bA r q i0 i1 i2 i3 x0 x1 x2 x3 b0 b1 b2 b3 h0 n0 vR U'.heap LR ∧ FrameEnd U o U' LR ({ frames := 3, cells := 0, slots := 0, locals := 80 } : Room).cells ({ frames := 3, cells := 0, slots := 0, locals := 80 } : Room).slots) := by
  refine MetFree.of_bodySF (plainFor_of_name pn_com_example_netloom_netloom_embed_SparseColumnDotPinLaw) hisR ?_
  intro p e s m args below meth c s₁ Bd hml0 hPre hKk
  obtain ⟨rfl, hZ, hh⟩ := hPre
  have hx := Bd.exec
  have hby := Bd.bytes
  have hml : c.maxLocals = 9 := hml0
  have hown : s.vm.findClass "com/example/netloom/netloom/embed/SparseColumnDotPinLaw" = some m.cls := findClass_of_methodNamed Bd.named
  have hnm := (name_of_methodNamed Bd.named Bd.method).1
  have X0 : Stand p l e ({ frames := 3, cells := 0, slots := 0, locals := 80 } : Room) s m #[(.ref co), (.long ro), (.long va), (.ref bA), (.int (2 : Int32))] below meth c s₁ [] 0 0 := Stand.of_body Bd
  have e0 : s₁.heap = h0 := by rw [← hh, Bd.state]; rfl
  have N0 := Fr.nil n0
  obtain ⟨E0, hE0⟩ : ∃ zE : State, zE = s₁.setTop (entryFrame m #[(.ref co), (.long ro), (.long va), (.ref bA), (.int (2 : Int32))] 9) := ⟨_, rfl⟩
  have k0 : own_G p e below E0 s₁ (mkF m 0 #[vr co, vj ro, ss, vj va, ss, vr bA, vi (2 : Int32), uu, uu] []) := fun tz kz => hE0 ▸ castTop (ef_rmO2 m co ro va bA r q i0 i1 i2 i3 x0 x1 x2 x3 b0 b1 b2 b3) kz
  have K0 : Keep h0 h0 [co, r, q] := Keep.refl _ _
  have k982 : own_G p e below E0 s₁ (mkF m 3 #[vr co, vj ro, ss, vj va, ss, vr bA, vi (2 : Int32), uu, uu] [(.int (2 : Int32)), (.long ro)]) := by
    intro tQ kk
    refine k0 tQ ?_
    refine XT.lloadN X0.here hx rfl (hb hby d_method_4_code_0) rfl ?_
    refine XS.iload X0.here hx rfl (hb hby d_method_4_code_1) rfl ?_
    exact kk
  clear k0
  obtain ⟨_, _, ⟨T983, L984, kc985, nc986⟩, -, X987, ⟨Lc988, hQ989, l990, y991, z992⟩, st993⟩ := Jvm.LawKit.callS X0 hx (y := mn1) hown (mvT hZ (tw32 hw)) (mvT hZ (tw33 hw)) (mvT hZ (tw4 hw)) (mvT hZ (tw34 hw)) (by decide) (backOf (W := 0) (rmRo l Z a0 hw [] ro (2 : Int32) h0 n0 Z0 ) hZ (tw34 hw) (tw4 hw) (by decide) (by decide)) (g := (mkF m 3 #[vr co, vj ro, ss, vj va, ss, vr bA, vi (2 : Int32), uu, uu] [(.int (2 : Int32)), (.long ro)])) rfl (by rw [hml]; rfl) (argsL := [(.long ro), (.int (2 : Int32))]) (rest := []) (lenOf pd_15 rfl) rfl (by show 2 * 0 + _ ≤ _; exact Nat.le_of_eq rfl) (hb hby d_method_4_code_3) (fun _ _ => ⟨rfl, e0, (by decide : 0 + 0 ≤ _), (by decide : 0 + 0 ≤ _)⟩)
  dsimp only [Pt.U, Pt.locs, Pt.cells, Pt.slots] at X987 l990 y991 z992 st993 hQ989
  subst l990 y991 z992
  obtain ⟨rfl, N994, e995⟩ := hQ989
  have N997 := Fr.app N0 N994
  have k998 : own_G p e below E0 T983 (mkF m 6 #[vr co, vj ro, ss, vj va, ss, vr bA, vi (2 : Int32), uu, uu] [(.int (own_row ro (2 : Int32)))]) := fun tQ kk => k982 tQ (st993 _ kk)
  clear k982 st993
  have k999 : own_G p e below E0 T983 (mkF m 11 #[vr co, vj ro, ss, vj va, ss, vr bA, vi (2 : Int32), vi (own_row ro (2 : Int32)), uu] [(.int (2 : Int32)), (.long va)]) := by
    intro tQ kk
    refine k998 tQ ?_
    refine XS.istore X987.here hx rfl (hb hby d_method_4_code_6) rfl (l' := #[vr co, vj ro, ss, vj va, ss, vr bA, vi (2 : Int32), vi (own_row ro (2 : Int32)), uu]) rfl ?_
    refine XT.lloadN X987.here hx rfl (hb hby d_method_4_code_8) rfl ?_
    refine XS.iload X987.here hx rfl (hb hby d_method_4_code_9) rfl ?_
    exact kk
  clear k998
  obtain ⟨_, _, ⟨T1000, L1001, kc1002, nc1003⟩, -, X1004, ⟨Lc1005, hQ1006, l1007, y1008, z1009⟩, st1010⟩ := Jvm.LawKit.callS X987 hx (y := mn0) hown (mvT hZ (tw2 hw)) (mvT hZ (tw3 hw)) (mvT hZ (tw4 hw)) (mvT hZ (tw5 hw)) (by decide) (backOf (W := 0) (rmVa l Z a0 hw [] va (2 : Int32) h0 n0 Z0 ) hZ (tw5 hw) (tw4 hw) (by decide) (by decide)) (g := (mkF m 11 #[vr co, vj ro, ss, vj va, ss, vr bA, vi (2 : Int32), vi (own_row ro (2 : Int32)), uu] [(.int (2 : Int32)), (.long va)])) rfl (by rw [hml]; rfl) (argsL := [(.long va), (.int (2 : Int32))]) (rest := []) (lenOf pd_15 rfl) rfl (by show 2 * 0 + _ ≤ _; exact Nat.le_of_eq rfl) (hb hby d_method_4_code_11) (fun _ _ => ⟨rfl, e995, (by decide : 0 + 0 ≤ _), (by decide : 0 + 0 ≤ _)⟩)
  dsimp only [Pt.U, Pt.locs, Pt.cells, Pt.slots] at X1004 l1007 y1008 z1009 st1010 hQ1006
  subst l1007 y1008 z1009
  obtain ⟨rfl, N1011, e1012⟩ := hQ1006
  have N1014 := Fr.app N997 N1011
  have k1015 : own_G p e below E0 T1000 (mkF m 14 #[vr co, vj ro, ss, vj va, ss, vr bA, vi (2 : Int32), vi (own_row ro (2 : Int32)), uu] [(.int (own_val va (2 : Int32)))]) := fun tQ kk => k999 tQ (st1010 _ kk)
  clear k999 st1010
  have k1016 : own_G p e below E0 T1000 (mkF m 22 #[vr co, vj ro, ss, vj va, ss, vr bA, vi (2 : Int32), vi (own_row ro (2 : Int32)), vi (own_val va (2 : Int32))] [(.double (FP.i2d (own_val va (2 : Int32)))), (.int (own_row ro (2 : Int32))), (.ref co)]) := by
    intro tQ kk
    refine k1015 tQ ?_
    refine XS.istore X1004.here hx rfl (hb hby d_method_4_code_14) rfl (l' := #[vr co, vj ro, ss, vj va, ss, vr bA, vi (2 : Int32), vi (own_row ro (2 : Int32)), vi (own_val va (2 : Int32))]) rfl ?_
    refine XS.aloadN X1004.here hx rfl (hb hby d_method_4_code_16) rfl rfl ?_
    refine XS.iload X1004.here hx rfl (hb hby d_method_4_code_17) rfl ?_
    refine XS.iload X1004.here hx rfl (hb hby d_method_4_code_19) rfl ?_
    show Steps p.tables e below (T1000.setTop (mkF m 21 #[vr co, vj ro, ss, vj va, ss, vr bA, vi (2 : Int32), vi (own_row ro (2 : Int32)), vi (own_val va (2 : Int32))] [(.int (own_val va (2 : Int32))), (.int (own_row ro (2 : Int32))), (.ref co)])) tQ
    refine XS.i2dS X1004.here hx rfl (hb hby d_method_4_code_21) rfl rfl ?_
    exact kk
  clear k1015
  obtain ⟨cq1028, kq1029, qa1030, qb1031, qc1032⟩ := isOf hZ e1012 E1
  obtain ⟨_, _, ⟨T1017, L1018, kc1019, nc1020⟩, -, X1021, ⟨Lc1022, hQ1023, l1024, y1025, z1026⟩, st1027⟩ := X1004.virtualBack hx (y := mn11) (z := mn11) hown (mvT hZ (tw36 hw)) (mvT hZ (tw37 hw)) (notFace_of_selects (args := #[]) (mvT hZ (tw39 hw))) (mvT hZ (tw39 hw)) (mvT hZ (tw38 hw)) (by decide) (backOf (W := 0) (rmA2 l Z a0 hw [] co (own_row ro (2 : Int32)) (FP.i2d (own_val va (2 : Int32))) r q i0 i1 i2 i3 x0 x1 x2 x3 h0 n0 Z0 E1 F1 F2 F3 A1 A2 n1 n2 n3 ge_co ge_r ge_q) hZ (tw40 hw) (tw10 hw) (by decide) (by decide)) qa1030 qc1032 (g := (mkF m 22 #[vr co, vj ro, ss, vj va, ss, vr bA, vi (2 : Int32), vi (own_row ro (2 : Int32)), vi (own_val va (2 : Int32))] [(.double (FP.i2d (own_val va (2 : Int32)))), (.int (own_row ro (2 : Int32))), (.ref co)])) rfl (by rw [hml]; rfl) (Steps.refl _) (argsL := [(.int (own_row ro (2 : Int32))), (.double (FP.i2d (own_val va (2 : Int32))))]) (rest := []) (lenOf pd_16 rfl) rfl (by show 2 * 0 + _ ≤ _; exact Nat.le_of_eq rfl) (hb hby d_method_4_code_22) (fun _ _ => ⟨rfl, e1012, (by decide : 0 + 0 ≤ _), (by decide : 0 + 0 ≤ _)⟩)
  dsimp only [Pt.U, Pt.locs, Pt.cells, Pt.slots] at X1021 l1024 y1025 z1026 st1027 hQ1023
  subst l1024 y1025 z1026
  obtain ⟨rfl, N1033, K1036, g1037, g1038, g1039, g1040, g1041⟩ := hQ1023
  have N1042 := Fr.app N1014 N1033
  have Z1043 : n0 ≤ T1017.heap.size := Nat.le_trans Z0 K1036.1
  have F1044 : xa5 Z T1017.heap co := E1.keep K1036
  clear E1
  clear F1
  clear F2
  clear F3
  clear A1
  clear A2
  have F1050 : own_A Z T1017.heap bA .long [(.long b0), (.long b1), (.long b2), (.long b3)] := A3.keep K1036 (ninS n4 (ninS n5 (ninS n6 nin0)))
  clear A3
  have K1051 : Keep h0 T1017.heap [co, r, q] := K0.trans K1036 (allS (Or.inl (List.mem_of_getElem? (i := 0) rfl)) (allS (Or.inl (List.mem_of_getElem? (i := 1) rfl)) (allS (Or.inl (List.mem_of_getElem? (i := 2) rfl)) all0)))
  have k1052 : own_G p e below E0 T1017 (mkF m 25 #[vr co, vj ro, ss, vj va, ss, vr bA, vi (2 : Int32), vi (own_row ro (2 : Int32)), vi (own_val va (2 : Int32))] []) := fun tQ kk => k1016 tQ (st1027.trans kk)
  clear k1016 st1027
  have k1053 : own_G p e below E0 T1017 (mkF m 32 #[vr co, vj ro, ss, vj va, ss, vr bA, vi (2 : Int32), vi (own_row ro (2 : Int32)), vi (own_val va (2 : Int32))] [(.int (own_row ro (2 : Int32))), (.ref bA), (.long ((own_val va (2 : Int32)).toInt64))]) := by
    intro tQ kk
    refine k1052 tQ ?_
    refine XS.iload X1021.here hx rfl (hb hby d_method_4_code_25) rfl ?_
    refine XT.i2l X1021.here hx rfl (hb hby d_method_4_code_27) rfl ?_
    refine XS.aload X1021.here hx rfl (hb hby d_method_4_code_28) rfl rfl ?_
    refine XS.iload X1021.here hx rfl (hb hby d_method_4_code_30) rfl ?_
    exact kk
  clear k1052
  have st1054 := fun tQ => own_A.lld X1021 hx hZ rfl F1050 (j := (own_row ro (2 : Int32))) (v := (.long (own_sel b0 b1 b2 b3 (own_row ro (2 : Int32))))) (own_rown ro (2 : Int32)) (own_selp _ _ _ _ (own_rowc ro (2 : Int32))) (g := (mkF m 32 #[vr co, vj ro, ss, vj va, ss, vr bA, vi (2 : Int32), vi (own_row ro (2 : Int32)), vi (own_val va (2 : Int32))] [(.int (own_row ro (2 : Int32))), (.ref bA), (.long ((own_val va (2 : Int32)).toInt64))])) rfl rfl (hb hby d_method_4_code_32) tQ
  have k1055 : own_G p e below E0 T1017 (mkF m 33 #[vr co, vj ro, ss, vj va, ss, vr bA, vi (2 : Int32), vi (own_row ro (2 : Int32)), vi (own_val va (2 : Int32))] [(.long (own_sel b0 b1 b2 b3 (own_row ro (2 : Int32)))), (.long ((own_val va (2 : Int32)).toInt64))]) := fun tQ kk => k1053 tQ (st1054 _ kk)
  clear k1053 st1054
  have k1056 : own_G p e below E0 T1017 (mkF m 34 #[vr co, vj ro, ss, vj va, ss, vr bA, vi (2 : Int32), vi (own_row ro (2 : Int32)), vi (own_val va (2 : Int32))] [(.long (((own_val va (2 : Int32)).toInt64) * (own_sel b0 b1 b2 b3 (own_row ro (2 : Int32)))))]) := by
    intro tQ kk
    refine k1055 tQ ?_
    refine XT.lmul X1021.here hx rfl (hb hby d_method_4_code_33) rfl ?_
    exact kk
  clear k1055
  obtain ⟨fs, hr, hrun, hended, hW, hsame⟩ := X1021.leave (v := some (.long (((own_val va (2 : Int32)).toInt64) * (own_sel b0 b1 b2 b3 (own_row ro (2 : Int32)))))) (fun h => by rw [Bd.returns] at h; cases h)
  have hrun0 := k1056 _ (retOut X1021 hx Bd.returns (t := .long) rfl (Or.inr (Or.inl ⟨rfl, rfl, _, rfl⟩)) (hb hby d_method_4_code_34) hr)
  subst hE0
  refine ⟨_, _, hrun0, hrun, hended, _, _, rfl, ?_, ⟨_, rfl⟩, hW, hsame.mono (by decide) (by decide)⟩
  show QrmO2 Z co ro va bA r q i0 i1 i2 i3 x0 x1 x2 x3 b0 b1 b2 b3 h0 n0 _ T1017.heap _
  exact ⟨rfl, N1042, K1051, g1037, g1038, g1039, g1040, g1041⟩
def QrmO3 (Z : State) (co : Addr) (ro : Int64) (va : Int64) (bA : Addr) (r : Addr) (q : Addr) (i0 : Int32) (i1 : Int32) (i2 : Int32) (i3 : Int32) (x0 : UInt64) (x1 : UInt64) (x2 : UInt64) (x3 : UInt64) (b0 : Int64) (b1 : Int64) (b2 : Int64) (b3 : Int64) (h0 : Heap) (n0 : Nat) (vQ : Option Value) (hQ : Heap) (LQ : List Loc) : Prop := vQ = some (.long ((own_val va (3 : Int32)).toInt64 * (own_sel b0 b1 b2 b3 (own_row ro (3 : Int32))))) ∧ Fr n0 LQ ∧ Keep h0 hQ [co, r, q] ∧ (fd2 Z hQ co (.ref r)) ∧ (fd3 Z hQ co (.ref q)) ∧ (fd4 Z hQ co (.int (4 : Int32))) ∧ (own_A Z hQ r .int [(.int i0), (.int i1), (.int i2), (.int (own_row ro (3 : Int32)))]) ∧ (own_A Z hQ q .double [(.double x0), (.double x1), (.double x2), (.double (FP.i2d (own_val va (3 : Int32))))])
theorem ef_rmO3 (m : MethodId) (co : Addr) (ro : Int64) (va : Int64) (bA : Addr) (r : Addr) (q : Addr) (i0 : Int32) (i1 : Int32) (i2 : Int32) (i3 : Int32) (x0 : UInt64) (x1 : UInt64) (x2 : UInt64) (x3 : UInt64) (b0 : Int64) (b1 : Int64) (b2 : Int64) (b3 : Int64) : entryFrame m #[(.ref co), (.long ro), (.long va), (.ref bA), (.int (3 : Int32))] 9 = mkF m 0 #[vr co, vj ro, ss, vj va, ss, vr bA, vi (3 : Int32), uu, uu] [] := by first | (simp [entryFrame, mkF, argsToLocals, Value.category]; done) | rfl
set_option maxRecDepth 65536 in
set_option maxHeartbeats 40000000 in
theorem rmO3 (l : Launch) (Z : State) (a0 : Array Value) (hw : ∀ d ∈ tables_1, d.before a0 Z = true) (ws : List Jvm.Cond) (co : Addr) (ro : Int64) (va : Int64) (bA : Addr) (r : Addr) (q : Addr) (i0 : Int32) (i1 : Int32) (i2 : Int32) (i3 : Int32) (x0 : UInt64) (x1 : UInt64) (x2 : UInt64) (x3 : UInt64) (b0 : Int64) (b1 : Int64) (b2 : Int64) (b3 : Int64) (h0 : Heap) (n0 : Nat) (Z0 : n0 ≤ h0.size) (E1 : xa5 Z h0 co) (F1 : fd2 Z h0 co (.ref r)) (F2 : fd3 Z h0 co (.ref q)) (F3 : fd4 Z h0 co (.int (3 : Int32))) (A1 : own_A Z h0 r .int [(.int i0), (.int i1), (.int i2), (.int i3)]) (A2 : own_A Z h0 q .double [(.double x0), (.double x1), (.double x2), (.double x3)]) (A3 : own_A Z h0 bA .long [(.long b0), (.long b1), (.long b2), (.long b3)]) (n1 : co ≠ r) (n2 : co ≠ q) (n3 : r ≠ q) (n4 : bA ≠ co) (n5 : bA ≠ r) (n6 : bA ≠ q) (ge_co : n0 ≤ co) (ge_r : n0 ≤ r) (ge_q : n0 ≤ q) :
    MetFree l mn14 (head1 (Jvm.Cond.code mn14 method_4_code 9 (some .long) :: ws) ({ frames := 3, cells := 0, slots := 0, locals := 80 } : Room)) (fun aA U => aA = #[(.ref co), (.long ro), (.long va), (.ref bA), (.int (3 : Int32))] ∧ Z.Warmed39 U.vm ∧ U.heap = h0) (fun _ _ _ _ _ => True) (fun _ U o U' => ∃ vR LR, o = .returned vR ∧ QrmO3 Z co ro va bA r q i0 i1 i2 i3 x0 x1 x2 x3 b0 b1 b2 b3 h0 n0 vR U'.heap LR ∧ FrameEnd U o U' LR ({ frames := 3, cells := 0, slots := 0, locals := 80 } : Room).cells ({ frames := 3, cells := 0, slots := 0, locals := 80 } : Room).slots) := by
  refine MetFree.of_bodySF (plainFor_of_name pn_com_example_netloom_netloom_embed_SparseColumnDotPinLaw) hisR ?_
  intro p e s m args below meth c s₁ Bd hml0 hPre hKk
  obtain ⟨rfl, hZ, hh⟩ := hPre
  have hx := Bd.exec
  have hby := Bd.bytes
  have hml : c.maxLocals = 9 := hml0
  have hown : s.vm.findClass "com/example/netloom/netloom/embed/SparseColumnDotPinLaw" = some m.cls := findClass_of_methodNamed Bd.named
  have hnm := (name_of_methodNamed Bd.named Bd.method).1
  have X0 : Stand p l e ({ frames := 3, cells := 0, slots := 0, locals := 80 } : Room) s m #[(.ref co), (.long ro), (.long va), (.ref bA), (.int (3 : Int32))] below meth c s₁ [] 0 0 := Stand.of_body Bd
  have e0 : s₁.heap = h0 := by rw [← hh, Bd.state]; rfl
  have N0 := Fr.nil n0
  obtain ⟨E0, hE0⟩ : ∃ zE : State, zE = s₁.setTop (entryFrame m #[(.ref co), (.long ro), (.long va), (.ref bA), (.int (3 : Int32))] 9) := ⟨_, rfl⟩
  have k0 : own_G p e below E0 s₁ (mkF m 0 #[vr co, vj ro, ss, vj va, ss, vr bA, vi (3 : Int32), uu, uu] []) := fun tz kz => hE0 ▸ castTop (ef_rmO3 m co ro va bA r q i0 i1 i2 i3 x0 x1 x2 x3 b0 b1 b2 b3) kz
  have K0 : Keep h0 h0 [co, r, q] := Keep.refl _ _
  have k1057 : own_G p e below E0 s₁ (mkF m 3 #[vr co, vj ro, ss, vj va, ss, vr bA, vi (3 : Int32), uu, uu] [(.int (3 : Int32)), (.long ro)]) := by
    intro tQ kk
    refine k0 tQ ?_
    refine XT.lloadN X0.here hx rfl (hb hby d_method_4_code_0) rfl ?_
    refine XS.iload X0.here hx rfl (hb hby d_method_4_code_1) rfl ?_
    exact kk
  clear k0
  obtain ⟨_, _, ⟨T1058, L1059, kc1060, nc1061⟩, -, X1062, ⟨Lc1063, hQ1064, l1065, y1066, z1067⟩, st1068⟩ := Jvm.LawKit.callS X0 hx (y := mn1) hown (mvT hZ (tw32 hw)) (mvT hZ (tw33 hw)) (mvT hZ (tw4 hw)) (mvT hZ (tw34 hw)) (by decide) (backOf (W := 0) (rmRo l Z a0 hw [] ro (3 : Int32) h0 n0 Z0 ) hZ (tw34 hw) (tw4 hw) (by decide) (by decide)) (g := (mkF m 3 #[vr co, vj ro, ss, vj va, ss, vr bA, vi (3 : Int32), uu, uu] [(.int (3 : Int32)), (.long ro)])) rfl (by rw [hml]; rfl) (argsL := [(.long ro), (.int (3 : Int32))]) (rest := []) (lenOf pd_15 rfl) rfl (by show 2 * 0 + _ ≤ _; exact Nat.le_of_eq rfl) (hb hby d_method_4_code_3) (fun _ _ => ⟨rfl, e0, (by decide : 0 + 0 ≤ _), (by decide : 0 + 0 ≤ _)⟩)
  dsimp only [Pt.U, Pt.locs, Pt.cells, Pt.slots] at X1062 l1065 y1066 z1067 st1068 hQ1064
  subst l1065 y1066 z1067
  obtain ⟨rfl, N1069, e1070⟩ := hQ1064
  have N1072 := Fr.app N0 N1069
  have k1073 : own_G p e below E0 T1058 (mkF m 6 #[vr co, vj ro, ss, vj va, ss, vr bA, vi (3 : Int32), uu, uu] [(.int (own_row ro (3 : Int32)))]) := fun tQ kk => k1057 tQ (st1068 _ kk)
  clear k1057 st1068
  have k1074 : own_G p e below E0 T1058 (mkF m 11 #[vr co, vj ro, ss, vj va, ss, vr bA, vi (3 : Int32), vi (own_row ro (3 : Int32)), uu] [(.int (3 : Int32)), (.long va)]) := by
    intro tQ kk
    refine k1073 tQ ?_
    refine XS.istore X1062.here hx rfl (hb hby d_method_4_code_6) rfl (l' := #[vr co, vj ro, ss, vj va, ss, vr bA, vi (3 : Int32), vi (own_row ro (3 : Int32)), uu]) rfl ?_
    refine XT.lloadN X1062.here hx rfl (hb hby d_method_4_code_8) rfl ?_
    refine XS.iload X1062.here hx rfl (hb hby d_method_4_code_9) rfl ?_
    exact kk
  clear k1073
  obtain ⟨_, _, ⟨T1075, L1076, kc1077, nc1078⟩, -, X1079, ⟨Lc1080, hQ1081, l1082, y1083, z1084⟩, st1085⟩ := Jvm.LawKit.callS X1062 hx (y := mn0) hown (mvT hZ (tw2 hw)) (mvT hZ (tw3 hw)) (mvT hZ (tw4 hw)) (mvT hZ (tw5 hw)) (by decide) (backOf (W := 0) (rmVa l Z a0 hw [] va (3 : Int32) h0 n0 Z0 ) hZ (tw5 hw) (tw4 hw) (by decide) (by decide)) (g := (mkF m 11 #[vr co, vj ro, ss, vj va, ss, vr bA, vi (3 : Int32), vi (own_row ro (3 : Int32)), uu] [(.int (3 : Int32)), (.long va)])) rfl (by rw [hml]; rfl) (argsL := [(.long va), (.int (3 : Int32))]) (rest := []) (lenOf pd_15 rfl) rfl (by show 2 * 0 + _ ≤ _; exact Nat.le_of_eq rfl) (hb hby d_method_4_code_11) (fun _ _ => ⟨rfl, e1070, (by decide : 0 + 0 ≤ _), (by decide : 0 + 0 ≤ _)⟩)
  dsimp only [Pt.U, Pt.locs, Pt.cells, Pt.slots] at X1079 l1082 y1083 z1084 st1085 hQ1081
  subst l1082 y1083 z1084
  obtain ⟨rfl, N1086, e1087⟩ := hQ1081
  have N1089 := Fr.app N1072 N1086
  have k1090 : own_G p e below E0 T1075 (mkF m 14 #[vr co, vj ro, ss, vj va, ss, vr bA, vi (3 : Int32), vi (own_row ro (3 : Int32)), uu] [(.int (own_val va (3 : Int32)))]) := fun tQ kk => k1074 tQ (st1085 _ kk)
  clear k1074 st1085
  have k1091 : own_G p e below E0 T1075 (mkF m 22 #[vr co, vj ro, ss, vj va, ss, vr bA, vi (3 : Int32), vi (own_row ro (3 : Int32)), vi (own_val va (3 : Int32))] [(.double (FP.i2d (own_val va (3 : Int32)))), (.int (own_row ro (3 : Int32))), (.ref co)]) := by
    intro tQ kk
    refine k1090 tQ ?_
    refine XS.istore X1079.here hx rfl (hb hby d_method_4_code_14) rfl (l' := #[vr co, vj ro, ss, vj va, ss, vr bA, vi (3 : Int32), vi (own_row ro (3 : Int32)), vi (own_val va (3 : Int32))]) rfl ?_
    refine XS.aloadN X1079.here hx rfl (hb hby d_method_4_code_16) rfl rfl ?_
    refine XS.iload X1079.here hx rfl (hb hby d_method_4_code_17) rfl ?_
    refine XS.iload X1079.here hx rfl (hb hby d_method_4_code_19) rfl ?_
    show Steps p.tables e below (T1075.setTop (mkF m 21 #[vr co, vj ro, ss, vj va, ss, vr bA, vi (3 : Int32), vi (own_row ro (3 : Int32)), vi (own_val va (3 : Int32))] [(.int (own_val va (3 : Int32))), (.int (own_row ro (3 : Int32))), (.ref co)])) tQ
    refine XS.i2dS X1079.here hx rfl (hb hby d_method_4_code_21) rfl rfl ?_
    exact kk
  clear k1090
  obtain ⟨cq1103, kq1104, qa1105, qb1106, qc1107⟩ := isOf hZ e1087 E1
  obtain ⟨_, _, ⟨T1092, L1093, kc1094, nc1095⟩, -, X1096, ⟨Lc1097, hQ1098, l1099, y1100, z1101⟩, st1102⟩ := X1079.virtualBack hx (y := mn11) (z := mn11) hown (mvT hZ (tw36 hw)) (mvT hZ (tw37 hw)) (notFace_of_selects (args := #[]) (mvT hZ (tw39 hw))) (mvT hZ (tw39 hw)) (mvT hZ (tw38 hw)) (by decide) (backOf (W := 0) (rmA3 l Z a0 hw [] co (own_row ro (3 : Int32)) (FP.i2d (own_val va (3 : Int32))) r q i0 i1 i2 i3 x0 x1 x2 x3 h0 n0 Z0 E1 F1 F2 F3 A1 A2 n1 n2 n3 ge_co ge_r ge_q) hZ (tw40 hw) (tw10 hw) (by decide) (by decide)) qa1105 qc1107 (g := (mkF m 22 #[vr co, vj ro, ss, vj va, ss, vr bA, vi (3 : Int32), vi (own_row ro (3 : Int32)), vi (own_val va (3 : Int32))] [(.double (FP.i2d (own_val va (3 : Int32)))), (.int (own_row ro (3 : Int32))), (.ref co)])) rfl (by rw [hml]; rfl) (Steps.refl _) (argsL := [(.int (own_row ro (3 : Int32))), (.double (FP.i2d (own_val va (3 : Int32))))]) (rest := []) (lenOf pd_16 rfl) rfl (by show 2 * 0 + _ ≤ _; exact Nat.le_of_eq rfl) (hb hby d_method_4_code_22) (fun _ _ => ⟨rfl, e1087, (by decide : 0 + 0 ≤ _), (by decide : 0 + 0 ≤ _)⟩)
  dsimp only [Pt.U, Pt.locs, Pt.cells, Pt.slots] at X1096 l1099 y1100 z1101 st1102 hQ1098
  subst l1099 y1100 z1101
  obtain ⟨rfl, N1108, K1111, g1112, g1113, g1114, g1115, g1116⟩ := hQ1098
  have N1117 := Fr.app N1089 N1108
  have Z1118 : n0 ≤ T1092.heap.size := Nat.le_trans Z0 K1111.1
  have F1119 : xa5 Z T1092.heap co := E1.keep K1111
  clear E1
  clear F1
  clear F2
  clear F3
  clear A1
  clear A2
  have F1125 : own_A Z T1092.heap bA .long [(.long b0), (.long b1), (.long b2), (.long b3)] := A3.keep K1111 (ninS n4 (ninS n5 (ninS n6 nin0)))
  clear A3
  have K1126 : Keep h0 T1092.heap [co, r, q] := K0.trans K1111 (allS (Or.inl (List.mem_of_getElem? (i := 0) rfl)) (allS (Or.inl (List.mem_of_getElem? (i := 1) rfl)) (allS (Or.inl (List.mem_of_getElem? (i := 2) rfl)) all0)))
  have k1127 : own_G p e below E0 T1092 (mkF m 25 #[vr co, vj ro, ss, vj va, ss, vr bA, vi (3 : Int32), vi (own_row ro (3 : Int32)), vi (own_val va (3 : Int32))] []) := fun tQ kk => k1091 tQ (st1102.trans kk)
  clear k1091 st1102
  have k1128 : own_G p e below E0 T1092 (mkF m 32 #[vr co, vj ro, ss, vj va, ss, vr bA, vi (3 : Int32), vi (own_row ro (3 : Int32)), vi (own_val va (3 : Int32))] [(.int (own_row ro (3 : Int32))), (.ref bA), (.long ((own_val va (3 : Int32)).toInt64))]) := by
    intro tQ kk
    refine k1127 tQ ?_
    refine XS.iload X1096.here hx rfl (hb hby d_method_4_code_25) rfl ?_
    refine XT.i2l X1096.here hx rfl (hb hby d_method_4_code_27) rfl ?_
    refine XS.aload X1096.here hx rfl (hb hby d_method_4_code_28) rfl rfl ?_
    refine XS.iload X1096.here hx rfl (hb hby d_method_4_code_30) rfl ?_
    exact kk
  clear k1127
  have st1129 := fun tQ => own_A.lld X1096 hx hZ rfl F1125 (j := (own_row ro (3 : Int32))) (v := (.long (own_sel b0 b1 b2 b3 (own_row ro (3 : Int32))))) (own_rown ro (3 : Int32)) (own_selp _ _ _ _ (own_rowc ro (3 : Int32))) (g := (mkF m 32 #[vr co, vj ro, ss, vj va, ss, vr bA, vi (3 : Int32), vi (own_row ro (3 : Int32)), vi (own_val va (3 : Int32))] [(.int (own_row ro (3 : Int32))), (.ref bA), (.long ((own_val va (3 : Int32)).toInt64))])) rfl rfl (hb hby d_method_4_code_32) tQ
  have k1130 : own_G p e below E0 T1092 (mkF m 33 #[vr co, vj ro, ss, vj va, ss, vr bA, vi (3 : Int32), vi (own_row ro (3 : Int32)), vi (own_val va (3 : Int32))] [(.long (own_sel b0 b1 b2 b3 (own_row ro (3 : Int32)))), (.long ((own_val va (3 : Int32)).toInt64))]) := fun tQ kk => k1128 tQ (st1129 _ kk)
  clear k1128 st1129
  have k1131 : own_G p e below E0 T1092 (mkF m 34 #[vr co, vj ro, ss, vj va, ss, vr bA, vi (3 : Int32), vi (own_row ro (3 : Int32)), vi (own_val va (3 : Int32))] [(.long (((own_val va (3 : Int32)).toInt64) * (own_sel b0 b1 b2 b3 (own_row ro (3 : Int32)))))]) := by
    intro tQ kk
    refine k1130 tQ ?_
    refine XT.lmul X1096.here hx rfl (hb hby d_method_4_code_33) rfl ?_
    exact kk
  clear k1130
  obtain ⟨fs, hr, hrun, hended, hW, hsame⟩ := X1096.leave (v := some (.long (((own_val va (3 : Int32)).toInt64) * (own_sel b0 b1 b2 b3 (own_row ro (3 : Int32)))))) (fun h => by rw [Bd.returns] at h; cases h)
  have hrun0 := k1131 _ (retOut X1096 hx Bd.returns (t := .long) rfl (Or.inr (Or.inl ⟨rfl, rfl, _, rfl⟩)) (hb hby d_method_4_code_34) hr)
  subst hE0
  refine ⟨_, _, hrun0, hrun, hended, _, _, rfl, ?_, ⟨_, rfl⟩, hW, hsame.mono (by decide) (by decide)⟩
  show QrmO3 Z co ro va bA r q i0 i1 i2 i3 x0 x1 x2 x3 b0 b1 b2 b3 h0 n0 _ T1092.heap _
  exact ⟨rfl, N1117, K1126, g1112, g1113, g1114, g1115, g1116⟩
def QrmO4 (Z : State) (co : Addr) (ro : Int64) (va : Int64) (bA : Addr) (r : Addr) (q : Addr) (i0 : Int32) (i1 : Int32) (i2 : Int32) (i3 : Int32) (x0 : UInt64) (x1 : UInt64) (x2 : UInt64) (x3 : UInt64) (b0 : Int64) (b1 : Int64) (b2 : Int64) (b3 : Int64) (h0 : Heap) (n0 : Nat) (vQ : Option Value) (hQ : Heap) (LQ : List Loc) : Prop := ∃ (u : Addr), ∃ (v : Addr), vQ = some (.long ((own_val va (4 : Int32)).toInt64 * (own_sel b0 b1 b2 b3 (own_row ro (4 : Int32))))) ∧ Fr n0 LQ ∧ Keep h0 hQ [co] ∧ (fd2 Z hQ co (.ref u)) ∧ (fd3 Z hQ co (.ref v)) ∧ (fd4 Z hQ co (.int (5 : Int32))) ∧ (own_A Z hQ u .int [(.int i0), (.int i1), (.int i2), (.int i3), (.int (own_row ro (4 : Int32))), (.int (0 : Int32)), (.int (0 : Int32)), (.int (0 : Int32))]) ∧ (own_A Z hQ v .double [(.double x0), (.double x1), (.double x2), (.double x3), (.double (FP.i2d (own_val va (4 : Int32)))), (.double (0 : UInt64)), (.double (0 : UInt64)), (.double (0 : UInt64))]) ∧ (h0.size ≤ u) ∧ (h0.size ≤ v) ∧ (u ≠ v)
theorem ef_rmO4 (m : MethodId) (co : Addr) (ro : Int64) (va : Int64) (bA : Addr) (r : Addr) (q : Addr) (i0 : Int32) (i1 : Int32) (i2 : Int32) (i3 : Int32) (x0 : UInt64) (x1 : UInt64) (x2 : UInt64) (x3 : UInt64) (b0 : Int64) (b1 : Int64) (b2 : Int64) (b3 : Int64) : entryFrame m #[(.ref co), (.long ro), (.long va), (.ref bA), (.int (4 : Int32))] 9 = mkF m 0 #[vr co, vj ro, ss, vj va, ss, vr bA, vi (4 : Int32), uu, uu] [] := by first | (simp [entryFrame, mkF, argsToLocals, Value.category]; done) | rfl
set_option maxRecDepth 65536 in
set_option maxHeartbeats 40000000 in
theorem rmO4 (l : Launch) (Z : State) (a0 : Array Value) (hw : ∀ d ∈ tables_1, d.before a0 Z = true) (ws : List Jvm.Cond) (co : Addr) (ro : Int64) (va : Int64) (bA : Addr) (r : Addr) (q : Addr) (i0 : Int32) (i1 : Int32) (i2 : Int32) (i3 : Int32) (x0 : UInt64) (x1 : UInt64) (x2 : UInt64) (x3 : UInt64) (b0 : Int64) (b1 : Int64) (b2 : Int64) (b3 : Int64) (h0 : Heap) (n0 : Nat) (Z0 : n0 ≤ h0.size) (E1 : xa5 Z h0 co) (F1 : fd2 Z h0 co (.ref r)) (F2 : fd3 Z h0 co (.ref q)) (F3 : fd4 Z h0 co (.int (4 : Int32))) (A1 : own_A Z h0 r .int [(.int i0), (.int i1), (.int i2), (.int i3)]) (A2 : own_A Z h0 q .double [(.double x0), (.double x1), (.double x2), (.double x3)]) (A3 : own_A Z h0 bA .long [(.long b0), (.long b1), (.long b2), (.long b3)]) (n1 : co ≠ r) (n2 : co ≠ q) (n3 : r ≠ q) (n4 : bA ≠ co) (n5 : bA ≠ r) (n6 : bA ≠ q) (ge_co : n0 ≤ co) :
    MetFree l mn14 (head1 (Jvm.Cond.code mn14 method_4_code 9 (some .long) :: ws) ({ frames := 3, cells := 2, slots := 16, locals := 80 } : Room)) (fun aA U => aA = #[(.ref co), (.long ro), (.long va), (.ref bA), (.int (4 : Int32))] ∧ Z.Warmed39 U.vm ∧ U.heap = h0) (fun _ _ _ _ _ => True) (fun _ U o U' => ∃ vR LR, o = .returned vR ∧ QrmO4 Z co ro va bA r q i0 i1 i2 i3 x0 x1 x2 x3 b0 b1 b2 b3 h0 n0 vR U'.heap LR ∧ FrameEnd U o U' LR ({ frames := 3, cells := 2, slots := 16, locals := 80 } : Room).cells ({ frames := 3, cells := 2, slots := 16, locals := 80 } : Room).slots) := by
  refine MetFree.of_bodySF (plainFor_of_name pn_com_example_netloom_netloom_embed_SparseColumnDotPinLaw) hisR ?_
  intro p e s m args below meth c s₁ Bd hml0 hPre hKk
  obtain ⟨rfl, hZ, hh⟩ := hPre
  have hx := Bd.exec
  have hby := Bd.bytes
  have hml : c.maxLocals = 9 := hml0
  have hown : s.vm.findClass "com/example/netloom/netloom/embed/SparseColumnDotPinLaw" = some m.cls := findClass_of_methodNamed Bd.named
  have hnm := (name_of_methodNamed Bd.named Bd.method).1
  have X0 : Stand p l e ({ frames := 3, cells := 2, slots := 16, locals := 80 } : Room) s m #[(.ref co), (.long ro), (.long va), (.ref bA), (.int (4 : Int32))] below meth c s₁ [] 0 0 := Stand.of_body Bd
  have e0 : s₁.heap = h0 := by rw [← hh, Bd.state]; rfl
  have N0 := Fr.nil n0
  obtain ⟨E0, hE0⟩ : ∃ zE : State, zE = s₁.setTop (entryFrame m #[(.ref co), (.long ro), (.long va), (.ref bA), (.int (4 : Int32))] 9) := ⟨_, rfl⟩
  have k0 : own_G p e below E0 s₁ (mkF m 0 #[vr co, vj ro, ss, vj va, ss, vr bA, vi (4 : Int32), uu, uu] []) := fun tz kz => hE0 ▸ castTop (ef_rmO4 m co ro va bA r q i0 i1 i2 i3 x0 x1 x2 x3 b0 b1 b2 b3) kz
  have K0 : Keep h0 h0 [co] := Keep.refl _ _
  have k1132 : own_G p e below E0 s₁ (mkF m 3 #[vr co, vj ro, ss, vj va, ss, vr bA, vi (4 : Int32), uu, uu] [(.int (4 : Int32)), (.long ro)]) := by
    intro tQ kk
    refine k0 tQ ?_
    refine XT.lloadN X0.here hx rfl (hb hby d_method_4_code_0) rfl ?_
    refine XS.iload X0.here hx rfl (hb hby d_method_4_code_1) rfl ?_
    exact kk
  clear k0
  obtain ⟨_, _, ⟨T1133, L1134, kc1135, nc1136⟩, -, X1137, ⟨Lc1138, hQ1139, l1140, y1141, z1142⟩, st1143⟩ := Jvm.LawKit.callS X0 hx (y := mn1) hown (mvT hZ (tw32 hw)) (mvT hZ (tw33 hw)) (mvT hZ (tw4 hw)) (mvT hZ (tw34 hw)) (by decide) (backOf (W := 0) (rmRo l Z a0 hw [] ro (4 : Int32) h0 n0 Z0 ) hZ (tw34 hw) (tw4 hw) (by decide) (by decide)) (g := (mkF m 3 #[vr co, vj ro, ss, vj va, ss, vr bA, vi (4 : Int32), uu, uu] [(.int (4 : Int32)), (.long ro)])) rfl (by rw [hml]; rfl) (argsL := [(.long ro), (.int (4 : Int32))]) (rest := []) (lenOf pd_15 rfl) rfl (by show 2 * 0 + _ ≤ _; exact Nat.le_of_eq rfl) (hb hby d_method_4_code_3) (fun _ _ => ⟨rfl, e0, (by decide : 0 + 0 ≤ _), (by decide : 0 + 0 ≤ _)⟩)
  dsimp only [Pt.U, Pt.locs, Pt.cells, Pt.slots] at X1137 l1140 y1141 z1142 st1143 hQ1139
  subst l1140 y1141 z1142
  obtain ⟨rfl, N1144, e1145⟩ := hQ1139
  have N1147 := Fr.app N0 N1144
  have k1148 : own_G p e below E0 T1133 (mkF m 6 #[vr co, vj ro, ss, vj va, ss, vr bA, vi (4 : Int32), uu, uu] [(.int (own_row ro (4 : Int32)))]) := fun tQ kk => k1132 tQ (st1143 _ kk)
  clear k1132 st1143
  have k1149 : own_G p e below E0 T1133 (mkF m 11 #[vr co, vj ro, ss, vj va, ss, vr bA, vi (4 : Int32), vi (own_row ro (4 : Int32)), uu] [(.int (4 : Int32)), (.long va)]) := by
    intro tQ kk
    refine k1148 tQ ?_
    refine XS.istore X1137.here hx rfl (hb hby d_method_4_code_6) rfl (l' := #[vr co, vj ro, ss, vj va, ss, vr bA, vi (4 : Int32), vi (own_row ro (4 : Int32)), uu]) rfl ?_
    refine XT.lloadN X1137.here hx rfl (hb hby d_method_4_code_8) rfl ?_
    refine XS.iload X1137.here hx rfl (hb hby d_method_4_code_9) rfl ?_
    exact kk
  clear k1148
  obtain ⟨_, _, ⟨T1150, L1151, kc1152, nc1153⟩, -, X1154, ⟨Lc1155, hQ1156, l1157, y1158, z1159⟩, st1160⟩ := Jvm.LawKit.callS X1137 hx (y := mn0) hown (mvT hZ (tw2 hw)) (mvT hZ (tw3 hw)) (mvT hZ (tw4 hw)) (mvT hZ (tw5 hw)) (by decide) (backOf (W := 0) (rmVa l Z a0 hw [] va (4 : Int32) h0 n0 Z0 ) hZ (tw5 hw) (tw4 hw) (by decide) (by decide)) (g := (mkF m 11 #[vr co, vj ro, ss, vj va, ss, vr bA, vi (4 : Int32), vi (own_row ro (4 : Int32)), uu] [(.int (4 : Int32)), (.long va)])) rfl (by rw [hml]; rfl) (argsL := [(.long va), (.int (4 : Int32))]) (rest := []) (lenOf pd_15 rfl) rfl (by show 2 * 0 + _ ≤ _; exact Nat.le_of_eq rfl) (hb hby d_method_4_code_11) (fun _ _ => ⟨rfl, e1145, (by decide : 0 + 0 ≤ _), (by decide : 0 + 0 ≤ _)⟩)
  dsimp only [Pt.U, Pt.locs, Pt.cells, Pt.slots] at X1154 l1157 y1158 z1159 st1160 hQ1156
  subst l1157 y1158 z1159
  obtain ⟨rfl, N1161, e1162⟩ := hQ1156
  have N1164 := Fr.app N1147 N1161
  have k1165 : own_G p e below E0 T1150 (mkF m 14 #[vr co, vj ro, ss, vj va, ss, vr bA, vi (4 : Int32), vi (own_row ro (4 : Int32)), uu] [(.int (own_val va (4 : Int32)))]) := fun tQ kk => k1149 tQ (st1160 _ kk)
  clear k1149 st1160
  have k1166 : own_G p e below E0 T1150 (mkF m 22 #[vr co, vj ro, ss, vj va, ss, vr bA, vi (4 : Int32), vi (own_row ro (4 : Int32)), vi (own_val va (4 : Int32))] [(.double (FP.i2d (own_val va (4 : Int32)))), (.int (own_row ro (4 : Int32))), (.ref co)]) := by
    intro tQ kk
    refine k1165 tQ ?_
    refine XS.istore X1154.here hx rfl (hb hby d_method_4_code_14) rfl (l' := #[vr co, vj ro, ss, vj va, ss, vr bA, vi (4 : Int32), vi (own_row ro (4 : Int32)), vi (own_val va (4 : Int32))]) rfl ?_
    refine XS.aloadN X1154.here hx rfl (hb hby d_method_4_code_16) rfl rfl ?_
    refine XS.iload X1154.here hx rfl (hb hby d_method_4_code_17) rfl ?_
    refine XS.iload X1154.here hx rfl (hb hby d_method_4_code_19) rfl ?_
    show Steps p.tables e below (T1150.setTop (mkF m 21 #[vr co, vj ro, ss, vj va, ss, vr bA, vi (4 : Int32), vi (own_row ro (4 : Int32)), vi (own_val va (4 : Int32))] [(.int (own_val va (4 : Int32))), (.int (own_row ro (4 : Int32))), (.ref co)])) tQ
    refine XS.i2dS X1154.here hx rfl (hb hby d_method_4_code_21) rfl rfl ?_
    exact kk
  clear k1165
  obtain ⟨cq1178, kq1179, qa1180, qb1181, qc1182⟩ := isOf hZ e1162 E1
  obtain ⟨_, _, ⟨T1167, L1168, kc1169, nc1170⟩, -, X1171, ⟨Lc1172, hQ1173, l1174, y1175, z1176⟩, st1177⟩ := X1154.virtualBack hx (y := mn11) (z := mn11) hown (mvT hZ (tw36 hw)) (mvT hZ (tw37 hw)) (notFace_of_selects (args := #[]) (mvT hZ (tw39 hw))) (mvT hZ (tw39 hw)) (mvT hZ (tw38 hw)) (by decide) (backOf (W := 0) (rmA4 l Z a0 hw [] co (own_row ro (4 : Int32)) (FP.i2d (own_val va (4 : Int32))) r q i0 i1 i2 i3 x0 x1 x2 x3 h0 n0 Z0 E1 F1 F2 F3 A1 A2 n1 n2 n3 ge_co) hZ (tw40 hw) (tw10 hw) (by decide) (by decide)) qa1180 qc1182 (g := (mkF m 22 #[vr co, vj ro, ss, vj va, ss, vr bA, vi (4 : Int32), vi (own_row ro (4 : Int32)), vi (own_val va (4 : Int32))] [(.double (FP.i2d (own_val va (4 : Int32)))), (.int (own_row ro (4 : Int32))), (.ref co)])) rfl (by rw [hml]; rfl) (Steps.refl _) (argsL := [(.int (own_row ro (4 : Int32))), (.double (FP.i2d (own_val va (4 : Int32))))]) (rest := []) (lenOf pd_16 rfl) rfl (by show 2 * 0 + _ ≤ _; exact Nat.le_of_eq rfl) (hb hby d_method_4_code_22) (fun _ _ => ⟨rfl, e1162, (by decide : 0 + 2 ≤ _), (by decide : 0 + 16 ≤ _)⟩)
  dsimp only [Pt.U, Pt.locs, Pt.cells, Pt.slots] at X1171 l1174 y1175 z1176 st1177 hQ1173
  subst l1174 y1175 z1176
  obtain ⟨u1186, v1187, rfl, N1183, K1188, g1189, g1190, g1191, g1192, g1193, nw1194, nw1195, n1196⟩ := hQ1173
  have N1197 := Fr.app N1164 N1183
  have ge1198 : n0 ≤ u1186 := Nat.le_trans Z0 nw1194
  have nw1199 : h0.size ≤ u1186 := Nat.le_trans K0.1 nw1194
  have n1200 : co ≠ u1186 := own_lt_ne2 E1.lt nw1194
  have n1201 : r ≠ u1186 := own_lt_ne2 A1.lt nw1194
  have n1202 : q ≠ u1186 := own_lt_ne2 A2.lt nw1194
  have n1203 : bA ≠ u1186 := own_lt_ne2 A3.lt nw1194
  have ge1204 : n0 ≤ v1187 := Nat.le_trans Z0 nw1195
  have nw1205 : h0.size ≤ v1187 := Nat.le_trans K0.1 nw1195
  have n1206 : co ≠ v1187 := own_lt_ne2 E1.lt nw1195
  have n1207 : r ≠ v1187 := own_lt_ne2 A1.lt nw1195
  have n1208 : q ≠ v1187 := own_lt_ne2 A2.lt nw1195
  have n1209 : bA ≠ v1187 := own_lt_ne2 A3.lt nw1195
  have Z1210 : n0 ≤ T1167.heap.size := Nat.le_trans Z0 K1188.1
  have F1211 : xa5 Z T1167.heap co := E1.keep K1188
  clear E1
  clear F1
  clear F2
  clear F3
  have F1215 : own_A Z T1167.heap r .int [(.int i0), (.int i1), (.int i2), (.int i3)] := A1.keep K1188 (ninS (fun q => n1 q.symm) nin0)
  clear A1
  have F1216 : own_A Z T1167.heap q .double [(.double x0), (.double x1), (.double x2), (.double x3)] := A2.keep K1188 (ninS (fun q => n2 q.symm) nin0)
  clear A2
  have F1217 : own_A Z T1167.heap bA .long [(.long b0), (.long b1), (.long b2), (.long b3)] := A3.keep K1188 (ninS n4 nin0)
  clear A3
  have K1218 : Keep h0 T1167.heap [co] := K0.trans K1188 (allS (Or.inl (List.mem_of_getElem? (i := 0) rfl)) all0)
  have k1219 : own_G p e below E0 T1167 (mkF m 25 #[vr co, vj ro, ss, vj va, ss, vr bA, vi (4 : Int32), vi (own_row ro (4 : Int32)), vi (own_val va (4 : Int32))] []) := fun tQ kk => k1166 tQ (st1177.trans kk)
  clear k1166 st1177
  have k1220 : own_G p e below E0 T1167 (mkF m 32 #[vr co, vj ro, ss, vj va, ss, vr bA, vi (4 : Int32), vi (own_row ro (4 : Int32)), vi (own_val va (4 : Int32))] [(.int (own_row ro (4 : Int32))), (.ref bA), (.long ((own_val va (4 : Int32)).toInt64))]) := by
    intro tQ kk
    refine k1219 tQ ?_
    refine XS.iload X1171.here hx rfl (hb hby d_method_4_code_25) rfl ?_
    refine XT.i2l X1171.here hx rfl (hb hby d_method_4_code_27) rfl ?_
    refine XS.aload X1171.here hx rfl (hb hby d_method_4_code_28) rfl rfl ?_
    refine XS.iload X1171.here hx rfl (hb hby d_method_4_code_30) rfl ?_
    exact kk
  clear k1219
  have st1221 := fun tQ => own_A.lld X1171 hx hZ rfl F1217 (j := (own_row ro (4 : Int32))) (v := (.long (own_sel b0 b1 b2 b3 (own_row ro (4 : Int32))))) (own_rown ro (4 : Int32)) (own_selp _ _ _ _ (own_rowc ro (4 : Int32))) (g := (mkF m 32 #[vr co, vj ro, ss, vj va, ss, vr bA, vi (4 : Int32), vi (own_row ro (4 : Int32)), vi (own_val va (4 : Int32))] [(.int (own_row ro (4 : Int32))), (.ref bA), (.long ((own_val va (4 : Int32)).toInt64))])) rfl rfl (hb hby d_method_4_code_32) tQ
  have k1222 : own_G p e below E0 T1167 (mkF m 33 #[vr co, vj ro, ss, vj va, ss, vr bA, vi (4 : Int32), vi (own_row ro (4 : Int32)), vi (own_val va (4 : Int32))] [(.long (own_sel b0 b1 b2 b3 (own_row ro (4 : Int32)))), (.long ((own_val va (4 : Int32)).toInt64))]) := fun tQ kk => k1220 tQ (st1221 _ kk)
  clear k1220 st1221
  have k1223 : own_G p e below E0 T1167 (mkF m 34 #[vr co, vj ro, ss, vj va, ss, vr bA, vi (4 : Int32), vi (own_row ro (4 : Int32)), vi (own_val va (4 : Int32))] [(.long (((own_val va (4 : Int32)).toInt64) * (own_sel b0 b1 b2 b3 (own_row ro (4 : Int32)))))]) := by
    intro tQ kk
    refine k1222 tQ ?_
    refine XT.lmul X1171.here hx rfl (hb hby d_method_4_code_33) rfl ?_
    exact kk
  clear k1222
  obtain ⟨fs, hr, hrun, hended, hW, hsame⟩ := X1171.leave (v := some (.long (((own_val va (4 : Int32)).toInt64) * (own_sel b0 b1 b2 b3 (own_row ro (4 : Int32)))))) (fun h => by rw [Bd.returns] at h; cases h)
  have hrun0 := k1223 _ (retOut X1171 hx Bd.returns (t := .long) rfl (Or.inr (Or.inl ⟨rfl, rfl, _, rfl⟩)) (hb hby d_method_4_code_34) hr)
  subst hE0
  refine ⟨_, _, hrun0, hrun, hended, _, _, rfl, ?_, ⟨_, rfl⟩, hW, hsame.mono (by decide) (by decide)⟩
  show QrmO4 Z co ro va bA r q i0 i1 i2 i3 x0 x1 x2 x3 b0 b1 b2 b3 h0 n0 _ T1167.heap _
  exact ⟨u1186, v1187, rfl, N1197, K1218, g1189, g1190, g1191, g1192, g1193, nw1199, nw1205, n1196⟩
def QrmD0 (Z : State) (a : Addr) (b : Addr) (r : Addr) (q : Addr) (y0 : UInt64) (y1 : UInt64) (y2 : UInt64) (y3 : UInt64) (h0 : Heap) (n0 : Nat) (vQ : Option Value) (hQ : Heap) (LQ : List Loc) : Prop := ∃ (s : UInt64), vQ = some (.double s) ∧ Fr n0 LQ ∧ hQ = h0 ∧ (FP.Core.DInt (0) s)
theorem ef_rmD0 (m : MethodId) (a : Addr) (b : Addr) (r : Addr) (q : Addr) (y0 : UInt64) (y1 : UInt64) (y2 : UInt64) (y3 : UInt64) : entryFrame m #[(.ref a), (.ref b)] 5 = mkF m 0 #[vr a, vr b, uu, uu, uu] [] := by first | (simp [entryFrame, mkF, argsToLocals, Value.category]; done) | rfl
abbrev mn17 : MethodName := ⟨"com/example/netloom/netloom/embed/SparseColumn", "dot", "([D)D"⟩
theorem d_prog_50_method_6_code_0 : decode prog_50_method_6_code 0 = .ok (.dconst 0, 1) := by decide +kernel
theorem d_prog_50_method_6_code_1 : decode prog_50_method_6_code 1 = .ok (.dstore_n 2, 1) := by decide +kernel
theorem d_prog_50_method_6_code_2 : decode prog_50_method_6_code 2 = .ok (.iconst 0, 1) := by decide +kernel
theorem d_prog_50_method_6_code_3 : decode prog_50_method_6_code 3 = .ok (.istore 4, 2) := by decide +kernel
theorem d_prog_50_method_6_code_5 : decode prog_50_method_6_code 5 = .ok (.iload 4, 2) := by decide +kernel
theorem d_prog_50_method_6_code_7 : decode prog_50_method_6_code 7 = .ok (.aload_n 0, 1) := by decide +kernel
theorem d_prog_50_method_6_code_8 : decode prog_50_method_6_code 8 = .ok (.getfield 17, 3) := by decide +kernel
theorem d_prog_50_method_6_code_11 : decode prog_50_method_6_code 11 = .ok (.if_icmp .ge 29, 3) := by decide +kernel
theorem d_prog_50_method_6_code_40 : decode prog_50_method_6_code 40 = .ok (.dload_n 2, 1) := by decide +kernel
theorem d_prog_50_method_6_code_41 : decode prog_50_method_6_code 41 = .ok (.dreturn, 1) := by decide +kernel
set_option maxRecDepth 65536 in
set_option maxHeartbeats 40000000 in
theorem rmD0 (l : Launch) (Z : State) (a0 : Array Value) (hw : ∀ d ∈ tables_1, d.before a0 Z = true) (ws : List Jvm.Cond) (a : Addr) (b : Addr) (r : Addr) (q : Addr) (y0 : UInt64) (y1 : UInt64) (y2 : UInt64) (y3 : UInt64) (h0 : Heap) (n0 : Nat) (Z0 : n0 ≤ h0.size) (F1 : fd2 Z h0 a (.ref r)) (F2 : fd3 Z h0 a (.ref q)) (F3 : fd4 Z h0 a (.int (0 : Int32))) (A1 : own_A Z h0 r .int [(.int (0 : Int32)), (.int (0 : Int32)), (.int (0 : Int32)), (.int (0 : Int32))]) (A2 : own_A Z h0 q .double [(.double (0 : UInt64)), (.double (0 : UInt64)), (.double (0 : UInt64)), (.double (0 : UInt64))]) (A3 : own_A Z h0 b .double [(.double y0), (.double y1), (.double y2), (.double y3)]) :
    MetFree l mn17 (head1 (Jvm.Cond.code mn17 prog_50_method_6_code 5 (some .double) :: ws) ({ frames := 0, cells := 0, slots := 0, locals := 0 } : Room)) (fun aA U => aA = #[(.ref a), (.ref b)] ∧ Z.Warmed39 U.vm ∧ U.heap = h0) (fun _ _ _ _ _ => True) (fun _ U o U' => ∃ vR LR, o = .returned vR ∧ QrmD0 Z a b r q y0 y1 y2 y3 h0 n0 vR U'.heap LR ∧ FrameEnd U o U' LR ({ frames := 0, cells := 0, slots := 0, locals := 0 } : Room).cells ({ frames := 0, cells := 0, slots := 0, locals := 0 } : Room).slots) := by
  refine MetFree.of_bodySF (plainFor_of_name pn_com_example_netloom_netloom_embed_SparseColumn) hisR ?_
  intro p e s m args below meth c s₁ Bd hml0 hPre hKk
  obtain ⟨rfl, hZ, hh⟩ := hPre
  have hx := Bd.exec
  have hby := Bd.bytes
  have hml : c.maxLocals = 5 := hml0
  have hown : s.vm.findClass "com/example/netloom/netloom/embed/SparseColumn" = some m.cls := findClass_of_methodNamed Bd.named
  have hnm := (name_of_methodNamed Bd.named Bd.method).1
  have X0 : Stand p l e ({ frames := 0, cells := 0, slots := 0, locals := 0 } : Room) s m #[(.ref a), (.ref b)] below meth c s₁ [] 0 0 := Stand.of_body Bd
  have e0 : s₁.heap = h0 := by rw [← hh, Bd.state]; rfl
  have N0 := Fr.nil n0
  obtain ⟨E0, hE0⟩ : ∃ zE : State, zE = s₁.setTop (entryFrame m #[(.ref a), (.ref b)] 5) := ⟨_, rfl⟩
  have k0 : own_G p e below E0 s₁ (mkF m 0 #[vr a, vr b, uu, uu, uu] []) := fun tz kz => hE0 ▸ castTop (ef_rmD0 m a b r q y0 y1 y2 y3) kz
  have DS0 : FP.Core.DInt 0 FP.dconst0 := own_d0
  have k1224 : own_G p e below E0 s₁ (mkF m 8 #[vr a, vr b, vd FP.dconst0, ss, vi (0 : Int32)] [(.ref a), (.int (0 : Int32))]) := by
    intro tQ kk
    refine k0 tQ ?_
    refine XS.dconst0 X0.here hx rfl (hb hby d_prog_50_method_6_code_0) rfl ?_
    refine XS.dstoreN X0.here hx rfl (hb hby d_prog_50_method_6_code_1) rfl (l' := #[vr a, vr b, vd FP.dconst0, ss, uu]) rfl ?_
    refine XS.iconst X0.here hx rfl (hb hby d_prog_50_method_6_code_2) ?_
    refine XS.istore X0.here hx rfl (hb hby d_prog_50_method_6_code_3) rfl (l' := #[vr a, vr b, vd FP.dconst0, ss, vi (0 : Int32)]) rfl ?_
    show Steps p.tables e below (s₁.setTop (mkF m 5 #[vr a, vr b, vd FP.dconst0, ss, vi (0 : Int32)] [])) tQ
    refine XS.iload X0.here hx rfl (hb hby d_prog_50_method_6_code_5) rfl ?_
    refine XS.aloadN X0.here hx rfl (hb hby d_prog_50_method_6_code_7) rfl rfl ?_
    exact kk
  clear k0
  obtain ⟨T1225, X1226, e1227, st1228⟩ := getF X0 hx hZ hown (host := "") (Or.inl (tw27 hw)) Via.refl e0 F3 (g := (mkF m 8 #[vr a, vr b, vd FP.dconst0, ss, vi (0 : Int32)] [(.ref a), (.int (0 : Int32))])) rfl rfl (hb hby d_prog_50_method_6_code_8)
  have k1229 : own_G p e below E0 T1225 (mkF m 11 #[vr a, vr b, vd FP.dconst0, ss, vi (0 : Int32)] [(.int (0 : Int32)), (.int (0 : Int32))]) := fun tQ kk => k1224 tQ (st1228 _ kk)
  clear k1224 st1228
  have k1230 : own_G p e below E0 T1225 (mkF m 41 #[vr a, vr b, vd FP.dconst0, ss, vi (0 : Int32)] [(.double FP.dconst0)]) := by
    intro tQ kk
    refine k1229 tQ ?_
    refine XS.icmpYes X1226.here hx rfl (pc0 := 11) (pc' := 40) rfl (hb hby d_prog_50_method_6_code_11) rfl (own_ic_geY (by decide)) (by decide) (by decide) ?_
    refine XS.dloadN X1226.here hx rfl (hb hby d_prog_50_method_6_code_40) rfl ?_
    exact kk
  clear k1229
  obtain ⟨fs, hr, hrun, hended, hW, hsame⟩ := X1226.leave (v := some (.double FP.dconst0)) (fun h => by rw [Bd.returns] at h; cases h)
  have hrun0 := k1230 _ (retOut X1226 hx Bd.returns (t := .double) rfl (Or.inr (Or.inr (Or.inl ⟨rfl, rfl, _, rfl⟩))) (hb hby d_prog_50_method_6_code_41) hr)
  subst hE0
  refine ⟨_, _, hrun0, hrun, hended, _, _, rfl, ?_, ⟨_, rfl⟩, hW, hsame.mono (by decide) (by decide)⟩
  show QrmD0 Z a b r q y0 y1 y2 y3 h0 n0 _ T1225.heap _
  rw [e1227]
  exact ⟨FP.dconst0, rfl, N0, rfl, DS0⟩
def QrmD1 (Z : State) (a : Addr) (b : Addr) (r : Addr) (q : Addr) (i0 : Int32) (x0 : UInt64) (y0 : UInt64) (y1 : UInt64) (y2 : UInt64) (y3 : UInt64) (j0 : Int) (m0 : Int) (h0 : Heap) (n0 : Nat) (vQ : Option Value) (hQ : Heap) (LQ : List Loc) : Prop := ∃ (s : UInt64), vQ = some (.double s) ∧ Fr n0 LQ ∧ hQ = h0 ∧ (FP.Core.DInt (0 + j0 * m0) s)
theorem ef_rmD1 (m : MethodId) (a : Addr) (b : Addr) (r : Addr) (q : Addr) (i0 : Int32) (x0 : UInt64) (y0 : UInt64) (y1 : UInt64) (y2 : UInt64) (y3 : UInt64) (j0 : Int) (m0 : Int) : entryFrame m #[(.ref a), (.ref b)] 5 = mkF m 0 #[vr a, vr b, uu, uu, uu] [] := by first | (simp [entryFrame, mkF, argsToLocals, Value.category]; done) | rfl
theorem d_prog_50_method_6_code_14 : decode prog_50_method_6_code 14 = .ok (.dload_n 2, 1) := by decide +kernel
theorem d_prog_50_method_6_code_15 : decode prog_50_method_6_code 15 = .ok (.aload_n 0, 1) := by decide +kernel
theorem d_prog_50_method_6_code_16 : decode prog_50_method_6_code 16 = .ok (.getfield 13, 3) := by decide +kernel
theorem d_prog_50_method_6_code_19 : decode prog_50_method_6_code 19 = .ok (.iload 4, 2) := by decide +kernel
theorem d_prog_50_method_6_code_21 : decode prog_50_method_6_code 21 = .ok (.daload, 1) := by decide +kernel
theorem d_prog_50_method_6_code_22 : decode prog_50_method_6_code 22 = .ok (.aload_n 1, 1) := by decide +kernel
theorem d_prog_50_method_6_code_23 : decode prog_50_method_6_code 23 = .ok (.aload_n 0, 1) := by decide +kernel
theorem d_prog_50_method_6_code_24 : decode prog_50_method_6_code 24 = .ok (.getfield 7, 3) := by decide +kernel
theorem d_prog_50_method_6_code_27 : decode prog_50_method_6_code 27 = .ok (.iload 4, 2) := by decide +kernel
theorem d_prog_50_method_6_code_29 : decode prog_50_method_6_code 29 = .ok (.iaload, 1) := by decide +kernel
theorem d_prog_50_method_6_code_30 : decode prog_50_method_6_code 30 = .ok (.daload, 1) := by decide +kernel
theorem d_prog_50_method_6_code_31 : decode prog_50_method_6_code 31 = .ok (.dmul, 1) := by decide +kernel
theorem d_prog_50_method_6_code_32 : decode prog_50_method_6_code 32 = .ok (.dadd, 1) := by decide +kernel
theorem d_prog_50_method_6_code_33 : decode prog_50_method_6_code 33 = .ok (.dstore_n 2, 1) := by decide +kernel
theorem d_prog_50_method_6_code_34 : decode prog_50_method_6_code 34 = .ok (.iinc 4 1, 3) := by decide +kernel
theorem d_prog_50_method_6_code_37 : decode prog_50_method_6_code 37 = .ok (.goto (-32), 3) := by decide +kernel
set_option maxRecDepth 65536 in
set_option maxHeartbeats 40000000 in
theorem rmD1 (l : Launch) (Z : State) (a0 : Array Value) (hw : ∀ d ∈ tables_1, d.before a0 Z = true) (ws : List Jvm.Cond) (a : Addr) (b : Addr) (r : Addr) (q : Addr) (i0 : Int32) (x0 : UInt64) (y0 : UInt64) (y1 : UInt64) (y2 : UInt64) (y3 : UInt64) (j0 : Int) (m0 : Int) (h0 : Heap) (n0 : Nat) (Z0 : n0 ≤ h0.size) (F1 : fd2 Z h0 a (.ref r)) (F2 : fd3 Z h0 a (.ref q)) (F3 : fd4 Z h0 a (.int (1 : Int32))) (A1 : own_A Z h0 r .int [(.int i0), (.int (0 : Int32)), (.int (0 : Int32)), (.int (0 : Int32))]) (A2 : own_A Z h0 q .double [(.double x0), (.double (0 : UInt64)), (.double (0 : UInt64)), (.double (0 : UInt64))]) (A3 : own_A Z h0 b .double [(.double y0), (.double y1), (.double y2), (.double y3)]) (hi0 : i0 = 0 ∨ i0 = 1 ∨ i0 = 2 ∨ i0 = 3) (Dx0 : FP.Core.DInt j0 x0) (Dy0 : FP.Core.DInt m0 (own_selD y0 y1 y2 y3 i0)) (bj0 : -512 ≤ j0 ∧ j0 ≤ 512) (bm0 : -512 ≤ m0 ∧ m0 ≤ 512) :
    MetFree l mn17 (head1 (Jvm.Cond.code mn17 prog_50_method_6_code 5 (some .double) :: ws) ({ frames := 0, cells := 0, slots := 0, locals := 0 } : Room)) (fun aA U => aA = #[(.ref a), (.ref b)] ∧ Z.Warmed39 U.vm ∧ U.heap = h0) (fun _ _ _ _ _ => True) (fun _ U o U' => ∃ vR LR, o = .returned vR ∧ QrmD1 Z a b r q i0 x0 y0 y1 y2 y3 j0 m0 h0 n0 vR U'.heap LR ∧ FrameEnd U o U' LR ({ frames := 0, cells := 0, slots := 0, locals := 0 } : Room).cells ({ frames := 0, cells := 0, slots := 0, locals := 0 } : Room).slots) := by
  refine MetFree.of_bodySF (plainFor_of_name pn_com_example_netloom_netloom_embed_SparseColumn) hisR ?_
  intro p e s m args below meth c s₁ Bd hml0 hPre hKk
  obtain ⟨rfl, hZ, hh⟩ := hPre
  have hx := Bd.exec
  have hby := Bd.bytes
  have hml : c.maxLocals = 5 := hml0
  have hown : s.vm.findClass "com/example/netloom/netloom/embed/SparseColumn" = some m.cls := findClass_of_methodNamed Bd.named
  have hnm := (name_of_methodNamed Bd.named Bd.method).1
  have X0 : Stand p l e ({ frames := 0, cells := 0, slots := 0, locals := 0 } : Room) s m #[(.ref a), (.ref b)] below meth c s₁ [] 0 0 := Stand.of_body Bd
  have e0 : s₁.heap = h0 := by rw [← hh, Bd.state]; rfl
  have N0 := Fr.nil n0
  obtain ⟨E0, hE0⟩ : ∃ zE : State, zE = s₁.setTop (entryFrame m #[(.ref a), (.ref b)] 5) := ⟨_, rfl⟩
  have k0 : own_G p e below E0 s₁ (mkF m 0 #[vr a, vr b, uu, uu, uu] []) := fun tz kz => hE0 ▸ castTop (ef_rmD1 m a b r q i0 x0 y0 y1 y2 y3 j0 m0) kz
  have DS0 : FP.Core.DInt 0 FP.dconst0 := own_d0
  have k1231 : own_G p e below E0 s₁ (mkF m 8 #[vr a, vr b, vd FP.dconst0, ss, vi (0 : Int32)] [(.ref a), (.int (0 : Int32))]) := by
    intro tQ kk
    refine k0 tQ ?_
    refine XS.dconst0 X0.here hx rfl (hb hby d_prog_50_method_6_code_0) rfl ?_
    refine XS.dstoreN X0.here hx rfl (hb hby d_prog_50_method_6_code_1) rfl (l' := #[vr a, vr b, vd FP.dconst0, ss, uu]) rfl ?_
    refine XS.iconst X0.here hx rfl (hb hby d_prog_50_method_6_code_2) ?_
    refine XS.istore X0.here hx rfl (hb hby d_prog_50_method_6_code_3) rfl (l' := #[vr a, vr b, vd FP.dconst0, ss, vi (0 : Int32)]) rfl ?_
    show Steps p.tables e below (s₁.setTop (mkF m 5 #[vr a, vr b, vd FP.dconst0, ss, vi (0 : Int32)] [])) tQ
    refine XS.iload X0.here hx rfl (hb hby d_prog_50_method_6_code_5) rfl ?_
    refine XS.aloadN X0.here hx rfl (hb hby d_prog_50_method_6_code_7) rfl rfl ?_
    exact kk
  clear k0
  obtain ⟨T1232, X1233, e1234, st1235⟩ := getF X0 hx hZ hown (host := "") (Or.inl (tw27 hw)) Via.refl e0 F3 (g := (mkF m 8 #[vr a, vr b, vd FP.dconst0, ss, vi (0 : Int32)] [(.ref a), (.int (0 : Int32))])) rfl rfl (hb hby d_prog_50_method_6_code_8)
  have k1236 : own_G p e below E0 T1232 (mkF m 11 #[vr a, vr b, vd FP.dconst0, ss, vi (0 : Int32)] [(.int (1 : Int32)), (.int (0 : Int32))]) := fun tQ kk => k1231 tQ (st1235 _ kk)
  clear k1231 st1235
  have k1237 : own_G p e below E0 T1232 (mkF m 16 #[vr a, vr b, vd FP.dconst0, ss, vi (0 : Int32)] [(.ref a), (.double FP.dconst0)]) := by
    intro tQ kk
    refine k1236 tQ ?_
    refine XS.icmpNo X1233.here hx rfl (hb hby d_prog_50_method_6_code_11) rfl (own_ic_geN (by decide)) ?_
    refine XS.dloadN X1233.here hx rfl (hb hby d_prog_50_method_6_code_14) rfl ?_
    refine XS.aloadN X1233.here hx rfl (hb hby d_prog_50_method_6_code_15) rfl rfl ?_
    exact kk
  clear k1236
  obtain ⟨T1238, X1239, e1240, st1241⟩ := getF X1233 hx hZ hown (host := "") (Or.inl (tw20 hw)) Via.refl e1234 F2 (g := (mkF m 16 #[vr a, vr b, vd FP.dconst0, ss, vi (0 : Int32)] [(.ref a), (.double FP.dconst0)])) rfl rfl (hb hby d_prog_50_method_6_code_16)
  have k1242 : own_G p e below E0 T1238 (mkF m 19 #[vr a, vr b, vd FP.dconst0, ss, vi (0 : Int32)] [(.ref q), (.double FP.dconst0)]) := fun tQ kk => k1237 tQ (st1241 _ kk)
  clear k1237 st1241
  have k1243 : own_G p e below E0 T1238 (mkF m 21 #[vr a, vr b, vd FP.dconst0, ss, vi (0 : Int32)] [(.int (0 : Int32)), (.ref q), (.double FP.dconst0)]) := by
    intro tQ kk
    refine k1242 tQ ?_
    refine XS.iload X1239.here hx rfl (hb hby d_prog_50_method_6_code_19) rfl ?_
    exact kk
  clear k1242
  have st1244 := fun tQ => own_A.dld X1239 hx hZ e1240 A2 (j := (0 : Int32)) (v := (.double x0)) (by decide) rfl (g := (mkF m 21 #[vr a, vr b, vd FP.dconst0, ss, vi (0 : Int32)] [(.int (0 : Int32)), (.ref q), (.double FP.dconst0)])) rfl rfl (hb hby d_prog_50_method_6_code_21) tQ
  have k1245 : own_G p e below E0 T1238 (mkF m 22 #[vr a, vr b, vd FP.dconst0, ss, vi (0 : Int32)] [(.double x0), (.double FP.dconst0)]) := fun tQ kk => k1243 tQ (st1244 _ kk)
  clear k1243 st1244
  have k1246 : own_G p e below E0 T1238 (mkF m 24 #[vr a, vr b, vd FP.dconst0, ss, vi (0 : Int32)] [(.ref a), (.ref b), (.double x0), (.double FP.dconst0)]) := by
    intro tQ kk
    refine k1245 tQ ?_
    refine XS.aloadN X1239.here hx rfl (hb hby d_prog_50_method_6_code_22) rfl rfl ?_
    refine XS.aloadN X1239.here hx rfl (hb hby d_prog_50_method_6_code_23) rfl rfl ?_
    exact kk
  clear k1245
  obtain ⟨T1247, X1248, e1249, st1250⟩ := getF X1239 hx hZ hown (host := "") (Or.inl (tw18 hw)) Via.refl e1240 F1 (g := (mkF m 24 #[vr a, vr b, vd FP.dconst0, ss, vi (0 : Int32)] [(.ref a), (.ref b), (.double x0), (.double FP.dconst0)])) rfl rfl (hb hby d_prog_50_method_6_code_24)
  have k1251 : own_G p e below E0 T1247 (mkF m 27 #[vr a, vr b, vd FP.dconst0, ss, vi (0 : Int32)] [(.ref r), (.ref b), (.double x0), (.double FP.dconst0)]) := fun tQ kk => k1246 tQ (st1250 _ kk)
  clear k1246 st1250
  have k1252 : own_G p e below E0 T1247 (mkF m 29 #[vr a, vr b, vd FP.dconst0, ss, vi (0 : Int32)] [(.int (0 : Int32)), (.ref r), (.ref b), (.double x0), (.double FP.dconst0)]) := by
    intro tQ kk
    refine k1251 tQ ?_
    refine XS.iload X1248.here hx rfl (hb hby d_prog_50_method_6_code_27) rfl ?_
    exact kk
  clear k1251
  have st1253 := fun tQ => own_A.ild X1248 hx hZ e1249 A1 (j := (0 : Int32)) (v := (.int i0)) (by decide) rfl (g := (mkF m 29 #[vr a, vr b, vd FP.dconst0, ss, vi (0 : Int32)] [(.int (0 : Int32)), (.ref r), (.ref b), (.double x0), (.double FP.dconst0)])) rfl rfl (hb hby d_prog_50_method_6_code_29) tQ
  have k1254 : own_G p e below E0 T1247 (mkF m 30 #[vr a, vr b, vd FP.dconst0, ss, vi (0 : Int32)] [(.int i0), (.ref b), (.double x0), (.double FP.dconst0)]) := fun tQ kk => k1252 tQ (st1253 _ kk)
  clear k1252 st1253
  have st1255 := fun tQ => own_A.dld X1248 hx hZ e1249 A3 (j := i0) (v := (.double (own_selD y0 y1 y2 y3 i0))) (own_rn hi0) (own_selDp _ _ _ _ hi0) (g := (mkF m 30 #[vr a, vr b, vd FP.dconst0, ss, vi (0 : Int32)] [(.int i0), (.ref b), (.double x0), (.double FP.dconst0)])) rfl rfl (hb hby d_prog_50_method_6_code_30) tQ
  have k1256 : own_G p e below E0 T1247 (mkF m 31 #[vr a, vr b, vd FP.dconst0, ss, vi (0 : Int32)] [(.double (own_selD y0 y1 y2 y3 i0)), (.double x0), (.double FP.dconst0)]) := fun tQ kk => k1254 tQ (st1255 _ kk)
  clear k1254 st1255
  obtain ⟨z0, hz0⟩ : ∃ vA, FP.dmul x0 (own_selD y0 y1 y2 y3 i0) = vA := ⟨_, rfl⟩
  have DM0 : FP.Core.DInt (j0 * m0) z0 := hz0 ▸ FP.Core.dmul_int Dx0 Dy0 (own_m9 bj0 bm0)
  have q0 := own_p9 bj0 bm0
  have k1257 : own_G p e below E0 T1247 (mkF m 32 #[vr a, vr b, vd FP.dconst0, ss, vi (0 : Int32)] [(.double z0), (.double FP.dconst0)]) := by
    intro tQ kk
    refine k1256 tQ ?_
    refine XS.dmulS X1248.here hx rfl (hb hby d_prog_50_method_6_code_31) rfl (own_nn (FP.Core.dmul_int Dx0 Dy0 (own_m9 bj0 bm0))) hz0 ?_
    exact kk
  clear k1256
  obtain ⟨s1, hs1⟩ : ∃ vA, FP.dadd FP.dconst0 z0 = vA := ⟨_, rfl⟩
  have DS1 : FP.Core.DInt (0 + j0 * m0) s1 := hs1 ▸ FP.Core.dadd_int DS0 DM0 (own_s7 (by omega) (by omega))
  have k1258 : own_G p e below E0 T1247 (mkF m 8 #[vr a, vr b, vd s1, ss, vi (1 : Int32)] [(.ref a), (.int (1 : Int32))]) := by
    intro tQ kk
    refine k1257 tQ ?_
    refine XS.daddS X1248.here hx rfl (hb hby d_prog_50_method_6_code_32) rfl (own_nn (FP.Core.dadd_int DS0 DM0 (own_s7 (by omega) (by omega)))) hs1 ?_
    refine XS.dstoreN X1248.here hx rfl (hb hby d_prog_50_method_6_code_33) rfl (l' := #[vr a, vr b, vd s1, ss, vi (0 : Int32)]) rfl ?_
    refine XS.iinc X1248.here hx rfl (hb hby d_prog_50_method_6_code_34) rfl (l' := #[vr a, vr b, vd s1, ss, vi (1 : Int32)]) rfl ?_
    refine XS.goto X1248.here hx rfl (pc0 := 37) (pc' := 5) rfl (hb hby d_prog_50_method_6_code_37) (by decide) (by decide) ?_
    show Steps p.tables e below (T1247.setTop (mkF m 5 #[vr a, vr b, vd s1, ss, vi (1 : Int32)] [])) tQ
    refine XS.iload X1248.here hx rfl (hb hby d_prog_50_method_6_code_5) rfl ?_
    refine XS.aloadN X1248.here hx rfl (hb hby d_prog_50_method_6_code_7) rfl rfl ?_
    exact kk
  clear k1257
  obtain ⟨T1259, X1260, e1261, st1262⟩ := getF X1248 hx hZ hown (host := "") (Or.inl (tw27 hw)) Via.refl e1249 F3 (g := (mkF m 8 #[vr a, vr b, vd s1, ss, vi (1 : Int32)] [(.ref a), (.int (1 : Int32))])) rfl rfl (hb hby d_prog_50_method_6_code_8)
  have k1263 : own_G p e below E0 T1259 (mkF m 11 #[vr a, vr b, vd s1, ss, vi (1 : Int32)] [(.int (1 : Int32)), (.int (1 : Int32))]) := fun tQ kk => k1258 tQ (st1262 _ kk)
  clear k1258 st1262
  have k1264 : own_G p e below E0 T1259 (mkF m 41 #[vr a, vr b, vd s1, ss, vi (1 : Int32)] [(.double s1)]) := by
    intro tQ kk
    refine k1263 tQ ?_
    refine XS.icmpYes X1260.here hx rfl (pc0 := 11) (pc' := 40) rfl (hb hby d_prog_50_method_6_code_11) rfl (own_ic_geY (by decide)) (by decide) (by decide) ?_
    refine XS.dloadN X1260.here hx rfl (hb hby d_prog_50_method_6_code_40) rfl ?_
    exact kk
  clear k1263
  obtain ⟨fs, hr, hrun, hended, hW, hsame⟩ := X1260.leave (v := some (.double s1)) (fun h => by rw [Bd.returns] at h; cases h)
  have hrun0 := k1264 _ (retOut X1260 hx Bd.returns (t := .double) rfl (Or.inr (Or.inr (Or.inl ⟨rfl, rfl, _, rfl⟩))) (hb hby d_prog_50_method_6_code_41) hr)
  subst hE0
  refine ⟨_, _, hrun0, hrun, hended, _, _, rfl, ?_, ⟨_, rfl⟩, hW, hsame.mono (by decide) (by decide)⟩
  show QrmD1 Z a b r q i0 x0 y0 y1 y2 y3 j0 m0 h0 n0 _ T1259.heap _
  rw [e1261]
  exact ⟨s1, rfl, N0, rfl, DS1⟩
def QrmD2 (Z : State) (a : Addr) (b : Addr) (r : Addr) (q : Addr) (i0 : Int32) (i1 : Int32) (x0 : UInt64) (x1 : UInt64) (y0 : UInt64) (y1 : UInt64) (y2 : UInt64) (y3 : UInt64) (j0 : Int) (j1 : Int) (m0 : Int) (m1 : Int) (h0 : Heap) (n0 : Nat) (vQ : Option Value) (hQ : Heap) (LQ : List Loc) : Prop := ∃ (s : UInt64), vQ = some (.double s) ∧ Fr n0 LQ ∧ hQ = h0 ∧ (FP.Core.DInt (0 + j0 * m0 + j1 * m1) s)
theorem ef_rmD2 (m : MethodId) (a : Addr) (b : Addr) (r : Addr) (q : Addr) (i0 : Int32) (i1 : Int32) (x0 : UInt64) (x1 : UInt64) (y0 : UInt64) (y1 : UInt64) (y2 : UInt64) (y3 : UInt64) (j0 : Int) (j1 : Int) (m0 : Int) (m1 : Int) : entryFrame m #[(.ref a), (.ref b)] 5 = mkF m 0 #[vr a, vr b, uu, uu, uu] [] := by first | (simp [entryFrame, mkF, argsToLocals, Value.category]; done) | rfl
set_option maxRecDepth 65536 in
set_option maxHeartbeats 40000000 in
theorem rmD2 (l : Launch) (Z : State) (a0 : Array Value) (hw : ∀ d ∈ tables_1, d.before a0 Z = true) (ws : List Jvm.Cond) (a : Addr) (b : Addr) (r : Addr) (q : Addr) (i0 : Int32) (i1 : Int32) (x0 : UInt64) (x1 : UInt64) (y0 : UInt64) (y1 : UInt64) (y2 : UInt64) (y3 : UInt64) (j0 : Int) (j1 : Int) (m0 : Int) (m1 : Int) (h0 : Heap) (n0 : Nat) (Z0 : n0 ≤ h0.size) (F1 : fd2 Z h0 a (.ref r)) (F2 : fd3 Z h0 a (.ref q)) (F3 : fd4 Z h0 a (.int (2 : Int32))) (A1 : own_A Z h0 r .int [(.int i0), (.int i1), (.int (0 : Int32)), (.int (0 : Int32))]) (A2 : own_A Z h0 q .double [(.double x0), (.double x1), (.double (0 : UInt64)), (.double (0 : UInt64))]) (A3 : own_A Z h0 b .double [(.double y0), (.double y1), (.double y2), (.double y3)]) (hi0 : i0 = 0 ∨ i0 = 1 ∨ i0 = 2 ∨ i0 = 3) (Dx0 : FP.Core.DInt j0 x0) (Dy0 : FP.Core.DInt m0 (own_selD y0 y1 y2 y3 i0)) (bj0 : -512 ≤ j0 ∧ j0 ≤ 512) (bm0 : -512 ≤ m0 ∧ m0 ≤ 512) (hi1 : i1 = 0 ∨ i1 = 1 ∨ i1 = 2 ∨ i1 = 3) (Dx1 : FP.Core.DInt j1 x1) (Dy1 : FP.Core.DInt m1 (own_selD y0 y1 y2 y3 i1)) (bj1 : -512 ≤ j1 ∧ j1 ≤ 512) (bm1 : -512 ≤ m1 ∧ m1 ≤ 512) :
    MetFree l mn17 (head1 (Jvm.Cond.code mn17 prog_50_method_6_code 5 (some .double) :: ws) ({ frames := 0, cells := 0, slots := 0, locals := 0 } : Room)) (fun aA U => aA = #[(.ref a), (.ref b)] ∧ Z.Warmed39 U.vm ∧ U.heap = h0) (fun _ _ _ _ _ => True) (fun _ U o U' => ∃ vR LR, o = .returned vR ∧ QrmD2 Z a b r q i0 i1 x0 x1 y0 y1 y2 y3 j0 j1 m0 m1 h0 n0 vR U'.heap LR ∧ FrameEnd U o U' LR ({ frames := 0, cells := 0, slots := 0, locals := 0 } : Room).cells ({ frames := 0, cells := 0, slots := 0, locals := 0 } : Room).slots) := by
  refine MetFree.of_bodySF (plainFor_of_name pn_com_example_netloom_netloom_embed_SparseColumn) hisR ?_
  intro p e s m args below meth c s₁ Bd hml0 hPre hKk
  obtain ⟨rfl, hZ, hh⟩ := hPre
  have hx := Bd.exec
  have hby := Bd.bytes
  have hml : c.maxLocals = 5 := hml0
  have hown : s.vm.findClass "com/example/netloom/netloom/embed/SparseColumn" = some m.cls := findClass_of_methodNamed Bd.named
  have hnm := (name_of_methodNamed Bd.named Bd.method).1
  have X0 : Stand p l e ({ frames := 0, cells := 0, slots := 0, locals := 0 } : Room) s m #[(.ref a), (.ref b)] below meth c s₁ [] 0 0 := Stand.of_body Bd
  have e0 : s₁.heap = h0 := by rw [← hh, Bd.state]; rfl
  have N0 := Fr.nil n0
  obtain ⟨E0, hE0⟩ : ∃ zE : State, zE = s₁.setTop (entryFrame m #[(.ref a), (.ref b)] 5) := ⟨_, rfl⟩
  have k0 : own_G p e below E0 s₁ (mkF m 0 #[vr a, vr b, uu, uu, uu] []) := fun tz kz => hE0 ▸ castTop (ef_rmD2 m a b r q i0 i1 x0 x1 y0 y1 y2 y3 j0 j1 m0 m1) kz
  have DS0 : FP.Core.DInt 0 FP.dconst0 := own_d0
  have k1265 : own_G p e below E0 s₁ (mkF m 8 #[vr a, vr b, vd FP.dconst0, ss, vi (0 : Int32)] [(.ref a), (.int (0 : Int32))]) := by
    intro tQ kk
    refine k0 tQ ?_
    refine XS.dconst0 X0.here hx rfl (hb hby d_prog_50_method_6_code_0) rfl ?_
    refine XS.dstoreN X0.here hx rfl (hb hby d_prog_50_method_6_code_1) rfl (l' := #[vr a, vr b, vd FP.dconst0, ss, uu]) rfl ?_
    refine XS.iconst X0.here hx rfl (hb hby d_prog_50_method_6_code_2) ?_
    refine XS.istore X0.here hx rfl (hb hby d_prog_50_method_6_code_3) rfl (l' := #[vr a, vr b, vd FP.dconst0, ss, vi (0 : Int32)]) rfl ?_
    show Steps p.tables e below (s₁.setTop (mkF m 5 #[vr a, vr b, vd FP.dconst0, ss, vi (0 : Int32)] [])) tQ
    refine XS.iload X0.here hx rfl (hb hby d_prog_50_method_6_code_5) rfl ?_
    refine XS.aloadN X0.here hx rfl (hb hby d_prog_50_method_6_code_7) rfl rfl ?_
    exact kk
  clear k0
  obtain ⟨T1266, X1267, e1268, st1269⟩ := getF X0 hx hZ hown (host := "") (Or.inl (tw27 hw)) Via.refl e0 F3 (g := (mkF m 8 #[vr a, vr b, vd FP.dconst0, ss, vi (0 : Int32)] [(.ref a), (.int (0 : Int32))])) rfl rfl (hb hby d_prog_50_method_6_code_8)
  have k1270 : own_G p e below E0 T1266 (mkF m 11 #[vr a, vr b, vd FP.dconst0, ss, vi (0 : Int32)] [(.int (2 : Int32)), (.int (0 : Int32))]) := fun tQ kk => k1265 tQ (st1269 _ kk)
  clear k1265 st1269
  have k1271 : own_G p e below E0 T1266 (mkF m 16 #[vr a, vr b, vd FP.dconst0, ss, vi (0 : Int32)] [(.ref a), (.double FP.dconst0)]) := by
    intro tQ kk
    refine k1270 tQ ?_
    refine XS.icmpNo X1267.here hx rfl (hb hby d_prog_50_method_6_code_11) rfl (own_ic_geN (by decide)) ?_
    refine XS.dloadN X1267.here hx rfl (hb hby d_prog_50_method_6_code_14) rfl ?_
    refine XS.aloadN X1267.here hx rfl (hb hby d_prog_50_method_6_code_15) rfl rfl ?_
    exact kk
  clear k1270
  obtain ⟨T1272, X1273, e1274, st1275⟩ := getF X1267 hx hZ hown (host := "") (Or.inl (tw20 hw)) Via.refl e1268 F2 (g := (mkF m 16 #[vr a, vr b, vd FP.dconst0, ss, vi (0 : Int32)] [(.ref a), (.double FP.dconst0)])) rfl rfl (hb hby d_prog_50_method_6_code_16)
  have k1276 : own_G p e below E0 T1272 (mkF m 19 #[vr a, vr b, vd FP.dconst0, ss, vi (0 : Int32)] [(.ref q), (.double FP.dconst0)]) := fun tQ kk => k1271 tQ (st1275 _ kk)
  clear k1271 st1275
  have k1277 : own_G p e below E0 T1272 (mkF m 21 #[vr a, vr b, vd FP.dconst0, ss, vi (0 : Int32)] [(.int (0 : Int32)), (.ref q), (.double FP.dconst0)]) := by
    intro tQ kk
    refine k1276 tQ ?_
    refine XS.iload X1273.here hx rfl (hb hby d_prog_50_method_6_code_19) rfl ?_
    exact kk
  clear k1276
  have st1278 := fun tQ => own_A.dld X1273 hx hZ e1274 A2 (j := (0 : Int32)) (v := (.double x0)) (by decide) rfl (g := (mkF m 21 #[vr a, vr b, vd FP.dconst0, ss, vi (0 : Int32)] [(.int (0 : Int32)), (.ref q), (.double FP.dconst0)])) rfl rfl (hb hby d_prog_50_method_6_code_21) tQ
  have k1279 : own_G p e below E0 T1272 (mkF m 22 #[vr a, vr b, vd FP.dconst0, ss, vi (0 : Int32)] [(.double x0), (.double FP.dconst0)]) := fun tQ kk => k1277 tQ (st1278 _ kk)
  clear k1277 st1278
  have k1280 : own_G p e below E0 T1272 (mkF m 24 #[vr a, vr b, vd FP.dconst0, ss, vi (0 : Int32)] [(.ref a), (.ref b), (.double x0), (.double FP.dconst0)]) := by
    intro tQ kk
    refine k1279 tQ ?_
    refine XS.aloadN X1273.here hx rfl (hb hby d_prog_50_method_6_code_22) rfl rfl ?_
    refine XS.aloadN X1273.here hx rfl (hb hby d_prog_50_method_6_code_23) rfl rfl ?_
    exact kk
  clear k1279
  obtain ⟨T1281, X1282, e1283, st1284⟩ := getF X1273 hx hZ hown (host := "") (Or.inl (tw18 hw)) Via.refl e1274 F1 (g := (mkF m 24 #[vr a, vr b, vd FP.dconst0, ss, vi (0 : Int32)] [(.ref a), (.ref b), (.double x0), (.double FP.dconst0)])) rfl rfl (hb hby d_prog_50_method_6_code_24)
  have k1285 : own_G p e below E0 T1281 (mkF m 27 #[vr a, vr b, vd FP.dconst0, ss, vi (0 : Int32)] [(.ref r), (.ref b), (.double x0), (.double FP.dconst0)]) := fun tQ kk => k1280 tQ (st1284 _ kk)
  clear k1280 st1284
  have k1286 : own_G p e below E0 T1281 (mkF m 29 #[vr a, vr b, vd FP.dconst0, ss, vi (0 : Int32)] [(.int (0 : Int32)), (.ref r), (.ref b), (.double x0), (.double FP.dconst0)]) := by
    intro tQ kk
    refine k1285 tQ ?_
    refine XS.iload X1282.here hx rfl (hb hby d_prog_50_method_6_code_27) rfl ?_
    exact kk
  clear k1285
  have st1287 := fun tQ => own_A.ild X1282 hx hZ e1283 A1 (j := (0 : Int32)) (v := (.int i0)) (by decide) rfl (g := (mkF m 29 #[vr a, vr b, vd FP.dconst0, ss, vi (0 : Int32)] [(.int (0 : Int32)), (.ref r), (.ref b), (.double x0), (.double FP.dconst0)])) rfl rfl (hb hby d_prog_50_method_6_code_29) tQ
  have k1288 : own_G p e below E0 T1281 (mkF m 30 #[vr a, vr b, vd FP.dconst0, ss, vi (0 : Int32)] [(.int i0), (.ref b), (.double x0), (.double FP.dconst0)]) := fun tQ kk => k1286 tQ (st1287 _ kk)
  clear k1286 st1287
  have st1289 := fun tQ => own_A.dld X1282 hx hZ e1283 A3 (j := i0) (v := (.double (own_selD y0 y1 y2 y3 i0))) (own_rn hi0) (own_selDp _ _ _ _ hi0) (g := (mkF m 30 #[vr a, vr b, vd FP.dconst0, ss, vi (0 : Int32)] [(.int i0), (.ref b), (.double x0), (.double FP.dconst0)])) rfl rfl (hb hby d_prog_50_method_6_code_30) tQ
  have k1290 : own_G p e below E0 T1281 (mkF m 31 #[vr a, vr b, vd FP.dconst0, ss, vi (0 : Int32)] [(.double (own_selD y0 y1 y2 y3 i0)), (.double x0), (.double FP.dconst0)]) := fun tQ kk => k1288 tQ (st1289 _ kk)
  clear k1288 st1289
  obtain ⟨z0, hz0⟩ : ∃ vA, FP.dmul x0 (own_selD y0 y1 y2 y3 i0) = vA := ⟨_, rfl⟩
  have DM0 : FP.Core.DInt (j0 * m0) z0 := hz0 ▸ FP.Core.dmul_int Dx0 Dy0 (own_m9 bj0 bm0)
  have q0 := own_p9 bj0 bm0
  have k1291 : own_G p e below E0 T1281 (mkF m 32 #[vr a, vr b, vd FP.dconst0, ss, vi (0 : Int32)] [(.double z0), (.double FP.dconst0)]) := by
    intro tQ kk
    refine k1290 tQ ?_
    refine XS.dmulS X1282.here hx rfl (hb hby d_prog_50_method_6_code_31) rfl (own_nn (FP.Core.dmul_int Dx0 Dy0 (own_m9 bj0 bm0))) hz0 ?_
    exact kk
  clear k1290
  obtain ⟨s1, hs1⟩ : ∃ vA, FP.dadd FP.dconst0 z0 = vA := ⟨_, rfl⟩
  have DS1 : FP.Core.DInt (0 + j0 * m0) s1 := hs1 ▸ FP.Core.dadd_int DS0 DM0 (own_s7 (by omega) (by omega))
  have k1292 : own_G p e below E0 T1281 (mkF m 8 #[vr a, vr b, vd s1, ss, vi (1 : Int32)] [(.ref a), (.int (1 : Int32))]) := by
    intro tQ kk
    refine k1291 tQ ?_
    refine XS.daddS X1282.here hx rfl (hb hby d_prog_50_method_6_code_32) rfl (own_nn (FP.Core.dadd_int DS0 DM0 (own_s7 (by omega) (by omega)))) hs1 ?_
    refine XS.dstoreN X1282.here hx rfl (hb hby d_prog_50_method_6_code_33) rfl (l' := #[vr a, vr b, vd s1, ss, vi (0 : Int32)]) rfl ?_
    refine XS.iinc X1282.here hx rfl (hb hby d_prog_50_method_6_code_34) rfl (l' := #[vr a, vr b, vd s1, ss, vi (1 : Int32)]) rfl ?_
    refine XS.goto X1282.here hx rfl (pc0 := 37) (pc' := 5) rfl (hb hby d_prog_50_method_6_code_37) (by decide) (by decide) ?_
    show Steps p.tables e below (T1281.setTop (mkF m 5 #[vr a, vr b, vd s1, ss, vi (1 : Int32)] [])) tQ
    refine XS.iload X1282.here hx rfl (hb hby d_prog_50_method_6_code_5) rfl ?_
    refine XS.aloadN X1282.here hx rfl (hb hby d_prog_50_method_6_code_7) rfl rfl ?_
    exact kk
  clear k1291
  obtain ⟨T1293, X1294, e1295, st1296⟩ := getF X1282 hx hZ hown (host := "") (Or.inl (tw27 hw)) Via.refl e1283 F3 (g := (mkF m 8 #[vr a, vr b, vd s1, ss, vi (1 : Int32)] [(.ref a), (.int (1 : Int32))])) rfl rfl (hb hby d_prog_50_method_6_code_8)
  have k1297 : own_G p e below E0 T1293 (mkF m 11 #[vr a, vr b, vd s1, ss, vi (1 : Int32)] [(.int (2 : Int32)), (.int (1 : Int32))]) := fun tQ kk => k1292 tQ (st1296 _ kk)
  clear k1292 st1296
  have k1298 : own_G p e below E0 T1293 (mkF m 16 #[vr a, vr b, vd s1, ss, vi (1 : Int32)] [(.ref a), (.double s1)]) := by
    intro tQ kk
    refine k1297 tQ ?_
    refine XS.icmpNo X1294.here hx rfl (hb hby d_prog_50_method_6_code_11) rfl (own_ic_geN (by decide)) ?_
    refine XS.dloadN X1294.here hx rfl (hb hby d_prog_50_method_6_code_14) rfl ?_
    refine XS.aloadN X1294.here hx rfl (hb hby d_prog_50_method_6_code_15) rfl rfl ?_
    exact kk
  clear k1297
  obtain ⟨T1299, X1300, e1301, st1302⟩ := getF X1294 hx hZ hown (host := "") (Or.inl (tw20 hw)) Via.refl e1295 F2 (g := (mkF m 16 #[vr a, vr b, vd s1, ss, vi (1 : Int32)] [(.ref a), (.double s1)])) rfl rfl (hb hby d_prog_50_method_6_code_16)
  have k1303 : own_G p e below E0 T1299 (mkF m 19 #[vr a, vr b, vd s1, ss, vi (1 : Int32)] [(.ref q), (.double s1)]) := fun tQ kk => k1298 tQ (st1302 _ kk)
  clear k1298 st1302
  have k1304 : own_G p e below E0 T1299 (mkF m 21 #[vr a, vr b, vd s1, ss, vi (1 : Int32)] [(.int (1 : Int32)), (.ref q), (.double s1)]) := by
    intro tQ kk
    refine k1303 tQ ?_
    refine XS.iload X1300.here hx rfl (hb hby d_prog_50_method_6_code_19) rfl ?_
    exact kk
  clear k1303
  have st1305 := fun tQ => own_A.dld X1300 hx hZ e1301 A2 (j := (1 : Int32)) (v := (.double x1)) (by decide) rfl (g := (mkF m 21 #[vr a, vr b, vd s1, ss, vi (1 : Int32)] [(.int (1 : Int32)), (.ref q), (.double s1)])) rfl rfl (hb hby d_prog_50_method_6_code_21) tQ
  have k1306 : own_G p e below E0 T1299 (mkF m 22 #[vr a, vr b, vd s1, ss, vi (1 : Int32)] [(.double x1), (.double s1)]) := fun tQ kk => k1304 tQ (st1305 _ kk)
  clear k1304 st1305
  have k1307 : own_G p e below E0 T1299 (mkF m 24 #[vr a, vr b, vd s1, ss, vi (1 : Int32)] [(.ref a), (.ref b), (.double x1), (.double s1)]) := by
    intro tQ kk
    refine k1306 tQ ?_
    refine XS.aloadN X1300.here hx rfl (hb hby d_prog_50_method_6_code_22) rfl rfl ?_
    refine XS.aloadN X1300.here hx rfl (hb hby d_prog_50_method_6_code_23) rfl rfl ?_
    exact kk
  clear k1306
  obtain ⟨T1308, X1309, e1310, st1311⟩ := getF X1300 hx hZ hown (host := "") (Or.inl (tw18 hw)) Via.refl e1301 F1 (g := (mkF m 24 #[vr a, vr b, vd s1, ss, vi (1 : Int32)] [(.ref a), (.ref b), (.double x1), (.double s1)])) rfl rfl (hb hby d_prog_50_method_6_code_24)
  have k1312 : own_G p e below E0 T1308 (mkF m 27 #[vr a, vr b, vd s1, ss, vi (1 : Int32)] [(.ref r), (.ref b), (.double x1), (.double s1)]) := fun tQ kk => k1307 tQ (st1311 _ kk)
  clear k1307 st1311
  have k1313 : own_G p e below E0 T1308 (mkF m 29 #[vr a, vr b, vd s1, ss, vi (1 : Int32)] [(.int (1 : Int32)), (.ref r), (.ref b), (.double x1), (.double s1)]) := by
    intro tQ kk
    refine k1312 tQ ?_
    refine XS.iload X1309.here hx rfl (hb hby d_prog_50_method_6_code_27) rfl ?_
    exact kk
  clear k1312
  have st1314 := fun tQ => own_A.ild X1309 hx hZ e1310 A1 (j := (1 : Int32)) (v := (.int i1)) (by decide) rfl (g := (mkF m 29 #[vr a, vr b, vd s1, ss, vi (1 : Int32)] [(.int (1 : Int32)), (.ref r), (.ref b), (.double x1), (.double s1)])) rfl rfl (hb hby d_prog_50_method_6_code_29) tQ
  have k1315 : own_G p e below E0 T1308 (mkF m 30 #[vr a, vr b, vd s1, ss, vi (1 : Int32)] [(.int i1), (.ref b), (.double x1), (.double s1)]) := fun tQ kk => k1313 tQ (st1314 _ kk)
  clear k1313 st1314
  have st1316 := fun tQ => own_A.dld X1309 hx hZ e1310 A3 (j := i1) (v := (.double (own_selD y0 y1 y2 y3 i1))) (own_rn hi1) (own_selDp _ _ _ _ hi1) (g := (mkF m 30 #[vr a, vr b, vd s1, ss, vi (1 : Int32)] [(.int i1), (.ref b), (.double x1), (.double s1)])) rfl rfl (hb hby d_prog_50_method_6_code_30) tQ
  have k1317 : own_G p e below E0 T1308 (mkF m 31 #[vr a, vr b, vd s1, ss, vi (1 : Int32)] [(.double (own_selD y0 y1 y2 y3 i1)), (.double x1), (.double s1)]) := fun tQ kk => k1315 tQ (st1316 _ kk)
  clear k1315 st1316
  obtain ⟨z1, hz1⟩ : ∃ vA, FP.dmul x1 (own_selD y0 y1 y2 y3 i1) = vA := ⟨_, rfl⟩
  have DM1 : FP.Core.DInt (j1 * m1) z1 := hz1 ▸ FP.Core.dmul_int Dx1 Dy1 (own_m9 bj1 bm1)
  have q1 := own_p9 bj1 bm1
  have k1318 : own_G p e below E0 T1308 (mkF m 32 #[vr a, vr b, vd s1, ss, vi (1 : Int32)] [(.double z1), (.double s1)]) := by
    intro tQ kk
    refine k1317 tQ ?_
    refine XS.dmulS X1309.here hx rfl (hb hby d_prog_50_method_6_code_31) rfl (own_nn (FP.Core.dmul_int Dx1 Dy1 (own_m9 bj1 bm1))) hz1 ?_
    exact kk
  clear k1317
  obtain ⟨s2, hs2⟩ : ∃ vA, FP.dadd s1 z1 = vA := ⟨_, rfl⟩
  have DS2 : FP.Core.DInt (0 + j0 * m0 + j1 * m1) s2 := hs2 ▸ FP.Core.dadd_int DS1 DM1 (own_s7 (by omega) (by omega))
  have k1319 : own_G p e below E0 T1308 (mkF m 8 #[vr a, vr b, vd s2, ss, vi (2 : Int32)] [(.ref a), (.int (2 : Int32))]) := by
    intro tQ kk
    refine k1318 tQ ?_
    refine XS.daddS X1309.here hx rfl (hb hby d_prog_50_method_6_code_32) rfl (own_nn (FP.Core.dadd_int DS1 DM1 (own_s7 (by omega) (by omega)))) hs2 ?_
    refine XS.dstoreN X1309.here hx rfl (hb hby d_prog_50_method_6_code_33) rfl (l' := #[vr a, vr b, vd s2, ss, vi (1 : Int32)]) rfl ?_
    refine XS.iinc X1309.here hx rfl (hb hby d_prog_50_method_6_code_34) rfl (l' := #[vr a, vr b, vd s2, ss, vi (2 : Int32)]) rfl ?_
    refine XS.goto X1309.here hx rfl (pc0 := 37) (pc' := 5) rfl (hb hby d_prog_50_method_6_code_37) (by decide) (by decide) ?_
    show Steps p.tables e below (T1308.setTop (mkF m 5 #[vr a, vr b, vd s2, ss, vi (2 : Int32)] [])) tQ
    refine XS.iload X1309.here hx rfl (hb hby d_prog_50_method_6_code_5) rfl ?_
    refine XS.aloadN X1309.here hx rfl (hb hby d_prog_50_method_6_code_7) rfl rfl ?_
    exact kk
  clear k1318
  obtain ⟨T1320, X1321, e1322, st1323⟩ := getF X1309 hx hZ hown (host := "") (Or.inl (tw27 hw)) Via.refl e1310 F3 (g := (mkF m 8 #[vr a, vr b, vd s2, ss, vi (2 : Int32)] [(.ref a), (.int (2 : Int32))])) rfl rfl (hb hby d_prog_50_method_6_code_8)
  have k1324 : own_G p e below E0 T1320 (mkF m 11 #[vr a, vr b, vd s2, ss, vi (2 : Int32)] [(.int (2 : Int32)), (.int (2 : Int32))]) := fun tQ kk => k1319 tQ (st1323 _ kk)
  clear k1319 st1323
  have k1325 : own_G p e below E0 T1320 (mkF m 41 #[vr a, vr b, vd s2, ss, vi (2 : Int32)] [(.double s2)]) := by
    intro tQ kk
    refine k1324 tQ ?_
    refine XS.icmpYes X1321.here hx rfl (pc0 := 11) (pc' := 40) rfl (hb hby d_prog_50_method_6_code_11) rfl (own_ic_geY (by decide)) (by decide) (by decide) ?_
    refine XS.dloadN X1321.here hx rfl (hb hby d_prog_50_method_6_code_40) rfl ?_
    exact kk
  clear k1324
  obtain ⟨fs, hr, hrun, hended, hW, hsame⟩ := X1321.leave (v := some (.double s2)) (fun h => by rw [Bd.returns] at h; cases h)
  have hrun0 := k1325 _ (retOut X1321 hx Bd.returns (t := .double) rfl (Or.inr (Or.inr (Or.inl ⟨rfl, rfl, _, rfl⟩))) (hb hby d_prog_50_method_6_code_41) hr)
  subst hE0
  refine ⟨_, _, hrun0, hrun, hended, _, _, rfl, ?_, ⟨_, rfl⟩, hW, hsame.mono (by decide) (by decide)⟩
  show QrmD2 Z a b r q i0 i1 x0 x1 y0 y1 y2 y3 j0 j1 m0 m1 h0 n0 _ T1320.heap _
  rw [e1322]
  exact ⟨s2, rfl, N0, rfl, DS2⟩
def QrmD3 (Z : State) (a : Addr) (b : Addr) (r : Addr) (q : Addr) (i0 : Int32) (i1 : Int32) (i2 : Int32) (x0 : UInt64) (x1 : UInt64) (x2 : UInt64) (y0 : UInt64) (y1 : UInt64) (y2 : UInt64) (y3 : UInt64) (j0 : Int) (j1 : Int) (j2 : Int) (m0 : Int) (m1 : Int) (m2 : Int) (h0 : Heap) (n0 : Nat) (vQ : Option Value) (hQ : Heap) (LQ : List Loc) : Prop := ∃ (s : UInt64), vQ = some (.double s) ∧ Fr n0 LQ ∧ hQ = h0 ∧ (FP.Core.DInt (0 + j0 * m0 + j1 * m1 + j2 * m2) s)
theorem ef_rmD3 (m : MethodId) (a : Addr) (b : Addr) (r : Addr) (q : Addr) (i0 : Int32) (i1 : Int32) (i2 : Int32) (x0 : UInt64) (x1 : UInt64) (x2 : UInt64) (y0 : UInt64) (y1 : UInt64) (y2 : UInt64) (y3 : UInt64) (j0 : Int) (j1 : Int) (j2 : Int) (m0 : Int) (m1 : Int) (m2 : Int) : entryFrame m #[(.ref a), (.ref b)] 5 = mkF m 0 #[vr a, vr b, uu, uu, uu] [] := by first | (simp [entryFrame, mkF, argsToLocals, Value.category]; done) | rfl
set_option maxRecDepth 65536 in
set_option maxHeartbeats 40000000 in
theorem rmD3 (l : Launch) (Z : State) (a0 : Array Value) (hw : ∀ d ∈ tables_1, d.before a0 Z = true) (ws : List Jvm.Cond) (a : Addr) (b : Addr) (r : Addr) (q : Addr) (i0 : Int32) (i1 : Int32) (i2 : Int32) (x0 : UInt64) (x1 : UInt64) (x2 : UInt64) (y0 : UInt64) (y1 : UInt64) (y2 : UInt64) (y3 : UInt64) (j0 : Int) (j1 : Int) (j2 : Int) (m0 : Int) (m1 : Int) (m2 : Int) (h0 : Heap) (n0 : Nat) (Z0 : n0 ≤ h0.size) (F1 : fd2 Z h0 a (.ref r)) (F2 : fd3 Z h0 a (.ref q)) (F3 : fd4 Z h0 a (.int (3 : Int32))) (A1 : own_A Z h0 r .int [(.int i0), (.int i1), (.int i2), (.int (0 : Int32))]) (A2 : own_A Z h0 q .double [(.double x0), (.double x1), (.double x2), (.double (0 : UInt64))]) (A3 : own_A Z h0 b .double [(.double y0), (.double y1), (.double y2), (.double y3)]) (hi0 : i0 = 0 ∨ i0 = 1 ∨ i0 = 2 ∨ i0 = 3) (Dx0 : FP.Core.DInt j0 x0) (Dy0 : FP.Core.DInt m0 (own_selD y0 y1 y2 y3 i0)) (bj0 : -512 ≤ j0 ∧ j0 ≤ 512) (bm0 : -512 ≤ m0 ∧ m0 ≤ 512) (hi1 : i1 = 0 ∨ i1 = 1 ∨ i1 = 2 ∨ i1 = 3) (Dx1 : FP.Core.DInt j1 x1) (Dy1 : FP.Core.DInt m1 (own_selD y0 y1 y2 y3 i1)) (bj1 : -512 ≤ j1 ∧ j1 ≤ 512) (bm1 : -512 ≤ m1 ∧ m1 ≤ 512) (hi2 : i2 = 0 ∨ i2 = 1 ∨ i2 = 2 ∨ i2 = 3) (Dx2 : FP.Core.DInt j2 x2) (Dy2 : FP.Core.DInt m2 (own_selD y0 y1 y2 y3 i2)) (bj2 : -512 ≤ j2 ∧ j2 ≤ 512) (bm2 : -512 ≤ m2 ∧ m2 ≤ 512) :
    MetFree l mn17 (head1 (Jvm.Cond.code mn17 prog_50_method_6_code 5 (some .double) :: ws) ({ frames := 0, cells := 0, slots := 0, locals := 0 } : Room)) (fun aA U => aA = #[(.ref a), (.ref b)] ∧ Z.Warmed39 U.vm ∧ U.heap = h0) (fun _ _ _ _ _ => True) (fun _ U o U' => ∃ vR LR, o = .returned vR ∧ QrmD3 Z a b r q i0 i1 i2 x0 x1 x2 y0 y1 y2 y3 j0 j1 j2 m0 m1 m2 h0 n0 vR U'.heap LR ∧ FrameEnd U o U' LR ({ frames := 0, cells := 0, slots := 0, locals := 0 } : Room).cells ({ frames := 0, cells := 0, slots := 0, locals := 0 } : Room).slots) := by
  refine MetFree.of_bodySF (plainFor_of_name pn_com_example_netloom_netloom_embed_SparseColumn) hisR ?_
  intro p e s m args below meth c s₁ Bd hml0 hPre hKk
  obtain ⟨rfl, hZ, hh⟩ := hPre
  have hx := Bd.exec
  have hby := Bd.bytes
  have hml : c.maxLocals = 5 := hml0
  have hown : s.vm.findClass "com/example/netloom/netloom/embed/SparseColumn" = some m.cls := findClass_of_methodNamed Bd.named
  have hnm := (name_of_methodNamed Bd.named Bd.method).1
  have X0 : Stand p l e ({ frames := 0, cells := 0, slots := 0, locals := 0 } : Room) s m #[(.ref a), (.ref b)] below meth c s₁ [] 0 0 := Stand.of_body Bd
  have e0 : s₁.heap = h0 := by rw [← hh, Bd.state]; rfl
  have N0 := Fr.nil n0
  obtain ⟨E0, hE0⟩ : ∃ zE : State, zE = s₁.setTop (entryFrame m #[(.ref a), (.ref b)] 5) := ⟨_, rfl⟩
  have k0 : own_G p e below E0 s₁ (mkF m 0 #[vr a, vr b, uu, uu, uu] []) := fun tz kz => hE0 ▸ castTop (ef_rmD3 m a b r q i0 i1 i2 x0 x1 x2 y0 y1 y2 y3 j0 j1 j2 m0 m1 m2) kz
  have DS0 : FP.Core.DInt 0 FP.dconst0 := own_d0
  have k1326 : own_G p e below E0 s₁ (mkF m 8 #[vr a, vr b, vd FP.dconst0, ss, vi (0 : Int32)] [(.ref a), (.int (0 : Int32))]) := by
    intro tQ kk
    refine k0 tQ ?_
    refine XS.dconst0 X0.here hx rfl (hb hby d_prog_50_method_6_code_0) rfl ?_
    refine XS.dstoreN X0.here hx rfl (hb hby d_prog_50_method_6_code_1) rfl (l' := #[vr a, vr b, vd FP.dconst0, ss, uu]) rfl ?_
    refine XS.iconst X0.here hx rfl (hb hby d_prog_50_method_6_code_2) ?_
    refine XS.istore X0.here hx rfl (hb hby d_prog_50_method_6_code_3) rfl (l' := #[vr a, vr b, vd FP.dconst0, ss, vi (0 : Int32)]) rfl ?_
    show Steps p.tables e below (s₁.setTop (mkF m 5 #[vr a, vr b, vd FP.dconst0, ss, vi (0 : Int32)] [])) tQ
    refine XS.iload X0.here hx rfl (hb hby d_prog_50_method_6_code_5) rfl ?_
    refine XS.aloadN X0.here hx rfl (hb hby d_prog_50_method_6_code_7) rfl rfl ?_
    exact kk
  clear k0
  obtain ⟨T1327, X1328, e1329, st1330⟩ := getF X0 hx hZ hown (host := "") (Or.inl (tw27 hw)) Via.refl e0 F3 (g := (mkF m 8 #[vr a, vr b, vd FP.dconst0, ss, vi (0 : Int32)] [(.ref a), (.int (0 : Int32))])) rfl rfl (hb hby d_prog_50_method_6_code_8)
  have k1331 : own_G p e below E0 T1327 (mkF m 11 #[vr a, vr b, vd FP.dconst0, ss, vi (0 : Int32)] [(.int (3 : Int32)), (.int (0 : Int32))]) := fun tQ kk => k1326 tQ (st1330 _ kk)
  clear k1326 st1330
  have k1332 : own_G p e below E0 T1327 (mkF m 16 #[vr a, vr b, vd FP.dconst0, ss, vi (0 : Int32)] [(.ref a), (.double FP.dconst0)]) := by
    intro tQ kk
    refine k1331 tQ ?_
    refine XS.icmpNo X1328.here hx rfl (hb hby d_prog_50_method_6_code_11) rfl (own_ic_geN (by decide)) ?_
    refine XS.dloadN X1328.here hx rfl (hb hby d_prog_50_method_6_code_14) rfl ?_
    refine XS.aloadN X1328.here hx rfl (hb hby d_prog_50_method_6_code_15) rfl rfl ?_
    exact kk
  clear k1331
  obtain ⟨T1333, X1334, e1335, st1336⟩ := getF X1328 hx hZ hown (host := "") (Or.inl (tw20 hw)) Via.refl e1329 F2 (g := (mkF m 16 #[vr a, vr b, vd FP.dconst0, ss, vi (0 : Int32)] [(.ref a), (.double FP.dconst0)])) rfl rfl (hb hby d_prog_50_method_6_code_16)
  have k1337 : own_G p e below E0 T1333 (mkF m 19 #[vr a, vr b, vd FP.dconst0, ss, vi (0 : Int32)] [(.ref q), (.double FP.dconst0)]) := fun tQ kk => k1332 tQ (st1336 _ kk)
  clear k1332 st1336
  have k1338 : own_G p e below E0 T1333 (mkF m 21 #[vr a, vr b, vd FP.dconst0, ss, vi (0 : Int32)] [(.int (0 : Int32)), (.ref q), (.double FP.dconst0)]) := by
    intro tQ kk
    refine k1337 tQ ?_
    refine XS.iload X1334.here hx rfl (hb hby d_prog_50_method_6_code_19) rfl ?_
    exact kk
  clear k1337
  have st1339 := fun tQ => own_A.dld X1334 hx hZ e1335 A2 (j := (0 : Int32)) (v := (.double x0)) (by decide) rfl (g := (mkF m 21 #[vr a, vr b, vd FP.dconst0, ss, vi (0 : Int32)] [(.int (0 : Int32)), (.ref q), (.double FP.dconst0)])) rfl rfl (hb hby d_prog_50_method_6_code_21) tQ
  have k1340 : own_G p e below E0 T1333 (mkF m 22 #[vr a, vr b, vd FP.dconst0, ss, vi (0 : Int32)] [(.double x0), (.double FP.dconst0)]) := fun tQ kk => k1338 tQ (st1339 _ kk)
  clear k1338 st1339
  have k1341 : own_G p e below E0 T1333 (mkF m 24 #[vr a, vr b, vd FP.dconst0, ss, vi (0 : Int32)] [(.ref a), (.ref b), (.double x0), (.double FP.dconst0)]) := by
    intro tQ kk
    refine k1340 tQ ?_
    refine XS.aloadN X1334.here hx rfl (hb hby d_prog_50_method_6_code_22) rfl rfl ?_
    refine XS.aloadN X1334.here hx rfl (hb hby d_prog_50_method_6_code_23) rfl rfl ?_
    exact kk
  clear k1340
  obtain ⟨T1342, X1343, e1344, st1345⟩ := getF X1334 hx hZ hown (host := "") (Or.inl (tw18 hw)) Via.refl e1335 F1 (g := (mkF m 24 #[vr a, vr b, vd FP.dconst0, ss, vi (0 : Int32)] [(.ref a), (.ref b), (.double x0), (.double FP.dconst0)])) rfl rfl (hb hby d_prog_50_method_6_code_24)
  have k1346 : own_G p e below E0 T1342 (mkF m 27 #[vr a, vr b, vd FP.dconst0, ss, vi (0 : Int32)] [(.ref r), (.ref b), (.double x0), (.double FP.dconst0)]) := fun tQ kk => k1341 tQ (st1345 _ kk)
  clear k1341 st1345
  have k1347 : own_G p e below E0 T1342 (mkF m 29 #[vr a, vr b, vd FP.dconst0, ss, vi (0 : Int32)] [(.int (0 : Int32)), (.ref r), (.ref b), (.double x0), (.double FP.dconst0)]) := by
    intro tQ kk
    refine k1346 tQ ?_
    refine XS.iload X1343.here hx rfl (hb hby d_prog_50_method_6_code_27) rfl ?_
    exact kk
  clear k1346
  have st1348 := fun tQ => own_A.ild X1343 hx hZ e1344 A1 (j := (0 : Int32)) (v := (.int i0)) (by decide) rfl (g := (mkF m 29 #[vr a, vr b, vd FP.dconst0, ss, vi (0 : Int32)] [(.int (0 : Int32)), (.ref r), (.ref b), (.double x0), (.double FP.dconst0)])) rfl rfl (hb hby d_prog_50_method_6_code_29) tQ
  have k1349 : own_G p e below E0 T1342 (mkF m 30 #[vr a, vr b, vd FP.dconst0, ss, vi (0 : Int32)] [(.int i0), (.ref b), (.double x0), (.double FP.dconst0)]) := fun tQ kk => k1347 tQ (st1348 _ kk)
  clear k1347 st1348
  have st1350 := fun tQ => own_A.dld X1343 hx hZ e1344 A3 (j := i0) (v := (.double (own_selD y0 y1 y2 y3 i0))) (own_rn hi0) (own_selDp _ _ _ _ hi0) (g := (mkF m 30 #[vr a, vr b, vd FP.dconst0, ss, vi (0 : Int32)] [(.int i0), (.ref b), (.double x0), (.double FP.dconst0)])) rfl rfl (hb hby d_prog_50_method_6_code_30) tQ
  have k1351 : own_G p e below E0 T1342 (mkF m 31 #[vr a, vr b, vd FP.dconst0, ss, vi (0 : Int32)] [(.double (own_selD y0 y1 y2 y3 i0)), (.double x0), (.double FP.dconst0)]) := fun tQ kk => k1349 tQ (st1350 _ kk)
  clear k1349 st1350
  obtain ⟨z0, hz0⟩ : ∃ vA, FP.dmul x0 (own_selD y0 y1 y2 y3 i0) = vA := ⟨_, rfl⟩
  have DM0 : FP.Core.DInt (j0 * m0) z0 := hz0 ▸ FP.Core.dmul_int Dx0 Dy0 (own_m9 bj0 bm0)
  have q0 := own_p9 bj0 bm0
  have k1352 : own_G p e below E0 T1342 (mkF m 32 #[vr a, vr b, vd FP.dconst0, ss, vi (0 : Int32)] [(.double z0), (.double FP.dconst0)]) := by
    intro tQ kk
    refine k1351 tQ ?_
    refine XS.dmulS X1343.here hx rfl (hb hby d_prog_50_method_6_code_31) rfl (own_nn (FP.Core.dmul_int Dx0 Dy0 (own_m9 bj0 bm0))) hz0 ?_
    exact kk
  clear k1351
  obtain ⟨s1, hs1⟩ : ∃ vA, FP.dadd FP.dconst0 z0 = vA := ⟨_, rfl⟩
  have DS1 : FP.Core.DInt (0 + j0 * m0) s1 := hs1 ▸ FP.Core.dadd_int DS0 DM0 (own_s7 (by omega) (by omega))
  have k1353 : own_G p e below E0 T1342 (mkF m 8 #[vr a, vr b, vd s1, ss, vi (1 : Int32)] [(.ref a), (.int (1 : Int32))]) := by
    intro tQ kk
    refine k1352 tQ ?_
    refine XS.daddS X1343.here hx rfl (hb hby d_prog_50_method_6_code_32) rfl (own_nn (FP.Core.dadd_int DS0 DM0 (own_s7 (by omega) (by omega)))) hs1 ?_
    refine XS.dstoreN X1343.here hx rfl (hb hby d_prog_50_method_6_code_33) rfl (l' := #[vr a, vr b, vd s1, ss, vi (0 : Int32)]) rfl ?_
    refine XS.iinc X1343.here hx rfl (hb hby d_prog_50_method_6_code_34) rfl (l' := #[vr a, vr b, vd s1, ss, vi (1 : Int32)]) rfl ?_
    refine XS.goto X1343.here hx rfl (pc0 := 37) (pc' := 5) rfl (hb hby d_prog_50_method_6_code_37) (by decide) (by decide) ?_
    show Steps p.tables e below (T1342.setTop (mkF m 5 #[vr a, vr b, vd s1, ss, vi (1 : Int32)] [])) tQ
    refine XS.iload X1343.here hx rfl (hb hby d_prog_50_method_6_code_5) rfl ?_
    refine XS.aloadN X1343.here hx rfl (hb hby d_prog_50_method_6_code_7) rfl rfl ?_
    exact kk
  clear k1352
  obtain ⟨T1354, X1355, e1356, st1357⟩ := getF X1343 hx hZ hown (host := "") (Or.inl (tw27 hw)) Via.refl e1344 F3 (g := (mkF m 8 #[vr a, vr b, vd s1, ss, vi (1 : Int32)] [(.ref a), (.int (1 : Int32))])) rfl rfl (hb hby d_prog_50_method_6_code_8)
  have k1358 : own_G p e below E0 T1354 (mkF m 11 #[vr a, vr b, vd s1, ss, vi (1 : Int32)] [(.int (3 : Int32)), (.int (1 : Int32))]) := fun tQ kk => k1353 tQ (st1357 _ kk)
  clear k1353 st1357
  have k1359 : own_G p e below E0 T1354 (mkF m 16 #[vr a, vr b, vd s1, ss, vi (1 : Int32)] [(.ref a), (.double s1)]) := by
    intro tQ kk
    refine k1358 tQ ?_
    refine XS.icmpNo X1355.here hx rfl (hb hby d_prog_50_method_6_code_11) rfl (own_ic_geN (by decide)) ?_
    refine XS.dloadN X1355.here hx rfl (hb hby d_prog_50_method_6_code_14) rfl ?_
    refine XS.aloadN X1355.here hx rfl (hb hby d_prog_50_method_6_code_15) rfl rfl ?_
    exact kk
  clear k1358
  obtain ⟨T1360, X1361, e1362, st1363⟩ := getF X1355 hx hZ hown (host := "") (Or.inl (tw20 hw)) Via.refl e1356 F2 (g := (mkF m 16 #[vr a, vr b, vd s1, ss, vi (1 : Int32)] [(.ref a), (.double s1)])) rfl rfl (hb hby d_prog_50_method_6_code_16)
  have k1364 : own_G p e below E0 T1360 (mkF m 19 #[vr a, vr b, vd s1, ss, vi (1 : Int32)] [(.ref q), (.double s1)]) := fun tQ kk => k1359 tQ (st1363 _ kk)
  clear k1359 st1363
  have k1365 : own_G p e below E0 T1360 (mkF m 21 #[vr a, vr b, vd s1, ss, vi (1 : Int32)] [(.int (1 : Int32)), (.ref q), (.double s1)]) := by
    intro tQ kk
    refine k1364 tQ ?_
    refine XS.iload X1361.here hx rfl (hb hby d_prog_50_method_6_code_19) rfl ?_
    exact kk
  clear k1364
  have st1366 := fun tQ => own_A.dld X1361 hx hZ e1362 A2 (j := (1 : Int32)) (v := (.double x1)) (by decide) rfl (g := (mkF m 21 #[vr a, vr b, vd s1, ss, vi (1 : Int32)] [(.int (1 : Int32)), (.ref q), (.double s1)])) rfl rfl (hb hby d_prog_50_method_6_code_21) tQ
  have k1367 : own_G p e below E0 T1360 (mkF m 22 #[vr a, vr b, vd s1, ss, vi (1 : Int32)] [(.double x1), (.double s1)]) := fun tQ kk => k1365 tQ (st1366 _ kk)
  clear k1365 st1366
  have k1368 : own_G p e below E0 T1360 (mkF m 24 #[vr a, vr b, vd s1, ss, vi (1 : Int32)] [(.ref a), (.ref b), (.double x1), (.double s1)]) := by
    intro tQ kk
    refine k1367 tQ ?_
    refine XS.aloadN X1361.here hx rfl (hb hby d_prog_50_method_6_code_22) rfl rfl ?_
    refine XS.aloadN X1361.here hx rfl (hb hby d_prog_50_method_6_code_23) rfl rfl ?_
    exact kk
  clear k1367
  obtain ⟨T1369, X1370, e1371, st1372⟩ := getF X1361 hx hZ hown (host := "") (Or.inl (tw18 hw)) Via.refl e1362 F1 (g := (mkF m 24 #[vr a, vr b, vd s1, ss, vi (1 : Int32)] [(.ref a), (.ref b), (.double x1), (.double s1)])) rfl rfl (hb hby d_prog_50_method_6_code_24)
  have k1373 : own_G p e below E0 T1369 (mkF m 27 #[vr a, vr b, vd s1, ss, vi (1 : Int32)] [(.ref r), (.ref b), (.double x1), (.double s1)]) := fun tQ kk => k1368 tQ (st1372 _ kk)
  clear k1368 st1372
  have k1374 : own_G p e below E0 T1369 (mkF m 29 #[vr a, vr b, vd s1, ss, vi (1 : Int32)] [(.int (1 : Int32)), (.ref r), (.ref b), (.double x1), (.double s1)]) := by
    intro tQ kk
    refine k1373 tQ ?_
    refine XS.iload X1370.here hx rfl (hb hby d_prog_50_method_6_code_27) rfl ?_
    exact kk
  clear k1373
  have st1375 := fun tQ => own_A.ild X1370 hx hZ e1371 A1 (j := (1 : Int32)) (v := (.int i1)) (by decide) rfl (g := (mkF m 29 #[vr a, vr b, vd s1, ss, vi (1 : Int32)] [(.int (1 : Int32)), (.ref r), (.ref b), (.double x1), (.double s1)])) rfl rfl (hb hby d_prog_50_method_6_code_29) tQ
  have k1376 : own_G p e below E0 T1369 (mkF m 30 #[vr a, vr b, vd s1, ss, vi (1 : Int32)] [(.int i1), (.ref b), (.double x1), (.double s1)]) := fun tQ kk => k1374 tQ (st1375 _ kk)
  clear k1374 st1375
  have st1377 := fun tQ => own_A.dld X1370 hx hZ e1371 A3 (j := i1) (v := (.double (own_selD y0 y1 y2 y3 i1))) (own_rn hi1) (own_selDp _ _ _ _ hi1) (g := (mkF m 30 #[vr a, vr b, vd s1, ss, vi (1 : Int32)] [(.int i1), (.ref b), (.double x1), (.double s1)])) rfl rfl (hb hby d_prog_50_method_6_code_30) tQ
  have k1378 : own_G p e below E0 T1369 (mkF m 31 #[vr a, vr b, vd s1, ss, vi (1 : Int32)] [(.double (own_selD y0 y1 y2 y3 i1)), (.double x1), (.double s1)]) := fun tQ kk => k1376 tQ (st1377 _ kk)
  clear k1376 st1377
  obtain ⟨z1, hz1⟩ : ∃ vA, FP.dmul x1 (own_selD y0 y1 y2 y3 i1) = vA := ⟨_, rfl⟩
  have DM1 : FP.Core.DInt (j1 * m1) z1 := hz1 ▸ FP.Core.dmul_int Dx1 Dy1 (own_m9 bj1 bm1)
  have q1 := own_p9 bj1 bm1
  have k1379 : own_G p e below E0 T1369 (mkF m 32 #[vr a, vr b, vd s1, ss, vi (1 : Int32)] [(.double z1), (.double s1)]) := by
    intro tQ kk
    refine k1378 tQ ?_
    refine XS.dmulS X1370.here hx rfl (hb hby d_prog_50_method_6_code_31) rfl (own_nn (FP.Core.dmul_int Dx1 Dy1 (own_m9 bj1 bm1))) hz1 ?_
    exact kk
  clear k1378
  obtain ⟨s2, hs2⟩ : ∃ vA, FP.dadd s1 z1 = vA := ⟨_, rfl⟩
  have DS2 : FP.Core.DInt (0 + j0 * m0 + j1 * m1) s2 := hs2 ▸ FP.Core.dadd_int DS1 DM1 (own_s7 (by omega) (by omega))
  have k1380 : own_G p e below E0 T1369 (mkF m 8 #[vr a, vr b, vd s2, ss, vi (2 : Int32)] [(.ref a), (.int (2 : Int32))]) := by
    intro tQ kk
    refine k1379 tQ ?_
    refine XS.daddS X1370.here hx rfl (hb hby d_prog_50_method_6_code_32) rfl (own_nn (FP.Core.dadd_int DS1 DM1 (own_s7 (by omega) (by omega)))) hs2 ?_
    refine XS.dstoreN X1370.here hx rfl (hb hby d_prog_50_method_6_code_33) rfl (l' := #[vr a, vr b, vd s2, ss, vi (1 : Int32)]) rfl ?_
    refine XS.iinc X1370.here hx rfl (hb hby d_prog_50_method_6_code_34) rfl (l' := #[vr a, vr b, vd s2, ss, vi (2 : Int32)]) rfl ?_
    refine XS.goto X1370.here hx rfl (pc0 := 37) (pc' := 5) rfl (hb hby d_prog_50_method_6_code_37) (by decide) (by decide) ?_
    show Steps p.tables e below (T1369.setTop (mkF m 5 #[vr a, vr b, vd s2, ss, vi (2 : Int32)] [])) tQ
    refine XS.iload X1370.here hx rfl (hb hby d_prog_50_method_6_code_5) rfl ?_
    refine XS.aloadN X1370.here hx rfl (hb hby d_prog_50_method_6_code_7) rfl rfl ?_
    exact kk
  clear k1379
  obtain ⟨T1381, X1382, e1383, st1384⟩ := getF X1370 hx hZ hown (host := "") (Or.inl (tw27 hw)) Via.refl e1371 F3 (g := (mkF m 8 #[vr a, vr b, vd s2, ss, vi (2 : Int32)] [(.ref a), (.int (2 : Int32))])) rfl rfl (hb hby d_prog_50_method_6_code_8)
  have k1385 : own_G p e below E0 T1381 (mkF m 11 #[vr a, vr b, vd s2, ss, vi (2 : Int32)] [(.int (3 : Int32)), (.int (2 : Int32))]) := fun tQ kk => k1380 tQ (st1384 _ kk)
  clear k1380 st1384
  have k1386 : own_G p e below E0 T1381 (mkF m 16 #[vr a, vr b, vd s2, ss, vi (2 : Int32)] [(.ref a), (.double s2)]) := by
    intro tQ kk
    refine k1385 tQ ?_
    refine XS.icmpNo X1382.here hx rfl (hb hby d_prog_50_method_6_code_11) rfl (own_ic_geN (by decide)) ?_
    refine XS.dloadN X1382.here hx rfl (hb hby d_prog_50_method_6_code_14) rfl ?_
    refine XS.aloadN X1382.here hx rfl (hb hby d_prog_50_method_6_code_15) rfl rfl ?_
    exact kk
  clear k1385
  obtain ⟨T1387, X1388, e1389, st1390⟩ := getF X1382 hx hZ hown (host := "") (Or.inl (tw20 hw)) Via.refl e1383 F2 (g := (mkF m 16 #[vr a, vr b, vd s2, ss, vi (2 : Int32)] [(.ref a), (.double s2)])) rfl rfl (hb hby d_prog_50_method_6_code_16)
  have k1391 : own_G p e below E0 T1387 (mkF m 19 #[vr a, vr b, vd s2, ss, vi (2 : Int32)] [(.ref q), (.double s2)]) := fun tQ kk => k1386 tQ (st1390 _ kk)
  clear k1386 st1390
  have k1392 : own_G p e below E0 T1387 (mkF m 21 #[vr a, vr b, vd s2, ss, vi (2 : Int32)] [(.int (2 : Int32)), (.ref q), (.double s2)]) := by
    intro tQ kk
    refine k1391 tQ ?_
    refine XS.iload X1388.here hx rfl (hb hby d_prog_50_method_6_code_19) rfl ?_
    exact kk
  clear k1391
  have st1393 := fun tQ => own_A.dld X1388 hx hZ e1389 A2 (j := (2 : Int32)) (v := (.double x2)) (by decide) rfl (g := (mkF m 21 #[vr a, vr b, vd s2, ss, vi (2 : Int32)] [(.int (2 : Int32)), (.ref q), (.double s2)])) rfl rfl (hb hby d_prog_50_method_6_code_21) tQ
  have k1394 : own_G p e below E0 T1387 (mkF m 22 #[vr a, vr b, vd s2, ss, vi (2 : Int32)] [(.double x2), (.double s2)]) := fun tQ kk => k1392 tQ (st1393 _ kk)
  clear k1392 st1393
  have k1395 : own_G p e below E0 T1387 (mkF m 24 #[vr a, vr b, vd s2, ss, vi (2 : Int32)] [(.ref a), (.ref b), (.double x2), (.double s2)]) := by
    intro tQ kk
    refine k1394 tQ ?_
    refine XS.aloadN X1388.here hx rfl (hb hby d_prog_50_method_6_code_22) rfl rfl ?_
    refine XS.aloadN X1388.here hx rfl (hb hby d_prog_50_method_6_code_23) rfl rfl ?_
    exact kk
  clear k1394
  obtain ⟨T1396, X1397, e1398, st1399⟩ := getF X1388 hx hZ hown (host := "") (Or.inl (tw18 hw)) Via.refl e1389 F1 (g := (mkF m 24 #[vr a, vr b, vd s2, ss, vi (2 : Int32)] [(.ref a), (.ref b), (.double x2), (.double s2)])) rfl rfl (hb hby d_prog_50_method_6_code_24)
  have k1400 : own_G p e below E0 T1396 (mkF m 27 #[vr a, vr b, vd s2, ss, vi (2 : Int32)] [(.ref r), (.ref b), (.double x2), (.double s2)]) := fun tQ kk => k1395 tQ (st1399 _ kk)
  clear k1395 st1399
  have k1401 : own_G p e below E0 T1396 (mkF m 29 #[vr a, vr b, vd s2, ss, vi (2 : Int32)] [(.int (2 : Int32)), (.ref r), (.ref b), (.double x2), (.double s2)]) := by
    intro tQ kk
    refine k1400 tQ ?_
    refine XS.iload X1397.here hx rfl (hb hby d_prog_50_method_6_code_27) rfl ?_
    exact kk
  clear k1400
  have st1402 := fun tQ => own_A.ild X1397 hx hZ e1398 A1 (j := (2 : Int32)) (v := (.int i2)) (by decide) rfl (g := (mkF m 29 #[vr a, vr b, vd s2, ss, vi (2 : Int32)] [(.int (2 : Int32)), (.ref r), (.ref b), (.double x2), (.double s2)])) rfl rfl (hb hby d_prog_50_method_6_code_29) tQ
  have k1403 : own_G p e below E0 T1396 (mkF m 30 #[vr a, vr b, vd s2, ss, vi (2 : Int32)] [(.int i2), (.ref b), (.double x2), (.double s2)]) := fun tQ kk => k1401 tQ (st1402 _ kk)
  clear k1401 st1402
  have st1404 := fun tQ => own_A.dld X1397 hx hZ e1398 A3 (j := i2) (v := (.double (own_selD y0 y1 y2 y3 i2))) (own_rn hi2) (own_selDp _ _ _ _ hi2) (g := (mkF m 30 #[vr a, vr b, vd s2, ss, vi (2 : Int32)] [(.int i2), (.ref b), (.double x2), (.double s2)])) rfl rfl (hb hby d_prog_50_method_6_code_30) tQ
  have k1405 : own_G p e below E0 T1396 (mkF m 31 #[vr a, vr b, vd s2, ss, vi (2 : Int32)] [(.double (own_selD y0 y1 y2 y3 i2)), (.double x2), (.double s2)]) := fun tQ kk => k1403 tQ (st1404 _ kk)
  clear k1403 st1404
  obtain ⟨z2, hz2⟩ : ∃ vA, FP.dmul x2 (own_selD y0 y1 y2 y3 i2) = vA := ⟨_, rfl⟩
  have DM2 : FP.Core.DInt (j2 * m2) z2 := hz2 ▸ FP.Core.dmul_int Dx2 Dy2 (own_m9 bj2 bm2)
  have q2 := own_p9 bj2 bm2
  have k1406 : own_G p e below E0 T1396 (mkF m 32 #[vr a, vr b, vd s2, ss, vi (2 : Int32)] [(.double z2), (.double s2)]) := by
    intro tQ kk
    refine k1405 tQ ?_
    refine XS.dmulS X1397.here hx rfl (hb hby d_prog_50_method_6_code_31) rfl (own_nn (FP.Core.dmul_int Dx2 Dy2 (own_m9 bj2 bm2))) hz2 ?_
    exact kk
  clear k1405
  obtain ⟨s3, hs3⟩ : ∃ vA, FP.dadd s2 z2 = vA := ⟨_, rfl⟩
  have DS3 : FP.Core.DInt (0 + j0 * m0 + j1 * m1 + j2 * m2) s3 := hs3 ▸ FP.Core.dadd_int DS2 DM2 (own_s7 (by omega) (by omega))
  have k1407 : own_G p e below E0 T1396 (mkF m 8 #[vr a, vr b, vd s3, ss, vi (3 : Int32)] [(.ref a), (.int (3 : Int32))]) := by
    intro tQ kk
    refine k1406 tQ ?_
    refine XS.daddS X1397.here hx rfl (hb hby d_prog_50_method_6_code_32) rfl (own_nn (FP.Core.dadd_int DS2 DM2 (own_s7 (by omega) (by omega)))) hs3 ?_
    refine XS.dstoreN X1397.here hx rfl (hb hby d_prog_50_method_6_code_33) rfl (l' := #[vr a, vr b, vd s3, ss, vi (2 : Int32)]) rfl ?_
    refine XS.iinc X1397.here hx rfl (hb hby d_prog_50_method_6_code_34) rfl (l' := #[vr a, vr b, vd s3, ss, vi (3 : Int32)]) rfl ?_
    refine XS.goto X1397.here hx rfl (pc0 := 37) (pc' := 5) rfl (hb hby d_prog_50_method_6_code_37) (by decide) (by decide) ?_
    show Steps p.tables e below (T1396.setTop (mkF m 5 #[vr a, vr b, vd s3, ss, vi (3 : Int32)] [])) tQ
    refine XS.iload X1397.here hx rfl (hb hby d_prog_50_method_6_code_5) rfl ?_
    refine XS.aloadN X1397.here hx rfl (hb hby d_prog_50_method_6_code_7) rfl rfl ?_
    exact kk
  clear k1406
  obtain ⟨T1408, X1409, e1410, st1411⟩ := getF X1397 hx hZ hown (host := "") (Or.inl (tw27 hw)) Via.refl e1398 F3 (g := (mkF m 8 #[vr a, vr b, vd s3, ss, vi (3 : Int32)] [(.ref a), (.int (3 : Int32))])) rfl rfl (hb hby d_prog_50_method_6_code_8)
  have k1412 : own_G p e below E0 T1408 (mkF m 11 #[vr a, vr b, vd s3, ss, vi (3 : Int32)] [(.int (3 : Int32)), (.int (3 : Int32))]) := fun tQ kk => k1407 tQ (st1411 _ kk)
  clear k1407 st1411
  have k1413 : own_G p e below E0 T1408 (mkF m 41 #[vr a, vr b, vd s3, ss, vi (3 : Int32)] [(.double s3)]) := by
    intro tQ kk
    refine k1412 tQ ?_
    refine XS.icmpYes X1409.here hx rfl (pc0 := 11) (pc' := 40) rfl (hb hby d_prog_50_method_6_code_11) rfl (own_ic_geY (by decide)) (by decide) (by decide) ?_
    refine XS.dloadN X1409.here hx rfl (hb hby d_prog_50_method_6_code_40) rfl ?_
    exact kk
  clear k1412
  obtain ⟨fs, hr, hrun, hended, hW, hsame⟩ := X1409.leave (v := some (.double s3)) (fun h => by rw [Bd.returns] at h; cases h)
  have hrun0 := k1413 _ (retOut X1409 hx Bd.returns (t := .double) rfl (Or.inr (Or.inr (Or.inl ⟨rfl, rfl, _, rfl⟩))) (hb hby d_prog_50_method_6_code_41) hr)
  subst hE0
  refine ⟨_, _, hrun0, hrun, hended, _, _, rfl, ?_, ⟨_, rfl⟩, hW, hsame.mono (by decide) (by decide)⟩
  show QrmD3 Z a b r q i0 i1 i2 x0 x1 x2 y0 y1 y2 y3 j0 j1 j2 m0 m1 m2 h0 n0 _ T1408.heap _
  rw [e1410]
  exact ⟨s3, rfl, N0, rfl, DS3⟩
def QrmD4 (Z : State) (a : Addr) (b : Addr) (r : Addr) (q : Addr) (i0 : Int32) (i1 : Int32) (i2 : Int32) (i3 : Int32) (x0 : UInt64) (x1 : UInt64) (x2 : UInt64) (x3 : UInt64) (y0 : UInt64) (y1 : UInt64) (y2 : UInt64) (y3 : UInt64) (j0 : Int) (j1 : Int) (j2 : Int) (j3 : Int) (m0 : Int) (m1 : Int) (m2 : Int) (m3 : Int) (h0 : Heap) (n0 : Nat) (vQ : Option Value) (hQ : Heap) (LQ : List Loc) : Prop := ∃ (s : UInt64), vQ = some (.double s) ∧ Fr n0 LQ ∧ hQ = h0 ∧ (FP.Core.DInt (0 + j0 * m0 + j1 * m1 + j2 * m2 + j3 * m3) s)
theorem ef_rmD4 (m : MethodId) (a : Addr) (b : Addr) (r : Addr) (q : Addr) (i0 : Int32) (i1 : Int32) (i2 : Int32) (i3 : Int32) (x0 : UInt64) (x1 : UInt64) (x2 : UInt64) (x3 : UInt64) (y0 : UInt64) (y1 : UInt64) (y2 : UInt64) (y3 : UInt64) (j0 : Int) (j1 : Int) (j2 : Int) (j3 : Int) (m0 : Int) (m1 : Int) (m2 : Int) (m3 : Int) : entryFrame m #[(.ref a), (.ref b)] 5 = mkF m 0 #[vr a, vr b, uu, uu, uu] [] := by first | (simp [entryFrame, mkF, argsToLocals, Value.category]; done) | rfl
set_option maxRecDepth 65536 in
set_option maxHeartbeats 40000000 in
theorem rmD4 (l : Launch) (Z : State) (a0 : Array Value) (hw : ∀ d ∈ tables_1, d.before a0 Z = true) (ws : List Jvm.Cond) (a : Addr) (b : Addr) (r : Addr) (q : Addr) (i0 : Int32) (i1 : Int32) (i2 : Int32) (i3 : Int32) (x0 : UInt64) (x1 : UInt64) (x2 : UInt64) (x3 : UInt64) (y0 : UInt64) (y1 : UInt64) (y2 : UInt64) (y3 : UInt64) (j0 : Int) (j1 : Int) (j2 : Int) (j3 : Int) (m0 : Int) (m1 : Int) (m2 : Int) (m3 : Int) (h0 : Heap) (n0 : Nat) (Z0 : n0 ≤ h0.size) (F1 : fd2 Z h0 a (.ref r)) (F2 : fd3 Z h0 a (.ref q)) (F3 : fd4 Z h0 a (.int (4 : Int32))) (A1 : own_A Z h0 r .int [(.int i0), (.int i1), (.int i2), (.int i3)]) (A2 : own_A Z h0 q .double [(.double x0), (.double x1), (.double x2), (.double x3)]) (A3 : own_A Z h0 b .double [(.double y0), (.double y1), (.double y2), (.double y3)]) (hi0 : i0 = 0 ∨ i0 = 1 ∨ i0 = 2 ∨ i0 = 3) (Dx0 : FP.Core.DInt j0 x0) (Dy0 : FP.Core.DInt m0 (own_selD y0 y1 y2 y3 i0)) (bj0 : -512 ≤ j0 ∧ j0 ≤ 512) (bm0 : -512 ≤ m0 ∧ m0 ≤ 512) (hi1 : i1 = 0 ∨ i1 = 1 ∨ i1 = 2 ∨ i1 = 3) (Dx1 : FP.Core.DInt j1 x1) (Dy1 : FP.Core.DInt m1 (own_selD y0 y1 y2 y3 i1)) (bj1 : -512 ≤ j1 ∧ j1 ≤ 512) (bm1 : -512 ≤ m1 ∧ m1 ≤ 512) (hi2 : i2 = 0 ∨ i2 = 1 ∨ i2 = 2 ∨ i2 = 3) (Dx2 : FP.Core.DInt j2 x2) (Dy2 : FP.Core.DInt m2 (own_selD y0 y1 y2 y3 i2)) (bj2 : -512 ≤ j2 ∧ j2 ≤ 512) (bm2 : -512 ≤ m2 ∧ m2 ≤ 512) (hi3 : i3 = 0 ∨ i3 = 1 ∨ i3 = 2 ∨ i3 = 3) (Dx3 : FP.Core.DInt j3 x3) (Dy3 : FP.Core.DInt m3 (own_selD y0 y1 y2 y3 i3)) (bj3 : -512 ≤ j3 ∧ j3 ≤ 512) (bm3 : -512 ≤ m3 ∧ m3 ≤ 512) :
    MetFree l mn17 (head1 (Jvm.Cond.code mn17 prog_50_method_6_code 5 (some .double) :: ws) ({ frames := 0, cells := 0, slots := 0, locals := 0 } : Room)) (fun aA U => aA = #[(.ref a), (.ref b)] ∧ Z.Warmed39 U.vm ∧ U.heap = h0) (fun _ _ _ _ _ => True) (fun _ U o U' => ∃ vR LR, o = .returned vR ∧ QrmD4 Z a b r q i0 i1 i2 i3 x0 x1 x2 x3 y0 y1 y2 y3 j0 j1 j2 j3 m0 m1 m2 m3 h0 n0 vR U'.heap LR ∧ FrameEnd U o U' LR ({ frames := 0, cells := 0, slots := 0, locals := 0 } : Room).cells ({ frames := 0, cells := 0, slots := 0, locals := 0 } : Room).slots) := by
  refine MetFree.of_bodySF (plainFor_of_name pn_com_example_netloom_netloom_embed_SparseColumn) hisR ?_
  intro p e s m args below meth c s₁ Bd hml0 hPre hKk
  obtain ⟨rfl, hZ, hh⟩ := hPre
  have hx := Bd.exec
  have hby := Bd.bytes
  have hml : c.maxLocals = 5 := hml0
  have hown : s.vm.findClass "com/example/netloom/netloom/embed/SparseColumn" = some m.cls := findClass_of_methodNamed Bd.named
  have hnm := (name_of_methodNamed Bd.named Bd.method).1
  have X0 : Stand p l e ({ frames := 0, cells := 0, slots := 0, locals := 0 } : Room) s m #[(.ref a), (.ref b)] below meth c s₁ [] 0 0 := Stand.of_body Bd
  have e0 : s₁.heap = h0 := by rw [← hh, Bd.state]; rfl
  have N0 := Fr.nil n0
  obtain ⟨E0, hE0⟩ : ∃ zE : State, zE = s₁.setTop (entryFrame m #[(.ref a), (.ref b)] 5) := ⟨_, rfl⟩
  have k0 : own_G p e below E0 s₁ (mkF m 0 #[vr a, vr b, uu, uu, uu] []) := fun tz kz => hE0 ▸ castTop (ef_rmD4 m a b r q i0 i1 i2 i3 x0 x1 x2 x3 y0 y1 y2 y3 j0 j1 j2 j3 m0 m1 m2 m3) kz
  have DS0 : FP.Core.DInt 0 FP.dconst0 := own_d0
  have k1414 : own_G p e below E0 s₁ (mkF m 8 #[vr a, vr b, vd FP.dconst0, ss, vi (0 : Int32)] [(.ref a), (.int (0 : Int32))]) := by
    intro tQ kk
    refine k0 tQ ?_
    refine XS.dconst0 X0.here hx rfl (hb hby d_prog_50_method_6_code_0) rfl ?_
    refine XS.dstoreN X0.here hx rfl (hb hby d_prog_50_method_6_code_1) rfl (l' := #[vr a, vr b, vd FP.dconst0, ss, uu]) rfl ?_
    refine XS.iconst X0.here hx rfl (hb hby d_prog_50_method_6_code_2) ?_
    refine XS.istore X0.here hx rfl (hb hby d_prog_50_method_6_code_3) rfl (l' := #[vr a, vr b, vd FP.dconst0, ss, vi (0 : Int32)]) rfl ?_
    show Steps p.tables e below (s₁.setTop (mkF m 5 #[vr a, vr b, vd FP.dconst0, ss, vi (0 : Int32)] [])) tQ
    refine XS.iload X0.here hx rfl (hb hby d_prog_50_method_6_code_5) rfl ?_
    refine XS.aloadN X0.here hx rfl (hb hby d_prog_50_method_6_code_7) rfl rfl ?_
    exact kk
  clear k0
  obtain ⟨T1415, X1416, e1417, st1418⟩ := getF X0 hx hZ hown (host := "") (Or.inl (tw27 hw)) Via.refl e0 F3 (g := (mkF m 8 #[vr a, vr b, vd FP.dconst0, ss, vi (0 : Int32)] [(.ref a), (.int (0 : Int32))])) rfl rfl (hb hby d_prog_50_method_6_code_8)
  have k1419 : own_G p e below E0 T1415 (mkF m 11 #[vr a, vr b, vd FP.dconst0, ss, vi (0 : Int32)] [(.int (4 : Int32)), (.int (0 : Int32))]) := fun tQ kk => k1414 tQ (st1418 _ kk)
  clear k1414 st1418
  have k1420 : own_G p e below E0 T1415 (mkF m 16 #[vr a, vr b, vd FP.dconst0, ss, vi (0 : Int32)] [(.ref a), (.double FP.dconst0)]) := by
    intro tQ kk
    refine k1419 tQ ?_
    refine XS.icmpNo X1416.here hx rfl (hb hby d_prog_50_method_6_code_11) rfl (own_ic_geN (by decide)) ?_
    refine XS.dloadN X1416.here hx rfl (hb hby d_prog_50_method_6_code_14) rfl ?_
    refine XS.aloadN X1416.here hx rfl (hb hby d_prog_50_method_6_code_15) rfl rfl ?_
    exact kk
  clear k1419
  obtain ⟨T1421, X1422, e1423, st1424⟩ := getF X1416 hx hZ hown (host := "") (Or.inl (tw20 hw)) Via.refl e1417 F2 (g := (mkF m 16 #[vr a, vr b, vd FP.dconst0, ss, vi (0 : Int32)] [(.ref a), (.double FP.dconst0)])) rfl rfl (hb hby d_prog_50_method_6_code_16)
  have k1425 : own_G p e below E0 T1421 (mkF m 19 #[vr a, vr b, vd FP.dconst0, ss, vi (0 : Int32)] [(.ref q), (.double FP.dconst0)]) := fun tQ kk => k1420 tQ (st1424 _ kk)
  clear k1420 st1424
  have k1426 : own_G p e below E0 T1421 (mkF m 21 #[vr a, vr b, vd FP.dconst0, ss, vi (0 : Int32)] [(.int (0 : Int32)), (.ref q), (.double FP.dconst0)]) := by
    intro tQ kk
    refine k1425 tQ ?_
    refine XS.iload X1422.here hx rfl (hb hby d_prog_50_method_6_code_19) rfl ?_
    exact kk
  clear k1425
  have st1427 := fun tQ => own_A.dld X1422 hx hZ e1423 A2 (j := (0 : Int32)) (v := (.double x0)) (by decide) rfl (g := (mkF m 21 #[vr a, vr b, vd FP.dconst0, ss, vi (0 : Int32)] [(.int (0 : Int32)), (.ref q), (.double FP.dconst0)])) rfl rfl (hb hby d_prog_50_method_6_code_21) tQ
  have k1428 : own_G p e below E0 T1421 (mkF m 22 #[vr a, vr b, vd FP.dconst0, ss, vi (0 : Int32)] [(.double x0), (.double FP.dconst0)]) := fun tQ kk => k1426 tQ (st1427 _ kk)
  clear k1426 st1427
  have k1429 : own_G p e below E0 T1421 (mkF m 24 #[vr a, vr b, vd FP.dconst0, ss, vi (0 : Int32)] [(.ref a), (.ref b), (.double x0), (.double FP.dconst0)]) := by
    intro tQ kk
    refine k1428 tQ ?_
    refine XS.aloadN X1422.here hx rfl (hb hby d_prog_50_method_6_code_22) rfl rfl ?_
    refine XS.aloadN X1422.here hx rfl (hb hby d_prog_50_method_6_code_23) rfl rfl ?_
    exact kk
  clear k1428
  obtain ⟨T1430, X1431, e1432, st1433⟩ := getF X1422 hx hZ hown (host := "") (Or.inl (tw18 hw)) Via.refl e1423 F1 (g := (mkF m 24 #[vr a, vr b, vd FP.dconst0, ss, vi (0 : Int32)] [(.ref a), (.ref b), (.double x0), (.double FP.dconst0)])) rfl rfl (hb hby d_prog_50_method_6_code_24)
  have k1434 : own_G p e below E0 T1430 (mkF m 27 #[vr a, vr b, vd FP.dconst0, ss, vi (0 : Int32)] [(.ref r), (.ref b), (.double x0), (.double FP.dconst0)]) := fun tQ kk => k1429 tQ (st1433 _ kk)
  clear k1429 st1433
  have k1435 : own_G p e below E0 T1430 (mkF m 29 #[vr a, vr b, vd FP.dconst0, ss, vi (0 : Int32)] [(.int (0 : Int32)), (.ref r), (.ref b), (.double x0), (.double FP.dconst0)]) := by
    intro tQ kk
    refine k1434 tQ ?_
    refine XS.iload X1431.here hx rfl (hb hby d_prog_50_method_6_code_27) rfl ?_
    exact kk
  clear k1434
  have st1436 := fun tQ => own_A.ild X1431 hx hZ e1432 A1 (j := (0 : Int32)) (v := (.int i0)) (by decide) rfl (g := (mkF m 29 #[vr a, vr b, vd FP.dconst0, ss, vi (0 : Int32)] [(.int (0 : Int32)), (.ref r), (.ref b), (.double x0), (.double FP.dconst0)])) rfl rfl (hb hby d_prog_50_method_6_code_29) tQ
  have k1437 : own_G p e below E0 T1430 (mkF m 30 #[vr a, vr b, vd FP.dconst0, ss, vi (0 : Int32)] [(.int i0), (.ref b), (.double x0), (.double FP.dconst0)]) := fun tQ kk => k1435 tQ (st1436 _ kk)
  clear k1435 st1436
  have st1438 := fun tQ => own_A.dld X1431 hx hZ e1432 A3 (j := i0) (v := (.double (own_selD y0 y1 y2 y3 i0))) (own_rn hi0) (own_selDp _ _ _ _ hi0) (g := (mkF m 30 #[vr a, vr b, vd FP.dconst0, ss, vi (0 : Int32)] [(.int i0), (.ref b), (.double x0), (.double FP.dconst0)])) rfl rfl (hb hby d_prog_50_method_6_code_30) tQ
  have k1439 : own_G p e below E0 T1430 (mkF m 31 #[vr a, vr b, vd FP.dconst0, ss, vi (0 : Int32)] [(.double (own_selD y0 y1 y2 y3 i0)), (.double x0), (.double FP.dconst0)]) := fun tQ kk => k1437 tQ (st1438 _ kk)
  clear k1437 st1438
  obtain ⟨z0, hz0⟩ : ∃ vA, FP.dmul x0 (own_selD y0 y1 y2 y3 i0) = vA := ⟨_, rfl⟩
  have DM0 : FP.Core.DInt (j0 * m0) z0 := hz0 ▸ FP.Core.dmul_int Dx0 Dy0 (own_m9 bj0 bm0)
  have q0 := own_p9 bj0 bm0
  have k1440 : own_G p e below E0 T1430 (mkF m 32 #[vr a, vr b, vd FP.dconst0, ss, vi (0 : Int32)] [(.double z0), (.double FP.dconst0)]) := by
    intro tQ kk
    refine k1439 tQ ?_
    refine XS.dmulS X1431.here hx rfl (hb hby d_prog_50_method_6_code_31) rfl (own_nn (FP.Core.dmul_int Dx0 Dy0 (own_m9 bj0 bm0))) hz0 ?_
    exact kk
  clear k1439
  obtain ⟨s1, hs1⟩ : ∃ vA, FP.dadd FP.dconst0 z0 = vA := ⟨_, rfl⟩
  have DS1 : FP.Core.DInt (0 + j0 * m0) s1 := hs1 ▸ FP.Core.dadd_int DS0 DM0 (own_s7 (by omega) (by omega))
  have k1441 : own_G p e below E0 T1430 (mkF m 8 #[vr a, vr b, vd s1, ss, vi (1 : Int32)] [(.ref a), (.int (1 : Int32))]) := by
    intro tQ kk
    refine k1440 tQ ?_
    refine XS.daddS X1431.here hx rfl (hb hby d_prog_50_method_6_code_32) rfl (own_nn (FP.Core.dadd_int DS0 DM0 (own_s7 (by omega) (by omega)))) hs1 ?_
    refine XS.dstoreN X1431.here hx rfl (hb hby d_prog_50_method_6_code_33) rfl (l' := #[vr a, vr b, vd s1, ss, vi (0 : Int32)]) rfl ?_
    refine XS.iinc X1431.here hx rfl (hb hby d_prog_50_method_6_code_34) rfl (l' := #[vr a, vr b, vd s1, ss, vi (1 : Int32)]) rfl ?_
    refine XS.goto X1431.here hx rfl (pc0 := 37) (pc' := 5) rfl (hb hby d_prog_50_method_6_code_37) (by decide) (by decide) ?_
    show Steps p.tables e below (T1430.setTop (mkF m 5 #[vr a, vr b, vd s1, ss, vi (1 : Int32)] [])) tQ
    refine XS.iload X1431.here hx rfl (hb hby d_prog_50_method_6_code_5) rfl ?_
    refine XS.aloadN X1431.here hx rfl (hb hby d_prog_50_method_6_code_7) rfl rfl ?_
    exact kk
  clear k1440
  obtain ⟨T1442, X1443, e1444, st1445⟩ := getF X1431 hx hZ hown (host := "") (Or.inl (tw27 hw)) Via.refl e1432 F3 (g := (mkF m 8 #[vr a, vr b, vd s1, ss, vi (1 : Int32)] [(.ref a), (.int (1 : Int32))])) rfl rfl (hb hby d_prog_50_method_6_code_8)
  have k1446 : own_G p e below E0 T1442 (mkF m 11 #[vr a, vr b, vd s1, ss, vi (1 : Int32)] [(.int (4 : Int32)), (.int (1 : Int32))]) := fun tQ kk => k1441 tQ (st1445 _ kk)
  clear k1441 st1445
  have k1447 : own_G p e below E0 T1442 (mkF m 16 #[vr a, vr b, vd s1, ss, vi (1 : Int32)] [(.ref a), (.double s1)]) := by
    intro tQ kk
    refine k1446 tQ ?_
    refine XS.icmpNo X1443.here hx rfl (hb hby d_prog_50_method_6_code_11) rfl (own_ic_geN (by decide)) ?_
    refine XS.dloadN X1443.here hx rfl (hb hby d_prog_50_method_6_code_14) rfl ?_
    refine XS.aloadN X1443.here hx rfl (hb hby d_prog_50_method_6_code_15) rfl rfl ?_
    exact kk
  clear k1446
  obtain ⟨T1448, X1449, e1450, st1451⟩ := getF X1443 hx hZ hown (host := "") (Or.inl (tw20 hw)) Via.refl e1444 F2 (g := (mkF m 16 #[vr a, vr b, vd s1, ss, vi (1 : Int32)] [(.ref a), (.double s1)])) rfl rfl (hb hby d_prog_50_method_6_code_16)
  have k1452 : own_G p e below E0 T1448 (mkF m 19 #[vr a, vr b, vd s1, ss, vi (1 : Int32)] [(.ref q), (.double s1)]) := fun tQ kk => k1447 tQ (st1451 _ kk)
  clear k1447 st1451
  have k1453 : own_G p e below E0 T1448 (mkF m 21 #[vr a, vr b, vd s1, ss, vi (1 : Int32)] [(.int (1 : Int32)), (.ref q), (.double s1)]) := by
    intro tQ kk
    refine k1452 tQ ?_
    refine XS.iload X1449.here hx rfl (hb hby d_prog_50_method_6_code_19) rfl ?_
    exact kk
  clear k1452
  have st1454 := fun tQ => own_A.dld X1449 hx hZ e1450 A2 (j := (1 : Int32)) (v := (.double x1)) (by decide) rfl (g := (mkF m 21 #[vr a, vr b, vd s1, ss, vi (1 : Int32)] [(.int (1 : Int32)), (.ref q), (.double s1)])) rfl rfl (hb hby d_prog_50_method_6_code_21) tQ
  have k1455 : own_G p e below E0 T1448 (mkF m 22 #[vr a, vr b, vd s1, ss, vi (1 : Int32)] [(.double x1), (.double s1)]) := fun tQ kk => k1453 tQ (st1454 _ kk)
  clear k1453 st1454
  have k1456 : own_G p e below E0 T1448 (mkF m 24 #[vr a, vr b, vd s1, ss, vi (1 : Int32)] [(.ref a), (.ref b), (.double x1), (.double s1)]) := by
    intro tQ kk
    refine k1455 tQ ?_
    refine XS.aloadN X1449.here hx rfl (hb hby d_prog_50_method_6_code_22) rfl rfl ?_
    refine XS.aloadN X1449.here hx rfl (hb hby d_prog_50_method_6_code_23) rfl rfl ?_
    exact kk
  clear k1455
  obtain ⟨T1457, X1458, e1459, st1460⟩ := getF X1449 hx hZ hown (host := "") (Or.inl (tw18 hw)) Via.refl e1450 F1 (g := (mkF m 24 #[vr a, vr b, vd s1, ss, vi (1 : Int32)] [(.ref a), (.ref b), (.double x1), (.double s1)])) rfl rfl (hb hby d_prog_50_method_6_code_24)
  have k1461 : own_G p e below E0 T1457 (mkF m 27 #[vr a, vr b, vd s1, ss, vi (1 : Int32)] [(.ref r), (.ref b), (.double x1), (.double s1)]) := fun tQ kk => k1456 tQ (st1460 _ kk)
  clear k1456 st1460
  have k1462 : own_G p e below E0 T1457 (mkF m 29 #[vr a, vr b, vd s1, ss, vi (1 : Int32)] [(.int (1 : Int32)), (.ref r), (.ref b), (.double x1), (.double s1)]) := by
    intro tQ kk
    refine k1461 tQ ?_
    refine XS.iload X1458.here hx rfl (hb hby d_prog_50_method_6_code_27) rfl ?_
    exact kk
  clear k1461
  have st1463 := fun tQ => own_A.ild X1458 hx hZ e1459 A1 (j := (1 : Int32)) (v := (.int i1)) (by decide) rfl (g := (mkF m 29 #[vr a, vr b, vd s1, ss, vi (1 : Int32)] [(.int (1 : Int32)), (.ref r), (.ref b), (.double x1), (.double s1)])) rfl rfl (hb hby d_prog_50_method_6_code_29) tQ
  have k1464 : own_G p e below E0 T1457 (mkF m 30 #[vr a, vr b, vd s1, ss, vi (1 : Int32)] [(.int i1), (.ref b), (.double x1), (.double s1)]) := fun tQ kk => k1462 tQ (st1463 _ kk)
  clear k1462 st1463
  have st1465 := fun tQ => own_A.dld X1458 hx hZ e1459 A3 (j := i1) (v := (.double (own_selD y0 y1 y2 y3 i1))) (own_rn hi1) (own_selDp _ _ _ _ hi1) (g := (mkF m 30 #[vr a, vr b, vd s1, ss, vi (1 : Int32)] [(.int i1), (.ref b), (.double x1), (.double s1)])) rfl rfl (hb hby d_prog_50_method_6_code_30) tQ
  have k1466 : own_G p e below E0 T1457 (mkF m 31 #[vr a, vr b, vd s1, ss, vi (1 : Int32)] [(.double (own_selD y0 y1 y2 y3 i1)), (.double x1), (.double s1)]) := fun tQ kk => k1464 tQ (st1465 _ kk)
  clear k1464 st1465
  obtain ⟨z1, hz1⟩ : ∃ vA, FP.dmul x1 (own_selD y0 y1 y2 y3 i1) = vA := ⟨_, rfl⟩
  have DM1 : FP.Core.DInt (j1 * m1) z1 := hz1 ▸ FP.Core.dmul_int Dx1 Dy1 (own_m9 bj1 bm1)
  have q1 := own_p9 bj1 bm1
  have k1467 : own_G p e below E0 T1457 (mkF m 32 #[vr a, vr b, vd s1, ss, vi (1 : Int32)] [(.double z1), (.double s1)]) := by
    intro tQ kk
    refine k1466 tQ ?_
    refine XS.dmulS X1458.here hx rfl (hb hby d_prog_50_method_6_code_31) rfl (own_nn (FP.Core.dmul_int Dx1 Dy1 (own_m9 bj1 bm1))) hz1 ?_
    exact kk
  clear k1466
  obtain ⟨s2, hs2⟩ : ∃ vA, FP.dadd s1 z1 = vA := ⟨_, rfl⟩
  have DS2 : FP.Core.DInt (0 + j0 * m0 + j1 * m1) s2 := hs2 ▸ FP.Core.dadd_int DS1 DM1 (own_s7 (by omega) (by omega))
  have k1468 : own_G p e below E0 T1457 (mkF m 8 #[vr a, vr b, vd s2, ss, vi (2 : Int32)] [(.ref a), (.int (2 : Int32))]) := by
    intro tQ kk
    refine k1467 tQ ?_
    refine XS.daddS X1458.here hx rfl (hb hby d_prog_50_method_6_code_32) rfl (own_nn (FP.Core.dadd_int DS1 DM1 (own_s7 (by omega) (by omega)))) hs2 ?_
    refine XS.dstoreN X1458.here hx rfl (hb hby d_prog_50_method_6_code_33) rfl (l' := #[vr a, vr b, vd s2, ss, vi (1 : Int32)]) rfl ?_
    refine XS.iinc X1458.here hx rfl (hb hby d_prog_50_method_6_code_34) rfl (l' := #[vr a, vr b, vd s2, ss, vi (2 : Int32)]) rfl ?_
    refine XS.goto X1458.here hx rfl (pc0 := 37) (pc' := 5) rfl (hb hby d_prog_50_method_6_code_37) (by decide) (by decide) ?_
    show Steps p.tables e below (T1457.setTop (mkF m 5 #[vr a, vr b, vd s2, ss, vi (2 : Int32)] [])) tQ
    refine XS.iload X1458.here hx rfl (hb hby d_prog_50_method_6_code_5) rfl ?_
    refine XS.aloadN X1458.here hx rfl (hb hby d_prog_50_method_6_code_7) rfl rfl ?_
    exact kk
  clear k1467
  obtain ⟨T1469, X1470, e1471, st1472⟩ := getF X1458 hx hZ hown (host := "") (Or.inl (tw27 hw)) Via.refl e1459 F3 (g := (mkF m 8 #[vr a, vr b, vd s2, ss, vi (2 : Int32)] [(.ref a), (.int (2 : Int32))])) rfl rfl (hb hby d_prog_50_method_6_code_8)
  have k1473 : own_G p e below E0 T1469 (mkF m 11 #[vr a, vr b, vd s2, ss, vi (2 : Int32)] [(.int (4 : Int32)), (.int (2 : Int32))]) := fun tQ kk => k1468 tQ (st1472 _ kk)
  clear k1468 st1472
  have k1474 : own_G p e below E0 T1469 (mkF m 16 #[vr a, vr b, vd s2, ss, vi (2 : Int32)] [(.ref a), (.double s2)]) := by
    intro tQ kk
    refine k1473 tQ ?_
    refine XS.icmpNo X1470.here hx rfl (hb hby d_prog_50_method_6_code_11) rfl (own_ic_geN (by decide)) ?_
    refine XS.dloadN X1470.here hx rfl (hb hby d_prog_50_method_6_code_14) rfl ?_
    refine XS.aloadN X1470.here hx rfl (hb hby d_prog_50_method_6_code_15) rfl rfl ?_
    exact kk
  clear k1473
  obtain ⟨T1475, X1476, e1477, st1478⟩ := getF X1470 hx hZ hown (host := "") (Or.inl (tw20 hw)) Via.refl e1471 F2 (g := (mkF m 16 #[vr a, vr b, vd s2, ss, vi (2 : Int32)] [(.ref a), (.double s2)])) rfl rfl (hb hby d_prog_50_method_6_code_16)
  have k1479 : own_G p e below E0 T1475 (mkF m 19 #[vr a, vr b, vd s2, ss, vi (2 : Int32)] [(.ref q), (.double s2)]) := fun tQ kk => k1474 tQ (st1478 _ kk)
  clear k1474 st1478
  have k1480 : own_G p e below E0 T1475 (mkF m 21 #[vr a, vr b, vd s2, ss, vi (2 : Int32)] [(.int (2 : Int32)), (.ref q), (.double s2)]) := by
    intro tQ kk
    refine k1479 tQ ?_
    refine XS.iload X1476.here hx rfl (hb hby d_prog_50_method_6_code_19) rfl ?_
    exact kk
  clear k1479
  have st1481 := fun tQ => own_A.dld X1476 hx hZ e1477 A2 (j := (2 : Int32)) (v := (.double x2)) (by decide) rfl (g := (mkF m 21 #[vr a, vr b, vd s2, ss, vi (2 : Int32)] [(.int (2 : Int32)), (.ref q), (.double s2)])) rfl rfl (hb hby d_prog_50_method_6_code_21) tQ
  have k1482 : own_G p e below E0 T1475 (mkF m 22 #[vr a, vr b, vd s2, ss, vi (2 : Int32)] [(.double x2), (.double s2)]) := fun tQ kk => k1480 tQ (st1481 _ kk)
  clear k1480 st1481
  have k1483 : own_G p e below E0 T1475 (mkF m 24 #[vr a, vr b, vd s2, ss, vi (2 : Int32)] [(.ref a), (.ref b), (.double x2), (.double s2)]) := by
    intro tQ kk
    refine k1482 tQ ?_
    refine XS.aloadN X1476.here hx rfl (hb hby d_prog_50_method_6_code_22) rfl rfl ?_
    refine XS.aloadN X1476.here hx rfl (hb hby d_prog_50_method_6_code_23) rfl rfl ?_
    exact kk
  clear k1482
  obtain ⟨T1484, X1485, e1486, st1487⟩ := getF X1476 hx hZ hown (host := "") (Or.inl (tw18 hw)) Via.refl e1477 F1 (g := (mkF m 24 #[vr a, vr b, vd s2, ss, vi (2 : Int32)] [(.ref a), (.ref b), (.double x2), (.double s2)])) rfl rfl (hb hby d_prog_50_method_6_code_24)
  have k1488 : own_G p e below E0 T1484 (mkF m 27 #[vr a, vr b, vd s2, ss, vi (2 : Int32)] [(.ref r), (.ref b), (.double x2), (.double s2)]) := fun tQ kk => k1483 tQ (st1487 _ kk)
  clear k1483 st1487
  have k1489 : own_G p e below E0 T1484 (mkF m 29 #[vr a, vr b, vd s2, ss, vi (2 : Int32)] [(.int (2 : Int32)), (.ref r), (.ref b), (.double x2), (.double s2)]) := by
    intro tQ kk
    refine k1488 tQ ?_
    refine XS.iload X1485.here hx rfl (hb hby d_prog_50_method_6_code_27) rfl ?_
    exact kk
  clear k1488
  have st1490 := fun tQ => own_A.ild X1485 hx hZ e1486 A1 (j := (2 : Int32)) (v := (.int i2)) (by decide) rfl (g := (mkF m 29 #[vr a, vr b, vd s2, ss, vi (2 : Int32)] [(.int (2 : Int32)), (.ref r), (.ref b), (.double x2), (.double s2)])) rfl rfl (hb hby d_prog_50_method_6_code_29) tQ
  have k1491 : own_G p e below E0 T1484 (mkF m 30 #[vr a, vr b, vd s2, ss, vi (2 : Int32)] [(.int i2), (.ref b), (.double x2), (.double s2)]) := fun tQ kk => k1489 tQ (st1490 _ kk)
  clear k1489 st1490
  have st1492 := fun tQ => own_A.dld X1485 hx hZ e1486 A3 (j := i2) (v := (.double (own_selD y0 y1 y2 y3 i2))) (own_rn hi2) (own_selDp _ _ _ _ hi2) (g := (mkF m 30 #[vr a, vr b, vd s2, ss, vi (2 : Int32)] [(.int i2), (.ref b), (.double x2), (.double s2)])) rfl rfl (hb hby d_prog_50_method_6_code_30) tQ
  have k1493 : own_G p e below E0 T1484 (mkF m 31 #[vr a, vr b, vd s2, ss, vi (2 : Int32)] [(.double (own_selD y0 y1 y2 y3 i2)), (.double x2), (.double s2)]) := fun tQ kk => k1491 tQ (st1492 _ kk)
  clear k1491 st1492
  obtain ⟨z2, hz2⟩ : ∃ vA, FP.dmul x2 (own_selD y0 y1 y2 y3 i2) = vA := ⟨_, rfl⟩
  have DM2 : FP.Core.DInt (j2 * m2) z2 := hz2 ▸ FP.Core.dmul_int Dx2 Dy2 (own_m9 bj2 bm2)
  have q2 := own_p9 bj2 bm2
  have k1494 : own_G p e below E0 T1484 (mkF m 32 #[vr a, vr b, vd s2, ss, vi (2 : Int32)] [(.double z2), (.double s2)]) := by
    intro tQ kk
    refine k1493 tQ ?_
    refine XS.dmulS X1485.here hx rfl (hb hby d_prog_50_method_6_code_31) rfl (own_nn (FP.Core.dmul_int Dx2 Dy2 (own_m9 bj2 bm2))) hz2 ?_
    exact kk
  clear k1493
  obtain ⟨s3, hs3⟩ : ∃ vA, FP.dadd s2 z2 = vA := ⟨_, rfl⟩
  have DS3 : FP.Core.DInt (0 + j0 * m0 + j1 * m1 + j2 * m2) s3 := hs3 ▸ FP.Core.dadd_int DS2 DM2 (own_s7 (by omega) (by omega))
  have k1495 : own_G p e below E0 T1484 (mkF m 8 #[vr a, vr b, vd s3, ss, vi (3 : Int32)] [(.ref a), (.int (3 : Int32))]) := by
    intro tQ kk
    refine k1494 tQ ?_
    refine XS.daddS X1485.here hx rfl (hb hby d_prog_50_method_6_code_32) rfl (own_nn (FP.Core.dadd_int DS2 DM2 (own_s7 (by omega) (by omega)))) hs3 ?_
    refine XS.dstoreN X1485.here hx rfl (hb hby d_prog_50_method_6_code_33) rfl (l' := #[vr a, vr b, vd s3, ss, vi (2 : Int32)]) rfl ?_
    refine XS.iinc X1485.here hx rfl (hb hby d_prog_50_method_6_code_34) rfl (l' := #[vr a, vr b, vd s3, ss, vi (3 : Int32)]) rfl ?_
    refine XS.goto X1485.here hx rfl (pc0 := 37) (pc' := 5) rfl (hb hby d_prog_50_method_6_code_37) (by decide) (by decide) ?_
    show Steps p.tables e below (T1484.setTop (mkF m 5 #[vr a, vr b, vd s3, ss, vi (3 : Int32)] [])) tQ
    refine XS.iload X1485.here hx rfl (hb hby d_prog_50_method_6_code_5) rfl ?_
    refine XS.aloadN X1485.here hx rfl (hb hby d_prog_50_method_6_code_7) rfl rfl ?_
    exact kk
  clear k1494
  obtain ⟨T1496, X1497, e1498, st1499⟩ := getF X1485 hx hZ hown (host := "") (Or.inl (tw27 hw)) Via.refl e1486 F3 (g := (mkF m 8 #[vr a, vr b, vd s3, ss, vi (3 : Int32)] [(.ref a), (.int (3 : Int32))])) rfl rfl (hb hby d_prog_50_method_6_code_8)
  have k1500 : own_G p e below E0 T1496 (mkF m 11 #[vr a, vr b, vd s3, ss, vi (3 : Int32)] [(.int (4 : Int32)), (.int (3 : Int32))]) := fun tQ kk => k1495 tQ (st1499 _ kk)
  clear k1495 st1499
  have k1501 : own_G p e below E0 T1496 (mkF m 16 #[vr a, vr b, vd s3, ss, vi (3 : Int32)] [(.ref a), (.double s3)]) := by
    intro tQ kk
    refine k1500 tQ ?_
    refine XS.icmpNo X1497.here hx rfl (hb hby d_prog_50_method_6_code_11) rfl (own_ic_geN (by decide)) ?_
    refine XS.dloadN X1497.here hx rfl (hb hby d_prog_50_method_6_code_14) rfl ?_
    refine XS.aloadN X1497.here hx rfl (hb hby d_prog_50_method_6_code_15) rfl rfl ?_
    exact kk
  clear k1500
  obtain ⟨T1502, X1503, e1504, st1505⟩ := getF X1497 hx hZ hown (host := "") (Or.inl (tw20 hw)) Via.refl e1498 F2 (g := (mkF m 16 #[vr a, vr b, vd s3, ss, vi (3 : Int32)] [(.ref a), (.double s3)])) rfl rfl (hb hby d_prog_50_method_6_code_16)
  have k1506 : own_G p e below E0 T1502 (mkF m 19 #[vr a, vr b, vd s3, ss, vi (3 : Int32)] [(.ref q), (.double s3)]) := fun tQ kk => k1501 tQ (st1505 _ kk)
  clear k1501 st1505
  have k1507 : own_G p e below E0 T1502 (mkF m 21 #[vr a, vr b, vd s3, ss, vi (3 : Int32)] [(.int (3 : Int32)), (.ref q), (.double s3)]) := by
    intro tQ kk
    refine k1506 tQ ?_
    refine XS.iload X1503.here hx rfl (hb hby d_prog_50_method_6_code_19) rfl ?_
    exact kk
  clear k1506
  have st1508 := fun tQ => own_A.dld X1503 hx hZ e1504 A2 (j := (3 : Int32)) (v := (.double x3)) (by decide) rfl (g := (mkF m 21 #[vr a, vr b, vd s3, ss, vi (3 : Int32)] [(.int (3 : Int32)), (.ref q), (.double s3)])) rfl rfl (hb hby d_prog_50_method_6_code_21) tQ
  have k1509 : own_G p e below E0 T1502 (mkF m 22 #[vr a, vr b, vd s3, ss, vi (3 : Int32)] [(.double x3), (.double s3)]) := fun tQ kk => k1507 tQ (st1508 _ kk)
  clear k1507 st1508
  have k1510 : own_G p e below E0 T1502 (mkF m 24 #[vr a, vr b, vd s3, ss, vi (3 : Int32)] [(.ref a), (.ref b), (.double x3), (.double s3)]) := by
    intro tQ kk
    refine k1509 tQ ?_
    refine XS.aloadN X1503.here hx rfl (hb hby d_prog_50_method_6_code_22) rfl rfl ?_
    refine XS.aloadN X1503.here hx rfl (hb hby d_prog_50_method_6_code_23) rfl rfl ?_
    exact kk
  clear k1509
  obtain ⟨T1511, X1512, e1513, st1514⟩ := getF X1503 hx hZ hown (host := "") (Or.inl (tw18 hw)) Via.refl e1504 F1 (g := (mkF m 24 #[vr a, vr b, vd s3, ss, vi (3 : Int32)] [(.ref a), (.ref b), (.double x3), (.double s3)])) rfl rfl (hb hby d_prog_50_method_6_code_24)
  have k1515 : own_G p e below E0 T1511 (mkF m 27 #[vr a, vr b, vd s3, ss, vi (3 : Int32)] [(.ref r), (.ref b), (.double x3), (.double s3)]) := fun tQ kk => k1510 tQ (st1514 _ kk)
  clear k1510 st1514
  have k1516 : own_G p e below E0 T1511 (mkF m 29 #[vr a, vr b, vd s3, ss, vi (3 : Int32)] [(.int (3 : Int32)), (.ref r), (.ref b), (.double x3), (.double s3)]) := by
    intro tQ kk
    refine k1515 tQ ?_
    refine XS.iload X1512.here hx rfl (hb hby d_prog_50_method_6_code_27) rfl ?_
    exact kk
  clear k1515
  have st1517 := fun tQ => own_A.ild X1512 hx hZ e1513 A1 (j := (3 : Int32)) (v := (.int i3)) (by decide) rfl (g := (mkF m 29 #[vr a, vr b, vd s3, ss, vi (3 : Int32)] [(.int (3 : Int32)), (.ref r), (.ref b), (.double x3), (.double s3)])) rfl rfl (hb hby d_prog_50_method_6_code_29) tQ
  have k1518 : own_G p e below E0 T1511 (mkF m 30 #[vr a, vr b, vd s3, ss, vi (3 : Int32)] [(.int i3), (.ref b), (.double x3), (.double s3)]) := fun tQ kk => k1516 tQ (st1517 _ kk)
  clear k1516 st1517
  have st1519 := fun tQ => own_A.dld X1512 hx hZ e1513 A3 (j := i3) (v := (.double (own_selD y0 y1 y2 y3 i3))) (own_rn hi3) (own_selDp _ _ _ _ hi3) (g := (mkF m 30 #[vr a, vr b, vd s3, ss, vi (3 : Int32)] [(.int i3), (.ref b), (.double x3), (.double s3)])) rfl rfl (hb hby d_prog_50_method_6_code_30) tQ
  have k1520 : own_G p e below E0 T1511 (mkF m 31 #[vr a, vr b, vd s3, ss, vi (3 : Int32)] [(.double (own_selD y0 y1 y2 y3 i3)), (.double x3), (.double s3)]) := fun tQ kk => k1518 tQ (st1519 _ kk)
  clear k1518 st1519
  obtain ⟨z3, hz3⟩ : ∃ vA, FP.dmul x3 (own_selD y0 y1 y2 y3 i3) = vA := ⟨_, rfl⟩
  have DM3 : FP.Core.DInt (j3 * m3) z3 := hz3 ▸ FP.Core.dmul_int Dx3 Dy3 (own_m9 bj3 bm3)
  have q3 := own_p9 bj3 bm3
  have k1521 : own_G p e below E0 T1511 (mkF m 32 #[vr a, vr b, vd s3, ss, vi (3 : Int32)] [(.double z3), (.double s3)]) := by
    intro tQ kk
    refine k1520 tQ ?_
    refine XS.dmulS X1512.here hx rfl (hb hby d_prog_50_method_6_code_31) rfl (own_nn (FP.Core.dmul_int Dx3 Dy3 (own_m9 bj3 bm3))) hz3 ?_
    exact kk
  clear k1520
  obtain ⟨s4, hs4⟩ : ∃ vA, FP.dadd s3 z3 = vA := ⟨_, rfl⟩
  have DS4 : FP.Core.DInt (0 + j0 * m0 + j1 * m1 + j2 * m2 + j3 * m3) s4 := hs4 ▸ FP.Core.dadd_int DS3 DM3 (own_s7 (by omega) (by omega))
  have k1522 : own_G p e below E0 T1511 (mkF m 8 #[vr a, vr b, vd s4, ss, vi (4 : Int32)] [(.ref a), (.int (4 : Int32))]) := by
    intro tQ kk
    refine k1521 tQ ?_
    refine XS.daddS X1512.here hx rfl (hb hby d_prog_50_method_6_code_32) rfl (own_nn (FP.Core.dadd_int DS3 DM3 (own_s7 (by omega) (by omega)))) hs4 ?_
    refine XS.dstoreN X1512.here hx rfl (hb hby d_prog_50_method_6_code_33) rfl (l' := #[vr a, vr b, vd s4, ss, vi (3 : Int32)]) rfl ?_
    refine XS.iinc X1512.here hx rfl (hb hby d_prog_50_method_6_code_34) rfl (l' := #[vr a, vr b, vd s4, ss, vi (4 : Int32)]) rfl ?_
    refine XS.goto X1512.here hx rfl (pc0 := 37) (pc' := 5) rfl (hb hby d_prog_50_method_6_code_37) (by decide) (by decide) ?_
    show Steps p.tables e below (T1511.setTop (mkF m 5 #[vr a, vr b, vd s4, ss, vi (4 : Int32)] [])) tQ
    refine XS.iload X1512.here hx rfl (hb hby d_prog_50_method_6_code_5) rfl ?_
    refine XS.aloadN X1512.here hx rfl (hb hby d_prog_50_method_6_code_7) rfl rfl ?_
    exact kk
  clear k1521
  obtain ⟨T1523, X1524, e1525, st1526⟩ := getF X1512 hx hZ hown (host := "") (Or.inl (tw27 hw)) Via.refl e1513 F3 (g := (mkF m 8 #[vr a, vr b, vd s4, ss, vi (4 : Int32)] [(.ref a), (.int (4 : Int32))])) rfl rfl (hb hby d_prog_50_method_6_code_8)
  have k1527 : own_G p e below E0 T1523 (mkF m 11 #[vr a, vr b, vd s4, ss, vi (4 : Int32)] [(.int (4 : Int32)), (.int (4 : Int32))]) := fun tQ kk => k1522 tQ (st1526 _ kk)
  clear k1522 st1526
  have k1528 : own_G p e below E0 T1523 (mkF m 41 #[vr a, vr b, vd s4, ss, vi (4 : Int32)] [(.double s4)]) := by
    intro tQ kk
    refine k1527 tQ ?_
    refine XS.icmpYes X1524.here hx rfl (pc0 := 11) (pc' := 40) rfl (hb hby d_prog_50_method_6_code_11) rfl (own_ic_geY (by decide)) (by decide) (by decide) ?_
    refine XS.dloadN X1524.here hx rfl (hb hby d_prog_50_method_6_code_40) rfl ?_
    exact kk
  clear k1527
  obtain ⟨fs, hr, hrun, hended, hW, hsame⟩ := X1524.leave (v := some (.double s4)) (fun h => by rw [Bd.returns] at h; cases h)
  have hrun0 := k1528 _ (retOut X1524 hx Bd.returns (t := .double) rfl (Or.inr (Or.inr (Or.inl ⟨rfl, rfl, _, rfl⟩))) (hb hby d_prog_50_method_6_code_41) hr)
  subst hE0
  refine ⟨_, _, hrun0, hrun, hended, _, _, rfl, ?_, ⟨_, rfl⟩, hW, hsame.mono (by decide) (by decide)⟩
  show QrmD4 Z a b r q i0 i1 i2 i3 x0 x1 x2 x3 y0 y1 y2 y3 j0 j1 j2 j3 m0 m1 m2 m3 h0 n0 _ T1523.heap _
  rw [e1525]
  exact ⟨s4, rfl, N0, rfl, DS4⟩
def QrmD5 (Z : State) (a : Addr) (b : Addr) (r : Addr) (q : Addr) (i0 : Int32) (i1 : Int32) (i2 : Int32) (i3 : Int32) (i4 : Int32) (x0 : UInt64) (x1 : UInt64) (x2 : UInt64) (x3 : UInt64) (x4 : UInt64) (y0 : UInt64) (y1 : UInt64) (y2 : UInt64) (y3 : UInt64) (j0 : Int) (j1 : Int) (j2 : Int) (j3 : Int) (j4 : Int) (m0 : Int) (m1 : Int) (m2 : Int) (m3 : Int) (m4 : Int) (h0 : Heap) (n0 : Nat) (vQ : Option Value) (hQ : Heap) (LQ : List Loc) : Prop := ∃ (s : UInt64), vQ = some (.double s) ∧ Fr n0 LQ ∧ hQ = h0 ∧ (FP.Core.DInt (0 + j0 * m0 + j1 * m1 + j2 * m2 + j3 * m3 + j4 * m4) s)
theorem ef_rmD5 (m : MethodId) (a : Addr) (b : Addr) (r : Addr) (q : Addr) (i0 : Int32) (i1 : Int32) (i2 : Int32) (i3 : Int32) (i4 : Int32) (x0 : UInt64) (x1 : UInt64) (x2 : UInt64) (x3 : UInt64) (x4 : UInt64) (y0 : UInt64) (y1 : UInt64) (y2 : UInt64) (y3 : UInt64) (j0 : Int) (j1 : Int) (j2 : Int) (j3 : Int) (j4 : Int) (m0 : Int) (m1 : Int) (m2 : Int) (m3 : Int) (m4 : Int) : entryFrame m #[(.ref a), (.ref b)] 5 = mkF m 0 #[vr a, vr b, uu, uu, uu] [] := by first | (simp [entryFrame, mkF, argsToLocals, Value.category]; done) | rfl
set_option maxRecDepth 65536 in
set_option maxHeartbeats 40000000 in
theorem rmD5 (l : Launch) (Z : State) (a0 : Array Value) (hw : ∀ d ∈ tables_1, d.before a0 Z = true) (ws : List Jvm.Cond) (a : Addr) (b : Addr) (r : Addr) (q : Addr) (i0 : Int32) (i1 : Int32) (i2 : Int32) (i3 : Int32) (i4 : Int32) (x0 : UInt64) (x1 : UInt64) (x2 : UInt64) (x3 : UInt64) (x4 : UInt64) (y0 : UInt64) (y1 : UInt64) (y2 : UInt64) (y3 : UInt64) (j0 : Int) (j1 : Int) (j2 : Int) (j3 : Int) (j4 : Int) (m0 : Int) (m1 : Int) (m2 : Int) (m3 : Int) (m4 : Int) (h0 : Heap) (n0 : Nat) (Z0 : n0 ≤ h0.size) (F1 : fd2 Z h0 a (.ref r)) (F2 : fd3 Z h0 a (.ref q)) (F3 : fd4 Z h0 a (.int (5 : Int32))) (A1 : own_A Z h0 r .int [(.int i0), (.int i1), (.int i2), (.int i3), (.int i4), (.int (0 : Int32)), (.int (0 : Int32)), (.int (0 : Int32))]) (A2 : own_A Z h0 q .double [(.double x0), (.double x1), (.double x2), (.double x3), (.double x4), (.double (0 : UInt64)), (.double (0 : UInt64)), (.double (0 : UInt64))]) (A3 : own_A Z h0 b .double [(.double y0), (.double y1), (.double y2), (.double y3)]) (hi0 : i0 = 0 ∨ i0 = 1 ∨ i0 = 2 ∨ i0 = 3) (Dx0 : FP.Core.DInt j0 x0) (Dy0 : FP.Core.DInt m0 (own_selD y0 y1 y2 y3 i0)) (bj0 : -512 ≤ j0 ∧ j0 ≤ 512) (bm0 : -512 ≤ m0 ∧ m0 ≤ 512) (hi1 : i1 = 0 ∨ i1 = 1 ∨ i1 = 2 ∨ i1 = 3) (Dx1 : FP.Core.DInt j1 x1) (Dy1 : FP.Core.DInt m1 (own_selD y0 y1 y2 y3 i1)) (bj1 : -512 ≤ j1 ∧ j1 ≤ 512) (bm1 : -512 ≤ m1 ∧ m1 ≤ 512) (hi2 : i2 = 0 ∨ i2 = 1 ∨ i2 = 2 ∨ i2 = 3) (Dx2 : FP.Core.DInt j2 x2) (Dy2 : FP.Core.DInt m2 (own_selD y0 y1 y2 y3 i2)) (bj2 : -512 ≤ j2 ∧ j2 ≤ 512) (bm2 : -512 ≤ m2 ∧ m2 ≤ 512) (hi3 : i3 = 0 ∨ i3 = 1 ∨ i3 = 2 ∨ i3 = 3) (Dx3 : FP.Core.DInt j3 x3) (Dy3 : FP.Core.DInt m3 (own_selD y0 y1 y2 y3 i3)) (bj3 : -512 ≤ j3 ∧ j3 ≤ 512) (bm3 : -512 ≤ m3 ∧ m3 ≤ 512) (hi4 : i4 = 0 ∨ i4 = 1 ∨ i4 = 2 ∨ i4 = 3) (Dx4 : FP.Core.DInt j4 x4) (Dy4 : FP.Core.DInt m4 (own_selD y0 y1 y2 y3 i4)) (bj4 : -512 ≤ j4 ∧ j4 ≤ 512) (bm4 : -512 ≤ m4 ∧ m4 ≤ 512) :
    MetFree l mn17 (head1 (Jvm.Cond.code mn17 prog_50_method_6_code 5 (some .double) :: ws) ({ frames := 0, cells := 0, slots := 0, locals := 0 } : Room)) (fun aA U => aA = #[(.ref a), (.ref b)] ∧ Z.Warmed39 U.vm ∧ U.heap = h0) (fun _ _ _ _ _ => True) (fun _ U o U' => ∃ vR LR, o = .returned vR ∧ QrmD5 Z a b r q i0 i1 i2 i3 i4 x0 x1 x2 x3 x4 y0 y1 y2 y3 j0 j1 j2 j3 j4 m0 m1 m2 m3 m4 h0 n0 vR U'.heap LR ∧ FrameEnd U o U' LR ({ frames := 0, cells := 0, slots := 0, locals := 0 } : Room).cells ({ frames := 0, cells := 0, slots := 0, locals := 0 } : Room).slots) := by
  refine MetFree.of_bodySF (plainFor_of_name pn_com_example_netloom_netloom_embed_SparseColumn) hisR ?_
  intro p e s m args below meth c s₁ Bd hml0 hPre hKk
  obtain ⟨rfl, hZ, hh⟩ := hPre
  have hx := Bd.exec
  have hby := Bd.bytes
  have hml : c.maxLocals = 5 := hml0
  have hown : s.vm.findClass "com/example/netloom/netloom/embed/SparseColumn" = some m.cls := findClass_of_methodNamed Bd.named
  have hnm := (name_of_methodNamed Bd.named Bd.method).1
  have X0 : Stand p l e ({ frames := 0, cells := 0, slots := 0, locals := 0 } : Room) s m #[(.ref a), (.ref b)] below meth c s₁ [] 0 0 := Stand.of_body Bd
  have e0 : s₁.heap = h0 := by rw [← hh, Bd.state]; rfl
  have N0 := Fr.nil n0
  obtain ⟨E0, hE0⟩ : ∃ zE : State, zE = s₁.setTop (entryFrame m #[(.ref a), (.ref b)] 5) := ⟨_, rfl⟩
  have k0 : own_G p e below E0 s₁ (mkF m 0 #[vr a, vr b, uu, uu, uu] []) := fun tz kz => hE0 ▸ castTop (ef_rmD5 m a b r q i0 i1 i2 i3 i4 x0 x1 x2 x3 x4 y0 y1 y2 y3 j0 j1 j2 j3 j4 m0 m1 m2 m3 m4) kz
  have DS0 : FP.Core.DInt 0 FP.dconst0 := own_d0
  have k1529 : own_G p e below E0 s₁ (mkF m 8 #[vr a, vr b, vd FP.dconst0, ss, vi (0 : Int32)] [(.ref a), (.int (0 : Int32))]) := by
    intro tQ kk
    refine k0 tQ ?_
    refine XS.dconst0 X0.here hx rfl (hb hby d_prog_50_method_6_code_0) rfl ?_
    refine XS.dstoreN X0.here hx rfl (hb hby d_prog_50_method_6_code_1) rfl (l' := #[vr a, vr b, vd FP.dconst0, ss, uu]) rfl ?_
    refine XS.iconst X0.here hx rfl (hb hby d_prog_50_method_6_code_2) ?_
    refine XS.istore X0.here hx rfl (hb hby d_prog_50_method_6_code_3) rfl (l' := #[vr a, vr b, vd FP.dconst0, ss, vi (0 : Int32)]) rfl ?_
    show Steps p.tables e below (s₁.setTop (mkF m 5 #[vr a, vr b, vd FP.dconst0, ss, vi (0 : Int32)] [])) tQ
    refine XS.iload X0.here hx rfl (hb hby d_prog_50_method_6_code_5) rfl ?_
    refine XS.aloadN X0.here hx rfl (hb hby d_prog_50_method_6_code_7) rfl rfl ?_
    exact kk
  clear k0
  obtain ⟨T1530, X1531, e1532, st1533⟩ := getF X0 hx hZ hown (host := "") (Or.inl (tw27 hw)) Via.refl e0 F3 (g := (mkF m 8 #[vr a, vr b, vd FP.dconst0, ss, vi (0 : Int32)] [(.ref a), (.int (0 : Int32))])) rfl rfl (hb hby d_prog_50_method_6_code_8)
  have k1534 : own_G p e below E0 T1530 (mkF m 11 #[vr a, vr b, vd FP.dconst0, ss, vi (0 : Int32)] [(.int (5 : Int32)), (.int (0 : Int32))]) := fun tQ kk => k1529 tQ (st1533 _ kk)
  clear k1529 st1533
  have k1535 : own_G p e below E0 T1530 (mkF m 16 #[vr a, vr b, vd FP.dconst0, ss, vi (0 : Int32)] [(.ref a), (.double FP.dconst0)]) := by
    intro tQ kk
    refine k1534 tQ ?_
    refine XS.icmpNo X1531.here hx rfl (hb hby d_prog_50_method_6_code_11) rfl (own_ic_geN (by decide)) ?_
    refine XS.dloadN X1531.here hx rfl (hb hby d_prog_50_method_6_code_14) rfl ?_
    refine XS.aloadN X1531.here hx rfl (hb hby d_prog_50_method_6_code_15) rfl rfl ?_
    exact kk
  clear k1534
  obtain ⟨T1536, X1537, e1538, st1539⟩ := getF X1531 hx hZ hown (host := "") (Or.inl (tw20 hw)) Via.refl e1532 F2 (g := (mkF m 16 #[vr a, vr b, vd FP.dconst0, ss, vi (0 : Int32)] [(.ref a), (.double FP.dconst0)])) rfl rfl (hb hby d_prog_50_method_6_code_16)
  have k1540 : own_G p e below E0 T1536 (mkF m 19 #[vr a, vr b, vd FP.dconst0, ss, vi (0 : Int32)] [(.ref q), (.double FP.dconst0)]) := fun tQ kk => k1535 tQ (st1539 _ kk)
  clear k1535 st1539
  have k1541 : own_G p e below E0 T1536 (mkF m 21 #[vr a, vr b, vd FP.dconst0, ss, vi (0 : Int32)] [(.int (0 : Int32)), (.ref q), (.double FP.dconst0)]) := by
    intro tQ kk
    refine k1540 tQ ?_
    refine XS.iload X1537.here hx rfl (hb hby d_prog_50_method_6_code_19) rfl ?_
    exact kk
  clear k1540
  have st1542 := fun tQ => own_A.dld X1537 hx hZ e1538 A2 (j := (0 : Int32)) (v := (.double x0)) (by decide) rfl (g := (mkF m 21 #[vr a, vr b, vd FP.dconst0, ss, vi (0 : Int32)] [(.int (0 : Int32)), (.ref q), (.double FP.dconst0)])) rfl rfl (hb hby d_prog_50_method_6_code_21) tQ
  have k1543 : own_G p e below E0 T1536 (mkF m 22 #[vr a, vr b, vd FP.dconst0, ss, vi (0 : Int32)] [(.double x0), (.double FP.dconst0)]) := fun tQ kk => k1541 tQ (st1542 _ kk)
  clear k1541 st1542
  have k1544 : own_G p e below E0 T1536 (mkF m 24 #[vr a, vr b, vd FP.dconst0, ss, vi (0 : Int32)] [(.ref a), (.ref b), (.double x0), (.double FP.dconst0)]) := by
    intro tQ kk
    refine k1543 tQ ?_
    refine XS.aloadN X1537.here hx rfl (hb hby d_prog_50_method_6_code_22) rfl rfl ?_
    refine XS.aloadN X1537.here hx rfl (hb hby d_prog_50_method_6_code_23) rfl rfl ?_
    exact kk
  clear k1543
  obtain ⟨T1545, X1546, e1547, st1548⟩ := getF X1537 hx hZ hown (host := "") (Or.inl (tw18 hw)) Via.refl e1538 F1 (g := (mkF m 24 #[vr a, vr b, vd FP.dconst0, ss, vi (0 : Int32)] [(.ref a), (.ref b), (.double x0), (.double FP.dconst0)])) rfl rfl (hb hby d_prog_50_method_6_code_24)
  have k1549 : own_G p e below E0 T1545 (mkF m 27 #[vr a, vr b, vd FP.dconst0, ss, vi (0 : Int32)] [(.ref r), (.ref b), (.double x0), (.double FP.dconst0)]) := fun tQ kk => k1544 tQ (st1548 _ kk)
  clear k1544 st1548
  have k1550 : own_G p e below E0 T1545 (mkF m 29 #[vr a, vr b, vd FP.dconst0, ss, vi (0 : Int32)] [(.int (0 : Int32)), (.ref r), (.ref b), (.double x0), (.double FP.dconst0)]) := by
    intro tQ kk
    refine k1549 tQ ?_
    refine XS.iload X1546.here hx rfl (hb hby d_prog_50_method_6_code_27) rfl ?_
    exact kk
  clear k1549
  have st1551 := fun tQ => own_A.ild X1546 hx hZ e1547 A1 (j := (0 : Int32)) (v := (.int i0)) (by decide) rfl (g := (mkF m 29 #[vr a, vr b, vd FP.dconst0, ss, vi (0 : Int32)] [(.int (0 : Int32)), (.ref r), (.ref b), (.double x0), (.double FP.dconst0)])) rfl rfl (hb hby d_prog_50_method_6_code_29) tQ
  have k1552 : own_G p e below E0 T1545 (mkF m 30 #[vr a, vr b, vd FP.dconst0, ss, vi (0 : Int32)] [(.int i0), (.ref b), (.double x0), (.double FP.dconst0)]) := fun tQ kk => k1550 tQ (st1551 _ kk)
  clear k1550 st1551
  have st1553 := fun tQ => own_A.dld X1546 hx hZ e1547 A3 (j := i0) (v := (.double (own_selD y0 y1 y2 y3 i0))) (own_rn hi0) (own_selDp _ _ _ _ hi0) (g := (mkF m 30 #[vr a, vr b, vd FP.dconst0, ss, vi (0 : Int32)] [(.int i0), (.ref b), (.double x0), (.double FP.dconst0)])) rfl rfl (hb hby d_prog_50_method_6_code_30) tQ
  have k1554 : own_G p e below E0 T1545 (mkF m 31 #[vr a, vr b, vd FP.dconst0, ss, vi (0 : Int32)] [(.double (own_selD y0 y1 y2 y3 i0)), (.double x0), (.double FP.dconst0)]) := fun tQ kk => k1552 tQ (st1553 _ kk)
  clear k1552 st1553
  obtain ⟨z0, hz0⟩ : ∃ vA, FP.dmul x0 (own_selD y0 y1 y2 y3 i0) = vA := ⟨_, rfl⟩
  have DM0 : FP.Core.DInt (j0 * m0) z0 := hz0 ▸ FP.Core.dmul_int Dx0 Dy0 (own_m9 bj0 bm0)
  have q0 := own_p9 bj0 bm0
  have k1555 : own_G p e below E0 T1545 (mkF m 32 #[vr a, vr b, vd FP.dconst0, ss, vi (0 : Int32)] [(.double z0), (.double FP.dconst0)]) := by
    intro tQ kk
    refine k1554 tQ ?_
    refine XS.dmulS X1546.here hx rfl (hb hby d_prog_50_method_6_code_31) rfl (own_nn (FP.Core.dmul_int Dx0 Dy0 (own_m9 bj0 bm0))) hz0 ?_
    exact kk
  clear k1554
  obtain ⟨s1, hs1⟩ : ∃ vA, FP.dadd FP.dconst0 z0 = vA := ⟨_, rfl⟩
  have DS1 : FP.Core.DInt (0 + j0 * m0) s1 := hs1 ▸ FP.Core.dadd_int DS0 DM0 (own_s7 (by omega) (by omega))
  have k1556 : own_G p e below E0 T1545 (mkF m 8 #[vr a, vr b, vd s1, ss, vi (1 : Int32)] [(.ref a), (.int (1 : Int32))]) := by
    intro tQ kk
    refine k1555 tQ ?_
    refine XS.daddS X1546.here hx rfl (hb hby d_prog_50_method_6_code_32) rfl (own_nn (FP.Core.dadd_int DS0 DM0 (own_s7 (by omega) (by omega)))) hs1 ?_
    refine XS.dstoreN X1546.here hx rfl (hb hby d_prog_50_method_6_code_33) rfl (l' := #[vr a, vr b, vd s1, ss, vi (0 : Int32)]) rfl ?_
    refine XS.iinc X1546.here hx rfl (hb hby d_prog_50_method_6_code_34) rfl (l' := #[vr a, vr b, vd s1, ss, vi (1 : Int32)]) rfl ?_
    refine XS.goto X1546.here hx rfl (pc0 := 37) (pc' := 5) rfl (hb hby d_prog_50_method_6_code_37) (by decide) (by decide) ?_
    show Steps p.tables e below (T1545.setTop (mkF m 5 #[vr a, vr b, vd s1, ss, vi (1 : Int32)] [])) tQ
    refine XS.iload X1546.here hx rfl (hb hby d_prog_50_method_6_code_5) rfl ?_
    refine XS.aloadN X1546.here hx rfl (hb hby d_prog_50_method_6_code_7) rfl rfl ?_
    exact kk
  clear k1555
  obtain ⟨T1557, X1558, e1559, st1560⟩ := getF X1546 hx hZ hown (host := "") (Or.inl (tw27 hw)) Via.refl e1547 F3 (g := (mkF m 8 #[vr a, vr b, vd s1, ss, vi (1 : Int32)] [(.ref a), (.int (1 : Int32))])) rfl rfl (hb hby d_prog_50_method_6_code_8)
  have k1561 : own_G p e below E0 T1557 (mkF m 11 #[vr a, vr b, vd s1, ss, vi (1 : Int32)] [(.int (5 : Int32)), (.int (1 : Int32))]) := fun tQ kk => k1556 tQ (st1560 _ kk)
  clear k1556 st1560
  have k1562 : own_G p e below E0 T1557 (mkF m 16 #[vr a, vr b, vd s1, ss, vi (1 : Int32)] [(.ref a), (.double s1)]) := by
    intro tQ kk
    refine k1561 tQ ?_
    refine XS.icmpNo X1558.here hx rfl (hb hby d_prog_50_method_6_code_11) rfl (own_ic_geN (by decide)) ?_
    refine XS.dloadN X1558.here hx rfl (hb hby d_prog_50_method_6_code_14) rfl ?_
    refine XS.aloadN X1558.here hx rfl (hb hby d_prog_50_method_6_code_15) rfl rfl ?_
    exact kk
  clear k1561
  obtain ⟨T1563, X1564, e1565, st1566⟩ := getF X1558 hx hZ hown (host := "") (Or.inl (tw20 hw)) Via.refl e1559 F2 (g := (mkF m 16 #[vr a, vr b, vd s1, ss, vi (1 : Int32)] [(.ref a), (.double s1)])) rfl rfl (hb hby d_prog_50_method_6_code_16)
  have k1567 : own_G p e below E0 T1563 (mkF m 19 #[vr a, vr b, vd s1, ss, vi (1 : Int32)] [(.ref q), (.double s1)]) := fun tQ kk => k1562 tQ (st1566 _ kk)
  clear k1562 st1566
  have k1568 : own_G p e below E0 T1563 (mkF m 21 #[vr a, vr b, vd s1, ss, vi (1 : Int32)] [(.int (1 : Int32)), (.ref q), (.double s1)]) := by
    intro tQ kk
    refine k1567 tQ ?_
    refine XS.iload X1564.here hx rfl (hb hby d_prog_50_method_6_code_19) rfl ?_
    exact kk
  clear k1567
  have st1569 := fun tQ => own_A.dld X1564 hx hZ e1565 A2 (j := (1 : Int32)) (v := (.double x1)) (by decide) rfl (g := (mkF m 21 #[vr a, vr b, vd s1, ss, vi (1 : Int32)] [(.int (1 : Int32)), (.ref q), (.double s1)])) rfl rfl (hb hby d_prog_50_method_6_code_21) tQ
  have k1570 : own_G p e below E0 T1563 (mkF m 22 #[vr a, vr b, vd s1, ss, vi (1 : Int32)] [(.double x1), (.double s1)]) := fun tQ kk => k1568 tQ (st1569 _ kk)
  clear k1568 st1569
  have k1571 : own_G p e below E0 T1563 (mkF m 24 #[vr a, vr b, vd s1, ss, vi (1 : Int32)] [(.ref a), (.ref b), (.double x1), (.double s1)]) := by
    intro tQ kk
    refine k1570 tQ ?_
    refine XS.aloadN X1564.here hx rfl (hb hby d_prog_50_method_6_code_22) rfl rfl ?_
    refine XS.aloadN X1564.here hx rfl (hb hby d_prog_50_method_6_code_23) rfl rfl ?_
    exact kk
  clear k1570
  obtain ⟨T1572, X1573, e1574, st1575⟩ := getF X1564 hx hZ hown (host := "") (Or.inl (tw18 hw)) Via.refl e1565 F1 (g := (mkF m 24 #[vr a, vr b, vd s1, ss, vi (1 : Int32)] [(.ref a), (.ref b), (.double x1), (.double s1)])) rfl rfl (hb hby d_prog_50_method_6_code_24)
  have k1576 : own_G p e below E0 T1572 (mkF m 27 #[vr a, vr b, vd s1, ss, vi (1 : Int32)] [(.ref r), (.ref b), (.double x1), (.double s1)]) := fun tQ kk => k1571 tQ (st1575 _ kk)
  clear k1571 st1575
  have k1577 : own_G p e below E0 T1572 (mkF m 29 #[vr a, vr b, vd s1, ss, vi (1 : Int32)] [(.int (1 : Int32)), (.ref r), (.ref b), (.double x1), (.double s1)]) := by
    intro tQ kk
    refine k1576 tQ ?_
    refine XS.iload X1573.here hx rfl (hb hby d_prog_50_method_6_code_27) rfl ?_
    exact kk
  clear k1576
  have st1578 := fun tQ => own_A.ild X1573 hx hZ e1574 A1 (j := (1 : Int32)) (v := (.int i1)) (by decide) rfl (g := (mkF m 29 #[vr a, vr b, vd s1, ss, vi (1 : Int32)] [(.int (1 : Int32)), (.ref r), (.ref b), (.double x1), (.double s1)])) rfl rfl (hb hby d_prog_50_method_6_code_29) tQ
  have k1579 : own_G p e below E0 T1572 (mkF m 30 #[vr a, vr b, vd s1, ss, vi (1 : Int32)] [(.int i1), (.ref b), (.double x1), (.double s1)]) := fun tQ kk => k1577 tQ (st1578 _ kk)
  clear k1577 st1578
  have st1580 := fun tQ => own_A.dld X1573 hx hZ e1574 A3 (j := i1) (v := (.double (own_selD y0 y1 y2 y3 i1))) (own_rn hi1) (own_selDp _ _ _ _ hi1) (g := (mkF m 30 #[vr a, vr b, vd s1, ss, vi (1 : Int32)] [(.int i1), (.ref b), (.double x1), (.double s1)])) rfl rfl (hb hby d_prog_50_method_6_code_30) tQ
  have k1581 : own_G p e below E0 T1572 (mkF m 31 #[vr a, vr b, vd s1, ss, vi (1 : Int32)] [(.double (own_selD y0 y1 y2 y3 i1)), (.double x1), (.double s1)]) := fun tQ kk => k1579 tQ (st1580 _ kk)
  clear k1579 st1580
  obtain ⟨z1, hz1⟩ : ∃ vA, FP.dmul x1 (own_selD y0 y1 y2 y3 i1) = vA := ⟨_, rfl⟩
  have DM1 : FP.Core.DInt (j1 * m1) z1 := hz1 ▸ FP.Core.dmul_int Dx1 Dy1 (own_m9 bj1 bm1)
  have q1 := own_p9 bj1 bm1
  have k1582 : own_G p e below E0 T1572 (mkF m 32 #[vr a, vr b, vd s1, ss, vi (1 : Int32)] [(.double z1), (.double s1)]) := by
    intro tQ kk
    refine k1581 tQ ?_
    refine XS.dmulS X1573.here hx rfl (hb hby d_prog_50_method_6_code_31) rfl (own_nn (FP.Core.dmul_int Dx1 Dy1 (own_m9 bj1 bm1))) hz1 ?_
    exact kk
  clear k1581
  obtain ⟨s2, hs2⟩ : ∃ vA, FP.dadd s1 z1 = vA := ⟨_, rfl⟩
  have DS2 : FP.Core.DInt (0 + j0 * m0 + j1 * m1) s2 := hs2 ▸ FP.Core.dadd_int DS1 DM1 (own_s7 (by omega) (by omega))
  have k1583 : own_G p e below E0 T1572 (mkF m 8 #[vr a, vr b, vd s2, ss, vi (2 : Int32)] [(.ref a), (.int (2 : Int32))]) := by
    intro tQ kk
    refine k1582 tQ ?_
    refine XS.daddS X1573.here hx rfl (hb hby d_prog_50_method_6_code_32) rfl (own_nn (FP.Core.dadd_int DS1 DM1 (own_s7 (by omega) (by omega)))) hs2 ?_
    refine XS.dstoreN X1573.here hx rfl (hb hby d_prog_50_method_6_code_33) rfl (l' := #[vr a, vr b, vd s2, ss, vi (1 : Int32)]) rfl ?_
    refine XS.iinc X1573.here hx rfl (hb hby d_prog_50_method_6_code_34) rfl (l' := #[vr a, vr b, vd s2, ss, vi (2 : Int32)]) rfl ?_
    refine XS.goto X1573.here hx rfl (pc0 := 37) (pc' := 5) rfl (hb hby d_prog_50_method_6_code_37) (by decide) (by decide) ?_
    show Steps p.tables e below (T1572.setTop (mkF m 5 #[vr a, vr b, vd s2, ss, vi (2 : Int32)] [])) tQ
    refine XS.iload X1573.here hx rfl (hb hby d_prog_50_method_6_code_5) rfl ?_
    refine XS.aloadN X1573.here hx rfl (hb hby d_prog_50_method_6_code_7) rfl rfl ?_
    exact kk
  clear k1582
  obtain ⟨T1584, X1585, e1586, st1587⟩ := getF X1573 hx hZ hown (host := "") (Or.inl (tw27 hw)) Via.refl e1574 F3 (g := (mkF m 8 #[vr a, vr b, vd s2, ss, vi (2 : Int32)] [(.ref a), (.int (2 : Int32))])) rfl rfl (hb hby d_prog_50_method_6_code_8)
  have k1588 : own_G p e below E0 T1584 (mkF m 11 #[vr a, vr b, vd s2, ss, vi (2 : Int32)] [(.int (5 : Int32)), (.int (2 : Int32))]) := fun tQ kk => k1583 tQ (st1587 _ kk)
  clear k1583 st1587
  have k1589 : own_G p e below E0 T1584 (mkF m 16 #[vr a, vr b, vd s2, ss, vi (2 : Int32)] [(.ref a), (.double s2)]) := by
    intro tQ kk
    refine k1588 tQ ?_
    refine XS.icmpNo X1585.here hx rfl (hb hby d_prog_50_method_6_code_11) rfl (own_ic_geN (by decide)) ?_
    refine XS.dloadN X1585.here hx rfl (hb hby d_prog_50_method_6_code_14) rfl ?_
    refine XS.aloadN X1585.here hx rfl (hb hby d_prog_50_method_6_code_15) rfl rfl ?_
    exact kk
  clear k1588
  obtain ⟨T1590, X1591, e1592, st1593⟩ := getF X1585 hx hZ hown (host := "") (Or.inl (tw20 hw)) Via.refl e1586 F2 (g := (mkF m 16 #[vr a, vr b, vd s2, ss, vi (2 : Int32)] [(.ref a), (.double s2)])) rfl rfl (hb hby d_prog_50_method_6_code_16)
  have k1594 : own_G p e below E0 T1590 (mkF m 19 #[vr a, vr b, vd s2, ss, vi (2 : Int32)] [(.ref q), (.double s2)]) := fun tQ kk => k1589 tQ (st1593 _ kk)
  clear k1589 st1593
  have k1595 : own_G p e below E0 T1590 (mkF m 21 #[vr a, vr b, vd s2, ss, vi (2 : Int32)] [(.int (2 : Int32)), (.ref q), (.double s2)]) := by
    intro tQ kk
    refine k1594 tQ ?_
    refine XS.iload X1591.here hx rfl (hb hby d_prog_50_method_6_code_19) rfl ?_
    exact kk
  clear k1594
  have st1596 := fun tQ => own_A.dld X1591 hx hZ e1592 A2 (j := (2 : Int32)) (v := (.double x2)) (by decide) rfl (g := (mkF m 21 #[vr a, vr b, vd s2, ss, vi (2 : Int32)] [(.int (2 : Int32)), (.ref q), (.double s2)])) rfl rfl (hb hby d_prog_50_method_6_code_21) tQ
  have k1597 : own_G p e below E0 T1590 (mkF m 22 #[vr a, vr b, vd s2, ss, vi (2 : Int32)] [(.double x2), (.double s2)]) := fun tQ kk => k1595 tQ (st1596 _ kk)
  clear k1595 st1596
  have k1598 : own_G p e below E0 T1590 (mkF m 24 #[vr a, vr b, vd s2, ss, vi (2 : Int32)] [(.ref a), (.ref b), (.double x2), (.double s2)]) := by
    intro tQ kk
    refine k1597 tQ ?_
    refine XS.aloadN X1591.here hx rfl (hb hby d_prog_50_method_6_code_22) rfl rfl ?_
    refine XS.aloadN X1591.here hx rfl (hb hby d_prog_50_method_6_code_23) rfl rfl ?_
    exact kk
  clear k1597
  obtain ⟨T1599, X1600, e1601, st1602⟩ := getF X1591 hx hZ hown (host := "") (Or.inl (tw18 hw)) Via.refl e1592 F1 (g := (mkF m 24 #[vr a, vr b, vd s2, ss, vi (2 : Int32)] [(.ref a), (.ref b), (.double x2), (.double s2)])) rfl rfl (hb hby d_prog_50_method_6_code_24)
  have k1603 : own_G p e below E0 T1599 (mkF m 27 #[vr a, vr b, vd s2, ss, vi (2 : Int32)] [(.ref r), (.ref b), (.double x2), (.double s2)]) := fun tQ kk => k1598 tQ (st1602 _ kk)
  clear k1598 st1602
  have k1604 : own_G p e below E0 T1599 (mkF m 29 #[vr a, vr b, vd s2, ss, vi (2 : Int32)] [(.int (2 : Int32)), (.ref r), (.ref b), (.double x2), (.double s2)]) := by
    intro tQ kk
    refine k1603 tQ ?_
    refine XS.iload X1600.here hx rfl (hb hby d_prog_50_method_6_code_27) rfl ?_
    exact kk
  clear k1603
  have st1605 := fun tQ => own_A.ild X1600 hx hZ e1601 A1 (j := (2 : Int32)) (v := (.int i2)) (by decide) rfl (g := (mkF m 29 #[vr a, vr b, vd s2, ss, vi (2 : Int32)] [(.int (2 : Int32)), (.ref r), (.ref b), (.double x2), (.double s2)])) rfl rfl (hb hby d_prog_50_method_6_code_29) tQ
  have k1606 : own_G p e below E0 T1599 (mkF m 30 #[vr a, vr b, vd s2, ss, vi (2 : Int32)] [(.int i2), (.ref b), (.double x2), (.double s2)]) := fun tQ kk => k1604 tQ (st1605 _ kk)
  clear k1604 st1605
  have st1607 := fun tQ => own_A.dld X1600 hx hZ e1601 A3 (j := i2) (v := (.double (own_selD y0 y1 y2 y3 i2))) (own_rn hi2) (own_selDp _ _ _ _ hi2) (g := (mkF m 30 #[vr a, vr b, vd s2, ss, vi (2 : Int32)] [(.int i2), (.ref b), (.double x2), (.double s2)])) rfl rfl (hb hby d_prog_50_method_6_code_30) tQ
  have k1608 : own_G p e below E0 T1599 (mkF m 31 #[vr a, vr b, vd s2, ss, vi (2 : Int32)] [(.double (own_selD y0 y1 y2 y3 i2)), (.double x2), (.double s2)]) := fun tQ kk => k1606 tQ (st1607 _ kk)
  clear k1606 st1607
  obtain ⟨z2, hz2⟩ : ∃ vA, FP.dmul x2 (own_selD y0 y1 y2 y3 i2) = vA := ⟨_, rfl⟩
  have DM2 : FP.Core.DInt (j2 * m2) z2 := hz2 ▸ FP.Core.dmul_int Dx2 Dy2 (own_m9 bj2 bm2)
  have q2 := own_p9 bj2 bm2
  have k1609 : own_G p e below E0 T1599 (mkF m 32 #[vr a, vr b, vd s2, ss, vi (2 : Int32)] [(.double z2), (.double s2)]) := by
    intro tQ kk
    refine k1608 tQ ?_
    refine XS.dmulS X1600.here hx rfl (hb hby d_prog_50_method_6_code_31) rfl (own_nn (FP.Core.dmul_int Dx2 Dy2 (own_m9 bj2 bm2))) hz2 ?_
    exact kk
  clear k1608
  obtain ⟨s3, hs3⟩ : ∃ vA, FP.dadd s2 z2 = vA := ⟨_, rfl⟩
  have DS3 : FP.Core.DInt (0 + j0 * m0 + j1 * m1 + j2 * m2) s3 := hs3 ▸ FP.Core.dadd_int DS2 DM2 (own_s7 (by omega) (by omega))
  have k1610 : own_G p e below E0 T1599 (mkF m 8 #[vr a, vr b, vd s3, ss, vi (3 : Int32)] [(.ref a), (.int (3 : Int32))]) := by
    intro tQ kk
    refine k1609 tQ ?_
    refine XS.daddS X1600.here hx rfl (hb hby d_prog_50_method_6_code_32) rfl (own_nn (FP.Core.dadd_int DS2 DM2 (own_s7 (by omega) (by omega)))) hs3 ?_
    refine XS.dstoreN X1600.here hx rfl (hb hby d_prog_50_method_6_code_33) rfl (l' := #[vr a, vr b, vd s3, ss, vi (2 : Int32)]) rfl ?_
    refine XS.iinc X1600.here hx rfl (hb hby d_prog_50_method_6_code_34) rfl (l' := #[vr a, vr b, vd s3, ss, vi (3 : Int32)]) rfl ?_
    refine XS.goto X1600.here hx rfl (pc0 := 37) (pc' := 5) rfl (hb hby d_prog_50_method_6_code_37) (by decide) (by decide) ?_
    show Steps p.tables e below (T1599.setTop (mkF m 5 #[vr a, vr b, vd s3, ss, vi (3 : Int32)] [])) tQ
    refine XS.iload X1600.here hx rfl (hb hby d_prog_50_method_6_code_5) rfl ?_
    refine XS.aloadN X1600.here hx rfl (hb hby d_prog_50_method_6_code_7) rfl rfl ?_
    exact kk
  clear k1609
  obtain ⟨T1611, X1612, e1613, st1614⟩ := getF X1600 hx hZ hown (host := "") (Or.inl (tw27 hw)) Via.refl e1601 F3 (g := (mkF m 8 #[vr a, vr b, vd s3, ss, vi (3 : Int32)] [(.ref a), (.int (3 : Int32))])) rfl rfl (hb hby d_prog_50_method_6_code_8)
  have k1615 : own_G p e below E0 T1611 (mkF m 11 #[vr a, vr b, vd s3, ss, vi (3 : Int32)] [(.int (5 : Int32)), (.int (3 : Int32))]) := fun tQ kk => k1610 tQ (st1614 _ kk)
  clear k1610 st1614
  have k1616 : own_G p e below E0 T1611 (mkF m 16 #[vr a, vr b, vd s3, ss, vi (3 : Int32)] [(.ref a), (.double s3)]) := by
    intro tQ kk
    refine k1615 tQ ?_
    refine XS.icmpNo X1612.here hx rfl (hb hby d_prog_50_method_6_code_11) rfl (own_ic_geN (by decide)) ?_
    refine XS.dloadN X1612.here hx rfl (hb hby d_prog_50_method_6_code_14) rfl ?_
    refine XS.aloadN X1612.here hx rfl (hb hby d_prog_50_method_6_code_15) rfl rfl ?_
    exact kk
  clear k1615
  obtain ⟨T1617, X1618, e1619, st1620⟩ := getF X1612 hx hZ hown (host := "") (Or.inl (tw20 hw)) Via.refl e1613 F2 (g := (mkF m 16 #[vr a, vr b, vd s3, ss, vi (3 : Int32)] [(.ref a), (.double s3)])) rfl rfl (hb hby d_prog_50_method_6_code_16)
  have k1621 : own_G p e below E0 T1617 (mkF m 19 #[vr a, vr b, vd s3, ss, vi (3 : Int32)] [(.ref q), (.double s3)]) := fun tQ kk => k1616 tQ (st1620 _ kk)
  clear k1616 st1620
  have k1622 : own_G p e below E0 T1617 (mkF m 21 #[vr a, vr b, vd s3, ss, vi (3 : Int32)] [(.int (3 : Int32)), (.ref q), (.double s3)]) := by
    intro tQ kk
    refine k1621 tQ ?_
    refine XS.iload X1618.here hx rfl (hb hby d_prog_50_method_6_code_19) rfl ?_
    exact kk
  clear k1621
  have st1623 := fun tQ => own_A.dld X1618 hx hZ e1619 A2 (j := (3 : Int32)) (v := (.double x3)) (by decide) rfl (g := (mkF m 21 #[vr a, vr b, vd s3, ss, vi (3 : Int32)] [(.int (3 : Int32)), (.ref q), (.double s3)])) rfl rfl (hb hby d_prog_50_method_6_code_21) tQ
  have k1624 : own_G p e below E0 T1617 (mkF m 22 #[vr a, vr b, vd s3, ss, vi (3 : Int32)] [(.double x3), (.double s3)]) := fun tQ kk => k1622 tQ (st1623 _ kk)
  clear k1622 st1623
  have k1625 : own_G p e below E0 T1617 (mkF m 24 #[vr a, vr b, vd s3, ss, vi (3 : Int32)] [(.ref a), (.ref b), (.double x3), (.double s3)]) := by
    intro tQ kk
    refine k1624 tQ ?_
    refine XS.aloadN X1618.here hx rfl (hb hby d_prog_50_method_6_code_22) rfl rfl ?_
    refine XS.aloadN X1618.here hx rfl (hb hby d_prog_50_method_6_code_23) rfl rfl ?_
    exact kk
  clear k1624
  obtain ⟨T1626, X1627, e1628, st1629⟩ := getF X1618 hx hZ hown (host := "") (Or.inl (tw18 hw)) Via.refl e1619 F1 (g := (mkF m 24 #[vr a, vr b, vd s3, ss, vi (3 : Int32)] [(.ref a), (.ref b), (.double x3), (.double s3)])) rfl rfl (hb hby d_prog_50_method_6_code_24)
  have k1630 : own_G p e below E0 T1626 (mkF m 27 #[vr a, vr b, vd s3, ss, vi (3 : Int32)] [(.ref r), (.ref b), (.double x3), (.double s3)]) := fun tQ kk => k1625 tQ (st1629 _ kk)
  clear k1625 st1629
  have k1631 : own_G p e below E0 T1626 (mkF m 29 #[vr a, vr b, vd s3, ss, vi (3 : Int32)] [(.int (3 : Int32)), (.ref r), (.ref b), (.double x3), (.double s3)]) := by
    intro tQ kk
    refine k1630 tQ ?_
    refine XS.iload X1627.here hx rfl (hb hby d_prog_50_method_6_code_27) rfl ?_
    exact kk
  clear k1630
  have st1632 := fun tQ => own_A.ild X1627 hx hZ e1628 A1 (j := (3 : Int32)) (v := (.int i3)) (by decide) rfl (g := (mkF m 29 #[vr a, vr b, vd s3, ss, vi (3 : Int32)] [(.int (3 : Int32)), (.ref r), (.ref b), (.double x3), (.double s3)])) rfl rfl (hb hby d_prog_50_method_6_code_29) tQ
  have k1633 : own_G p e below E0 T1626 (mkF m 30 #[vr a, vr b, vd s3, ss, vi (3 : Int32)] [(.int i3), (.ref b), (.double x3), (.double s3)]) := fun tQ kk => k1631 tQ (st1632 _ kk)
  clear k1631 st1632
  have st1634 := fun tQ => own_A.dld X1627 hx hZ e1628 A3 (j := i3) (v := (.double (own_selD y0 y1 y2 y3 i3))) (own_rn hi3) (own_selDp _ _ _ _ hi3) (g := (mkF m 30 #[vr a, vr b, vd s3, ss, vi (3 : Int32)] [(.int i3), (.ref b), (.double x3), (.double s3)])) rfl rfl (hb hby d_prog_50_method_6_code_30) tQ
  have k1635 : own_G p e below E0 T1626 (mkF m 31 #[vr a, vr b, vd s3, ss, vi (3 : Int32)] [(.double (own_selD y0 y1 y2 y3 i3)), (.double x3), (.double s3)]) := fun tQ kk => k1633 tQ (st1634 _ kk)
  clear k1633 st1634
  obtain ⟨z3, hz3⟩ : ∃ vA, FP.dmul x3 (own_selD y0 y1 y2 y3 i3) = vA := ⟨_, rfl⟩
  have DM3 : FP.Core.DInt (j3 * m3) z3 := hz3 ▸ FP.Core.dmul_int Dx3 Dy3 (own_m9 bj3 bm3)
  have q3 := own_p9 bj3 bm3
  have k1636 : own_G p e below E0 T1626 (mkF m 32 #[vr a, vr b, vd s3, ss, vi (3 : Int32)] [(.double z3), (.double s3)]) := by
    intro tQ kk
    refine k1635 tQ ?_
    refine XS.dmulS X1627.here hx rfl (hb hby d_prog_50_method_6_code_31) rfl (own_nn (FP.Core.dmul_int Dx3 Dy3 (own_m9 bj3 bm3))) hz3 ?_
    exact kk
  clear k1635
  obtain ⟨s4, hs4⟩ : ∃ vA, FP.dadd s3 z3 = vA := ⟨_, rfl⟩
  have DS4 : FP.Core.DInt (0 + j0 * m0 + j1 * m1 + j2 * m2 + j3 * m3) s4 := hs4 ▸ FP.Core.dadd_int DS3 DM3 (own_s7 (by omega) (by omega))
  have k1637 : own_G p e below E0 T1626 (mkF m 8 #[vr a, vr b, vd s4, ss, vi (4 : Int32)] [(.ref a), (.int (4 : Int32))]) := by
    intro tQ kk
    refine k1636 tQ ?_
    refine XS.daddS X1627.here hx rfl (hb hby d_prog_50_method_6_code_32) rfl (own_nn (FP.Core.dadd_int DS3 DM3 (own_s7 (by omega) (by omega)))) hs4 ?_
    refine XS.dstoreN X1627.here hx rfl (hb hby d_prog_50_method_6_code_33) rfl (l' := #[vr a, vr b, vd s4, ss, vi (3 : Int32)]) rfl ?_
    refine XS.iinc X1627.here hx rfl (hb hby d_prog_50_method_6_code_34) rfl (l' := #[vr a, vr b, vd s4, ss, vi (4 : Int32)]) rfl ?_
    refine XS.goto X1627.here hx rfl (pc0 := 37) (pc' := 5) rfl (hb hby d_prog_50_method_6_code_37) (by decide) (by decide) ?_
    show Steps p.tables e below (T1626.setTop (mkF m 5 #[vr a, vr b, vd s4, ss, vi (4 : Int32)] [])) tQ
    refine XS.iload X1627.here hx rfl (hb hby d_prog_50_method_6_code_5) rfl ?_
    refine XS.aloadN X1627.here hx rfl (hb hby d_prog_50_method_6_code_7) rfl rfl ?_
    exact kk
  clear k1636
  obtain ⟨T1638, X1639, e1640, st1641⟩ := getF X1627 hx hZ hown (host := "") (Or.inl (tw27 hw)) Via.refl e1628 F3 (g := (mkF m 8 #[vr a, vr b, vd s4, ss, vi (4 : Int32)] [(.ref a), (.int (4 : Int32))])) rfl rfl (hb hby d_prog_50_method_6_code_8)
  have k1642 : own_G p e below E0 T1638 (mkF m 11 #[vr a, vr b, vd s4, ss, vi (4 : Int32)] [(.int (5 : Int32)), (.int (4 : Int32))]) := fun tQ kk => k1637 tQ (st1641 _ kk)
  clear k1637 st1641
  have k1643 : own_G p e below E0 T1638 (mkF m 16 #[vr a, vr b, vd s4, ss, vi (4 : Int32)] [(.ref a), (.double s4)]) := by
    intro tQ kk
    refine k1642 tQ ?_
    refine XS.icmpNo X1639.here hx rfl (hb hby d_prog_50_method_6_code_11) rfl (own_ic_geN (by decide)) ?_
    refine XS.dloadN X1639.here hx rfl (hb hby d_prog_50_method_6_code_14) rfl ?_
    refine XS.aloadN X1639.here hx rfl (hb hby d_prog_50_method_6_code_15) rfl rfl ?_
    exact kk
  clear k1642
  obtain ⟨T1644, X1645, e1646, st1647⟩ := getF X1639 hx hZ hown (host := "") (Or.inl (tw20 hw)) Via.refl e1640 F2 (g := (mkF m 16 #[vr a, vr b, vd s4, ss, vi (4 : Int32)] [(.ref a), (.double s4)])) rfl rfl (hb hby d_prog_50_method_6_code_16)
  have k1648 : own_G p e below E0 T1644 (mkF m 19 #[vr a, vr b, vd s4, ss, vi (4 : Int32)] [(.ref q), (.double s4)]) := fun tQ kk => k1643 tQ (st1647 _ kk)
  clear k1643 st1647
  have k1649 : own_G p e below E0 T1644 (mkF m 21 #[vr a, vr b, vd s4, ss, vi (4 : Int32)] [(.int (4 : Int32)), (.ref q), (.double s4)]) := by
    intro tQ kk
    refine k1648 tQ ?_
    refine XS.iload X1645.here hx rfl (hb hby d_prog_50_method_6_code_19) rfl ?_
    exact kk
  clear k1648
  have st1650 := fun tQ => own_A.dld X1645 hx hZ e1646 A2 (j := (4 : Int32)) (v := (.double x4)) (by decide) rfl (g := (mkF m 21 #[vr a, vr b, vd s4, ss, vi (4 : Int32)] [(.int (4 : Int32)), (.ref q), (.double s4)])) rfl rfl (hb hby d_prog_50_method_6_code_21) tQ
  have k1651 : own_G p e below E0 T1644 (mkF m 22 #[vr a, vr b, vd s4, ss, vi (4 : Int32)] [(.double x4), (.double s4)]) := fun tQ kk => k1649 tQ (st1650 _ kk)
  clear k1649 st1650
  have k1652 : own_G p e below E0 T1644 (mkF m 24 #[vr a, vr b, vd s4, ss, vi (4 : Int32)] [(.ref a), (.ref b), (.double x4), (.double s4)]) := by
    intro tQ kk
    refine k1651 tQ ?_
    refine XS.aloadN X1645.here hx rfl (hb hby d_prog_50_method_6_code_22) rfl rfl ?_
    refine XS.aloadN X1645.here hx rfl (hb hby d_prog_50_method_6_code_23) rfl rfl ?_
    exact kk
  clear k1651
  obtain ⟨T1653, X1654, e1655, st1656⟩ := getF X1645 hx hZ hown (host := "") (Or.inl (tw18 hw)) Via.refl e1646 F1 (g := (mkF m 24 #[vr a, vr b, vd s4, ss, vi (4 : Int32)] [(.ref a), (.ref b), (.double x4), (.double s4)])) rfl rfl (hb hby d_prog_50_method_6_code_24)
  have k1657 : own_G p e below E0 T1653 (mkF m 27 #[vr a, vr b, vd s4, ss, vi (4 : Int32)] [(.ref r), (.ref b), (.double x4), (.double s4)]) := fun tQ kk => k1652 tQ (st1656 _ kk)
  clear k1652 st1656
  have k1658 : own_G p e below E0 T1653 (mkF m 29 #[vr a, vr b, vd s4, ss, vi (4 : Int32)] [(.int (4 : Int32)), (.ref r), (.ref b), (.double x4), (.double s4)]) := by
    intro tQ kk
    refine k1657 tQ ?_
    refine XS.iload X1654.here hx rfl (hb hby d_prog_50_method_6_code_27) rfl ?_
    exact kk
  clear k1657
  have st1659 := fun tQ => own_A.ild X1654 hx hZ e1655 A1 (j := (4 : Int32)) (v := (.int i4)) (by decide) rfl (g := (mkF m 29 #[vr a, vr b, vd s4, ss, vi (4 : Int32)] [(.int (4 : Int32)), (.ref r), (.ref b), (.double x4), (.double s4)])) rfl rfl (hb hby d_prog_50_method_6_code_29) tQ
  have k1660 : own_G p e below E0 T1653 (mkF m 30 #[vr a, vr b, vd s4, ss, vi (4 : Int32)] [(.int i4), (.ref b), (.double x4), (.double s4)]) := fun tQ kk => k1658 tQ (st1659 _ kk)
  clear k1658 st1659
  have st1661 := fun tQ => own_A.dld X1654 hx hZ e1655 A3 (j := i4) (v := (.double (own_selD y0 y1 y2 y3 i4))) (own_rn hi4) (own_selDp _ _ _ _ hi4) (g := (mkF m 30 #[vr a, vr b, vd s4, ss, vi (4 : Int32)] [(.int i4), (.ref b), (.double x4), (.double s4)])) rfl rfl (hb hby d_prog_50_method_6_code_30) tQ
  have k1662 : own_G p e below E0 T1653 (mkF m 31 #[vr a, vr b, vd s4, ss, vi (4 : Int32)] [(.double (own_selD y0 y1 y2 y3 i4)), (.double x4), (.double s4)]) := fun tQ kk => k1660 tQ (st1661 _ kk)
  clear k1660 st1661
  obtain ⟨z4, hz4⟩ : ∃ vA, FP.dmul x4 (own_selD y0 y1 y2 y3 i4) = vA := ⟨_, rfl⟩
  have DM4 : FP.Core.DInt (j4 * m4) z4 := hz4 ▸ FP.Core.dmul_int Dx4 Dy4 (own_m9 bj4 bm4)
  have q4 := own_p9 bj4 bm4
  have k1663 : own_G p e below E0 T1653 (mkF m 32 #[vr a, vr b, vd s4, ss, vi (4 : Int32)] [(.double z4), (.double s4)]) := by
    intro tQ kk
    refine k1662 tQ ?_
    refine XS.dmulS X1654.here hx rfl (hb hby d_prog_50_method_6_code_31) rfl (own_nn (FP.Core.dmul_int Dx4 Dy4 (own_m9 bj4 bm4))) hz4 ?_
    exact kk
  clear k1662
  obtain ⟨s5, hs5⟩ : ∃ vA, FP.dadd s4 z4 = vA := ⟨_, rfl⟩
  have DS5 : FP.Core.DInt (0 + j0 * m0 + j1 * m1 + j2 * m2 + j3 * m3 + j4 * m4) s5 := hs5 ▸ FP.Core.dadd_int DS4 DM4 (own_s7 (by omega) (by omega))
  have k1664 : own_G p e below E0 T1653 (mkF m 8 #[vr a, vr b, vd s5, ss, vi (5 : Int32)] [(.ref a), (.int (5 : Int32))]) := by
    intro tQ kk
    refine k1663 tQ ?_
    refine XS.daddS X1654.here hx rfl (hb hby d_prog_50_method_6_code_32) rfl (own_nn (FP.Core.dadd_int DS4 DM4 (own_s7 (by omega) (by omega)))) hs5 ?_
    refine XS.dstoreN X1654.here hx rfl (hb hby d_prog_50_method_6_code_33) rfl (l' := #[vr a, vr b, vd s5, ss, vi (4 : Int32)]) rfl ?_
    refine XS.iinc X1654.here hx rfl (hb hby d_prog_50_method_6_code_34) rfl (l' := #[vr a, vr b, vd s5, ss, vi (5 : Int32)]) rfl ?_
    refine XS.goto X1654.here hx rfl (pc0 := 37) (pc' := 5) rfl (hb hby d_prog_50_method_6_code_37) (by decide) (by decide) ?_
    show Steps p.tables e below (T1653.setTop (mkF m 5 #[vr a, vr b, vd s5, ss, vi (5 : Int32)] [])) tQ
    refine XS.iload X1654.here hx rfl (hb hby d_prog_50_method_6_code_5) rfl ?_
    refine XS.aloadN X1654.here hx rfl (hb hby d_prog_50_method_6_code_7) rfl rfl ?_
    exact kk
  clear k1663
  obtain ⟨T1665, X1666, e1667, st1668⟩ := getF X1654 hx hZ hown (host := "") (Or.inl (tw27 hw)) Via.refl e1655 F3 (g := (mkF m 8 #[vr a, vr b, vd s5, ss, vi (5 : Int32)] [(.ref a), (.int (5 : Int32))])) rfl rfl (hb hby d_prog_50_method_6_code_8)
  have k1669 : own_G p e below E0 T1665 (mkF m 11 #[vr a, vr b, vd s5, ss, vi (5 : Int32)] [(.int (5 : Int32)), (.int (5 : Int32))]) := fun tQ kk => k1664 tQ (st1668 _ kk)
  clear k1664 st1668
  have k1670 : own_G p e below E0 T1665 (mkF m 41 #[vr a, vr b, vd s5, ss, vi (5 : Int32)] [(.double s5)]) := by
    intro tQ kk
    refine k1669 tQ ?_
    refine XS.icmpYes X1666.here hx rfl (pc0 := 11) (pc' := 40) rfl (hb hby d_prog_50_method_6_code_11) rfl (own_ic_geY (by decide)) (by decide) (by decide) ?_
    refine XS.dloadN X1666.here hx rfl (hb hby d_prog_50_method_6_code_40) rfl ?_
    exact kk
  clear k1669
  obtain ⟨fs, hr, hrun, hended, hW, hsame⟩ := X1666.leave (v := some (.double s5)) (fun h => by rw [Bd.returns] at h; cases h)
  have hrun0 := k1670 _ (retOut X1666 hx Bd.returns (t := .double) rfl (Or.inr (Or.inr (Or.inl ⟨rfl, rfl, _, rfl⟩))) (hb hby d_prog_50_method_6_code_41) hr)
  subst hE0
  refine ⟨_, _, hrun0, hrun, hended, _, _, rfl, ?_, ⟨_, rfl⟩, hW, hsame.mono (by decide) (by decide)⟩
  show QrmD5 Z a b r q i0 i1 i2 i3 i4 x0 x1 x2 x3 x4 y0 y1 y2 y3 j0 j1 j2 j3 j4 m0 m1 m2 m3 m4 h0 n0 _ T1665.heap _
  rw [e1667]
  exact ⟨s5, rfl, N0, rfl, DS5⟩
def Qrm0 (Z : State) (p0 : Int32) (p1 : Int64) (p2 : Int64) (p3 : Int64) (h0 : Heap) (n0 : Nat) (vQ : Option Value) (hQ : Heap) (LQ : List Loc) : Prop := vQ = some (.int (1 : Int32)) ∧ Fr n0 LQ
theorem ef_rm0 (m : MethodId) (p0 : Int32) (p1 : Int64) (p2 : Int64) (p3 : Int64) : entryFrame m #[(.int p0), (.long p1), (.long p2), (.long p3)] maxLocals = mkF m 0 #[vi p0, vj p1, ss, vj p2, ss, vj p3, ss, uu, uu, uu, uu, uu, uu] [] := by first | (simp [entryFrame, mkF, argsToLocals, Value.category, maxLocals]; done) | rfl
def tw0 {Z : State} {a0 : Array Value} (hw : ∀ d ∈ tables_1, d.before a0 Z = true) := hw _ (List.mem_of_getElem? (i := 0) rfl)
def tw1 {Z : State} {a0 : Array Value} (hw : ∀ d ∈ tables_1, d.before a0 Z = true) := hw _ (List.mem_of_getElem? (i := 1) rfl)
def tw8 {Z : State} {a0 : Array Value} (hw : ∀ d ∈ tables_1, d.before a0 Z = true) := hw _ (List.mem_of_getElem? (i := 8) rfl)
def tw11 {Z : State} {a0 : Array Value} (hw : ∀ d ∈ tables_1, d.before a0 Z = true) := hw _ (List.mem_of_getElem? (i := 11) rfl)
def tw13 {Z : State} {a0 : Array Value} (hw : ∀ d ∈ tables_1, d.before a0 Z = true) := hw _ (List.mem_of_getElem? (i := 13) rfl)
theorem pd_18 : parseMethodDescriptor "()V" = some ⟨[], none⟩ := by decide +kernel
def tw12 {Z : State} {a0 : Array Value} (hw : ∀ d ∈ tables_1, d.before a0 Z = true) := hw _ (List.mem_of_getElem? (i := 12) rfl)
def tw22 {Z : State} {a0 : Array Value} (hw : ∀ d ∈ tables_1, d.before a0 Z = true) := hw _ (List.mem_of_getElem? (i := 22) rfl)
def tw25 {Z : State} {a0 : Array Value} (hw : ∀ d ∈ tables_1, d.before a0 Z = true) := hw _ (List.mem_of_getElem? (i := 25) rfl)
def tw26 {Z : State} {a0 : Array Value} (hw : ∀ d ∈ tables_1, d.before a0 Z = true) := hw _ (List.mem_of_getElem? (i := 26) rfl)
theorem pd_19 : parseMethodDescriptor "([D)D" = some ⟨[(.array .double)], some .double⟩ := by decide +kernel
def tw23 {Z : State} {a0 : Array Value} (hw : ∀ d ∈ tables_1, d.before a0 Z = true) := hw _ (List.mem_of_getElem? (i := 23) rfl)
def tw24 {Z : State} {a0 : Array Value} (hw : ∀ d ∈ tables_1, d.before a0 Z = true) := hw _ (List.mem_of_getElem? (i := 24) rfl)
def tw29 {Z : State} {a0 : Array Value} (hw : ∀ d ∈ tables_1, d.before a0 Z = true) := hw _ (List.mem_of_getElem? (i := 29) rfl)
def tw31 {Z : State} {a0 : Array Value} (hw : ∀ d ∈ tables_1, d.before a0 Z = true) := hw _ (List.mem_of_getElem? (i := 31) rfl)
theorem pd_20 : parseMethodDescriptor "(Lcom/example/netloom/netloom/embed/SparseColumn;JJ[JI)J" = some ⟨[(.object "com/example/netloom/netloom/embed/SparseColumn"), .long, .long, (.array .long), .int], some .long⟩ := by decide +kernel
def tw30 {Z : State} {a0 : Array Value} (hw : ∀ d ∈ tables_1, d.before a0 Z = true) := hw _ (List.mem_of_getElem? (i := 30) rfl)
set_option maxRecDepth 65536 in
set_option maxHeartbeats 40000000 in
theorem rm0 (l : Launch) (Z : State) (a0 : Array Value) (hw : ∀ d ∈ tables_1, d.before a0 Z = true) (ws : List Jvm.Cond) (p0 : Int32) (p1 : Int64) (p2 : Int64) (p3 : Int64) (h0 : Heap) (n0 : Nat) (Z0 : n0 ≤ h0.size)  :
    MetFree l x (head1 (Jvm.Cond.code x code maxLocals ret :: ws) room_1) (fun aA U => aA = #[(.int p0), (.long p1), (.long p2), (.long p3)] ∧ Z.Warmed39 U.vm ∧ U.heap = h0) (fun _ _ _ _ _ => True) (fun _ U o U' => ∃ vR LR, o = .returned vR ∧ Qrm0 Z p0 p1 p2 p3 h0 n0 vR U'.heap LR ∧ FrameEnd U o U' LR 24 192) := by
  refine MetFree.of_bodySF (plainFor_of_name pn_com_example_netloom_netloom_embed_SparseColumnDotPinLaw) hisR ?_
  intro p e s m args below meth c s₁ Bd hml0 hPre hKk
  obtain ⟨rfl, hZ, hh⟩ := hPre
  have hx := Bd.exec
  have hby := Bd.bytes
  have hml : c.maxLocals = 13 := hml0
  have hown : s.vm.findClass "com/example/netloom/netloom/embed/SparseColumnDotPinLaw" = some m.cls := findClass_of_methodNamed Bd.named
  have hnm := (name_of_methodNamed Bd.named Bd.method).1
  have X0 : Stand p l e room_1 s m #[(.int p0), (.long p1), (.long p2), (.long p3)] below meth c s₁ [] 0 0 := Stand.of_body Bd
  have e0 : s₁.heap = h0 := by rw [← hh, Bd.state]; rfl
  have N0 := Fr.nil n0
  obtain ⟨E0, hE0⟩ : ∃ zE : State, zE = s₁.setTop (entryFrame m #[(.int p0), (.long p1), (.long p2), (.long p3)] maxLocals) := ⟨_, rfl⟩
  have k0 : own_G p e below E0 s₁ (mkF m 0 #[vi p0, vj p1, ss, vj p2, ss, vj p3, ss, uu, uu, uu, uu, uu, uu] []) := fun tz kz => hE0 ▸ castTop (ef_rm0 m p0 p1 p2 p3) kz
  have k1671 : own_G p e below E0 s₁ (mkF m 1 #[vi p0, vj p1, ss, vj p2, ss, vj p3, ss, uu, uu, uu, uu, uu, uu] [(.int p0)]) := by
    intro tQ kk
    refine k0 tQ ?_
    refine XS.iloadN X0.here hx rfl (hb hby at_0) rfl ?_
    exact kk
  clear k0
  have st1672 := X0.ldcInt hx hown (mvT hZ (tw0 hw)) (g := (mkF m 1 #[vi p0, vj p1, ss, vj p2, ss, vj p3, ss, uu, uu, uu, uu, uu, uu] [(.int p0)])) rfl (hb hby at_1)
  have k1673 : own_G p e below E0 s₁ (mkF m 3 #[vi p0, vj p1, ss, vj p2, ss, vj p3, ss, uu, uu, uu, uu, uu, uu] [(.int (2147483647 : Int32)), (.int p0)]) := fun tQ kk => k1671 tQ (st1672 _ kk)
  clear k1671 st1672
  have k1674 : own_G p e below E0 s₁ (mkF m 7 #[vi p0, vj p1, ss, vj p2, ss, vj p3, ss, uu, uu, uu, uu, uu, uu] [(.int ((p0 &&& (2147483647 : Int32)) % (6 : Int32)))]) := by
    intro tQ kk
    refine k1673 tQ ?_
    refine XS.iand X0.here hx rfl (hb hby at_3) rfl ?_
    refine XS.bipush X0.here hx rfl (hb hby at_4) ?_
    refine iremM X0 hx rfl (hb hby at_6) rfl (by decide) ?_
    exact kk
  clear k1673
  obtain ⟨N, hN⟩ : ∃ vA, vA = ((p0 &&& (2147483647 : Int32)) % (6 : Int32)) := ⟨_, rfl⟩
  have k1675 : own_G p e below E0 s₁ (mkF m 7 #[vi p0, vj p1, ss, vj p2, ss, vj p3, ss, uu, uu, uu, uu, uu, uu] [(.int N)]) := by rw [hN]; exact k1674
  have k1676 : own_G p e below E0 s₁ (mkF m 10 #[vi p0, vj p1, ss, vj p2, ss, vj p3, ss, vi N, uu, uu, uu, uu, uu] [(.int (4 : Int32))]) := by
    intro tQ kk
    refine k1675 tQ ?_
    refine XS.istore X0.here hx rfl (hb hby at_7) rfl (l' := #[vi p0, vj p1, ss, vj p2, ss, vj p3, ss, vi N, uu, uu, uu, uu, uu]) rfl ?_
    refine XS.iconst X0.here hx rfl (hb hby at_9) ?_
    exact kk
  clear k1675
  obtain ⟨T1677, h1678, cA1679, X1680, e1681, E1682, A1683, st1684⟩ := newP (aty := .long) X0 hx hZ (tw1 hw) e0 (g := (mkF m 10 #[vi p0, vj p1, ss, vj p2, ss, vj p3, ss, vi N, uu, uu, uu, uu, uu] [(.int (4 : Int32))])) rfl (hb hby at_10) rfl (by decide) (cap := 4) (by decide) (by decide) (by decide) (by decide)
  obtain ⟨a1685, g1686⟩ : ∃ zA : Nat, zA = h0.size := ⟨_, rfl⟩
  rw [← g1686] at A1683 st1684
  have ge1687 : n0 ≤ a1685 := own_ge_of Z0 g1686
  have Z1688 : n0 ≤ h1678.size := Nat.le_trans Z0 E1682.1
  have F1689 : own_A Z h1678 a1685 .long [(.long (0 : Int64)), (.long (0 : Int64)), (.long (0 : Int64)), (.long (0 : Int64))] := own_A.new A1683
  have k1690 : own_G p e below E0 T1677 (mkF m 12 #[vi p0, vj p1, ss, vj p2, ss, vj p3, ss, vi N, uu, uu, uu, uu, uu] [(.ref a1685)]) := fun tQ kk => k1676 tQ (st1684 _ kk)
  clear k1676 st1684
  have k1691 : own_G p e below E0 T1677 (mkF m 20 #[vi p0, vj p1, ss, vj p2, ss, vj p3, ss, vi N, vr a1685, uu, uu, uu, uu] [(.int (0 : Int32)), (.long p3), (.int (0 : Int32)), (.ref a1685)]) := by
    intro tQ kk
    refine k1690 tQ ?_
    refine XS.astore X1680.here hx rfl (hb hby at_12) rfl rfl (l' := #[vi p0, vj p1, ss, vj p2, ss, vj p3, ss, vi N, vr a1685, uu, uu, uu, uu]) rfl ?_
    refine XS.aload X1680.here hx rfl (hb hby at_14) rfl rfl ?_
    refine XS.iconst X1680.here hx rfl (hb hby at_16) ?_
    refine XT.lload X1680.here hx rfl (hb hby at_17) rfl ?_
    show Steps p.tables e below (T1677.setTop (mkF m 19 #[vi p0, vj p1, ss, vj p2, ss, vj p3, ss, vi N, vr a1685, uu, uu, uu, uu] [(.long p3), (.int (0 : Int32)), (.ref a1685)])) tQ
    refine XS.iconst X1680.here hx rfl (hb hby at_19) ?_
    exact kk
  clear k1690
  obtain ⟨_, _, ⟨T1692, L1693, kc1694, nc1695⟩, -, X1696, ⟨Lc1697, hQ1698, l1699, y1700, z1701⟩, st1702⟩ := Jvm.LawKit.callS X1680 hx (y := mn0) hown (mvT hZ (tw2 hw)) (mvT hZ (tw3 hw)) (mvT hZ (tw4 hw)) (mvT hZ (tw5 hw)) (by decide) (backOf (W := 2) (rmVa l Z a0 hw [] p3 (0 : Int32) h1678 n0 Z1688 ) hZ (tw5 hw) (tw4 hw) (by decide) (by decide)) (g := (mkF m 20 #[vi p0, vj p1, ss, vj p2, ss, vj p3, ss, vi N, vr a1685, uu, uu, uu, uu] [(.int (0 : Int32)), (.long p3), (.int (0 : Int32)), (.ref a1685)])) rfl (by rw [hml]; rfl) (argsL := [(.long p3), (.int (0 : Int32))]) (rest := [(.int (0 : Int32)), (.ref a1685)]) (lenOf pd_15 rfl) rfl (by show 2 * 0 + _ ≤ _; exact Nat.le_of_eq rfl) (hb hby at_20) (fun _ _ => ⟨rfl, e1681, (by decide : 1 + 0 ≤ _), (by decide : 4 + 0 ≤ _)⟩)
  dsimp only [Pt.U, Pt.locs, Pt.cells, Pt.slots] at X1696 l1699 y1700 z1701 st1702 hQ1698
  subst l1699 y1700 z1701
  obtain ⟨rfl, N1703, e1704⟩ := hQ1698
  have N1706 := Fr.app N0 N1703
  have k1707 : own_G p e below E0 T1692 (mkF m 23 #[vi p0, vj p1, ss, vj p2, ss, vj p3, ss, vi N, vr a1685, uu, uu, uu, uu] [(.int (own_val p3 (0 : Int32))), (.int (0 : Int32)), (.ref a1685)]) := fun tQ kk => k1691 tQ (st1702 _ kk)
  clear k1691 st1702
  have k1708 : own_G p e below E0 T1692 (mkF m 24 #[vi p0, vj p1, ss, vj p2, ss, vj p3, ss, vi N, vr a1685, uu, uu, uu, uu] [(.long ((own_val p3 (0 : Int32)).toInt64)), (.int (0 : Int32)), (.ref a1685)]) := by
    intro tQ kk
    refine k1707 tQ ?_
    refine XT.i2l X1696.here hx rfl (hb hby at_23) rfl ?_
    exact kk
  clear k1707
  obtain ⟨T1709, h1710, X1711, e1712, W1713, F1714, st1715⟩ := own_A.lst X1696 hx hZ e1704 F1689 (j := (0 : Int32)) (by decide) rfl (g := (mkF m 24 #[vi p0, vj p1, ss, vj p2, ss, vj p3, ss, vi N, vr a1685, uu, uu, uu, uu] [(.long ((own_val p3 (0 : Int32)).toInt64)), (.int (0 : Int32)), (.ref a1685)])) rfl rfl (hb hby at_24)
  have N1716 := Fr.snoc X1711 N1706 ge1687
  have k1717 : own_G p e below E0 T1709 (mkF m 25 #[vi p0, vj p1, ss, vj p2, ss, vj p3, ss, vi N, vr a1685, uu, uu, uu, uu] []) := fun tQ kk => k1708 tQ (st1715 _ kk)
  clear k1708 st1715
  have Z1718 : n0 ≤ h1710.size := by rw [W1713.size]; exact Z1688
  have F1719 : own_A Z h1710 a1685 .long [(.long ((own_val p3 (0 : Int32)).toInt64)), (.long (0 : Int64)), (.long (0 : Int64)), (.long (0 : Int64))] := F1714
  have k1720 : own_G p e below E0 T1709 (mkF m 31 #[vi p0, vj p1, ss, vj p2, ss, vj p3, ss, vi N, vr a1685, uu, uu, uu, uu] [(.int (1 : Int32)), (.long p3), (.int (1 : Int32)), (.ref a1685)]) := by
    intro tQ kk
    refine k1717 tQ ?_
    refine XS.aload X1711.here hx rfl (hb hby at_25) rfl rfl ?_
    refine XS.iconst X1711.here hx rfl (hb hby at_27) ?_
    refine XT.lload X1711.here hx rfl (hb hby at_28) rfl ?_
    refine XS.iconst X1711.here hx rfl (hb hby at_30) ?_
    exact kk
  clear k1717
  obtain ⟨_, _, ⟨T1721, L1722, kc1723, nc1724⟩, -, X1725, ⟨Lc1726, hQ1727, l1728, y1729, z1730⟩, st1731⟩ := Jvm.LawKit.callS X1711 hx (y := mn0) hown (mvT hZ (tw2 hw)) (mvT hZ (tw3 hw)) (mvT hZ (tw4 hw)) (mvT hZ (tw5 hw)) (by decide) (backOf (W := 2) (rmVa l Z a0 hw [] p3 (1 : Int32) h1710 n0 Z1718 ) hZ (tw5 hw) (tw4 hw) (by decide) (by decide)) (g := (mkF m 31 #[vi p0, vj p1, ss, vj p2, ss, vj p3, ss, vi N, vr a1685, uu, uu, uu, uu] [(.int (1 : Int32)), (.long p3), (.int (1 : Int32)), (.ref a1685)])) rfl (by rw [hml]; rfl) (argsL := [(.long p3), (.int (1 : Int32))]) (rest := [(.int (1 : Int32)), (.ref a1685)]) (lenOf pd_15 rfl) rfl (by show 2 * 0 + _ ≤ _; exact Nat.le_of_eq rfl) (hb hby at_31) (fun _ _ => ⟨rfl, e1712, (by decide : 1 + 0 ≤ _), (by decide : 4 + 0 ≤ _)⟩)
  dsimp only [Pt.U, Pt.locs, Pt.cells, Pt.slots] at X1725 l1728 y1729 z1730 st1731 hQ1727
  subst l1728 y1729 z1730
  obtain ⟨rfl, N1732, e1733⟩ := hQ1727
  have N1735 := Fr.app N1716 N1732
  have k1736 : own_G p e below E0 T1721 (mkF m 34 #[vi p0, vj p1, ss, vj p2, ss, vj p3, ss, vi N, vr a1685, uu, uu, uu, uu] [(.int (own_val p3 (1 : Int32))), (.int (1 : Int32)), (.ref a1685)]) := fun tQ kk => k1720 tQ (st1731 _ kk)
  clear k1720 st1731
  have k1737 : own_G p e below E0 T1721 (mkF m 35 #[vi p0, vj p1, ss, vj p2, ss, vj p3, ss, vi N, vr a1685, uu, uu, uu, uu] [(.long ((own_val p3 (1 : Int32)).toInt64)), (.int (1 : Int32)), (.ref a1685)]) := by
    intro tQ kk
    refine k1736 tQ ?_
    refine XT.i2l X1725.here hx rfl (hb hby at_34) rfl ?_
    exact kk
  clear k1736
  obtain ⟨T1738, h1739, X1740, e1741, W1742, F1743, st1744⟩ := own_A.lst X1725 hx hZ e1733 F1719 (j := (1 : Int32)) (by decide) rfl (g := (mkF m 35 #[vi p0, vj p1, ss, vj p2, ss, vj p3, ss, vi N, vr a1685, uu, uu, uu, uu] [(.long ((own_val p3 (1 : Int32)).toInt64)), (.int (1 : Int32)), (.ref a1685)])) rfl rfl (hb hby at_35)
  have N1745 := Fr.snoc X1740 N1735 ge1687
  have k1746 : own_G p e below E0 T1738 (mkF m 36 #[vi p0, vj p1, ss, vj p2, ss, vj p3, ss, vi N, vr a1685, uu, uu, uu, uu] []) := fun tQ kk => k1737 tQ (st1744 _ kk)
  clear k1737 st1744
  have Z1747 : n0 ≤ h1739.size := by rw [W1742.size]; exact Z1718
  have F1748 : own_A Z h1739 a1685 .long [(.long ((own_val p3 (0 : Int32)).toInt64)), (.long ((own_val p3 (1 : Int32)).toInt64)), (.long (0 : Int64)), (.long (0 : Int64))] := F1743
  have k1749 : own_G p e below E0 T1738 (mkF m 42 #[vi p0, vj p1, ss, vj p2, ss, vj p3, ss, vi N, vr a1685, uu, uu, uu, uu] [(.int (2 : Int32)), (.long p3), (.int (2 : Int32)), (.ref a1685)]) := by
    intro tQ kk
    refine k1746 tQ ?_
    refine XS.aload X1740.here hx rfl (hb hby at_36) rfl rfl ?_
    refine XS.iconst X1740.here hx rfl (hb hby at_38) ?_
    refine XT.lload X1740.here hx rfl (hb hby at_39) rfl ?_
    refine XS.iconst X1740.here hx rfl (hb hby at_41) ?_
    exact kk
  clear k1746
  obtain ⟨_, _, ⟨T1750, L1751, kc1752, nc1753⟩, -, X1754, ⟨Lc1755, hQ1756, l1757, y1758, z1759⟩, st1760⟩ := Jvm.LawKit.callS X1740 hx (y := mn0) hown (mvT hZ (tw2 hw)) (mvT hZ (tw3 hw)) (mvT hZ (tw4 hw)) (mvT hZ (tw5 hw)) (by decide) (backOf (W := 2) (rmVa l Z a0 hw [] p3 (2 : Int32) h1739 n0 Z1747 ) hZ (tw5 hw) (tw4 hw) (by decide) (by decide)) (g := (mkF m 42 #[vi p0, vj p1, ss, vj p2, ss, vj p3, ss, vi N, vr a1685, uu, uu, uu, uu] [(.int (2 : Int32)), (.long p3), (.int (2 : Int32)), (.ref a1685)])) rfl (by rw [hml]; rfl) (argsL := [(.long p3), (.int (2 : Int32))]) (rest := [(.int (2 : Int32)), (.ref a1685)]) (lenOf pd_15 rfl) rfl (by show 2 * 0 + _ ≤ _; exact Nat.le_of_eq rfl) (hb hby at_42) (fun _ _ => ⟨rfl, e1741, (by decide : 1 + 0 ≤ _), (by decide : 4 + 0 ≤ _)⟩)
  dsimp only [Pt.U, Pt.locs, Pt.cells, Pt.slots] at X1754 l1757 y1758 z1759 st1760 hQ1756
  subst l1757 y1758 z1759
  obtain ⟨rfl, N1761, e1762⟩ := hQ1756
  have N1764 := Fr.app N1745 N1761
  have k1765 : own_G p e below E0 T1750 (mkF m 45 #[vi p0, vj p1, ss, vj p2, ss, vj p3, ss, vi N, vr a1685, uu, uu, uu, uu] [(.int (own_val p3 (2 : Int32))), (.int (2 : Int32)), (.ref a1685)]) := fun tQ kk => k1749 tQ (st1760 _ kk)
  clear k1749 st1760
  have k1766 : own_G p e below E0 T1750 (mkF m 46 #[vi p0, vj p1, ss, vj p2, ss, vj p3, ss, vi N, vr a1685, uu, uu, uu, uu] [(.long ((own_val p3 (2 : Int32)).toInt64)), (.int (2 : Int32)), (.ref a1685)]) := by
    intro tQ kk
    refine k1765 tQ ?_
    refine XT.i2l X1754.here hx rfl (hb hby at_45) rfl ?_
    exact kk
  clear k1765
  obtain ⟨T1767, h1768, X1769, e1770, W1771, F1772, st1773⟩ := own_A.lst X1754 hx hZ e1762 F1748 (j := (2 : Int32)) (by decide) rfl (g := (mkF m 46 #[vi p0, vj p1, ss, vj p2, ss, vj p3, ss, vi N, vr a1685, uu, uu, uu, uu] [(.long ((own_val p3 (2 : Int32)).toInt64)), (.int (2 : Int32)), (.ref a1685)])) rfl rfl (hb hby at_46)
  have N1774 := Fr.snoc X1769 N1764 ge1687
  have k1775 : own_G p e below E0 T1767 (mkF m 47 #[vi p0, vj p1, ss, vj p2, ss, vj p3, ss, vi N, vr a1685, uu, uu, uu, uu] []) := fun tQ kk => k1766 tQ (st1773 _ kk)
  clear k1766 st1773
  have Z1776 : n0 ≤ h1768.size := by rw [W1771.size]; exact Z1747
  have F1777 : own_A Z h1768 a1685 .long [(.long ((own_val p3 (0 : Int32)).toInt64)), (.long ((own_val p3 (1 : Int32)).toInt64)), (.long ((own_val p3 (2 : Int32)).toInt64)), (.long (0 : Int64))] := F1772
  have k1778 : own_G p e below E0 T1767 (mkF m 53 #[vi p0, vj p1, ss, vj p2, ss, vj p3, ss, vi N, vr a1685, uu, uu, uu, uu] [(.int (3 : Int32)), (.long p3), (.int (3 : Int32)), (.ref a1685)]) := by
    intro tQ kk
    refine k1775 tQ ?_
    refine XS.aload X1769.here hx rfl (hb hby at_47) rfl rfl ?_
    refine XS.iconst X1769.here hx rfl (hb hby at_49) ?_
    refine XT.lload X1769.here hx rfl (hb hby at_50) rfl ?_
    refine XS.iconst X1769.here hx rfl (hb hby at_52) ?_
    exact kk
  clear k1775
  obtain ⟨_, _, ⟨T1779, L1780, kc1781, nc1782⟩, -, X1783, ⟨Lc1784, hQ1785, l1786, y1787, z1788⟩, st1789⟩ := Jvm.LawKit.callS X1769 hx (y := mn0) hown (mvT hZ (tw2 hw)) (mvT hZ (tw3 hw)) (mvT hZ (tw4 hw)) (mvT hZ (tw5 hw)) (by decide) (backOf (W := 2) (rmVa l Z a0 hw [] p3 (3 : Int32) h1768 n0 Z1776 ) hZ (tw5 hw) (tw4 hw) (by decide) (by decide)) (g := (mkF m 53 #[vi p0, vj p1, ss, vj p2, ss, vj p3, ss, vi N, vr a1685, uu, uu, uu, uu] [(.int (3 : Int32)), (.long p3), (.int (3 : Int32)), (.ref a1685)])) rfl (by rw [hml]; rfl) (argsL := [(.long p3), (.int (3 : Int32))]) (rest := [(.int (3 : Int32)), (.ref a1685)]) (lenOf pd_15 rfl) rfl (by show 2 * 0 + _ ≤ _; exact Nat.le_of_eq rfl) (hb hby at_53) (fun _ _ => ⟨rfl, e1770, (by decide : 1 + 0 ≤ _), (by decide : 4 + 0 ≤ _)⟩)
  dsimp only [Pt.U, Pt.locs, Pt.cells, Pt.slots] at X1783 l1786 y1787 z1788 st1789 hQ1785
  subst l1786 y1787 z1788
  obtain ⟨rfl, N1790, e1791⟩ := hQ1785
  have N1793 := Fr.app N1774 N1790
  have k1794 : own_G p e below E0 T1779 (mkF m 56 #[vi p0, vj p1, ss, vj p2, ss, vj p3, ss, vi N, vr a1685, uu, uu, uu, uu] [(.int (own_val p3 (3 : Int32))), (.int (3 : Int32)), (.ref a1685)]) := fun tQ kk => k1778 tQ (st1789 _ kk)
  clear k1778 st1789
  have k1795 : own_G p e below E0 T1779 (mkF m 57 #[vi p0, vj p1, ss, vj p2, ss, vj p3, ss, vi N, vr a1685, uu, uu, uu, uu] [(.long ((own_val p3 (3 : Int32)).toInt64)), (.int (3 : Int32)), (.ref a1685)]) := by
    intro tQ kk
    refine k1794 tQ ?_
    refine XT.i2l X1783.here hx rfl (hb hby at_56) rfl ?_
    exact kk
  clear k1794
  obtain ⟨T1796, h1797, X1798, e1799, W1800, F1801, st1802⟩ := own_A.lst X1783 hx hZ e1791 F1777 (j := (3 : Int32)) (by decide) rfl (g := (mkF m 57 #[vi p0, vj p1, ss, vj p2, ss, vj p3, ss, vi N, vr a1685, uu, uu, uu, uu] [(.long ((own_val p3 (3 : Int32)).toInt64)), (.int (3 : Int32)), (.ref a1685)])) rfl rfl (hb hby at_57)
  have N1803 := Fr.snoc X1798 N1793 ge1687
  have k1804 : own_G p e below E0 T1796 (mkF m 58 #[vi p0, vj p1, ss, vj p2, ss, vj p3, ss, vi N, vr a1685, uu, uu, uu, uu] []) := fun tQ kk => k1795 tQ (st1802 _ kk)
  clear k1795 st1802
  have Z1805 : n0 ≤ h1797.size := by rw [W1800.size]; exact Z1776
  have F1806 : own_A Z h1797 a1685 .long [(.long ((own_val p3 (0 : Int32)).toInt64)), (.long ((own_val p3 (1 : Int32)).toInt64)), (.long ((own_val p3 (2 : Int32)).toInt64)), (.long ((own_val p3 (3 : Int32)).toInt64))] := F1801
  have k1807 : own_G p e below E0 T1796 (mkF m 59 #[vi p0, vj p1, ss, vj p2, ss, vj p3, ss, vi N, vr a1685, uu, uu, uu, uu] [(.int (4 : Int32))]) := by
    intro tQ kk
    refine k1804 tQ ?_
    refine XS.iconst X1798.here hx rfl (hb hby at_58) ?_
    exact kk
  clear k1804
  obtain ⟨T1808, h1809, cA1810, X1811, e1812, E1813, A1814, st1815⟩ := newP (aty := .double) X1798 hx hZ (tw7 hw) e1799 (g := (mkF m 59 #[vi p0, vj p1, ss, vj p2, ss, vj p3, ss, vi N, vr a1685, uu, uu, uu, uu] [(.int (4 : Int32))])) rfl (hb hby at_59) rfl (by decide) (cap := 4) (by decide) (by decide) (by decide) (by decide)
  obtain ⟨a1816, g1817⟩ : ∃ zA : Nat, zA = h1797.size := ⟨_, rfl⟩
  rw [← g1817] at A1814 st1815
  have n1818 : a1685 ≠ a1816 := own_lt_ne F1806.lt g1817
  have n1819 : a1816 ≠ a1685 := fun q => n1818 q.symm
  have ge1820 : n0 ≤ a1816 := own_ge_of Z1805 g1817
  have Z1821 : n0 ≤ h1809.size := Nat.le_trans Z1805 E1813.1
  have F1822 : own_A Z h1809 a1685 .long [(.long ((own_val p3 (0 : Int32)).toInt64)), (.long ((own_val p3 (1 : Int32)).toInt64)), (.long ((own_val p3 (2 : Int32)).toInt64)), (.long ((own_val p3 (3 : Int32)).toInt64))] := F1806.ext E1813
  clear F1806
  have F1823 : own_A Z h1809 a1816 .double [(.double (0 : UInt64)), (.double (0 : UInt64)), (.double (0 : UInt64)), (.double (0 : UInt64))] := own_A.new A1814
  have k1824 : own_G p e below E0 T1808 (mkF m 61 #[vi p0, vj p1, ss, vj p2, ss, vj p3, ss, vi N, vr a1685, uu, uu, uu, uu] [(.ref a1816)]) := fun tQ kk => k1807 tQ (st1815 _ kk)
  clear k1807 st1815
  have k1825 : own_G p e below E0 T1808 (mkF m 69 #[vi p0, vj p1, ss, vj p2, ss, vj p3, ss, vi N, vr a1685, vr a1816, uu, uu, uu] [(.int (0 : Int32)), (.ref a1685), (.int (0 : Int32)), (.ref a1816)]) := by
    intro tQ kk
    refine k1824 tQ ?_
    refine XS.astore X1811.here hx rfl (hb hby at_61) rfl rfl (l' := #[vi p0, vj p1, ss, vj p2, ss, vj p3, ss, vi N, vr a1685, vr a1816, uu, uu, uu]) rfl ?_
    refine XS.aload X1811.here hx rfl (hb hby at_63) rfl rfl ?_
    refine XS.iconst X1811.here hx rfl (hb hby at_65) ?_
    refine XS.aload X1811.here hx rfl (hb hby at_66) rfl rfl ?_
    show Steps p.tables e below (T1808.setTop (mkF m 68 #[vi p0, vj p1, ss, vj p2, ss, vj p3, ss, vi N, vr a1685, vr a1816, uu, uu, uu] [(.ref a1685), (.int (0 : Int32)), (.ref a1816)])) tQ
    refine XS.iconst X1811.here hx rfl (hb hby at_68) ?_
    exact kk
  clear k1824
  have st1826 := fun tQ => own_A.lld X1811 hx hZ e1812 F1822 (j := (0 : Int32)) (v := (.long ((own_val p3 (0 : Int32)).toInt64))) (by decide) rfl (g := (mkF m 69 #[vi p0, vj p1, ss, vj p2, ss, vj p3, ss, vi N, vr a1685, vr a1816, uu, uu, uu] [(.int (0 : Int32)), (.ref a1685), (.int (0 : Int32)), (.ref a1816)])) rfl rfl (hb hby at_69) tQ
  have k1827 : own_G p e below E0 T1808 (mkF m 70 #[vi p0, vj p1, ss, vj p2, ss, vj p3, ss, vi N, vr a1685, vr a1816, uu, uu, uu] [(.long ((own_val p3 (0 : Int32)).toInt64)), (.int (0 : Int32)), (.ref a1816)]) := fun tQ kk => k1825 tQ (st1826 _ kk)
  clear k1825 st1826
  have k1828 : own_G p e below E0 T1808 (mkF m 71 #[vi p0, vj p1, ss, vj p2, ss, vj p3, ss, vi N, vr a1685, vr a1816, uu, uu, uu] [(.double (FP.l2d ((own_val p3 (0 : Int32)).toInt64))), (.int (0 : Int32)), (.ref a1816)]) := by
    intro tQ kk
    refine k1827 tQ ?_
    refine XS.l2dS X1811.here hx rfl (hb hby at_70) rfl rfl ?_
    exact kk
  clear k1827
  obtain ⟨T1829, h1830, X1831, e1832, W1833, F1834, st1835⟩ := own_A.dst X1811 hx hZ e1812 F1823 (j := (0 : Int32)) (by decide) rfl (g := (mkF m 71 #[vi p0, vj p1, ss, vj p2, ss, vj p3, ss, vi N, vr a1685, vr a1816, uu, uu, uu] [(.double (FP.l2d ((own_val p3 (0 : Int32)).toInt64))), (.int (0 : Int32)), (.ref a1816)])) rfl rfl (hb hby at_71)
  have N1836 := Fr.snoc X1831 N1803 ge1820
  have k1837 : own_G p e below E0 T1829 (mkF m 72 #[vi p0, vj p1, ss, vj p2, ss, vj p3, ss, vi N, vr a1685, vr a1816, uu, uu, uu] []) := fun tQ kk => k1828 tQ (st1835 _ kk)
  clear k1828 st1835
  have F1838 : own_A Z h1830 a1685 .long [(.long ((own_val p3 (0 : Int32)).toInt64)), (.long ((own_val p3 (1 : Int32)).toInt64)), (.long ((own_val p3 (2 : Int32)).toInt64)), (.long ((own_val p3 (3 : Int32)).toInt64))] := F1822.other W1833 n1818
  clear F1822
  have Z1839 : n0 ≤ h1830.size := by rw [W1833.size]; exact Z1821
  have F1840 : own_A Z h1830 a1816 .double [(.double (FP.l2d ((own_val p3 (0 : Int32)).toInt64))), (.double (0 : UInt64)), (.double (0 : UInt64)), (.double (0 : UInt64))] := F1834
  have k1841 : own_G p e below E0 T1829 (mkF m 78 #[vi p0, vj p1, ss, vj p2, ss, vj p3, ss, vi N, vr a1685, vr a1816, uu, uu, uu] [(.int (1 : Int32)), (.ref a1685), (.int (1 : Int32)), (.ref a1816)]) := by
    intro tQ kk
    refine k1837 tQ ?_
    refine XS.aload X1831.here hx rfl (hb hby at_72) rfl rfl ?_
    refine XS.iconst X1831.here hx rfl (hb hby at_74) ?_
    refine XS.aload X1831.here hx rfl (hb hby at_75) rfl rfl ?_
    refine XS.iconst X1831.here hx rfl (hb hby at_77) ?_
    exact kk
  clear k1837
  have st1842 := fun tQ => own_A.lld X1831 hx hZ e1832 F1838 (j := (1 : Int32)) (v := (.long ((own_val p3 (1 : Int32)).toInt64))) (by decide) rfl (g := (mkF m 78 #[vi p0, vj p1, ss, vj p2, ss, vj p3, ss, vi N, vr a1685, vr a1816, uu, uu, uu] [(.int (1 : Int32)), (.ref a1685), (.int (1 : Int32)), (.ref a1816)])) rfl rfl (hb hby at_78) tQ
  have k1843 : own_G p e below E0 T1829 (mkF m 79 #[vi p0, vj p1, ss, vj p2, ss, vj p3, ss, vi N, vr a1685, vr a1816, uu, uu, uu] [(.long ((own_val p3 (1 : Int32)).toInt64)), (.int (1 : Int32)), (.ref a1816)]) := fun tQ kk => k1841 tQ (st1842 _ kk)
  clear k1841 st1842
  have k1844 : own_G p e below E0 T1829 (mkF m 80 #[vi p0, vj p1, ss, vj p2, ss, vj p3, ss, vi N, vr a1685, vr a1816, uu, uu, uu] [(.double (FP.l2d ((own_val p3 (1 : Int32)).toInt64))), (.int (1 : Int32)), (.ref a1816)]) := by
    intro tQ kk
    refine k1843 tQ ?_
    refine XS.l2dS X1831.here hx rfl (hb hby at_79) rfl rfl ?_
    exact kk
  clear k1843
  obtain ⟨T1845, h1846, X1847, e1848, W1849, F1850, st1851⟩ := own_A.dst X1831 hx hZ e1832 F1840 (j := (1 : Int32)) (by decide) rfl (g := (mkF m 80 #[vi p0, vj p1, ss, vj p2, ss, vj p3, ss, vi N, vr a1685, vr a1816, uu, uu, uu] [(.double (FP.l2d ((own_val p3 (1 : Int32)).toInt64))), (.int (1 : Int32)), (.ref a1816)])) rfl rfl (hb hby at_80)
  have N1852 := Fr.snoc X1847 N1836 ge1820
  have k1853 : own_G p e below E0 T1845 (mkF m 81 #[vi p0, vj p1, ss, vj p2, ss, vj p3, ss, vi N, vr a1685, vr a1816, uu, uu, uu] []) := fun tQ kk => k1844 tQ (st1851 _ kk)
  clear k1844 st1851
  have F1854 : own_A Z h1846 a1685 .long [(.long ((own_val p3 (0 : Int32)).toInt64)), (.long ((own_val p3 (1 : Int32)).toInt64)), (.long ((own_val p3 (2 : Int32)).toInt64)), (.long ((own_val p3 (3 : Int32)).toInt64))] := F1838.other W1849 n1818
  clear F1838
  have Z1855 : n0 ≤ h1846.size := by rw [W1849.size]; exact Z1839
  have F1856 : own_A Z h1846 a1816 .double [(.double (FP.l2d ((own_val p3 (0 : Int32)).toInt64))), (.double (FP.l2d ((own_val p3 (1 : Int32)).toInt64))), (.double (0 : UInt64)), (.double (0 : UInt64))] := F1850
  have k1857 : own_G p e below E0 T1845 (mkF m 87 #[vi p0, vj p1, ss, vj p2, ss, vj p3, ss, vi N, vr a1685, vr a1816, uu, uu, uu] [(.int (2 : Int32)), (.ref a1685), (.int (2 : Int32)), (.ref a1816)]) := by
    intro tQ kk
    refine k1853 tQ ?_
    refine XS.aload X1847.here hx rfl (hb hby at_81) rfl rfl ?_
    refine XS.iconst X1847.here hx rfl (hb hby at_83) ?_
    refine XS.aload X1847.here hx rfl (hb hby at_84) rfl rfl ?_
    refine XS.iconst X1847.here hx rfl (hb hby at_86) ?_
    exact kk
  clear k1853
  have st1858 := fun tQ => own_A.lld X1847 hx hZ e1848 F1854 (j := (2 : Int32)) (v := (.long ((own_val p3 (2 : Int32)).toInt64))) (by decide) rfl (g := (mkF m 87 #[vi p0, vj p1, ss, vj p2, ss, vj p3, ss, vi N, vr a1685, vr a1816, uu, uu, uu] [(.int (2 : Int32)), (.ref a1685), (.int (2 : Int32)), (.ref a1816)])) rfl rfl (hb hby at_87) tQ
  have k1859 : own_G p e below E0 T1845 (mkF m 88 #[vi p0, vj p1, ss, vj p2, ss, vj p3, ss, vi N, vr a1685, vr a1816, uu, uu, uu] [(.long ((own_val p3 (2 : Int32)).toInt64)), (.int (2 : Int32)), (.ref a1816)]) := fun tQ kk => k1857 tQ (st1858 _ kk)
  clear k1857 st1858
  have k1860 : own_G p e below E0 T1845 (mkF m 89 #[vi p0, vj p1, ss, vj p2, ss, vj p3, ss, vi N, vr a1685, vr a1816, uu, uu, uu] [(.double (FP.l2d ((own_val p3 (2 : Int32)).toInt64))), (.int (2 : Int32)), (.ref a1816)]) := by
    intro tQ kk
    refine k1859 tQ ?_
    refine XS.l2dS X1847.here hx rfl (hb hby at_88) rfl rfl ?_
    exact kk
  clear k1859
  obtain ⟨T1861, h1862, X1863, e1864, W1865, F1866, st1867⟩ := own_A.dst X1847 hx hZ e1848 F1856 (j := (2 : Int32)) (by decide) rfl (g := (mkF m 89 #[vi p0, vj p1, ss, vj p2, ss, vj p3, ss, vi N, vr a1685, vr a1816, uu, uu, uu] [(.double (FP.l2d ((own_val p3 (2 : Int32)).toInt64))), (.int (2 : Int32)), (.ref a1816)])) rfl rfl (hb hby at_89)
  have N1868 := Fr.snoc X1863 N1852 ge1820
  have k1869 : own_G p e below E0 T1861 (mkF m 90 #[vi p0, vj p1, ss, vj p2, ss, vj p3, ss, vi N, vr a1685, vr a1816, uu, uu, uu] []) := fun tQ kk => k1860 tQ (st1867 _ kk)
  clear k1860 st1867
  have F1870 : own_A Z h1862 a1685 .long [(.long ((own_val p3 (0 : Int32)).toInt64)), (.long ((own_val p3 (1 : Int32)).toInt64)), (.long ((own_val p3 (2 : Int32)).toInt64)), (.long ((own_val p3 (3 : Int32)).toInt64))] := F1854.other W1865 n1818
  clear F1854
  have Z1871 : n0 ≤ h1862.size := by rw [W1865.size]; exact Z1855
  have F1872 : own_A Z h1862 a1816 .double [(.double (FP.l2d ((own_val p3 (0 : Int32)).toInt64))), (.double (FP.l2d ((own_val p3 (1 : Int32)).toInt64))), (.double (FP.l2d ((own_val p3 (2 : Int32)).toInt64))), (.double (0 : UInt64))] := F1866
  have k1873 : own_G p e below E0 T1861 (mkF m 96 #[vi p0, vj p1, ss, vj p2, ss, vj p3, ss, vi N, vr a1685, vr a1816, uu, uu, uu] [(.int (3 : Int32)), (.ref a1685), (.int (3 : Int32)), (.ref a1816)]) := by
    intro tQ kk
    refine k1869 tQ ?_
    refine XS.aload X1863.here hx rfl (hb hby at_90) rfl rfl ?_
    refine XS.iconst X1863.here hx rfl (hb hby at_92) ?_
    refine XS.aload X1863.here hx rfl (hb hby at_93) rfl rfl ?_
    refine XS.iconst X1863.here hx rfl (hb hby at_95) ?_
    exact kk
  clear k1869
  have st1874 := fun tQ => own_A.lld X1863 hx hZ e1864 F1870 (j := (3 : Int32)) (v := (.long ((own_val p3 (3 : Int32)).toInt64))) (by decide) rfl (g := (mkF m 96 #[vi p0, vj p1, ss, vj p2, ss, vj p3, ss, vi N, vr a1685, vr a1816, uu, uu, uu] [(.int (3 : Int32)), (.ref a1685), (.int (3 : Int32)), (.ref a1816)])) rfl rfl (hb hby at_96) tQ
  have k1875 : own_G p e below E0 T1861 (mkF m 97 #[vi p0, vj p1, ss, vj p2, ss, vj p3, ss, vi N, vr a1685, vr a1816, uu, uu, uu] [(.long ((own_val p3 (3 : Int32)).toInt64)), (.int (3 : Int32)), (.ref a1816)]) := fun tQ kk => k1873 tQ (st1874 _ kk)
  clear k1873 st1874
  have k1876 : own_G p e below E0 T1861 (mkF m 98 #[vi p0, vj p1, ss, vj p2, ss, vj p3, ss, vi N, vr a1685, vr a1816, uu, uu, uu] [(.double (FP.l2d ((own_val p3 (3 : Int32)).toInt64))), (.int (3 : Int32)), (.ref a1816)]) := by
    intro tQ kk
    refine k1875 tQ ?_
    refine XS.l2dS X1863.here hx rfl (hb hby at_97) rfl rfl ?_
    exact kk
  clear k1875
  obtain ⟨T1877, h1878, X1879, e1880, W1881, F1882, st1883⟩ := own_A.dst X1863 hx hZ e1864 F1872 (j := (3 : Int32)) (by decide) rfl (g := (mkF m 98 #[vi p0, vj p1, ss, vj p2, ss, vj p3, ss, vi N, vr a1685, vr a1816, uu, uu, uu] [(.double (FP.l2d ((own_val p3 (3 : Int32)).toInt64))), (.int (3 : Int32)), (.ref a1816)])) rfl rfl (hb hby at_98)
  have N1884 := Fr.snoc X1879 N1868 ge1820
  have k1885 : own_G p e below E0 T1877 (mkF m 99 #[vi p0, vj p1, ss, vj p2, ss, vj p3, ss, vi N, vr a1685, vr a1816, uu, uu, uu] []) := fun tQ kk => k1876 tQ (st1883 _ kk)
  clear k1876 st1883
  have F1886 : own_A Z h1878 a1685 .long [(.long ((own_val p3 (0 : Int32)).toInt64)), (.long ((own_val p3 (1 : Int32)).toInt64)), (.long ((own_val p3 (2 : Int32)).toInt64)), (.long ((own_val p3 (3 : Int32)).toInt64))] := F1870.other W1881 n1818
  clear F1870
  have Z1887 : n0 ≤ h1878.size := by rw [W1881.size]; exact Z1871
  have F1888 : own_A Z h1878 a1816 .double [(.double (FP.l2d ((own_val p3 (0 : Int32)).toInt64))), (.double (FP.l2d ((own_val p3 (1 : Int32)).toInt64))), (.double (FP.l2d ((own_val p3 (2 : Int32)).toInt64))), (.double (FP.l2d ((own_val p3 (3 : Int32)).toInt64)))] := F1882
  obtain ⟨T1889, h1890, X1891, e1892, E1893, A1894, D1895, -, st1896⟩ := newO X1879 hx hZ hown (tw8 hw) (tw9 hw) (tw10 hw) e1880 (g := (mkF m 99 #[vi p0, vj p1, ss, vj p2, ss, vj p3, ss, vi N, vr a1685, vr a1816, uu, uu, uu] [])) rfl (hb hby at_99) (by decide) (by decide)
  obtain ⟨a1897, g1898⟩ : ∃ zA : Nat, zA = h1878.size := ⟨_, rfl⟩
  rw [← g1898] at A1894 D1895 st1896
  have n1899 : a1685 ≠ a1897 := own_lt_ne F1886.lt g1898
  have n1900 : a1897 ≠ a1685 := fun q => n1899 q.symm
  have n1901 : a1816 ≠ a1897 := own_lt_ne F1888.lt g1898
  have n1902 : a1897 ≠ a1816 := fun q => n1901 q.symm
  have ge1903 : n0 ≤ a1897 := own_ge_of Z1887 g1898
  have Z1904 : n0 ≤ h1890.size := Nat.le_trans Z1887 E1893.1
  have F1905 : own_A Z h1890 a1685 .long [(.long ((own_val p3 (0 : Int32)).toInt64)), (.long ((own_val p3 (1 : Int32)).toInt64)), (.long ((own_val p3 (2 : Int32)).toInt64)), (.long ((own_val p3 (3 : Int32)).toInt64))] := F1886.ext E1893
  clear F1886
  have F1906 : own_A Z h1890 a1816 .double [(.double (FP.l2d ((own_val p3 (0 : Int32)).toInt64))), (.double (FP.l2d ((own_val p3 (1 : Int32)).toInt64))), (.double (FP.l2d ((own_val p3 (2 : Int32)).toInt64))), (.double (FP.l2d ((own_val p3 (3 : Int32)).toInt64)))] := F1888.ext E1893
  clear F1888
  have F1907 : Fld Z h1890 a1897 "com/example/netloom/netloom/embed/SparseColumn" "rows" "[I" .null := (D1895 (Or.inl (tw19 hw)) (ty := (.array .int)) (by decide))
  have F1908 : Fld Z h1890 a1897 "com/example/netloom/netloom/embed/SparseColumn" "values" "[D" .null := (D1895 (Or.inl (tw21 hw)) (ty := (.array .double)) (by decide))
  have F1909 : Fld Z h1890 a1897 "com/example/netloom/netloom/embed/SparseColumn" "size" "I" (.int (0 : Int32)) := (D1895 (Or.inl (tw28 hw)) (ty := .int) (by decide))
  have k1910 : own_G p e below E0 T1889 (mkF m 102 #[vi p0, vj p1, ss, vj p2, ss, vj p3, ss, vi N, vr a1685, vr a1816, uu, uu, uu] [(.ref a1897)]) := fun tQ kk => k1885 tQ (st1896 _ kk)
  clear k1885 st1896
  have k1911 : own_G p e below E0 T1889 (mkF m 103 #[vi p0, vj p1, ss, vj p2, ss, vj p3, ss, vi N, vr a1685, vr a1816, uu, uu, uu] [(.ref a1897), (.ref a1897)]) := by
    intro tQ kk
    refine k1910 tQ ?_
    refine XS.dup X1891.here hx rfl (hb hby at_102) rfl rfl ?_
    exact kk
  clear k1910
  obtain ⟨_, _, ⟨T1912, L1913, kc1914, nc1915⟩, -, X1916, ⟨Lc1917, hQ1918, l1919, y1920, z1921⟩, st1922⟩ := X1891.specialBack hx (y := mn6) rfl hown (mvT hZ (tw11 hw)) (mvT hZ (tw12 hw)) (mvT hZ (tw13 hw)) (by decide) (backOf (W := 1) (rmI l Z a0 hw [] a1897 h1890 n0 Z1904 A1894 F1907 F1908 F1909 ge1903) hZ (tw13 hw) (tw10 hw) (by decide) (by decide)) (g := (mkF m 103 #[vi p0, vj p1, ss, vj p2, ss, vj p3, ss, vi N, vr a1685, vr a1816, uu, uu, uu] [(.ref a1897), (.ref a1897)])) rfl (by rw [hml]; rfl) (Steps.refl _) (a := a1897) (argsL := []) (rest := [(.ref a1897)]) (lenOf pd_18 rfl) rfl (by show 2 * 0 + _ ≤ _; exact Nat.le_of_eq rfl) (hb hby at_103) (fun _ _ => ⟨rfl, e1892, (by decide : 3 + 2 ≤ _), (by decide : 11 + 8 ≤ _)⟩)
  dsimp only [Pt.U, Pt.locs, Pt.cells, Pt.slots] at X1916 l1919 y1920 z1921 st1922 hQ1918
  subst l1919 y1920 z1921
  obtain ⟨r1926, q1927, rfl, N1923, K1928, g1929, g1930, g1931, g1932, g1933, nw1934, nw1935, n1936⟩ := hQ1918
  have N1937 := Fr.app N1884 N1923
  have ge1938 : n0 ≤ r1926 := Nat.le_trans Z1904 nw1934
  have n1939 : a1685 ≠ r1926 := own_lt_ne2 F1905.lt nw1934
  have n1940 : a1816 ≠ r1926 := own_lt_ne2 F1906.lt nw1934
  have n1941 : a1897 ≠ r1926 := own_lt_ne2 A1894.lt nw1934
  have ge1942 : n0 ≤ q1927 := Nat.le_trans Z1904 nw1935
  have n1943 : a1685 ≠ q1927 := own_lt_ne2 F1905.lt nw1935
  have n1944 : a1816 ≠ q1927 := own_lt_ne2 F1906.lt nw1935
  have n1945 : a1897 ≠ q1927 := own_lt_ne2 A1894.lt nw1935
  have Z1946 : n0 ≤ T1912.heap.size := Nat.le_trans Z1904 K1928.1
  have F1947 : own_A Z T1912.heap a1685 .long [(.long ((own_val p3 (0 : Int32)).toInt64)), (.long ((own_val p3 (1 : Int32)).toInt64)), (.long ((own_val p3 (2 : Int32)).toInt64)), (.long ((own_val p3 (3 : Int32)).toInt64))] := F1905.keep K1928 (ninS n1899 nin0)
  clear F1905
  have F1948 : own_A Z T1912.heap a1816 .double [(.double (FP.l2d ((own_val p3 (0 : Int32)).toInt64))), (.double (FP.l2d ((own_val p3 (1 : Int32)).toInt64))), (.double (FP.l2d ((own_val p3 (2 : Int32)).toInt64))), (.double (FP.l2d ((own_val p3 (3 : Int32)).toInt64)))] := F1906.keep K1928 (ninS n1901 nin0)
  clear F1906
  have F1949 : xa5 Z T1912.heap a1897 := A1894.keep K1928
  clear A1894
  clear F1907
  clear F1908
  clear F1909
  have k1953 : own_G p e below E0 T1912 (mkF m 106 #[vi p0, vj p1, ss, vj p2, ss, vj p3, ss, vi N, vr a1685, vr a1816, uu, uu, uu] [(.ref a1897)]) := fun tQ kk => k1911 tQ (st1922.trans kk)
  clear k1911 st1922
  have k1954 : own_G p e below E0 T1912 (mkF m 111 #[vi p0, vj p1, ss, vj p2, ss, vj p3, ss, vi N, vr a1685, vr a1816, vr a1897, vj (0 : Int64), ss] []) := by
    intro tQ kk
    refine k1953 tQ ?_
    refine XS.astore X1916.here hx rfl (hb hby at_106) rfl rfl (l' := #[vi p0, vj p1, ss, vj p2, ss, vj p3, ss, vi N, vr a1685, vr a1816, vr a1897, uu, uu]) rfl ?_
    refine XT.lconst X1916.here hx rfl (hb hby at_108) ?_
    refine XT.lstore X1916.here hx rfl (hb hby at_109) rfl (l' := #[vi p0, vj p1, ss, vj p2, ss, vj p3, ss, vi N, vr a1685, vr a1816, vr a1897, vj (0 : Int64), ss]) rfl ?_
    exact kk
  clear k1953
  rcases (own_len6 p0 hN) with rfl | rfl | rfl | rfl | rfl | rfl
  · skip
    have k1955 : own_G p e below E0 T1912 (mkF m 219 #[vi p0, vj p1, ss, vj p2, ss, vj p3, ss, vi (0 : Int32), vr a1685, vr a1816, vr a1897, vj (0 : Int64), ss] [(.ref a1816), (.ref a1897)]) := by
      intro tQ kk
      refine k1954 tQ ?_
      refine XS.iload X1916.here hx rfl (hb hby at_111) rfl ?_
      refine XS.ifYes X1916.here hx rfl (pc0 := 113) (pc' := 131) rfl (hb hby at_113) rfl (own_if_leY (by decide)) (by decide) (by decide) ?_
      refine XS.iload X1916.here hx rfl (hb hby at_131) rfl ?_
      refine XS.iconst X1916.here hx rfl (hb hby at_133) ?_
      show Steps p.tables e below (T1912.setTop (mkF m 134 #[vi p0, vj p1, ss, vj p2, ss, vj p3, ss, vi (0 : Int32), vr a1685, vr a1816, vr a1897, vj (0 : Int64), ss] [(.int (1 : Int32)), (.int (0 : Int32))])) tQ
      refine XS.icmpYes X1916.here hx rfl (pc0 := 134) (pc' := 152) rfl (hb hby at_134) rfl (own_ic_leY (by decide)) (by decide) (by decide) ?_
      refine XS.iload X1916.here hx rfl (hb hby at_152) rfl ?_
      refine XS.iconst X1916.here hx rfl (hb hby at_154) ?_
      refine XS.icmpYes X1916.here hx rfl (pc0 := 155) (pc' := 173) rfl (hb hby at_155) rfl (own_ic_leY (by decide)) (by decide) (by decide) ?_
      show Steps p.tables e below (T1912.setTop (mkF m 173 #[vi p0, vj p1, ss, vj p2, ss, vj p3, ss, vi (0 : Int32), vr a1685, vr a1816, vr a1897, vj (0 : Int64), ss] [])) tQ
      refine XS.iload X1916.here hx rfl (hb hby at_173) rfl ?_
      refine XS.iconst X1916.here hx rfl (hb hby at_175) ?_
      refine XS.icmpYes X1916.here hx rfl (pc0 := 176) (pc' := 194) rfl (hb hby at_176) rfl (own_ic_leY (by decide)) (by decide) (by decide) ?_
      refine XS.iload X1916.here hx rfl (hb hby at_194) rfl ?_
      show Steps p.tables e below (T1912.setTop (mkF m 196 #[vi p0, vj p1, ss, vj p2, ss, vj p3, ss, vi (0 : Int32), vr a1685, vr a1816, vr a1897, vj (0 : Int64), ss] [(.int (0 : Int32))])) tQ
      refine XS.iconst X1916.here hx rfl (hb hby at_196) ?_
      refine XS.icmpYes X1916.here hx rfl (pc0 := 197) (pc' := 215) rfl (hb hby at_197) rfl (own_ic_leY (by decide)) (by decide) (by decide) ?_
      refine XS.aload X1916.here hx rfl (hb hby at_215) rfl rfl ?_
      refine XS.aload X1916.here hx rfl (hb hby at_217) rfl rfl ?_
      exact kk
    clear k1954
    obtain ⟨cq1967, kq1968, qa1969, qb1970, qc1971⟩ := isOf hZ rfl F1949
    obtain ⟨_, _, ⟨T1956, L1957, kc1958, nc1959⟩, -, X1960, ⟨Lc1961, hQ1962, l1963, y1964, z1965⟩, st1966⟩ := X1916.virtualBack hx (y := mn17) (z := mn17) hown (mvT hZ (tw22 hw)) (mvT hZ (tw23 hw)) (notFace_of_selects (args := #[]) (mvT hZ (tw25 hw))) (mvT hZ (tw25 hw)) (mvT hZ (tw24 hw)) (by decide) (backOf (W := 0) (rmD0 l Z a0 hw [] a1897 a1816 r1926 q1927 (FP.l2d ((own_val p3 (0 : Int32)).toInt64)) (FP.l2d ((own_val p3 (1 : Int32)).toInt64)) (FP.l2d ((own_val p3 (2 : Int32)).toInt64)) (FP.l2d ((own_val p3 (3 : Int32)).toInt64)) T1912.heap n0 Z1946 g1929 g1930 g1931 g1932 g1933 F1948) hZ (tw26 hw) (tw10 hw) (by decide) (by decide)) qa1969 qc1971 (g := (mkF m 219 #[vi p0, vj p1, ss, vj p2, ss, vj p3, ss, vi (0 : Int32), vr a1685, vr a1816, vr a1897, vj (0 : Int64), ss] [(.ref a1816), (.ref a1897)])) rfl (by rw [hml]; rfl) (Steps.refl _) (argsL := [(.ref a1816)]) (rest := []) (lenOf pd_19 rfl) rfl (by show 2 * 0 + _ ≤ _; exact Nat.le_of_eq rfl) (hb hby at_219) (fun _ _ => ⟨rfl, rfl, (by decide : 5 + 0 ≤ _), (by decide : 19 + 0 ≤ _)⟩)
    dsimp only [Pt.U, Pt.locs, Pt.cells, Pt.slots] at X1960 l1963 y1964 z1965 st1966 hQ1962
    subst l1963 y1964 z1965
    obtain ⟨s1975, rfl, N1972, e1973, g1976⟩ := hQ1962
    have N1977 := Fr.app N1937 N1972
    have k1978 : own_G p e below E0 T1956 (mkF m 222 #[vi p0, vj p1, ss, vj p2, ss, vj p3, ss, vi (0 : Int32), vr a1685, vr a1816, vr a1897, vj (0 : Int64), ss] [(.double s1975)]) := fun tQ kk => k1955 tQ (st1966.trans kk)
    clear k1955 st1966
    have k1979 : own_G p e below E0 T1956 (mkF m 234 #[vi p0, vj p1, ss, vj p2, ss, vj p3, ss, vi (0 : Int32), vr a1685, vr a1816, vr a1897, vj (0 : Int64), ss] [(.int (1 : Int32))]) := by
      intro tQ kk
      refine k1978 tQ ?_
      refine XT.lload X1960.here hx rfl (hb hby at_222) rfl ?_
      refine XS.l2dS X1960.here hx rfl (hb hby at_224) rfl rfl ?_
      refine XS.dcmpS (v := (0 : Int32)) X1960.here hx rfl (hb hby at_225) rfl (own_eq0 .l g1976 (own_dl _ (show (0 : Int64).toInt = 0 from rfl) (own_s7 (by  omega) (by  omega)))) ?_
      refine XS.ifNo X1960.here hx rfl (hb hby at_226) rfl (own_if_neN (by decide)) ?_
      show Steps p.tables e below (T1956.setTop (mkF m 229 #[vi p0, vj p1, ss, vj p2, ss, vj p3, ss, vi (0 : Int32), vr a1685, vr a1816, vr a1897, vj (0 : Int64), ss] [])) tQ
      refine XS.iconst X1960.here hx rfl (hb hby at_229) ?_
      refine XS.goto X1960.here hx rfl (pc0 := 230) (pc' := 234) rfl (hb hby at_230) (by decide) (by decide) ?_
      exact kk
    clear k1978
    obtain ⟨fs, hr, hrun, hended, hW, hsame⟩ := X1960.leave (v := some (.int (1 : Int32))) (fun h => by rw [Bd.returns] at h; cases h)
    have hrun0 := k1979 _ (retOut X1960 hx Bd.returns (t := .boolean) rfl (Or.inl ⟨rfl, Or.inr (Or.inl rfl), _, rfl⟩) (hb hby at_234) hr)
    subst hE0
    refine ⟨_, _, hrun0, hrun, hended, _, _, rfl, ?_, ⟨_, rfl⟩, hW, hsame.mono (by decide) (by decide)⟩
    show Qrm0 Z p0 p1 p2 p3 h0 n0 _ T1956.heap _
    rw [e1973]
    exact ⟨rfl, N1977⟩
  · skip
    have k1980 : own_G p e below E0 T1912 (mkF m 125 #[vi p0, vj p1, ss, vj p2, ss, vj p3, ss, vi (1 : Int32), vr a1685, vr a1816, vr a1897, vj (0 : Int64), ss] [(.int (0 : Int32)), (.ref a1685), (.long p2), (.long p1), (.ref a1897), (.long (0 : Int64))]) := by
      intro tQ kk
      refine k1954 tQ ?_
      refine XS.iload X1916.here hx rfl (hb hby at_111) rfl ?_
      refine XS.ifNo X1916.here hx rfl (hb hby at_113) rfl (own_if_leN (by decide)) ?_
      refine XT.lload X1916.here hx rfl (hb hby at_116) rfl ?_
      refine XS.aload X1916.here hx rfl (hb hby at_118) rfl rfl ?_
      show Steps p.tables e below (T1912.setTop (mkF m 120 #[vi p0, vj p1, ss, vj p2, ss, vj p3, ss, vi (1 : Int32), vr a1685, vr a1816, vr a1897, vj (0 : Int64), ss] [(.ref a1897), (.long (0 : Int64))])) tQ
      refine XT.lloadN X1916.here hx rfl (hb hby at_120) rfl ?_
      refine XT.lloadN X1916.here hx rfl (hb hby at_121) rfl ?_
      refine XS.aload X1916.here hx rfl (hb hby at_122) rfl rfl ?_
      refine XS.iconst X1916.here hx rfl (hb hby at_124) ?_
      exact kk
    clear k1954
    obtain ⟨_, _, ⟨T1981, L1982, kc1983, nc1984⟩, -, X1985, ⟨Lc1986, hQ1987, l1988, y1989, z1990⟩, st1991⟩ := Jvm.LawKit.callS X1916 hx (y := mn14) hown (mvT hZ (tw29 hw)) (mvT hZ (tw30 hw)) (mvT hZ (tw4 hw)) (mvT hZ (tw31 hw)) (by decide) (backOf (W := 2) (rmO0 l Z a0 hw [] a1897 p1 p2 a1685 r1926 q1927 (0 : Int32) (0 : Int32) (0 : Int32) (0 : Int32) (0 : UInt64) (0 : UInt64) (0 : UInt64) (0 : UInt64) ((own_val p3 (0 : Int32)).toInt64) ((own_val p3 (1 : Int32)).toInt64) ((own_val p3 (2 : Int32)).toInt64) ((own_val p3 (3 : Int32)).toInt64) T1912.heap n0 Z1946 F1949 g1929 g1930 g1931 g1932 g1933 F1947 n1941 n1945 n1936 n1899 n1939 n1943 ge1903 ge1938 ge1942) hZ (tw31 hw) (tw4 hw) (by decide) (by decide)) (g := (mkF m 125 #[vi p0, vj p1, ss, vj p2, ss, vj p3, ss, vi (1 : Int32), vr a1685, vr a1816, vr a1897, vj (0 : Int64), ss] [(.int (0 : Int32)), (.ref a1685), (.long p2), (.long p1), (.ref a1897), (.long (0 : Int64))])) rfl (by rw [hml]; rfl) (argsL := [(.ref a1897), (.long p1), (.long p2), (.ref a1685), (.int (0 : Int32))]) (rest := [(.long (0 : Int64))]) (lenOf pd_20 rfl) rfl (by show 2 * 0 + _ ≤ _; exact Nat.le_of_eq rfl) (hb hby at_125) (fun _ _ => ⟨rfl, rfl, (by decide : 5 + 0 ≤ _), (by decide : 19 + 0 ≤ _)⟩)
    dsimp only [Pt.U, Pt.locs, Pt.cells, Pt.slots] at X1985 l1988 y1989 z1990 st1991 hQ1987
    subst l1988 y1989 z1990
    obtain ⟨rfl, N1992, K1995, g1996, g1997, g1998, g1999, g2000⟩ := hQ1987
    have N2001 := Fr.app N1937 N1992
    have Z2002 : n0 ≤ T1981.heap.size := Nat.le_trans Z1946 K1995.1
    have F2003 : own_A Z T1981.heap a1685 .long [(.long ((own_val p3 (0 : Int32)).toInt64)), (.long ((own_val p3 (1 : Int32)).toInt64)), (.long ((own_val p3 (2 : Int32)).toInt64)), (.long ((own_val p3 (3 : Int32)).toInt64))] := F1947.keep K1995 (ninS n1899 (ninS n1939 (ninS n1943 nin0)))
    clear F1947
    have F2004 : own_A Z T1981.heap a1816 .double [(.double (FP.l2d ((own_val p3 (0 : Int32)).toInt64))), (.double (FP.l2d ((own_val p3 (1 : Int32)).toInt64))), (.double (FP.l2d ((own_val p3 (2 : Int32)).toInt64))), (.double (FP.l2d ((own_val p3 (3 : Int32)).toInt64)))] := F1948.keep K1995 (ninS n1901 (ninS n1940 (ninS n1944 nin0)))
    clear F1948
    have F2005 : xa5 Z T1981.heap a1897 := F1949.keep K1995
    clear F1949
    clear g1929
    clear g1930
    clear g1931
    clear g1932
    clear g1933
    have k2011 : own_G p e below E0 T1981 (mkF m 128 #[vi p0, vj p1, ss, vj p2, ss, vj p3, ss, vi (1 : Int32), vr a1685, vr a1816, vr a1897, vj (0 : Int64), ss] [(.long ((own_val p2 (0 : Int32)).toInt64 * (own_sel ((own_val p3 (0 : Int32)).toInt64) ((own_val p3 (1 : Int32)).toInt64) ((own_val p3 (2 : Int32)).toInt64) ((own_val p3 (3 : Int32)).toInt64) (own_row p1 (0 : Int32))))), (.long (0 : Int64))]) := fun tQ kk => k1980 tQ (st1991 _ kk)
    clear k1980 st1991
    have k2012 : own_G p e below E0 T1981 (mkF m 219 #[vi p0, vj p1, ss, vj p2, ss, vj p3, ss, vi (1 : Int32), vr a1685, vr a1816, vr a1897, vj ((0 : Int64) + ((own_val p2 (0 : Int32)).toInt64 * (own_sel ((own_val p3 (0 : Int32)).toInt64) ((own_val p3 (1 : Int32)).toInt64) ((own_val p3 (2 : Int32)).toInt64) ((own_val p3 (3 : Int32)).toInt64) (own_row p1 (0 : Int32))))), ss] [(.ref a1816), (.ref a1897)]) := by
      intro tQ kk
      refine k2011 tQ ?_
      refine XT.ladd X1985.here hx rfl (hb hby at_128) rfl ?_
      refine XT.lstore X1985.here hx rfl (hb hby at_129) rfl (l' := #[vi p0, vj p1, ss, vj p2, ss, vj p3, ss, vi (1 : Int32), vr a1685, vr a1816, vr a1897, vj ((0 : Int64) + ((own_val p2 (0 : Int32)).toInt64 * (own_sel ((own_val p3 (0 : Int32)).toInt64) ((own_val p3 (1 : Int32)).toInt64) ((own_val p3 (2 : Int32)).toInt64) ((own_val p3 (3 : Int32)).toInt64) (own_row p1 (0 : Int32))))), ss]) rfl ?_
      refine XS.iload X1985.here hx rfl (hb hby at_131) rfl ?_
      refine XS.iconst X1985.here hx rfl (hb hby at_133) ?_
      show Steps p.tables e below (T1981.setTop (mkF m 134 #[vi p0, vj p1, ss, vj p2, ss, vj p3, ss, vi (1 : Int32), vr a1685, vr a1816, vr a1897, vj ((0 : Int64) + ((own_val p2 (0 : Int32)).toInt64 * (own_sel ((own_val p3 (0 : Int32)).toInt64) ((own_val p3 (1 : Int32)).toInt64) ((own_val p3 (2 : Int32)).toInt64) ((own_val p3 (3 : Int32)).toInt64) (own_row p1 (0 : Int32))))), ss] [(.int (1 : Int32)), (.int (1 : Int32))])) tQ
      refine XS.icmpYes X1985.here hx rfl (pc0 := 134) (pc' := 152) rfl (hb hby at_134) rfl (own_ic_leY (by decide)) (by decide) (by decide) ?_
      refine XS.iload X1985.here hx rfl (hb hby at_152) rfl ?_
      refine XS.iconst X1985.here hx rfl (hb hby at_154) ?_
      refine XS.icmpYes X1985.here hx rfl (pc0 := 155) (pc' := 173) rfl (hb hby at_155) rfl (own_ic_leY (by decide)) (by decide) (by decide) ?_
      show Steps p.tables e below (T1981.setTop (mkF m 173 #[vi p0, vj p1, ss, vj p2, ss, vj p3, ss, vi (1 : Int32), vr a1685, vr a1816, vr a1897, vj ((0 : Int64) + ((own_val p2 (0 : Int32)).toInt64 * (own_sel ((own_val p3 (0 : Int32)).toInt64) ((own_val p3 (1 : Int32)).toInt64) ((own_val p3 (2 : Int32)).toInt64) ((own_val p3 (3 : Int32)).toInt64) (own_row p1 (0 : Int32))))), ss] [])) tQ
      refine XS.iload X1985.here hx rfl (hb hby at_173) rfl ?_
      refine XS.iconst X1985.here hx rfl (hb hby at_175) ?_
      refine XS.icmpYes X1985.here hx rfl (pc0 := 176) (pc' := 194) rfl (hb hby at_176) rfl (own_ic_leY (by decide)) (by decide) (by decide) ?_
      refine XS.iload X1985.here hx rfl (hb hby at_194) rfl ?_
      show Steps p.tables e below (T1981.setTop (mkF m 196 #[vi p0, vj p1, ss, vj p2, ss, vj p3, ss, vi (1 : Int32), vr a1685, vr a1816, vr a1897, vj ((0 : Int64) + ((own_val p2 (0 : Int32)).toInt64 * (own_sel ((own_val p3 (0 : Int32)).toInt64) ((own_val p3 (1 : Int32)).toInt64) ((own_val p3 (2 : Int32)).toInt64) ((own_val p3 (3 : Int32)).toInt64) (own_row p1 (0 : Int32))))), ss] [(.int (1 : Int32))])) tQ
      refine XS.iconst X1985.here hx rfl (hb hby at_196) ?_
      refine XS.icmpYes X1985.here hx rfl (pc0 := 197) (pc' := 215) rfl (hb hby at_197) rfl (own_ic_leY (by decide)) (by decide) (by decide) ?_
      refine XS.aload X1985.here hx rfl (hb hby at_215) rfl rfl ?_
      refine XS.aload X1985.here hx rfl (hb hby at_217) rfl rfl ?_
      exact kk
    clear k2011
    obtain ⟨cq2024, kq2025, qa2026, qb2027, qc2028⟩ := isOf hZ rfl F2005
    obtain ⟨_, _, ⟨T2013, L2014, kc2015, nc2016⟩, -, X2017, ⟨Lc2018, hQ2019, l2020, y2021, z2022⟩, st2023⟩ := X1985.virtualBack hx (y := mn17) (z := mn17) hown (mvT hZ (tw22 hw)) (mvT hZ (tw23 hw)) (notFace_of_selects (args := #[]) (mvT hZ (tw25 hw))) (mvT hZ (tw25 hw)) (mvT hZ (tw24 hw)) (by decide) (backOf (W := 0) (rmD1 l Z a0 hw [] a1897 a1816 r1926 q1927 (own_row p1 (0 : Int32)) (FP.i2d (own_val p2 (0 : Int32))) (FP.l2d ((own_val p3 (0 : Int32)).toInt64)) (FP.l2d ((own_val p3 (1 : Int32)).toInt64)) (FP.l2d ((own_val p3 (2 : Int32)).toInt64)) (FP.l2d ((own_val p3 (3 : Int32)).toInt64)) (own_val p2 (0 : Int32)).toInt (own_sel (own_val p3 (0 : Int32)).toInt64 (own_val p3 (1 : Int32)).toInt64 (own_val p3 (2 : Int32)).toInt64 (own_val p3 (3 : Int32)).toInt64 (own_row p1 (0 : Int32))).toInt T1981.heap n0 Z2002 g1996 g1997 g1998 g1999 g2000 F2004 (own_rowc p1 (0 : Int32)) (FP.Core.i2d_int (own_val p2 (0 : Int32))) (own_selDI p3 (own_rowc p1 (0 : Int32))) (own_vb p2 (0 : Int32)) (own_selb p3 (own_rowc p1 (0 : Int32)))) hZ (tw26 hw) (tw10 hw) (by decide) (by decide)) qa2026 qc2028 (g := (mkF m 219 #[vi p0, vj p1, ss, vj p2, ss, vj p3, ss, vi (1 : Int32), vr a1685, vr a1816, vr a1897, vj ((0 : Int64) + ((own_val p2 (0 : Int32)).toInt64 * (own_sel ((own_val p3 (0 : Int32)).toInt64) ((own_val p3 (1 : Int32)).toInt64) ((own_val p3 (2 : Int32)).toInt64) ((own_val p3 (3 : Int32)).toInt64) (own_row p1 (0 : Int32))))), ss] [(.ref a1816), (.ref a1897)])) rfl (by rw [hml]; rfl) (Steps.refl _) (argsL := [(.ref a1816)]) (rest := []) (lenOf pd_19 rfl) rfl (by show 2 * 0 + _ ≤ _; exact Nat.le_of_eq rfl) (hb hby at_219) (fun _ _ => ⟨rfl, rfl, (by decide : 5 + 0 ≤ _), (by decide : 19 + 0 ≤ _)⟩)
    dsimp only [Pt.U, Pt.locs, Pt.cells, Pt.slots] at X2017 l2020 y2021 z2022 st2023 hQ2019
    subst l2020 y2021 z2022
    obtain ⟨s2032, rfl, N2029, e2030, g2033⟩ := hQ2019
    have N2034 := Fr.app N2001 N2029
    have k2035 : own_G p e below E0 T2013 (mkF m 222 #[vi p0, vj p1, ss, vj p2, ss, vj p3, ss, vi (1 : Int32), vr a1685, vr a1816, vr a1897, vj ((0 : Int64) + ((own_val p2 (0 : Int32)).toInt64 * (own_sel ((own_val p3 (0 : Int32)).toInt64) ((own_val p3 (1 : Int32)).toInt64) ((own_val p3 (2 : Int32)).toInt64) ((own_val p3 (3 : Int32)).toInt64) (own_row p1 (0 : Int32))))), ss] [(.double s2032)]) := fun tQ kk => k2012 tQ (st2023.trans kk)
    clear k2012 st2023
    have k2036 : own_G p e below E0 T2013 (mkF m 234 #[vi p0, vj p1, ss, vj p2, ss, vj p3, ss, vi (1 : Int32), vr a1685, vr a1816, vr a1897, vj ((0 : Int64) + ((own_val p2 (0 : Int32)).toInt64 * (own_sel ((own_val p3 (0 : Int32)).toInt64) ((own_val p3 (1 : Int32)).toInt64) ((own_val p3 (2 : Int32)).toInt64) ((own_val p3 (3 : Int32)).toInt64) (own_row p1 (0 : Int32))))), ss] [(.int (1 : Int32))]) := by
      intro tQ kk
      refine k2035 tQ ?_
      refine XT.lload X2017.here hx rfl (hb hby at_222) rfl ?_
      refine XS.l2dS X2017.here hx rfl (hb hby at_224) rfl rfl ?_
      refine XS.dcmpS (v := (0 : Int32)) X2017.here hx rfl (hb hby at_225) rfl (own_eq0 .l g2033 (own_dl _ (own_ra (show (0 : Int64).toInt = 0 from rfl) (by have := own_p9 (own_vb p2 (0 : Int32)) (own_selb p3 (own_rowc p1 (0 : Int32))); omega) (own_vb p2 (0 : Int32)) (own_selb p3 (own_rowc p1 (0 : Int32)))) (own_s7 (by have := own_p9 (own_vb p2 (0 : Int32)) (own_selb p3 (own_rowc p1 (0 : Int32))); omega) (by have := own_p9 (own_vb p2 (0 : Int32)) (own_selb p3 (own_rowc p1 (0 : Int32))); omega)))) ?_
      refine XS.ifNo X2017.here hx rfl (hb hby at_226) rfl (own_if_neN (by decide)) ?_
      show Steps p.tables e below (T2013.setTop (mkF m 229 #[vi p0, vj p1, ss, vj p2, ss, vj p3, ss, vi (1 : Int32), vr a1685, vr a1816, vr a1897, vj ((0 : Int64) + ((own_val p2 (0 : Int32)).toInt64 * (own_sel ((own_val p3 (0 : Int32)).toInt64) ((own_val p3 (1 : Int32)).toInt64) ((own_val p3 (2 : Int32)).toInt64) ((own_val p3 (3 : Int32)).toInt64) (own_row p1 (0 : Int32))))), ss] [])) tQ
      refine XS.iconst X2017.here hx rfl (hb hby at_229) ?_
      refine XS.goto X2017.here hx rfl (pc0 := 230) (pc' := 234) rfl (hb hby at_230) (by decide) (by decide) ?_
      exact kk
    clear k2035
    obtain ⟨fs, hr, hrun, hended, hW, hsame⟩ := X2017.leave (v := some (.int (1 : Int32))) (fun h => by rw [Bd.returns] at h; cases h)
    have hrun0 := k2036 _ (retOut X2017 hx Bd.returns (t := .boolean) rfl (Or.inl ⟨rfl, Or.inr (Or.inl rfl), _, rfl⟩) (hb hby at_234) hr)
    subst hE0
    refine ⟨_, _, hrun0, hrun, hended, _, _, rfl, ?_, ⟨_, rfl⟩, hW, hsame.mono (by decide) (by decide)⟩
    show Qrm0 Z p0 p1 p2 p3 h0 n0 _ T2013.heap _
    rw [e2030]
    exact ⟨rfl, N2034⟩
  · skip
    have k2037 : own_G p e below E0 T1912 (mkF m 125 #[vi p0, vj p1, ss, vj p2, ss, vj p3, ss, vi (2 : Int32), vr a1685, vr a1816, vr a1897, vj (0 : Int64), ss] [(.int (0 : Int32)), (.ref a1685), (.long p2), (.long p1), (.ref a1897), (.long (0 : Int64))]) := by
      intro tQ kk
      refine k1954 tQ ?_
      refine XS.iload X1916.here hx rfl (hb hby at_111) rfl ?_
      refine XS.ifNo X1916.here hx rfl (hb hby at_113) rfl (own_if_leN (by decide)) ?_
      refine XT.lload X1916.here hx rfl (hb hby at_116) rfl ?_
      refine XS.aload X1916.here hx rfl (hb hby at_118) rfl rfl ?_
      show Steps p.tables e below (T1912.setTop (mkF m 120 #[vi p0, vj p1, ss, vj p2, ss, vj p3, ss, vi (2 : Int32), vr a1685, vr a1816, vr a1897, vj (0 : Int64), ss] [(.ref a1897), (.long (0 : Int64))])) tQ
      refine XT.lloadN X1916.here hx rfl (hb hby at_120) rfl ?_
      refine XT.lloadN X1916.here hx rfl (hb hby at_121) rfl ?_
      refine XS.aload X1916.here hx rfl (hb hby at_122) rfl rfl ?_
      refine XS.iconst X1916.here hx rfl (hb hby at_124) ?_
      exact kk
    clear k1954
    obtain ⟨_, _, ⟨T2038, L2039, kc2040, nc2041⟩, -, X2042, ⟨Lc2043, hQ2044, l2045, y2046, z2047⟩, st2048⟩ := Jvm.LawKit.callS X1916 hx (y := mn14) hown (mvT hZ (tw29 hw)) (mvT hZ (tw30 hw)) (mvT hZ (tw4 hw)) (mvT hZ (tw31 hw)) (by decide) (backOf (W := 2) (rmO0 l Z a0 hw [] a1897 p1 p2 a1685 r1926 q1927 (0 : Int32) (0 : Int32) (0 : Int32) (0 : Int32) (0 : UInt64) (0 : UInt64) (0 : UInt64) (0 : UInt64) ((own_val p3 (0 : Int32)).toInt64) ((own_val p3 (1 : Int32)).toInt64) ((own_val p3 (2 : Int32)).toInt64) ((own_val p3 (3 : Int32)).toInt64) T1912.heap n0 Z1946 F1949 g1929 g1930 g1931 g1932 g1933 F1947 n1941 n1945 n1936 n1899 n1939 n1943 ge1903 ge1938 ge1942) hZ (tw31 hw) (tw4 hw) (by decide) (by decide)) (g := (mkF m 125 #[vi p0, vj p1, ss, vj p2, ss, vj p3, ss, vi (2 : Int32), vr a1685, vr a1816, vr a1897, vj (0 : Int64), ss] [(.int (0 : Int32)), (.ref a1685), (.long p2), (.long p1), (.ref a1897), (.long (0 : Int64))])) rfl (by rw [hml]; rfl) (argsL := [(.ref a1897), (.long p1), (.long p2), (.ref a1685), (.int (0 : Int32))]) (rest := [(.long (0 : Int64))]) (lenOf pd_20 rfl) rfl (by show 2 * 0 + _ ≤ _; exact Nat.le_of_eq rfl) (hb hby at_125) (fun _ _ => ⟨rfl, rfl, (by decide : 5 + 0 ≤ _), (by decide : 19 + 0 ≤ _)⟩)
    dsimp only [Pt.U, Pt.locs, Pt.cells, Pt.slots] at X2042 l2045 y2046 z2047 st2048 hQ2044
    subst l2045 y2046 z2047
    obtain ⟨rfl, N2049, K2052, g2053, g2054, g2055, g2056, g2057⟩ := hQ2044
    have N2058 := Fr.app N1937 N2049
    have Z2059 : n0 ≤ T2038.heap.size := Nat.le_trans Z1946 K2052.1
    have F2060 : own_A Z T2038.heap a1685 .long [(.long ((own_val p3 (0 : Int32)).toInt64)), (.long ((own_val p3 (1 : Int32)).toInt64)), (.long ((own_val p3 (2 : Int32)).toInt64)), (.long ((own_val p3 (3 : Int32)).toInt64))] := F1947.keep K2052 (ninS n1899 (ninS n1939 (ninS n1943 nin0)))
    clear F1947
    have F2061 : own_A Z T2038.heap a1816 .double [(.double (FP.l2d ((own_val p3 (0 : Int32)).toInt64))), (.double (FP.l2d ((own_val p3 (1 : Int32)).toInt64))), (.double (FP.l2d ((own_val p3 (2 : Int32)).toInt64))), (.double (FP.l2d ((own_val p3 (3 : Int32)).toInt64)))] := F1948.keep K2052 (ninS n1901 (ninS n1940 (ninS n1944 nin0)))
    clear F1948
    have F2062 : xa5 Z T2038.heap a1897 := F1949.keep K2052
    clear F1949
    clear g1929
    clear g1930
    clear g1931
    clear g1932
    clear g1933
    have k2068 : own_G p e below E0 T2038 (mkF m 128 #[vi p0, vj p1, ss, vj p2, ss, vj p3, ss, vi (2 : Int32), vr a1685, vr a1816, vr a1897, vj (0 : Int64), ss] [(.long ((own_val p2 (0 : Int32)).toInt64 * (own_sel ((own_val p3 (0 : Int32)).toInt64) ((own_val p3 (1 : Int32)).toInt64) ((own_val p3 (2 : Int32)).toInt64) ((own_val p3 (3 : Int32)).toInt64) (own_row p1 (0 : Int32))))), (.long (0 : Int64))]) := fun tQ kk => k2037 tQ (st2048 _ kk)
    clear k2037 st2048
    have k2069 : own_G p e below E0 T2038 (mkF m 146 #[vi p0, vj p1, ss, vj p2, ss, vj p3, ss, vi (2 : Int32), vr a1685, vr a1816, vr a1897, vj ((0 : Int64) + ((own_val p2 (0 : Int32)).toInt64 * (own_sel ((own_val p3 (0 : Int32)).toInt64) ((own_val p3 (1 : Int32)).toInt64) ((own_val p3 (2 : Int32)).toInt64) ((own_val p3 (3 : Int32)).toInt64) (own_row p1 (0 : Int32))))), ss] [(.int (1 : Int32)), (.ref a1685), (.long p2), (.long p1), (.ref a1897), (.long ((0 : Int64) + ((own_val p2 (0 : Int32)).toInt64 * (own_sel ((own_val p3 (0 : Int32)).toInt64) ((own_val p3 (1 : Int32)).toInt64) ((own_val p3 (2 : Int32)).toInt64) ((own_val p3 (3 : Int32)).toInt64) (own_row p1 (0 : Int32))))))]) := by
      intro tQ kk
      refine k2068 tQ ?_
      refine XT.ladd X2042.here hx rfl (hb hby at_128) rfl ?_
      refine XT.lstore X2042.here hx rfl (hb hby at_129) rfl (l' := #[vi p0, vj p1, ss, vj p2, ss, vj p3, ss, vi (2 : Int32), vr a1685, vr a1816, vr a1897, vj ((0 : Int64) + ((own_val p2 (0 : Int32)).toInt64 * (own_sel ((own_val p3 (0 : Int32)).toInt64) ((own_val p3 (1 : Int32)).toInt64) ((own_val p3 (2 : Int32)).toInt64) ((own_val p3 (3 : Int32)).toInt64) (own_row p1 (0 : Int32))))), ss]) rfl ?_
      refine XS.iload X2042.here hx rfl (hb hby at_131) rfl ?_
      refine XS.iconst X2042.here hx rfl (hb hby at_133) ?_
      show Steps p.tables e below (T2038.setTop (mkF m 134 #[vi p0, vj p1, ss, vj p2, ss, vj p3, ss, vi (2 : Int32), vr a1685, vr a1816, vr a1897, vj ((0 : Int64) + ((own_val p2 (0 : Int32)).toInt64 * (own_sel ((own_val p3 (0 : Int32)).toInt64) ((own_val p3 (1 : Int32)).toInt64) ((own_val p3 (2 : Int32)).toInt64) ((own_val p3 (3 : Int32)).toInt64) (own_row p1 (0 : Int32))))), ss] [(.int (1 : Int32)), (.int (2 : Int32))])) tQ
      refine XS.icmpNo X2042.here hx rfl (hb hby at_134) rfl (own_ic_leN (by decide)) ?_
      refine XT.lload X2042.here hx rfl (hb hby at_137) rfl ?_
      refine XS.aload X2042.here hx rfl (hb hby at_139) rfl rfl ?_
      refine XT.lloadN X2042.here hx rfl (hb hby at_141) rfl ?_
      show Steps p.tables e below (T2038.setTop (mkF m 142 #[vi p0, vj p1, ss, vj p2, ss, vj p3, ss, vi (2 : Int32), vr a1685, vr a1816, vr a1897, vj ((0 : Int64) + ((own_val p2 (0 : Int32)).toInt64 * (own_sel ((own_val p3 (0 : Int32)).toInt64) ((own_val p3 (1 : Int32)).toInt64) ((own_val p3 (2 : Int32)).toInt64) ((own_val p3 (3 : Int32)).toInt64) (own_row p1 (0 : Int32))))), ss] [(.long p1), (.ref a1897), (.long ((0 : Int64) + ((own_val p2 (0 : Int32)).toInt64 * (own_sel ((own_val p3 (0 : Int32)).toInt64) ((own_val p3 (1 : Int32)).toInt64) ((own_val p3 (2 : Int32)).toInt64) ((own_val p3 (3 : Int32)).toInt64) (own_row p1 (0 : Int32))))))])) tQ
      refine XT.lloadN X2042.here hx rfl (hb hby at_142) rfl ?_
      refine XS.aload X2042.here hx rfl (hb hby at_143) rfl rfl ?_
      refine XS.iconst X2042.here hx rfl (hb hby at_145) ?_
      exact kk
    clear k2068
    obtain ⟨_, _, ⟨T2070, L2071, kc2072, nc2073⟩, -, X2074, ⟨Lc2075, hQ2076, l2077, y2078, z2079⟩, st2080⟩ := Jvm.LawKit.callS X2042 hx (y := mn14) hown (mvT hZ (tw29 hw)) (mvT hZ (tw30 hw)) (mvT hZ (tw4 hw)) (mvT hZ (tw31 hw)) (by decide) (backOf (W := 2) (rmO1 l Z a0 hw [] a1897 p1 p2 a1685 r1926 q1927 (own_row p1 (0 : Int32)) (0 : Int32) (0 : Int32) (0 : Int32) (FP.i2d (own_val p2 (0 : Int32))) (0 : UInt64) (0 : UInt64) (0 : UInt64) ((own_val p3 (0 : Int32)).toInt64) ((own_val p3 (1 : Int32)).toInt64) ((own_val p3 (2 : Int32)).toInt64) ((own_val p3 (3 : Int32)).toInt64) T2038.heap n0 Z2059 F2062 g2053 g2054 g2055 g2056 g2057 F2060 n1941 n1945 n1936 n1899 n1939 n1943 ge1903 ge1938 ge1942) hZ (tw31 hw) (tw4 hw) (by decide) (by decide)) (g := (mkF m 146 #[vi p0, vj p1, ss, vj p2, ss, vj p3, ss, vi (2 : Int32), vr a1685, vr a1816, vr a1897, vj ((0 : Int64) + ((own_val p2 (0 : Int32)).toInt64 * (own_sel ((own_val p3 (0 : Int32)).toInt64) ((own_val p3 (1 : Int32)).toInt64) ((own_val p3 (2 : Int32)).toInt64) ((own_val p3 (3 : Int32)).toInt64) (own_row p1 (0 : Int32))))), ss] [(.int (1 : Int32)), (.ref a1685), (.long p2), (.long p1), (.ref a1897), (.long ((0 : Int64) + ((own_val p2 (0 : Int32)).toInt64 * (own_sel ((own_val p3 (0 : Int32)).toInt64) ((own_val p3 (1 : Int32)).toInt64) ((own_val p3 (2 : Int32)).toInt64) ((own_val p3 (3 : Int32)).toInt64) (own_row p1 (0 : Int32))))))])) rfl (by rw [hml]; rfl) (argsL := [(.ref a1897), (.long p1), (.long p2), (.ref a1685), (.int (1 : Int32))]) (rest := [(.long ((0 : Int64) + ((own_val p2 (0 : Int32)).toInt64 * (own_sel ((own_val p3 (0 : Int32)).toInt64) ((own_val p3 (1 : Int32)).toInt64) ((own_val p3 (2 : Int32)).toInt64) ((own_val p3 (3 : Int32)).toInt64) (own_row p1 (0 : Int32))))))]) (lenOf pd_20 rfl) rfl (by show 2 * 0 + _ ≤ _; exact Nat.le_of_eq rfl) (hb hby at_146) (fun _ _ => ⟨rfl, rfl, (by decide : 5 + 0 ≤ _), (by decide : 19 + 0 ≤ _)⟩)
    dsimp only [Pt.U, Pt.locs, Pt.cells, Pt.slots] at X2074 l2077 y2078 z2079 st2080 hQ2076
    subst l2077 y2078 z2079
    obtain ⟨rfl, N2081, K2084, g2085, g2086, g2087, g2088, g2089⟩ := hQ2076
    have N2090 := Fr.app N2058 N2081
    have Z2091 : n0 ≤ T2070.heap.size := Nat.le_trans Z2059 K2084.1
    have F2092 : own_A Z T2070.heap a1685 .long [(.long ((own_val p3 (0 : Int32)).toInt64)), (.long ((own_val p3 (1 : Int32)).toInt64)), (.long ((own_val p3 (2 : Int32)).toInt64)), (.long ((own_val p3 (3 : Int32)).toInt64))] := F2060.keep K2084 (ninS n1899 (ninS n1939 (ninS n1943 nin0)))
    clear F2060
    have F2093 : own_A Z T2070.heap a1816 .double [(.double (FP.l2d ((own_val p3 (0 : Int32)).toInt64))), (.double (FP.l2d ((own_val p3 (1 : Int32)).toInt64))), (.double (FP.l2d ((own_val p3 (2 : Int32)).toInt64))), (.double (FP.l2d ((own_val p3 (3 : Int32)).toInt64)))] := F2061.keep K2084 (ninS n1901 (ninS n1940 (ninS n1944 nin0)))
    clear F2061
    have F2094 : xa5 Z T2070.heap a1897 := F2062.keep K2084
    clear F2062
    clear g2053
    clear g2054
    clear g2055
    clear g2056
    clear g2057
    have k2100 : own_G p e below E0 T2070 (mkF m 149 #[vi p0, vj p1, ss, vj p2, ss, vj p3, ss, vi (2 : Int32), vr a1685, vr a1816, vr a1897, vj ((0 : Int64) + ((own_val p2 (0 : Int32)).toInt64 * (own_sel ((own_val p3 (0 : Int32)).toInt64) ((own_val p3 (1 : Int32)).toInt64) ((own_val p3 (2 : Int32)).toInt64) ((own_val p3 (3 : Int32)).toInt64) (own_row p1 (0 : Int32))))), ss] [(.long ((own_val p2 (1 : Int32)).toInt64 * (own_sel ((own_val p3 (0 : Int32)).toInt64) ((own_val p3 (1 : Int32)).toInt64) ((own_val p3 (2 : Int32)).toInt64) ((own_val p3 (3 : Int32)).toInt64) (own_row p1 (1 : Int32))))), (.long ((0 : Int64) + ((own_val p2 (0 : Int32)).toInt64 * (own_sel ((own_val p3 (0 : Int32)).toInt64) ((own_val p3 (1 : Int32)).toInt64) ((own_val p3 (2 : Int32)).toInt64) ((own_val p3 (3 : Int32)).toInt64) (own_row p1 (0 : Int32))))))]) := fun tQ kk => k2069 tQ (st2080 _ kk)
    clear k2069 st2080
    have k2101 : own_G p e below E0 T2070 (mkF m 219 #[vi p0, vj p1, ss, vj p2, ss, vj p3, ss, vi (2 : Int32), vr a1685, vr a1816, vr a1897, vj (((0 : Int64) + ((own_val p2 (0 : Int32)).toInt64 * (own_sel ((own_val p3 (0 : Int32)).toInt64) ((own_val p3 (1 : Int32)).toInt64) ((own_val p3 (2 : Int32)).toInt64) ((own_val p3 (3 : Int32)).toInt64) (own_row p1 (0 : Int32))))) + ((own_val p2 (1 : Int32)).toInt64 * (own_sel ((own_val p3 (0 : Int32)).toInt64) ((own_val p3 (1 : Int32)).toInt64) ((own_val p3 (2 : Int32)).toInt64) ((own_val p3 (3 : Int32)).toInt64) (own_row p1 (1 : Int32))))), ss] [(.ref a1816), (.ref a1897)]) := by
      intro tQ kk
      refine k2100 tQ ?_
      refine XT.ladd X2074.here hx rfl (hb hby at_149) rfl ?_
      refine XT.lstore X2074.here hx rfl (hb hby at_150) rfl (l' := #[vi p0, vj p1, ss, vj p2, ss, vj p3, ss, vi (2 : Int32), vr a1685, vr a1816, vr a1897, vj (((0 : Int64) + ((own_val p2 (0 : Int32)).toInt64 * (own_sel ((own_val p3 (0 : Int32)).toInt64) ((own_val p3 (1 : Int32)).toInt64) ((own_val p3 (2 : Int32)).toInt64) ((own_val p3 (3 : Int32)).toInt64) (own_row p1 (0 : Int32))))) + ((own_val p2 (1 : Int32)).toInt64 * (own_sel ((own_val p3 (0 : Int32)).toInt64) ((own_val p3 (1 : Int32)).toInt64) ((own_val p3 (2 : Int32)).toInt64) ((own_val p3 (3 : Int32)).toInt64) (own_row p1 (1 : Int32))))), ss]) rfl ?_
      refine XS.iload X2074.here hx rfl (hb hby at_152) rfl ?_
      refine XS.iconst X2074.here hx rfl (hb hby at_154) ?_
      show Steps p.tables e below (T2070.setTop (mkF m 155 #[vi p0, vj p1, ss, vj p2, ss, vj p3, ss, vi (2 : Int32), vr a1685, vr a1816, vr a1897, vj (((0 : Int64) + ((own_val p2 (0 : Int32)).toInt64 * (own_sel ((own_val p3 (0 : Int32)).toInt64) ((own_val p3 (1 : Int32)).toInt64) ((own_val p3 (2 : Int32)).toInt64) ((own_val p3 (3 : Int32)).toInt64) (own_row p1 (0 : Int32))))) + ((own_val p2 (1 : Int32)).toInt64 * (own_sel ((own_val p3 (0 : Int32)).toInt64) ((own_val p3 (1 : Int32)).toInt64) ((own_val p3 (2 : Int32)).toInt64) ((own_val p3 (3 : Int32)).toInt64) (own_row p1 (1 : Int32))))), ss] [(.int (2 : Int32)), (.int (2 : Int32))])) tQ
      refine XS.icmpYes X2074.here hx rfl (pc0 := 155) (pc' := 173) rfl (hb hby at_155) rfl (own_ic_leY (by decide)) (by decide) (by decide) ?_
      refine XS.iload X2074.here hx rfl (hb hby at_173) rfl ?_
      refine XS.iconst X2074.here hx rfl (hb hby at_175) ?_
      refine XS.icmpYes X2074.here hx rfl (pc0 := 176) (pc' := 194) rfl (hb hby at_176) rfl (own_ic_leY (by decide)) (by decide) (by decide) ?_
      show Steps p.tables e below (T2070.setTop (mkF m 194 #[vi p0, vj p1, ss, vj p2, ss, vj p3, ss, vi (2 : Int32), vr a1685, vr a1816, vr a1897, vj (((0 : Int64) + ((own_val p2 (0 : Int32)).toInt64 * (own_sel ((own_val p3 (0 : Int32)).toInt64) ((own_val p3 (1 : Int32)).toInt64) ((own_val p3 (2 : Int32)).toInt64) ((own_val p3 (3 : Int32)).toInt64) (own_row p1 (0 : Int32))))) + ((own_val p2 (1 : Int32)).toInt64 * (own_sel ((own_val p3 (0 : Int32)).toInt64) ((own_val p3 (1 : Int32)).toInt64) ((own_val p3 (2 : Int32)).toInt64) ((own_val p3 (3 : Int32)).toInt64) (own_row p1 (1 : Int32))))), ss] [])) tQ
      refine XS.iload X2074.here hx rfl (hb hby at_194) rfl ?_
      refine XS.iconst X2074.here hx rfl (hb hby at_196) ?_
      refine XS.icmpYes X2074.here hx rfl (pc0 := 197) (pc' := 215) rfl (hb hby at_197) rfl (own_ic_leY (by decide)) (by decide) (by decide) ?_
      refine XS.aload X2074.here hx rfl (hb hby at_215) rfl rfl ?_
      show Steps p.tables e below (T2070.setTop (mkF m 217 #[vi p0, vj p1, ss, vj p2, ss, vj p3, ss, vi (2 : Int32), vr a1685, vr a1816, vr a1897, vj (((0 : Int64) + ((own_val p2 (0 : Int32)).toInt64 * (own_sel ((own_val p3 (0 : Int32)).toInt64) ((own_val p3 (1 : Int32)).toInt64) ((own_val p3 (2 : Int32)).toInt64) ((own_val p3 (3 : Int32)).toInt64) (own_row p1 (0 : Int32))))) + ((own_val p2 (1 : Int32)).toInt64 * (own_sel ((own_val p3 (0 : Int32)).toInt64) ((own_val p3 (1 : Int32)).toInt64) ((own_val p3 (2 : Int32)).toInt64) ((own_val p3 (3 : Int32)).toInt64) (own_row p1 (1 : Int32))))), ss] [(.ref a1897)])) tQ
      refine XS.aload X2074.here hx rfl (hb hby at_217) rfl rfl ?_
      exact kk
    clear k2100
    obtain ⟨cq2113, kq2114, qa2115, qb2116, qc2117⟩ := isOf hZ rfl F2094
    obtain ⟨_, _, ⟨T2102, L2103, kc2104, nc2105⟩, -, X2106, ⟨Lc2107, hQ2108, l2109, y2110, z2111⟩, st2112⟩ := X2074.virtualBack hx (y := mn17) (z := mn17) hown (mvT hZ (tw22 hw)) (mvT hZ (tw23 hw)) (notFace_of_selects (args := #[]) (mvT hZ (tw25 hw))) (mvT hZ (tw25 hw)) (mvT hZ (tw24 hw)) (by decide) (backOf (W := 0) (rmD2 l Z a0 hw [] a1897 a1816 r1926 q1927 (own_row p1 (0 : Int32)) (own_row p1 (1 : Int32)) (FP.i2d (own_val p2 (0 : Int32))) (FP.i2d (own_val p2 (1 : Int32))) (FP.l2d ((own_val p3 (0 : Int32)).toInt64)) (FP.l2d ((own_val p3 (1 : Int32)).toInt64)) (FP.l2d ((own_val p3 (2 : Int32)).toInt64)) (FP.l2d ((own_val p3 (3 : Int32)).toInt64)) (own_val p2 (0 : Int32)).toInt (own_val p2 (1 : Int32)).toInt (own_sel (own_val p3 (0 : Int32)).toInt64 (own_val p3 (1 : Int32)).toInt64 (own_val p3 (2 : Int32)).toInt64 (own_val p3 (3 : Int32)).toInt64 (own_row p1 (0 : Int32))).toInt (own_sel (own_val p3 (0 : Int32)).toInt64 (own_val p3 (1 : Int32)).toInt64 (own_val p3 (2 : Int32)).toInt64 (own_val p3 (3 : Int32)).toInt64 (own_row p1 (1 : Int32))).toInt T2070.heap n0 Z2091 g2085 g2086 g2087 g2088 g2089 F2093 (own_rowc p1 (0 : Int32)) (FP.Core.i2d_int (own_val p2 (0 : Int32))) (own_selDI p3 (own_rowc p1 (0 : Int32))) (own_vb p2 (0 : Int32)) (own_selb p3 (own_rowc p1 (0 : Int32))) (own_rowc p1 (1 : Int32)) (FP.Core.i2d_int (own_val p2 (1 : Int32))) (own_selDI p3 (own_rowc p1 (1 : Int32))) (own_vb p2 (1 : Int32)) (own_selb p3 (own_rowc p1 (1 : Int32)))) hZ (tw26 hw) (tw10 hw) (by decide) (by decide)) qa2115 qc2117 (g := (mkF m 219 #[vi p0, vj p1, ss, vj p2, ss, vj p3, ss, vi (2 : Int32), vr a1685, vr a1816, vr a1897, vj (((0 : Int64) + ((own_val p2 (0 : Int32)).toInt64 * (own_sel ((own_val p3 (0 : Int32)).toInt64) ((own_val p3 (1 : Int32)).toInt64) ((own_val p3 (2 : Int32)).toInt64) ((own_val p3 (3 : Int32)).toInt64) (own_row p1 (0 : Int32))))) + ((own_val p2 (1 : Int32)).toInt64 * (own_sel ((own_val p3 (0 : Int32)).toInt64) ((own_val p3 (1 : Int32)).toInt64) ((own_val p3 (2 : Int32)).toInt64) ((own_val p3 (3 : Int32)).toInt64) (own_row p1 (1 : Int32))))), ss] [(.ref a1816), (.ref a1897)])) rfl (by rw [hml]; rfl) (Steps.refl _) (argsL := [(.ref a1816)]) (rest := []) (lenOf pd_19 rfl) rfl (by show 2 * 0 + _ ≤ _; exact Nat.le_of_eq rfl) (hb hby at_219) (fun _ _ => ⟨rfl, rfl, (by decide : 5 + 0 ≤ _), (by decide : 19 + 0 ≤ _)⟩)
    dsimp only [Pt.U, Pt.locs, Pt.cells, Pt.slots] at X2106 l2109 y2110 z2111 st2112 hQ2108
    subst l2109 y2110 z2111
    obtain ⟨s2121, rfl, N2118, e2119, g2122⟩ := hQ2108
    have N2123 := Fr.app N2090 N2118
    have k2124 : own_G p e below E0 T2102 (mkF m 222 #[vi p0, vj p1, ss, vj p2, ss, vj p3, ss, vi (2 : Int32), vr a1685, vr a1816, vr a1897, vj (((0 : Int64) + ((own_val p2 (0 : Int32)).toInt64 * (own_sel ((own_val p3 (0 : Int32)).toInt64) ((own_val p3 (1 : Int32)).toInt64) ((own_val p3 (2 : Int32)).toInt64) ((own_val p3 (3 : Int32)).toInt64) (own_row p1 (0 : Int32))))) + ((own_val p2 (1 : Int32)).toInt64 * (own_sel ((own_val p3 (0 : Int32)).toInt64) ((own_val p3 (1 : Int32)).toInt64) ((own_val p3 (2 : Int32)).toInt64) ((own_val p3 (3 : Int32)).toInt64) (own_row p1 (1 : Int32))))), ss] [(.double s2121)]) := fun tQ kk => k2101 tQ (st2112.trans kk)
    clear k2101 st2112
    have k2125 : own_G p e below E0 T2102 (mkF m 234 #[vi p0, vj p1, ss, vj p2, ss, vj p3, ss, vi (2 : Int32), vr a1685, vr a1816, vr a1897, vj (((0 : Int64) + ((own_val p2 (0 : Int32)).toInt64 * (own_sel ((own_val p3 (0 : Int32)).toInt64) ((own_val p3 (1 : Int32)).toInt64) ((own_val p3 (2 : Int32)).toInt64) ((own_val p3 (3 : Int32)).toInt64) (own_row p1 (0 : Int32))))) + ((own_val p2 (1 : Int32)).toInt64 * (own_sel ((own_val p3 (0 : Int32)).toInt64) ((own_val p3 (1 : Int32)).toInt64) ((own_val p3 (2 : Int32)).toInt64) ((own_val p3 (3 : Int32)).toInt64) (own_row p1 (1 : Int32))))), ss] [(.int (1 : Int32))]) := by
      intro tQ kk
      refine k2124 tQ ?_
      refine XT.lload X2106.here hx rfl (hb hby at_222) rfl ?_
      refine XS.l2dS X2106.here hx rfl (hb hby at_224) rfl rfl ?_
      refine XS.dcmpS (v := (0 : Int32)) X2106.here hx rfl (hb hby at_225) rfl (own_eq0 .l g2122 (own_dl _ (own_ra (own_ra (show (0 : Int64).toInt = 0 from rfl) (by have := own_p9 (own_vb p2 (0 : Int32)) (own_selb p3 (own_rowc p1 (0 : Int32))); have := own_p9 (own_vb p2 (1 : Int32)) (own_selb p3 (own_rowc p1 (1 : Int32))); omega) (own_vb p2 (0 : Int32)) (own_selb p3 (own_rowc p1 (0 : Int32)))) (by have := own_p9 (own_vb p2 (0 : Int32)) (own_selb p3 (own_rowc p1 (0 : Int32))); have := own_p9 (own_vb p2 (1 : Int32)) (own_selb p3 (own_rowc p1 (1 : Int32))); omega) (own_vb p2 (1 : Int32)) (own_selb p3 (own_rowc p1 (1 : Int32)))) (own_s7 (by have := own_p9 (own_vb p2 (0 : Int32)) (own_selb p3 (own_rowc p1 (0 : Int32))); have := own_p9 (own_vb p2 (1 : Int32)) (own_selb p3 (own_rowc p1 (1 : Int32))); omega) (by have := own_p9 (own_vb p2 (0 : Int32)) (own_selb p3 (own_rowc p1 (0 : Int32))); have := own_p9 (own_vb p2 (1 : Int32)) (own_selb p3 (own_rowc p1 (1 : Int32))); omega)))) ?_
      refine XS.ifNo X2106.here hx rfl (hb hby at_226) rfl (own_if_neN (by decide)) ?_
      show Steps p.tables e below (T2102.setTop (mkF m 229 #[vi p0, vj p1, ss, vj p2, ss, vj p3, ss, vi (2 : Int32), vr a1685, vr a1816, vr a1897, vj (((0 : Int64) + ((own_val p2 (0 : Int32)).toInt64 * (own_sel ((own_val p3 (0 : Int32)).toInt64) ((own_val p3 (1 : Int32)).toInt64) ((own_val p3 (2 : Int32)).toInt64) ((own_val p3 (3 : Int32)).toInt64) (own_row p1 (0 : Int32))))) + ((own_val p2 (1 : Int32)).toInt64 * (own_sel ((own_val p3 (0 : Int32)).toInt64) ((own_val p3 (1 : Int32)).toInt64) ((own_val p3 (2 : Int32)).toInt64) ((own_val p3 (3 : Int32)).toInt64) (own_row p1 (1 : Int32))))), ss] [])) tQ
      refine XS.iconst X2106.here hx rfl (hb hby at_229) ?_
      refine XS.goto X2106.here hx rfl (pc0 := 230) (pc' := 234) rfl (hb hby at_230) (by decide) (by decide) ?_
      exact kk
    clear k2124
    obtain ⟨fs, hr, hrun, hended, hW, hsame⟩ := X2106.leave (v := some (.int (1 : Int32))) (fun h => by rw [Bd.returns] at h; cases h)
    have hrun0 := k2125 _ (retOut X2106 hx Bd.returns (t := .boolean) rfl (Or.inl ⟨rfl, Or.inr (Or.inl rfl), _, rfl⟩) (hb hby at_234) hr)
    subst hE0
    refine ⟨_, _, hrun0, hrun, hended, _, _, rfl, ?_, ⟨_, rfl⟩, hW, hsame.mono (by decide) (by decide)⟩
    show Qrm0 Z p0 p1 p2 p3 h0 n0 _ T2102.heap _
    rw [e2119]
    exact ⟨rfl, N2123⟩
  · skip
    have k2126 : own_G p e below E0 T1912 (mkF m 125 #[vi p0, vj p1, ss, vj p2, ss, vj p3, ss, vi (3 : Int32), vr a1685, vr a1816, vr a1897, vj (0 : Int64), ss] [(.int (0 : Int32)), (.ref a1685), (.long p2), (.long p1), (.ref a1897), (.long (0 : Int64))]) := by
      intro tQ kk
      refine k1954 tQ ?_
      refine XS.iload X1916.here hx rfl (hb hby at_111) rfl ?_
      refine XS.ifNo X1916.here hx rfl (hb hby at_113) rfl (own_if_leN (by decide)) ?_
      refine XT.lload X1916.here hx rfl (hb hby at_116) rfl ?_
      refine XS.aload X1916.here hx rfl (hb hby at_118) rfl rfl ?_
      show Steps p.tables e below (T1912.setTop (mkF m 120 #[vi p0, vj p1, ss, vj p2, ss, vj p3, ss, vi (3 : Int32), vr a1685, vr a1816, vr a1897, vj (0 : Int64), ss] [(.ref a1897), (.long (0 : Int64))])) tQ
      refine XT.lloadN X1916.here hx rfl (hb hby at_120) rfl ?_
      refine XT.lloadN X1916.here hx rfl (hb hby at_121) rfl ?_
      refine XS.aload X1916.here hx rfl (hb hby at_122) rfl rfl ?_
      refine XS.iconst X1916.here hx rfl (hb hby at_124) ?_
      exact kk
    clear k1954
    obtain ⟨_, _, ⟨T2127, L2128, kc2129, nc2130⟩, -, X2131, ⟨Lc2132, hQ2133, l2134, y2135, z2136⟩, st2137⟩ := Jvm.LawKit.callS X1916 hx (y := mn14) hown (mvT hZ (tw29 hw)) (mvT hZ (tw30 hw)) (mvT hZ (tw4 hw)) (mvT hZ (tw31 hw)) (by decide) (backOf (W := 2) (rmO0 l Z a0 hw [] a1897 p1 p2 a1685 r1926 q1927 (0 : Int32) (0 : Int32) (0 : Int32) (0 : Int32) (0 : UInt64) (0 : UInt64) (0 : UInt64) (0 : UInt64) ((own_val p3 (0 : Int32)).toInt64) ((own_val p3 (1 : Int32)).toInt64) ((own_val p3 (2 : Int32)).toInt64) ((own_val p3 (3 : Int32)).toInt64) T1912.heap n0 Z1946 F1949 g1929 g1930 g1931 g1932 g1933 F1947 n1941 n1945 n1936 n1899 n1939 n1943 ge1903 ge1938 ge1942) hZ (tw31 hw) (tw4 hw) (by decide) (by decide)) (g := (mkF m 125 #[vi p0, vj p1, ss, vj p2, ss, vj p3, ss, vi (3 : Int32), vr a1685, vr a1816, vr a1897, vj (0 : Int64), ss] [(.int (0 : Int32)), (.ref a1685), (.long p2), (.long p1), (.ref a1897), (.long (0 : Int64))])) rfl (by rw [hml]; rfl) (argsL := [(.ref a1897), (.long p1), (.long p2), (.ref a1685), (.int (0 : Int32))]) (rest := [(.long (0 : Int64))]) (lenOf pd_20 rfl) rfl (by show 2 * 0 + _ ≤ _; exact Nat.le_of_eq rfl) (hb hby at_125) (fun _ _ => ⟨rfl, rfl, (by decide : 5 + 0 ≤ _), (by decide : 19 + 0 ≤ _)⟩)
    dsimp only [Pt.U, Pt.locs, Pt.cells, Pt.slots] at X2131 l2134 y2135 z2136 st2137 hQ2133
    subst l2134 y2135 z2136
    obtain ⟨rfl, N2138, K2141, g2142, g2143, g2144, g2145, g2146⟩ := hQ2133
    have N2147 := Fr.app N1937 N2138
    have Z2148 : n0 ≤ T2127.heap.size := Nat.le_trans Z1946 K2141.1
    have F2149 : own_A Z T2127.heap a1685 .long [(.long ((own_val p3 (0 : Int32)).toInt64)), (.long ((own_val p3 (1 : Int32)).toInt64)), (.long ((own_val p3 (2 : Int32)).toInt64)), (.long ((own_val p3 (3 : Int32)).toInt64))] := F1947.keep K2141 (ninS n1899 (ninS n1939 (ninS n1943 nin0)))
    clear F1947
    have F2150 : own_A Z T2127.heap a1816 .double [(.double (FP.l2d ((own_val p3 (0 : Int32)).toInt64))), (.double (FP.l2d ((own_val p3 (1 : Int32)).toInt64))), (.double (FP.l2d ((own_val p3 (2 : Int32)).toInt64))), (.double (FP.l2d ((own_val p3 (3 : Int32)).toInt64)))] := F1948.keep K2141 (ninS n1901 (ninS n1940 (ninS n1944 nin0)))
    clear F1948
    have F2151 : xa5 Z T2127.heap a1897 := F1949.keep K2141
    clear F1949
    clear g1929
    clear g1930
    clear g1931
    clear g1932
    clear g1933
    have k2157 : own_G p e below E0 T2127 (mkF m 128 #[vi p0, vj p1, ss, vj p2, ss, vj p3, ss, vi (3 : Int32), vr a1685, vr a1816, vr a1897, vj (0 : Int64), ss] [(.long ((own_val p2 (0 : Int32)).toInt64 * (own_sel ((own_val p3 (0 : Int32)).toInt64) ((own_val p3 (1 : Int32)).toInt64) ((own_val p3 (2 : Int32)).toInt64) ((own_val p3 (3 : Int32)).toInt64) (own_row p1 (0 : Int32))))), (.long (0 : Int64))]) := fun tQ kk => k2126 tQ (st2137 _ kk)
    clear k2126 st2137
    have k2158 : own_G p e below E0 T2127 (mkF m 146 #[vi p0, vj p1, ss, vj p2, ss, vj p3, ss, vi (3 : Int32), vr a1685, vr a1816, vr a1897, vj ((0 : Int64) + ((own_val p2 (0 : Int32)).toInt64 * (own_sel ((own_val p3 (0 : Int32)).toInt64) ((own_val p3 (1 : Int32)).toInt64) ((own_val p3 (2 : Int32)).toInt64) ((own_val p3 (3 : Int32)).toInt64) (own_row p1 (0 : Int32))))), ss] [(.int (1 : Int32)), (.ref a1685), (.long p2), (.long p1), (.ref a1897), (.long ((0 : Int64) + ((own_val p2 (0 : Int32)).toInt64 * (own_sel ((own_val p3 (0 : Int32)).toInt64) ((own_val p3 (1 : Int32)).toInt64) ((own_val p3 (2 : Int32)).toInt64) ((own_val p3 (3 : Int32)).toInt64) (own_row p1 (0 : Int32))))))]) := by
      intro tQ kk
      refine k2157 tQ ?_
      refine XT.ladd X2131.here hx rfl (hb hby at_128) rfl ?_
      refine XT.lstore X2131.here hx rfl (hb hby at_129) rfl (l' := #[vi p0, vj p1, ss, vj p2, ss, vj p3, ss, vi (3 : Int32), vr a1685, vr a1816, vr a1897, vj ((0 : Int64) + ((own_val p2 (0 : Int32)).toInt64 * (own_sel ((own_val p3 (0 : Int32)).toInt64) ((own_val p3 (1 : Int32)).toInt64) ((own_val p3 (2 : Int32)).toInt64) ((own_val p3 (3 : Int32)).toInt64) (own_row p1 (0 : Int32))))), ss]) rfl ?_
      refine XS.iload X2131.here hx rfl (hb hby at_131) rfl ?_
      refine XS.iconst X2131.here hx rfl (hb hby at_133) ?_
      show Steps p.tables e below (T2127.setTop (mkF m 134 #[vi p0, vj p1, ss, vj p2, ss, vj p3, ss, vi (3 : Int32), vr a1685, vr a1816, vr a1897, vj ((0 : Int64) + ((own_val p2 (0 : Int32)).toInt64 * (own_sel ((own_val p3 (0 : Int32)).toInt64) ((own_val p3 (1 : Int32)).toInt64) ((own_val p3 (2 : Int32)).toInt64) ((own_val p3 (3 : Int32)).toInt64) (own_row p1 (0 : Int32))))), ss] [(.int (1 : Int32)), (.int (3 : Int32))])) tQ
      refine XS.icmpNo X2131.here hx rfl (hb hby at_134) rfl (own_ic_leN (by decide)) ?_
      refine XT.lload X2131.here hx rfl (hb hby at_137) rfl ?_
      refine XS.aload X2131.here hx rfl (hb hby at_139) rfl rfl ?_
      refine XT.lloadN X2131.here hx rfl (hb hby at_141) rfl ?_
      show Steps p.tables e below (T2127.setTop (mkF m 142 #[vi p0, vj p1, ss, vj p2, ss, vj p3, ss, vi (3 : Int32), vr a1685, vr a1816, vr a1897, vj ((0 : Int64) + ((own_val p2 (0 : Int32)).toInt64 * (own_sel ((own_val p3 (0 : Int32)).toInt64) ((own_val p3 (1 : Int32)).toInt64) ((own_val p3 (2 : Int32)).toInt64) ((own_val p3 (3 : Int32)).toInt64) (own_row p1 (0 : Int32))))), ss] [(.long p1), (.ref a1897), (.long ((0 : Int64) + ((own_val p2 (0 : Int32)).toInt64 * (own_sel ((own_val p3 (0 : Int32)).toInt64) ((own_val p3 (1 : Int32)).toInt64) ((own_val p3 (2 : Int32)).toInt64) ((own_val p3 (3 : Int32)).toInt64) (own_row p1 (0 : Int32))))))])) tQ
      refine XT.lloadN X2131.here hx rfl (hb hby at_142) rfl ?_
      refine XS.aload X2131.here hx rfl (hb hby at_143) rfl rfl ?_
      refine XS.iconst X2131.here hx rfl (hb hby at_145) ?_
      exact kk
    clear k2157
    obtain ⟨_, _, ⟨T2159, L2160, kc2161, nc2162⟩, -, X2163, ⟨Lc2164, hQ2165, l2166, y2167, z2168⟩, st2169⟩ := Jvm.LawKit.callS X2131 hx (y := mn14) hown (mvT hZ (tw29 hw)) (mvT hZ (tw30 hw)) (mvT hZ (tw4 hw)) (mvT hZ (tw31 hw)) (by decide) (backOf (W := 2) (rmO1 l Z a0 hw [] a1897 p1 p2 a1685 r1926 q1927 (own_row p1 (0 : Int32)) (0 : Int32) (0 : Int32) (0 : Int32) (FP.i2d (own_val p2 (0 : Int32))) (0 : UInt64) (0 : UInt64) (0 : UInt64) ((own_val p3 (0 : Int32)).toInt64) ((own_val p3 (1 : Int32)).toInt64) ((own_val p3 (2 : Int32)).toInt64) ((own_val p3 (3 : Int32)).toInt64) T2127.heap n0 Z2148 F2151 g2142 g2143 g2144 g2145 g2146 F2149 n1941 n1945 n1936 n1899 n1939 n1943 ge1903 ge1938 ge1942) hZ (tw31 hw) (tw4 hw) (by decide) (by decide)) (g := (mkF m 146 #[vi p0, vj p1, ss, vj p2, ss, vj p3, ss, vi (3 : Int32), vr a1685, vr a1816, vr a1897, vj ((0 : Int64) + ((own_val p2 (0 : Int32)).toInt64 * (own_sel ((own_val p3 (0 : Int32)).toInt64) ((own_val p3 (1 : Int32)).toInt64) ((own_val p3 (2 : Int32)).toInt64) ((own_val p3 (3 : Int32)).toInt64) (own_row p1 (0 : Int32))))), ss] [(.int (1 : Int32)), (.ref a1685), (.long p2), (.long p1), (.ref a1897), (.long ((0 : Int64) + ((own_val p2 (0 : Int32)).toInt64 * (own_sel ((own_val p3 (0 : Int32)).toInt64) ((own_val p3 (1 : Int32)).toInt64) ((own_val p3 (2 : Int32)).toInt64) ((own_val p3 (3 : Int32)).toInt64) (own_row p1 (0 : Int32))))))])) rfl (by rw [hml]; rfl) (argsL := [(.ref a1897), (.long p1), (.long p2), (.ref a1685), (.int (1 : Int32))]) (rest := [(.long ((0 : Int64) + ((own_val p2 (0 : Int32)).toInt64 * (own_sel ((own_val p3 (0 : Int32)).toInt64) ((own_val p3 (1 : Int32)).toInt64) ((own_val p3 (2 : Int32)).toInt64) ((own_val p3 (3 : Int32)).toInt64) (own_row p1 (0 : Int32))))))]) (lenOf pd_20 rfl) rfl (by show 2 * 0 + _ ≤ _; exact Nat.le_of_eq rfl) (hb hby at_146) (fun _ _ => ⟨rfl, rfl, (by decide : 5 + 0 ≤ _), (by decide : 19 + 0 ≤ _)⟩)
    dsimp only [Pt.U, Pt.locs, Pt.cells, Pt.slots] at X2163 l2166 y2167 z2168 st2169 hQ2165
    subst l2166 y2167 z2168
    obtain ⟨rfl, N2170, K2173, g2174, g2175, g2176, g2177, g2178⟩ := hQ2165
    have N2179 := Fr.app N2147 N2170
    have Z2180 : n0 ≤ T2159.heap.size := Nat.le_trans Z2148 K2173.1
    have F2181 : own_A Z T2159.heap a1685 .long [(.long ((own_val p3 (0 : Int32)).toInt64)), (.long ((own_val p3 (1 : Int32)).toInt64)), (.long ((own_val p3 (2 : Int32)).toInt64)), (.long ((own_val p3 (3 : Int32)).toInt64))] := F2149.keep K2173 (ninS n1899 (ninS n1939 (ninS n1943 nin0)))
    clear F2149
    have F2182 : own_A Z T2159.heap a1816 .double [(.double (FP.l2d ((own_val p3 (0 : Int32)).toInt64))), (.double (FP.l2d ((own_val p3 (1 : Int32)).toInt64))), (.double (FP.l2d ((own_val p3 (2 : Int32)).toInt64))), (.double (FP.l2d ((own_val p3 (3 : Int32)).toInt64)))] := F2150.keep K2173 (ninS n1901 (ninS n1940 (ninS n1944 nin0)))
    clear F2150
    have F2183 : xa5 Z T2159.heap a1897 := F2151.keep K2173
    clear F2151
    clear g2142
    clear g2143
    clear g2144
    clear g2145
    clear g2146
    have k2189 : own_G p e below E0 T2159 (mkF m 149 #[vi p0, vj p1, ss, vj p2, ss, vj p3, ss, vi (3 : Int32), vr a1685, vr a1816, vr a1897, vj ((0 : Int64) + ((own_val p2 (0 : Int32)).toInt64 * (own_sel ((own_val p3 (0 : Int32)).toInt64) ((own_val p3 (1 : Int32)).toInt64) ((own_val p3 (2 : Int32)).toInt64) ((own_val p3 (3 : Int32)).toInt64) (own_row p1 (0 : Int32))))), ss] [(.long ((own_val p2 (1 : Int32)).toInt64 * (own_sel ((own_val p3 (0 : Int32)).toInt64) ((own_val p3 (1 : Int32)).toInt64) ((own_val p3 (2 : Int32)).toInt64) ((own_val p3 (3 : Int32)).toInt64) (own_row p1 (1 : Int32))))), (.long ((0 : Int64) + ((own_val p2 (0 : Int32)).toInt64 * (own_sel ((own_val p3 (0 : Int32)).toInt64) ((own_val p3 (1 : Int32)).toInt64) ((own_val p3 (2 : Int32)).toInt64) ((own_val p3 (3 : Int32)).toInt64) (own_row p1 (0 : Int32))))))]) := fun tQ kk => k2158 tQ (st2169 _ kk)
    clear k2158 st2169
    have k2190 : own_G p e below E0 T2159 (mkF m 167 #[vi p0, vj p1, ss, vj p2, ss, vj p3, ss, vi (3 : Int32), vr a1685, vr a1816, vr a1897, vj (((0 : Int64) + ((own_val p2 (0 : Int32)).toInt64 * (own_sel ((own_val p3 (0 : Int32)).toInt64) ((own_val p3 (1 : Int32)).toInt64) ((own_val p3 (2 : Int32)).toInt64) ((own_val p3 (3 : Int32)).toInt64) (own_row p1 (0 : Int32))))) + ((own_val p2 (1 : Int32)).toInt64 * (own_sel ((own_val p3 (0 : Int32)).toInt64) ((own_val p3 (1 : Int32)).toInt64) ((own_val p3 (2 : Int32)).toInt64) ((own_val p3 (3 : Int32)).toInt64) (own_row p1 (1 : Int32))))), ss] [(.int (2 : Int32)), (.ref a1685), (.long p2), (.long p1), (.ref a1897), (.long (((0 : Int64) + ((own_val p2 (0 : Int32)).toInt64 * (own_sel ((own_val p3 (0 : Int32)).toInt64) ((own_val p3 (1 : Int32)).toInt64) ((own_val p3 (2 : Int32)).toInt64) ((own_val p3 (3 : Int32)).toInt64) (own_row p1 (0 : Int32))))) + ((own_val p2 (1 : Int32)).toInt64 * (own_sel ((own_val p3 (0 : Int32)).toInt64) ((own_val p3 (1 : Int32)).toInt64) ((own_val p3 (2 : Int32)).toInt64) ((own_val p3 (3 : Int32)).toInt64) (own_row p1 (1 : Int32))))))]) := by
      intro tQ kk
      refine k2189 tQ ?_
      refine XT.ladd X2163.here hx rfl (hb hby at_149) rfl ?_
      refine XT.lstore X2163.here hx rfl (hb hby at_150) rfl (l' := #[vi p0, vj p1, ss, vj p2, ss, vj p3, ss, vi (3 : Int32), vr a1685, vr a1816, vr a1897, vj (((0 : Int64) + ((own_val p2 (0 : Int32)).toInt64 * (own_sel ((own_val p3 (0 : Int32)).toInt64) ((own_val p3 (1 : Int32)).toInt64) ((own_val p3 (2 : Int32)).toInt64) ((own_val p3 (3 : Int32)).toInt64) (own_row p1 (0 : Int32))))) + ((own_val p2 (1 : Int32)).toInt64 * (own_sel ((own_val p3 (0 : Int32)).toInt64) ((own_val p3 (1 : Int32)).toInt64) ((own_val p3 (2 : Int32)).toInt64) ((own_val p3 (3 : Int32)).toInt64) (own_row p1 (1 : Int32))))), ss]) rfl ?_
      refine XS.iload X2163.here hx rfl (hb hby at_152) rfl ?_
      refine XS.iconst X2163.here hx rfl (hb hby at_154) ?_
      show Steps p.tables e below (T2159.setTop (mkF m 155 #[vi p0, vj p1, ss, vj p2, ss, vj p3, ss, vi (3 : Int32), vr a1685, vr a1816, vr a1897, vj (((0 : Int64) + ((own_val p2 (0 : Int32)).toInt64 * (own_sel ((own_val p3 (0 : Int32)).toInt64) ((own_val p3 (1 : Int32)).toInt64) ((own_val p3 (2 : Int32)).toInt64) ((own_val p3 (3 : Int32)).toInt64) (own_row p1 (0 : Int32))))) + ((own_val p2 (1 : Int32)).toInt64 * (own_sel ((own_val p3 (0 : Int32)).toInt64) ((own_val p3 (1 : Int32)).toInt64) ((own_val p3 (2 : Int32)).toInt64) ((own_val p3 (3 : Int32)).toInt64) (own_row p1 (1 : Int32))))), ss] [(.int (2 : Int32)), (.int (3 : Int32))])) tQ
      refine XS.icmpNo X2163.here hx rfl (hb hby at_155) rfl (own_ic_leN (by decide)) ?_
      refine XT.lload X2163.here hx rfl (hb hby at_158) rfl ?_
      refine XS.aload X2163.here hx rfl (hb hby at_160) rfl rfl ?_
      refine XT.lloadN X2163.here hx rfl (hb hby at_162) rfl ?_
      show Steps p.tables e below (T2159.setTop (mkF m 163 #[vi p0, vj p1, ss, vj p2, ss, vj p3, ss, vi (3 : Int32), vr a1685, vr a1816, vr a1897, vj (((0 : Int64) + ((own_val p2 (0 : Int32)).toInt64 * (own_sel ((own_val p3 (0 : Int32)).toInt64) ((own_val p3 (1 : Int32)).toInt64) ((own_val p3 (2 : Int32)).toInt64) ((own_val p3 (3 : Int32)).toInt64) (own_row p1 (0 : Int32))))) + ((own_val p2 (1 : Int32)).toInt64 * (own_sel ((own_val p3 (0 : Int32)).toInt64) ((own_val p3 (1 : Int32)).toInt64) ((own_val p3 (2 : Int32)).toInt64) ((own_val p3 (3 : Int32)).toInt64) (own_row p1 (1 : Int32))))), ss] [(.long p1), (.ref a1897), (.long (((0 : Int64) + ((own_val p2 (0 : Int32)).toInt64 * (own_sel ((own_val p3 (0 : Int32)).toInt64) ((own_val p3 (1 : Int32)).toInt64) ((own_val p3 (2 : Int32)).toInt64) ((own_val p3 (3 : Int32)).toInt64) (own_row p1 (0 : Int32))))) + ((own_val p2 (1 : Int32)).toInt64 * (own_sel ((own_val p3 (0 : Int32)).toInt64) ((own_val p3 (1 : Int32)).toInt64) ((own_val p3 (2 : Int32)).toInt64) ((own_val p3 (3 : Int32)).toInt64) (own_row p1 (1 : Int32))))))])) tQ
      refine XT.lloadN X2163.here hx rfl (hb hby at_163) rfl ?_
      refine XS.aload X2163.here hx rfl (hb hby at_164) rfl rfl ?_
      refine XS.iconst X2163.here hx rfl (hb hby at_166) ?_
      exact kk
    clear k2189
    obtain ⟨_, _, ⟨T2191, L2192, kc2193, nc2194⟩, -, X2195, ⟨Lc2196, hQ2197, l2198, y2199, z2200⟩, st2201⟩ := Jvm.LawKit.callS X2163 hx (y := mn14) hown (mvT hZ (tw29 hw)) (mvT hZ (tw30 hw)) (mvT hZ (tw4 hw)) (mvT hZ (tw31 hw)) (by decide) (backOf (W := 2) (rmO2 l Z a0 hw [] a1897 p1 p2 a1685 r1926 q1927 (own_row p1 (0 : Int32)) (own_row p1 (1 : Int32)) (0 : Int32) (0 : Int32) (FP.i2d (own_val p2 (0 : Int32))) (FP.i2d (own_val p2 (1 : Int32))) (0 : UInt64) (0 : UInt64) ((own_val p3 (0 : Int32)).toInt64) ((own_val p3 (1 : Int32)).toInt64) ((own_val p3 (2 : Int32)).toInt64) ((own_val p3 (3 : Int32)).toInt64) T2159.heap n0 Z2180 F2183 g2174 g2175 g2176 g2177 g2178 F2181 n1941 n1945 n1936 n1899 n1939 n1943 ge1903 ge1938 ge1942) hZ (tw31 hw) (tw4 hw) (by decide) (by decide)) (g := (mkF m 167 #[vi p0, vj p1, ss, vj p2, ss, vj p3, ss, vi (3 : Int32), vr a1685, vr a1816, vr a1897, vj (((0 : Int64) + ((own_val p2 (0 : Int32)).toInt64 * (own_sel ((own_val p3 (0 : Int32)).toInt64) ((own_val p3 (1 : Int32)).toInt64) ((own_val p3 (2 : Int32)).toInt64) ((own_val p3 (3 : Int32)).toInt64) (own_row p1 (0 : Int32))))) + ((own_val p2 (1 : Int32)).toInt64 * (own_sel ((own_val p3 (0 : Int32)).toInt64) ((own_val p3 (1 : Int32)).toInt64) ((own_val p3 (2 : Int32)).toInt64) ((own_val p3 (3 : Int32)).toInt64) (own_row p1 (1 : Int32))))), ss] [(.int (2 : Int32)), (.ref a1685), (.long p2), (.long p1), (.ref a1897), (.long (((0 : Int64) + ((own_val p2 (0 : Int32)).toInt64 * (own_sel ((own_val p3 (0 : Int32)).toInt64) ((own_val p3 (1 : Int32)).toInt64) ((own_val p3 (2 : Int32)).toInt64) ((own_val p3 (3 : Int32)).toInt64) (own_row p1 (0 : Int32))))) + ((own_val p2 (1 : Int32)).toInt64 * (own_sel ((own_val p3 (0 : Int32)).toInt64) ((own_val p3 (1 : Int32)).toInt64) ((own_val p3 (2 : Int32)).toInt64) ((own_val p3 (3 : Int32)).toInt64) (own_row p1 (1 : Int32))))))])) rfl (by rw [hml]; rfl) (argsL := [(.ref a1897), (.long p1), (.long p2), (.ref a1685), (.int (2 : Int32))]) (rest := [(.long (((0 : Int64) + ((own_val p2 (0 : Int32)).toInt64 * (own_sel ((own_val p3 (0 : Int32)).toInt64) ((own_val p3 (1 : Int32)).toInt64) ((own_val p3 (2 : Int32)).toInt64) ((own_val p3 (3 : Int32)).toInt64) (own_row p1 (0 : Int32))))) + ((own_val p2 (1 : Int32)).toInt64 * (own_sel ((own_val p3 (0 : Int32)).toInt64) ((own_val p3 (1 : Int32)).toInt64) ((own_val p3 (2 : Int32)).toInt64) ((own_val p3 (3 : Int32)).toInt64) (own_row p1 (1 : Int32))))))]) (lenOf pd_20 rfl) rfl (by show 2 * 0 + _ ≤ _; exact Nat.le_of_eq rfl) (hb hby at_167) (fun _ _ => ⟨rfl, rfl, (by decide : 5 + 0 ≤ _), (by decide : 19 + 0 ≤ _)⟩)
    dsimp only [Pt.U, Pt.locs, Pt.cells, Pt.slots] at X2195 l2198 y2199 z2200 st2201 hQ2197
    subst l2198 y2199 z2200
    obtain ⟨rfl, N2202, K2205, g2206, g2207, g2208, g2209, g2210⟩ := hQ2197
    have N2211 := Fr.app N2179 N2202
    have Z2212 : n0 ≤ T2191.heap.size := Nat.le_trans Z2180 K2205.1
    have F2213 : own_A Z T2191.heap a1685 .long [(.long ((own_val p3 (0 : Int32)).toInt64)), (.long ((own_val p3 (1 : Int32)).toInt64)), (.long ((own_val p3 (2 : Int32)).toInt64)), (.long ((own_val p3 (3 : Int32)).toInt64))] := F2181.keep K2205 (ninS n1899 (ninS n1939 (ninS n1943 nin0)))
    clear F2181
    have F2214 : own_A Z T2191.heap a1816 .double [(.double (FP.l2d ((own_val p3 (0 : Int32)).toInt64))), (.double (FP.l2d ((own_val p3 (1 : Int32)).toInt64))), (.double (FP.l2d ((own_val p3 (2 : Int32)).toInt64))), (.double (FP.l2d ((own_val p3 (3 : Int32)).toInt64)))] := F2182.keep K2205 (ninS n1901 (ninS n1940 (ninS n1944 nin0)))
    clear F2182
    have F2215 : xa5 Z T2191.heap a1897 := F2183.keep K2205
    clear F2183
    clear g2174
    clear g2175
    clear g2176
    clear g2177
    clear g2178
    have k2221 : own_G p e below E0 T2191 (mkF m 170 #[vi p0, vj p1, ss, vj p2, ss, vj p3, ss, vi (3 : Int32), vr a1685, vr a1816, vr a1897, vj (((0 : Int64) + ((own_val p2 (0 : Int32)).toInt64 * (own_sel ((own_val p3 (0 : Int32)).toInt64) ((own_val p3 (1 : Int32)).toInt64) ((own_val p3 (2 : Int32)).toInt64) ((own_val p3 (3 : Int32)).toInt64) (own_row p1 (0 : Int32))))) + ((own_val p2 (1 : Int32)).toInt64 * (own_sel ((own_val p3 (0 : Int32)).toInt64) ((own_val p3 (1 : Int32)).toInt64) ((own_val p3 (2 : Int32)).toInt64) ((own_val p3 (3 : Int32)).toInt64) (own_row p1 (1 : Int32))))), ss] [(.long ((own_val p2 (2 : Int32)).toInt64 * (own_sel ((own_val p3 (0 : Int32)).toInt64) ((own_val p3 (1 : Int32)).toInt64) ((own_val p3 (2 : Int32)).toInt64) ((own_val p3 (3 : Int32)).toInt64) (own_row p1 (2 : Int32))))), (.long (((0 : Int64) + ((own_val p2 (0 : Int32)).toInt64 * (own_sel ((own_val p3 (0 : Int32)).toInt64) ((own_val p3 (1 : Int32)).toInt64) ((own_val p3 (2 : Int32)).toInt64) ((own_val p3 (3 : Int32)).toInt64) (own_row p1 (0 : Int32))))) + ((own_val p2 (1 : Int32)).toInt64 * (own_sel ((own_val p3 (0 : Int32)).toInt64) ((own_val p3 (1 : Int32)).toInt64) ((own_val p3 (2 : Int32)).toInt64) ((own_val p3 (3 : Int32)).toInt64) (own_row p1 (1 : Int32))))))]) := fun tQ kk => k2190 tQ (st2201 _ kk)
    clear k2190 st2201
    have k2222 : own_G p e below E0 T2191 (mkF m 219 #[vi p0, vj p1, ss, vj p2, ss, vj p3, ss, vi (3 : Int32), vr a1685, vr a1816, vr a1897, vj ((((0 : Int64) + ((own_val p2 (0 : Int32)).toInt64 * (own_sel ((own_val p3 (0 : Int32)).toInt64) ((own_val p3 (1 : Int32)).toInt64) ((own_val p3 (2 : Int32)).toInt64) ((own_val p3 (3 : Int32)).toInt64) (own_row p1 (0 : Int32))))) + ((own_val p2 (1 : Int32)).toInt64 * (own_sel ((own_val p3 (0 : Int32)).toInt64) ((own_val p3 (1 : Int32)).toInt64) ((own_val p3 (2 : Int32)).toInt64) ((own_val p3 (3 : Int32)).toInt64) (own_row p1 (1 : Int32))))) + ((own_val p2 (2 : Int32)).toInt64 * (own_sel ((own_val p3 (0 : Int32)).toInt64) ((own_val p3 (1 : Int32)).toInt64) ((own_val p3 (2 : Int32)).toInt64) ((own_val p3 (3 : Int32)).toInt64) (own_row p1 (2 : Int32))))), ss] [(.ref a1816), (.ref a1897)]) := by
      intro tQ kk
      refine k2221 tQ ?_
      refine XT.ladd X2195.here hx rfl (hb hby at_170) rfl ?_
      refine XT.lstore X2195.here hx rfl (hb hby at_171) rfl (l' := #[vi p0, vj p1, ss, vj p2, ss, vj p3, ss, vi (3 : Int32), vr a1685, vr a1816, vr a1897, vj ((((0 : Int64) + ((own_val p2 (0 : Int32)).toInt64 * (own_sel ((own_val p3 (0 : Int32)).toInt64) ((own_val p3 (1 : Int32)).toInt64) ((own_val p3 (2 : Int32)).toInt64) ((own_val p3 (3 : Int32)).toInt64) (own_row p1 (0 : Int32))))) + ((own_val p2 (1 : Int32)).toInt64 * (own_sel ((own_val p3 (0 : Int32)).toInt64) ((own_val p3 (1 : Int32)).toInt64) ((own_val p3 (2 : Int32)).toInt64) ((own_val p3 (3 : Int32)).toInt64) (own_row p1 (1 : Int32))))) + ((own_val p2 (2 : Int32)).toInt64 * (own_sel ((own_val p3 (0 : Int32)).toInt64) ((own_val p3 (1 : Int32)).toInt64) ((own_val p3 (2 : Int32)).toInt64) ((own_val p3 (3 : Int32)).toInt64) (own_row p1 (2 : Int32))))), ss]) rfl ?_
      refine XS.iload X2195.here hx rfl (hb hby at_173) rfl ?_
      refine XS.iconst X2195.here hx rfl (hb hby at_175) ?_
      show Steps p.tables e below (T2191.setTop (mkF m 176 #[vi p0, vj p1, ss, vj p2, ss, vj p3, ss, vi (3 : Int32), vr a1685, vr a1816, vr a1897, vj ((((0 : Int64) + ((own_val p2 (0 : Int32)).toInt64 * (own_sel ((own_val p3 (0 : Int32)).toInt64) ((own_val p3 (1 : Int32)).toInt64) ((own_val p3 (2 : Int32)).toInt64) ((own_val p3 (3 : Int32)).toInt64) (own_row p1 (0 : Int32))))) + ((own_val p2 (1 : Int32)).toInt64 * (own_sel ((own_val p3 (0 : Int32)).toInt64) ((own_val p3 (1 : Int32)).toInt64) ((own_val p3 (2 : Int32)).toInt64) ((own_val p3 (3 : Int32)).toInt64) (own_row p1 (1 : Int32))))) + ((own_val p2 (2 : Int32)).toInt64 * (own_sel ((own_val p3 (0 : Int32)).toInt64) ((own_val p3 (1 : Int32)).toInt64) ((own_val p3 (2 : Int32)).toInt64) ((own_val p3 (3 : Int32)).toInt64) (own_row p1 (2 : Int32))))), ss] [(.int (3 : Int32)), (.int (3 : Int32))])) tQ
      refine XS.icmpYes X2195.here hx rfl (pc0 := 176) (pc' := 194) rfl (hb hby at_176) rfl (own_ic_leY (by decide)) (by decide) (by decide) ?_
      refine XS.iload X2195.here hx rfl (hb hby at_194) rfl ?_
      refine XS.iconst X2195.here hx rfl (hb hby at_196) ?_
      refine XS.icmpYes X2195.here hx rfl (pc0 := 197) (pc' := 215) rfl (hb hby at_197) rfl (own_ic_leY (by decide)) (by decide) (by decide) ?_
      show Steps p.tables e below (T2191.setTop (mkF m 215 #[vi p0, vj p1, ss, vj p2, ss, vj p3, ss, vi (3 : Int32), vr a1685, vr a1816, vr a1897, vj ((((0 : Int64) + ((own_val p2 (0 : Int32)).toInt64 * (own_sel ((own_val p3 (0 : Int32)).toInt64) ((own_val p3 (1 : Int32)).toInt64) ((own_val p3 (2 : Int32)).toInt64) ((own_val p3 (3 : Int32)).toInt64) (own_row p1 (0 : Int32))))) + ((own_val p2 (1 : Int32)).toInt64 * (own_sel ((own_val p3 (0 : Int32)).toInt64) ((own_val p3 (1 : Int32)).toInt64) ((own_val p3 (2 : Int32)).toInt64) ((own_val p3 (3 : Int32)).toInt64) (own_row p1 (1 : Int32))))) + ((own_val p2 (2 : Int32)).toInt64 * (own_sel ((own_val p3 (0 : Int32)).toInt64) ((own_val p3 (1 : Int32)).toInt64) ((own_val p3 (2 : Int32)).toInt64) ((own_val p3 (3 : Int32)).toInt64) (own_row p1 (2 : Int32))))), ss] [])) tQ
      refine XS.aload X2195.here hx rfl (hb hby at_215) rfl rfl ?_
      refine XS.aload X2195.here hx rfl (hb hby at_217) rfl rfl ?_
      exact kk
    clear k2221
    obtain ⟨cq2234, kq2235, qa2236, qb2237, qc2238⟩ := isOf hZ rfl F2215
    obtain ⟨_, _, ⟨T2223, L2224, kc2225, nc2226⟩, -, X2227, ⟨Lc2228, hQ2229, l2230, y2231, z2232⟩, st2233⟩ := X2195.virtualBack hx (y := mn17) (z := mn17) hown (mvT hZ (tw22 hw)) (mvT hZ (tw23 hw)) (notFace_of_selects (args := #[]) (mvT hZ (tw25 hw))) (mvT hZ (tw25 hw)) (mvT hZ (tw24 hw)) (by decide) (backOf (W := 0) (rmD3 l Z a0 hw [] a1897 a1816 r1926 q1927 (own_row p1 (0 : Int32)) (own_row p1 (1 : Int32)) (own_row p1 (2 : Int32)) (FP.i2d (own_val p2 (0 : Int32))) (FP.i2d (own_val p2 (1 : Int32))) (FP.i2d (own_val p2 (2 : Int32))) (FP.l2d ((own_val p3 (0 : Int32)).toInt64)) (FP.l2d ((own_val p3 (1 : Int32)).toInt64)) (FP.l2d ((own_val p3 (2 : Int32)).toInt64)) (FP.l2d ((own_val p3 (3 : Int32)).toInt64)) (own_val p2 (0 : Int32)).toInt (own_val p2 (1 : Int32)).toInt (own_val p2 (2 : Int32)).toInt (own_sel (own_val p3 (0 : Int32)).toInt64 (own_val p3 (1 : Int32)).toInt64 (own_val p3 (2 : Int32)).toInt64 (own_val p3 (3 : Int32)).toInt64 (own_row p1 (0 : Int32))).toInt (own_sel (own_val p3 (0 : Int32)).toInt64 (own_val p3 (1 : Int32)).toInt64 (own_val p3 (2 : Int32)).toInt64 (own_val p3 (3 : Int32)).toInt64 (own_row p1 (1 : Int32))).toInt (own_sel (own_val p3 (0 : Int32)).toInt64 (own_val p3 (1 : Int32)).toInt64 (own_val p3 (2 : Int32)).toInt64 (own_val p3 (3 : Int32)).toInt64 (own_row p1 (2 : Int32))).toInt T2191.heap n0 Z2212 g2206 g2207 g2208 g2209 g2210 F2214 (own_rowc p1 (0 : Int32)) (FP.Core.i2d_int (own_val p2 (0 : Int32))) (own_selDI p3 (own_rowc p1 (0 : Int32))) (own_vb p2 (0 : Int32)) (own_selb p3 (own_rowc p1 (0 : Int32))) (own_rowc p1 (1 : Int32)) (FP.Core.i2d_int (own_val p2 (1 : Int32))) (own_selDI p3 (own_rowc p1 (1 : Int32))) (own_vb p2 (1 : Int32)) (own_selb p3 (own_rowc p1 (1 : Int32))) (own_rowc p1 (2 : Int32)) (FP.Core.i2d_int (own_val p2 (2 : Int32))) (own_selDI p3 (own_rowc p1 (2 : Int32))) (own_vb p2 (2 : Int32)) (own_selb p3 (own_rowc p1 (2 : Int32)))) hZ (tw26 hw) (tw10 hw) (by decide) (by decide)) qa2236 qc2238 (g := (mkF m 219 #[vi p0, vj p1, ss, vj p2, ss, vj p3, ss, vi (3 : Int32), vr a1685, vr a1816, vr a1897, vj ((((0 : Int64) + ((own_val p2 (0 : Int32)).toInt64 * (own_sel ((own_val p3 (0 : Int32)).toInt64) ((own_val p3 (1 : Int32)).toInt64) ((own_val p3 (2 : Int32)).toInt64) ((own_val p3 (3 : Int32)).toInt64) (own_row p1 (0 : Int32))))) + ((own_val p2 (1 : Int32)).toInt64 * (own_sel ((own_val p3 (0 : Int32)).toInt64) ((own_val p3 (1 : Int32)).toInt64) ((own_val p3 (2 : Int32)).toInt64) ((own_val p3 (3 : Int32)).toInt64) (own_row p1 (1 : Int32))))) + ((own_val p2 (2 : Int32)).toInt64 * (own_sel ((own_val p3 (0 : Int32)).toInt64) ((own_val p3 (1 : Int32)).toInt64) ((own_val p3 (2 : Int32)).toInt64) ((own_val p3 (3 : Int32)).toInt64) (own_row p1 (2 : Int32))))), ss] [(.ref a1816), (.ref a1897)])) rfl (by rw [hml]; rfl) (Steps.refl _) (argsL := [(.ref a1816)]) (rest := []) (lenOf pd_19 rfl) rfl (by show 2 * 0 + _ ≤ _; exact Nat.le_of_eq rfl) (hb hby at_219) (fun _ _ => ⟨rfl, rfl, (by decide : 5 + 0 ≤ _), (by decide : 19 + 0 ≤ _)⟩)
    dsimp only [Pt.U, Pt.locs, Pt.cells, Pt.slots] at X2227 l2230 y2231 z2232 st2233 hQ2229
    subst l2230 y2231 z2232
    obtain ⟨s2242, rfl, N2239, e2240, g2243⟩ := hQ2229
    have N2244 := Fr.app N2211 N2239
    have k2245 : own_G p e below E0 T2223 (mkF m 222 #[vi p0, vj p1, ss, vj p2, ss, vj p3, ss, vi (3 : Int32), vr a1685, vr a1816, vr a1897, vj ((((0 : Int64) + ((own_val p2 (0 : Int32)).toInt64 * (own_sel ((own_val p3 (0 : Int32)).toInt64) ((own_val p3 (1 : Int32)).toInt64) ((own_val p3 (2 : Int32)).toInt64) ((own_val p3 (3 : Int32)).toInt64) (own_row p1 (0 : Int32))))) + ((own_val p2 (1 : Int32)).toInt64 * (own_sel ((own_val p3 (0 : Int32)).toInt64) ((own_val p3 (1 : Int32)).toInt64) ((own_val p3 (2 : Int32)).toInt64) ((own_val p3 (3 : Int32)).toInt64) (own_row p1 (1 : Int32))))) + ((own_val p2 (2 : Int32)).toInt64 * (own_sel ((own_val p3 (0 : Int32)).toInt64) ((own_val p3 (1 : Int32)).toInt64) ((own_val p3 (2 : Int32)).toInt64) ((own_val p3 (3 : Int32)).toInt64) (own_row p1 (2 : Int32))))), ss] [(.double s2242)]) := fun tQ kk => k2222 tQ (st2233.trans kk)
    clear k2222 st2233
    have k2246 : own_G p e below E0 T2223 (mkF m 234 #[vi p0, vj p1, ss, vj p2, ss, vj p3, ss, vi (3 : Int32), vr a1685, vr a1816, vr a1897, vj ((((0 : Int64) + ((own_val p2 (0 : Int32)).toInt64 * (own_sel ((own_val p3 (0 : Int32)).toInt64) ((own_val p3 (1 : Int32)).toInt64) ((own_val p3 (2 : Int32)).toInt64) ((own_val p3 (3 : Int32)).toInt64) (own_row p1 (0 : Int32))))) + ((own_val p2 (1 : Int32)).toInt64 * (own_sel ((own_val p3 (0 : Int32)).toInt64) ((own_val p3 (1 : Int32)).toInt64) ((own_val p3 (2 : Int32)).toInt64) ((own_val p3 (3 : Int32)).toInt64) (own_row p1 (1 : Int32))))) + ((own_val p2 (2 : Int32)).toInt64 * (own_sel ((own_val p3 (0 : Int32)).toInt64) ((own_val p3 (1 : Int32)).toInt64) ((own_val p3 (2 : Int32)).toInt64) ((own_val p3 (3 : Int32)).toInt64) (own_row p1 (2 : Int32))))), ss] [(.int (1 : Int32))]) := by
      intro tQ kk
      refine k2245 tQ ?_
      refine XT.lload X2227.here hx rfl (hb hby at_222) rfl ?_
      refine XS.l2dS X2227.here hx rfl (hb hby at_224) rfl rfl ?_
      refine XS.dcmpS (v := (0 : Int32)) X2227.here hx rfl (hb hby at_225) rfl (own_eq0 .l g2243 (own_dl _ (own_ra (own_ra (own_ra (show (0 : Int64).toInt = 0 from rfl) (by have := own_p9 (own_vb p2 (0 : Int32)) (own_selb p3 (own_rowc p1 (0 : Int32))); have := own_p9 (own_vb p2 (1 : Int32)) (own_selb p3 (own_rowc p1 (1 : Int32))); have := own_p9 (own_vb p2 (2 : Int32)) (own_selb p3 (own_rowc p1 (2 : Int32))); omega) (own_vb p2 (0 : Int32)) (own_selb p3 (own_rowc p1 (0 : Int32)))) (by have := own_p9 (own_vb p2 (0 : Int32)) (own_selb p3 (own_rowc p1 (0 : Int32))); have := own_p9 (own_vb p2 (1 : Int32)) (own_selb p3 (own_rowc p1 (1 : Int32))); have := own_p9 (own_vb p2 (2 : Int32)) (own_selb p3 (own_rowc p1 (2 : Int32))); omega) (own_vb p2 (1 : Int32)) (own_selb p3 (own_rowc p1 (1 : Int32)))) (by have := own_p9 (own_vb p2 (0 : Int32)) (own_selb p3 (own_rowc p1 (0 : Int32))); have := own_p9 (own_vb p2 (1 : Int32)) (own_selb p3 (own_rowc p1 (1 : Int32))); have := own_p9 (own_vb p2 (2 : Int32)) (own_selb p3 (own_rowc p1 (2 : Int32))); omega) (own_vb p2 (2 : Int32)) (own_selb p3 (own_rowc p1 (2 : Int32)))) (own_s7 (by have := own_p9 (own_vb p2 (0 : Int32)) (own_selb p3 (own_rowc p1 (0 : Int32))); have := own_p9 (own_vb p2 (1 : Int32)) (own_selb p3 (own_rowc p1 (1 : Int32))); have := own_p9 (own_vb p2 (2 : Int32)) (own_selb p3 (own_rowc p1 (2 : Int32))); omega) (by have := own_p9 (own_vb p2 (0 : Int32)) (own_selb p3 (own_rowc p1 (0 : Int32))); have := own_p9 (own_vb p2 (1 : Int32)) (own_selb p3 (own_rowc p1 (1 : Int32))); have := own_p9 (own_vb p2 (2 : Int32)) (own_selb p3 (own_rowc p1 (2 : Int32))); omega)))) ?_
      refine XS.ifNo X2227.here hx rfl (hb hby at_226) rfl (own_if_neN (by decide)) ?_
      show Steps p.tables e below (T2223.setTop (mkF m 229 #[vi p0, vj p1, ss, vj p2, ss, vj p3, ss, vi (3 : Int32), vr a1685, vr a1816, vr a1897, vj ((((0 : Int64) + ((own_val p2 (0 : Int32)).toInt64 * (own_sel ((own_val p3 (0 : Int32)).toInt64) ((own_val p3 (1 : Int32)).toInt64) ((own_val p3 (2 : Int32)).toInt64) ((own_val p3 (3 : Int32)).toInt64) (own_row p1 (0 : Int32))))) + ((own_val p2 (1 : Int32)).toInt64 * (own_sel ((own_val p3 (0 : Int32)).toInt64) ((own_val p3 (1 : Int32)).toInt64) ((own_val p3 (2 : Int32)).toInt64) ((own_val p3 (3 : Int32)).toInt64) (own_row p1 (1 : Int32))))) + ((own_val p2 (2 : Int32)).toInt64 * (own_sel ((own_val p3 (0 : Int32)).toInt64) ((own_val p3 (1 : Int32)).toInt64) ((own_val p3 (2 : Int32)).toInt64) ((own_val p3 (3 : Int32)).toInt64) (own_row p1 (2 : Int32))))), ss] [])) tQ
      refine XS.iconst X2227.here hx rfl (hb hby at_229) ?_
      refine XS.goto X2227.here hx rfl (pc0 := 230) (pc' := 234) rfl (hb hby at_230) (by decide) (by decide) ?_
      exact kk
    clear k2245
    obtain ⟨fs, hr, hrun, hended, hW, hsame⟩ := X2227.leave (v := some (.int (1 : Int32))) (fun h => by rw [Bd.returns] at h; cases h)
    have hrun0 := k2246 _ (retOut X2227 hx Bd.returns (t := .boolean) rfl (Or.inl ⟨rfl, Or.inr (Or.inl rfl), _, rfl⟩) (hb hby at_234) hr)
    subst hE0
    refine ⟨_, _, hrun0, hrun, hended, _, _, rfl, ?_, ⟨_, rfl⟩, hW, hsame.mono (by decide) (by decide)⟩
    show Qrm0 Z p0 p1 p2 p3 h0 n0 _ T2223.heap _
    rw [e2240]
    exact ⟨rfl, N2244⟩
  · skip
    have k2247 : own_G p e below E0 T1912 (mkF m 125 #[vi p0, vj p1, ss, vj p2, ss, vj p3, ss, vi (4 : Int32), vr a1685, vr a1816, vr a1897, vj (0 : Int64), ss] [(.int (0 : Int32)), (.ref a1685), (.long p2), (.long p1), (.ref a1897), (.long (0 : Int64))]) := by
      intro tQ kk
      refine k1954 tQ ?_
      refine XS.iload X1916.here hx rfl (hb hby at_111) rfl ?_
      refine XS.ifNo X1916.here hx rfl (hb hby at_113) rfl (own_if_leN (by decide)) ?_
      refine XT.lload X1916.here hx rfl (hb hby at_116) rfl ?_
      refine XS.aload X1916.here hx rfl (hb hby at_118) rfl rfl ?_
      show Steps p.tables e below (T1912.setTop (mkF m 120 #[vi p0, vj p1, ss, vj p2, ss, vj p3, ss, vi (4 : Int32), vr a1685, vr a1816, vr a1897, vj (0 : Int64), ss] [(.ref a1897), (.long (0 : Int64))])) tQ
      refine XT.lloadN X1916.here hx rfl (hb hby at_120) rfl ?_
      refine XT.lloadN X1916.here hx rfl (hb hby at_121) rfl ?_
      refine XS.aload X1916.here hx rfl (hb hby at_122) rfl rfl ?_
      refine XS.iconst X1916.here hx rfl (hb hby at_124) ?_
      exact kk
    clear k1954
    obtain ⟨_, _, ⟨T2248, L2249, kc2250, nc2251⟩, -, X2252, ⟨Lc2253, hQ2254, l2255, y2256, z2257⟩, st2258⟩ := Jvm.LawKit.callS X1916 hx (y := mn14) hown (mvT hZ (tw29 hw)) (mvT hZ (tw30 hw)) (mvT hZ (tw4 hw)) (mvT hZ (tw31 hw)) (by decide) (backOf (W := 2) (rmO0 l Z a0 hw [] a1897 p1 p2 a1685 r1926 q1927 (0 : Int32) (0 : Int32) (0 : Int32) (0 : Int32) (0 : UInt64) (0 : UInt64) (0 : UInt64) (0 : UInt64) ((own_val p3 (0 : Int32)).toInt64) ((own_val p3 (1 : Int32)).toInt64) ((own_val p3 (2 : Int32)).toInt64) ((own_val p3 (3 : Int32)).toInt64) T1912.heap n0 Z1946 F1949 g1929 g1930 g1931 g1932 g1933 F1947 n1941 n1945 n1936 n1899 n1939 n1943 ge1903 ge1938 ge1942) hZ (tw31 hw) (tw4 hw) (by decide) (by decide)) (g := (mkF m 125 #[vi p0, vj p1, ss, vj p2, ss, vj p3, ss, vi (4 : Int32), vr a1685, vr a1816, vr a1897, vj (0 : Int64), ss] [(.int (0 : Int32)), (.ref a1685), (.long p2), (.long p1), (.ref a1897), (.long (0 : Int64))])) rfl (by rw [hml]; rfl) (argsL := [(.ref a1897), (.long p1), (.long p2), (.ref a1685), (.int (0 : Int32))]) (rest := [(.long (0 : Int64))]) (lenOf pd_20 rfl) rfl (by show 2 * 0 + _ ≤ _; exact Nat.le_of_eq rfl) (hb hby at_125) (fun _ _ => ⟨rfl, rfl, (by decide : 5 + 0 ≤ _), (by decide : 19 + 0 ≤ _)⟩)
    dsimp only [Pt.U, Pt.locs, Pt.cells, Pt.slots] at X2252 l2255 y2256 z2257 st2258 hQ2254
    subst l2255 y2256 z2257
    obtain ⟨rfl, N2259, K2262, g2263, g2264, g2265, g2266, g2267⟩ := hQ2254
    have N2268 := Fr.app N1937 N2259
    have Z2269 : n0 ≤ T2248.heap.size := Nat.le_trans Z1946 K2262.1
    have F2270 : own_A Z T2248.heap a1685 .long [(.long ((own_val p3 (0 : Int32)).toInt64)), (.long ((own_val p3 (1 : Int32)).toInt64)), (.long ((own_val p3 (2 : Int32)).toInt64)), (.long ((own_val p3 (3 : Int32)).toInt64))] := F1947.keep K2262 (ninS n1899 (ninS n1939 (ninS n1943 nin0)))
    clear F1947
    have F2271 : own_A Z T2248.heap a1816 .double [(.double (FP.l2d ((own_val p3 (0 : Int32)).toInt64))), (.double (FP.l2d ((own_val p3 (1 : Int32)).toInt64))), (.double (FP.l2d ((own_val p3 (2 : Int32)).toInt64))), (.double (FP.l2d ((own_val p3 (3 : Int32)).toInt64)))] := F1948.keep K2262 (ninS n1901 (ninS n1940 (ninS n1944 nin0)))
    clear F1948
    have F2272 : xa5 Z T2248.heap a1897 := F1949.keep K2262
    clear F1949
    clear g1929
    clear g1930
    clear g1931
    clear g1932
    clear g1933
    have k2278 : own_G p e below E0 T2248 (mkF m 128 #[vi p0, vj p1, ss, vj p2, ss, vj p3, ss, vi (4 : Int32), vr a1685, vr a1816, vr a1897, vj (0 : Int64), ss] [(.long ((own_val p2 (0 : Int32)).toInt64 * (own_sel ((own_val p3 (0 : Int32)).toInt64) ((own_val p3 (1 : Int32)).toInt64) ((own_val p3 (2 : Int32)).toInt64) ((own_val p3 (3 : Int32)).toInt64) (own_row p1 (0 : Int32))))), (.long (0 : Int64))]) := fun tQ kk => k2247 tQ (st2258 _ kk)
    clear k2247 st2258
    have k2279 : own_G p e below E0 T2248 (mkF m 146 #[vi p0, vj p1, ss, vj p2, ss, vj p3, ss, vi (4 : Int32), vr a1685, vr a1816, vr a1897, vj ((0 : Int64) + ((own_val p2 (0 : Int32)).toInt64 * (own_sel ((own_val p3 (0 : Int32)).toInt64) ((own_val p3 (1 : Int32)).toInt64) ((own_val p3 (2 : Int32)).toInt64) ((own_val p3 (3 : Int32)).toInt64) (own_row p1 (0 : Int32))))), ss] [(.int (1 : Int32)), (.ref a1685), (.long p2), (.long p1), (.ref a1897), (.long ((0 : Int64) + ((own_val p2 (0 : Int32)).toInt64 * (own_sel ((own_val p3 (0 : Int32)).toInt64) ((own_val p3 (1 : Int32)).toInt64) ((own_val p3 (2 : Int32)).toInt64) ((own_val p3 (3 : Int32)).toInt64) (own_row p1 (0 : Int32))))))]) := by
      intro tQ kk
      refine k2278 tQ ?_
      refine XT.ladd X2252.here hx rfl (hb hby at_128) rfl ?_
      refine XT.lstore X2252.here hx rfl (hb hby at_129) rfl (l' := #[vi p0, vj p1, ss, vj p2, ss, vj p3, ss, vi (4 : Int32), vr a1685, vr a1816, vr a1897, vj ((0 : Int64) + ((own_val p2 (0 : Int32)).toInt64 * (own_sel ((own_val p3 (0 : Int32)).toInt64) ((own_val p3 (1 : Int32)).toInt64) ((own_val p3 (2 : Int32)).toInt64) ((own_val p3 (3 : Int32)).toInt64) (own_row p1 (0 : Int32))))), ss]) rfl ?_
      refine XS.iload X2252.here hx rfl (hb hby at_131) rfl ?_
      refine XS.iconst X2252.here hx rfl (hb hby at_133) ?_
      show Steps p.tables e below (T2248.setTop (mkF m 134 #[vi p0, vj p1, ss, vj p2, ss, vj p3, ss, vi (4 : Int32), vr a1685, vr a1816, vr a1897, vj ((0 : Int64) + ((own_val p2 (0 : Int32)).toInt64 * (own_sel ((own_val p3 (0 : Int32)).toInt64) ((own_val p3 (1 : Int32)).toInt64) ((own_val p3 (2 : Int32)).toInt64) ((own_val p3 (3 : Int32)).toInt64) (own_row p1 (0 : Int32))))), ss] [(.int (1 : Int32)), (.int (4 : Int32))])) tQ
      refine XS.icmpNo X2252.here hx rfl (hb hby at_134) rfl (own_ic_leN (by decide)) ?_
      refine XT.lload X2252.here hx rfl (hb hby at_137) rfl ?_
      refine XS.aload X2252.here hx rfl (hb hby at_139) rfl rfl ?_
      refine XT.lloadN X2252.here hx rfl (hb hby at_141) rfl ?_
      show Steps p.tables e below (T2248.setTop (mkF m 142 #[vi p0, vj p1, ss, vj p2, ss, vj p3, ss, vi (4 : Int32), vr a1685, vr a1816, vr a1897, vj ((0 : Int64) + ((own_val p2 (0 : Int32)).toInt64 * (own_sel ((own_val p3 (0 : Int32)).toInt64) ((own_val p3 (1 : Int32)).toInt64) ((own_val p3 (2 : Int32)).toInt64) ((own_val p3 (3 : Int32)).toInt64) (own_row p1 (0 : Int32))))), ss] [(.long p1), (.ref a1897), (.long ((0 : Int64) + ((own_val p2 (0 : Int32)).toInt64 * (own_sel ((own_val p3 (0 : Int32)).toInt64) ((own_val p3 (1 : Int32)).toInt64) ((own_val p3 (2 : Int32)).toInt64) ((own_val p3 (3 : Int32)).toInt64) (own_row p1 (0 : Int32))))))])) tQ
      refine XT.lloadN X2252.here hx rfl (hb hby at_142) rfl ?_
      refine XS.aload X2252.here hx rfl (hb hby at_143) rfl rfl ?_
      refine XS.iconst X2252.here hx rfl (hb hby at_145) ?_
      exact kk
    clear k2278
    obtain ⟨_, _, ⟨T2280, L2281, kc2282, nc2283⟩, -, X2284, ⟨Lc2285, hQ2286, l2287, y2288, z2289⟩, st2290⟩ := Jvm.LawKit.callS X2252 hx (y := mn14) hown (mvT hZ (tw29 hw)) (mvT hZ (tw30 hw)) (mvT hZ (tw4 hw)) (mvT hZ (tw31 hw)) (by decide) (backOf (W := 2) (rmO1 l Z a0 hw [] a1897 p1 p2 a1685 r1926 q1927 (own_row p1 (0 : Int32)) (0 : Int32) (0 : Int32) (0 : Int32) (FP.i2d (own_val p2 (0 : Int32))) (0 : UInt64) (0 : UInt64) (0 : UInt64) ((own_val p3 (0 : Int32)).toInt64) ((own_val p3 (1 : Int32)).toInt64) ((own_val p3 (2 : Int32)).toInt64) ((own_val p3 (3 : Int32)).toInt64) T2248.heap n0 Z2269 F2272 g2263 g2264 g2265 g2266 g2267 F2270 n1941 n1945 n1936 n1899 n1939 n1943 ge1903 ge1938 ge1942) hZ (tw31 hw) (tw4 hw) (by decide) (by decide)) (g := (mkF m 146 #[vi p0, vj p1, ss, vj p2, ss, vj p3, ss, vi (4 : Int32), vr a1685, vr a1816, vr a1897, vj ((0 : Int64) + ((own_val p2 (0 : Int32)).toInt64 * (own_sel ((own_val p3 (0 : Int32)).toInt64) ((own_val p3 (1 : Int32)).toInt64) ((own_val p3 (2 : Int32)).toInt64) ((own_val p3 (3 : Int32)).toInt64) (own_row p1 (0 : Int32))))), ss] [(.int (1 : Int32)), (.ref a1685), (.long p2), (.long p1), (.ref a1897), (.long ((0 : Int64) + ((own_val p2 (0 : Int32)).toInt64 * (own_sel ((own_val p3 (0 : Int32)).toInt64) ((own_val p3 (1 : Int32)).toInt64) ((own_val p3 (2 : Int32)).toInt64) ((own_val p3 (3 : Int32)).toInt64) (own_row p1 (0 : Int32))))))])) rfl (by rw [hml]; rfl) (argsL := [(.ref a1897), (.long p1), (.long p2), (.ref a1685), (.int (1 : Int32))]) (rest := [(.long ((0 : Int64) + ((own_val p2 (0 : Int32)).toInt64 * (own_sel ((own_val p3 (0 : Int32)).toInt64) ((own_val p3 (1 : Int32)).toInt64) ((own_val p3 (2 : Int32)).toInt64) ((own_val p3 (3 : Int32)).toInt64) (own_row p1 (0 : Int32))))))]) (lenOf pd_20 rfl) rfl (by show 2 * 0 + _ ≤ _; exact Nat.le_of_eq rfl) (hb hby at_146) (fun _ _ => ⟨rfl, rfl, (by decide : 5 + 0 ≤ _), (by decide : 19 + 0 ≤ _)⟩)
    dsimp only [Pt.U, Pt.locs, Pt.cells, Pt.slots] at X2284 l2287 y2288 z2289 st2290 hQ2286
    subst l2287 y2288 z2289
    obtain ⟨rfl, N2291, K2294, g2295, g2296, g2297, g2298, g2299⟩ := hQ2286
    have N2300 := Fr.app N2268 N2291
    have Z2301 : n0 ≤ T2280.heap.size := Nat.le_trans Z2269 K2294.1
    have F2302 : own_A Z T2280.heap a1685 .long [(.long ((own_val p3 (0 : Int32)).toInt64)), (.long ((own_val p3 (1 : Int32)).toInt64)), (.long ((own_val p3 (2 : Int32)).toInt64)), (.long ((own_val p3 (3 : Int32)).toInt64))] := F2270.keep K2294 (ninS n1899 (ninS n1939 (ninS n1943 nin0)))
    clear F2270
    have F2303 : own_A Z T2280.heap a1816 .double [(.double (FP.l2d ((own_val p3 (0 : Int32)).toInt64))), (.double (FP.l2d ((own_val p3 (1 : Int32)).toInt64))), (.double (FP.l2d ((own_val p3 (2 : Int32)).toInt64))), (.double (FP.l2d ((own_val p3 (3 : Int32)).toInt64)))] := F2271.keep K2294 (ninS n1901 (ninS n1940 (ninS n1944 nin0)))
    clear F2271
    have F2304 : xa5 Z T2280.heap a1897 := F2272.keep K2294
    clear F2272
    clear g2263
    clear g2264
    clear g2265
    clear g2266
    clear g2267
    have k2310 : own_G p e below E0 T2280 (mkF m 149 #[vi p0, vj p1, ss, vj p2, ss, vj p3, ss, vi (4 : Int32), vr a1685, vr a1816, vr a1897, vj ((0 : Int64) + ((own_val p2 (0 : Int32)).toInt64 * (own_sel ((own_val p3 (0 : Int32)).toInt64) ((own_val p3 (1 : Int32)).toInt64) ((own_val p3 (2 : Int32)).toInt64) ((own_val p3 (3 : Int32)).toInt64) (own_row p1 (0 : Int32))))), ss] [(.long ((own_val p2 (1 : Int32)).toInt64 * (own_sel ((own_val p3 (0 : Int32)).toInt64) ((own_val p3 (1 : Int32)).toInt64) ((own_val p3 (2 : Int32)).toInt64) ((own_val p3 (3 : Int32)).toInt64) (own_row p1 (1 : Int32))))), (.long ((0 : Int64) + ((own_val p2 (0 : Int32)).toInt64 * (own_sel ((own_val p3 (0 : Int32)).toInt64) ((own_val p3 (1 : Int32)).toInt64) ((own_val p3 (2 : Int32)).toInt64) ((own_val p3 (3 : Int32)).toInt64) (own_row p1 (0 : Int32))))))]) := fun tQ kk => k2279 tQ (st2290 _ kk)
    clear k2279 st2290
    have k2311 : own_G p e below E0 T2280 (mkF m 167 #[vi p0, vj p1, ss, vj p2, ss, vj p3, ss, vi (4 : Int32), vr a1685, vr a1816, vr a1897, vj (((0 : Int64) + ((own_val p2 (0 : Int32)).toInt64 * (own_sel ((own_val p3 (0 : Int32)).toInt64) ((own_val p3 (1 : Int32)).toInt64) ((own_val p3 (2 : Int32)).toInt64) ((own_val p3 (3 : Int32)).toInt64) (own_row p1 (0 : Int32))))) + ((own_val p2 (1 : Int32)).toInt64 * (own_sel ((own_val p3 (0 : Int32)).toInt64) ((own_val p3 (1 : Int32)).toInt64) ((own_val p3 (2 : Int32)).toInt64) ((own_val p3 (3 : Int32)).toInt64) (own_row p1 (1 : Int32))))), ss] [(.int (2 : Int32)), (.ref a1685), (.long p2), (.long p1), (.ref a1897), (.long (((0 : Int64) + ((own_val p2 (0 : Int32)).toInt64 * (own_sel ((own_val p3 (0 : Int32)).toInt64) ((own_val p3 (1 : Int32)).toInt64) ((own_val p3 (2 : Int32)).toInt64) ((own_val p3 (3 : Int32)).toInt64) (own_row p1 (0 : Int32))))) + ((own_val p2 (1 : Int32)).toInt64 * (own_sel ((own_val p3 (0 : Int32)).toInt64) ((own_val p3 (1 : Int32)).toInt64) ((own_val p3 (2 : Int32)).toInt64) ((own_val p3 (3 : Int32)).toInt64) (own_row p1 (1 : Int32))))))]) := by
      intro tQ kk
      refine k2310 tQ ?_
      refine XT.ladd X2284.here hx rfl (hb hby at_149) rfl ?_
      refine XT.lstore X2284.here hx rfl (hb hby at_150) rfl (l' := #[vi p0, vj p1, ss, vj p2, ss, vj p3, ss, vi (4 : Int32), vr a1685, vr a1816, vr a1897, vj (((0 : Int64) + ((own_val p2 (0 : Int32)).toInt64 * (own_sel ((own_val p3 (0 : Int32)).toInt64) ((own_val p3 (1 : Int32)).toInt64) ((own_val p3 (2 : Int32)).toInt64) ((own_val p3 (3 : Int32)).toInt64) (own_row p1 (0 : Int32))))) + ((own_val p2 (1 : Int32)).toInt64 * (own_sel ((own_val p3 (0 : Int32)).toInt64) ((own_val p3 (1 : Int32)).toInt64) ((own_val p3 (2 : Int32)).toInt64) ((own_val p3 (3 : Int32)).toInt64) (own_row p1 (1 : Int32))))), ss]) rfl ?_
      refine XS.iload X2284.here hx rfl (hb hby at_152) rfl ?_
      refine XS.iconst X2284.here hx rfl (hb hby at_154) ?_
      show Steps p.tables e below (T2280.setTop (mkF m 155 #[vi p0, vj p1, ss, vj p2, ss, vj p3, ss, vi (4 : Int32), vr a1685, vr a1816, vr a1897, vj (((0 : Int64) + ((own_val p2 (0 : Int32)).toInt64 * (own_sel ((own_val p3 (0 : Int32)).toInt64) ((own_val p3 (1 : Int32)).toInt64) ((own_val p3 (2 : Int32)).toInt64) ((own_val p3 (3 : Int32)).toInt64) (own_row p1 (0 : Int32))))) + ((own_val p2 (1 : Int32)).toInt64 * (own_sel ((own_val p3 (0 : Int32)).toInt64) ((own_val p3 (1 : Int32)).toInt64) ((own_val p3 (2 : Int32)).toInt64) ((own_val p3 (3 : Int32)).toInt64) (own_row p1 (1 : Int32))))), ss] [(.int (2 : Int32)), (.int (4 : Int32))])) tQ
      refine XS.icmpNo X2284.here hx rfl (hb hby at_155) rfl (own_ic_leN (by decide)) ?_
      refine XT.lload X2284.here hx rfl (hb hby at_158) rfl ?_
      refine XS.aload X2284.here hx rfl (hb hby at_160) rfl rfl ?_
      refine XT.lloadN X2284.here hx rfl (hb hby at_162) rfl ?_
      show Steps p.tables e below (T2280.setTop (mkF m 163 #[vi p0, vj p1, ss, vj p2, ss, vj p3, ss, vi (4 : Int32), vr a1685, vr a1816, vr a1897, vj (((0 : Int64) + ((own_val p2 (0 : Int32)).toInt64 * (own_sel ((own_val p3 (0 : Int32)).toInt64) ((own_val p3 (1 : Int32)).toInt64) ((own_val p3 (2 : Int32)).toInt64) ((own_val p3 (3 : Int32)).toInt64) (own_row p1 (0 : Int32))))) + ((own_val p2 (1 : Int32)).toInt64 * (own_sel ((own_val p3 (0 : Int32)).toInt64) ((own_val p3 (1 : Int32)).toInt64) ((own_val p3 (2 : Int32)).toInt64) ((own_val p3 (3 : Int32)).toInt64) (own_row p1 (1 : Int32))))), ss] [(.long p1), (.ref a1897), (.long (((0 : Int64) + ((own_val p2 (0 : Int32)).toInt64 * (own_sel ((own_val p3 (0 : Int32)).toInt64) ((own_val p3 (1 : Int32)).toInt64) ((own_val p3 (2 : Int32)).toInt64) ((own_val p3 (3 : Int32)).toInt64) (own_row p1 (0 : Int32))))) + ((own_val p2 (1 : Int32)).toInt64 * (own_sel ((own_val p3 (0 : Int32)).toInt64) ((own_val p3 (1 : Int32)).toInt64) ((own_val p3 (2 : Int32)).toInt64) ((own_val p3 (3 : Int32)).toInt64) (own_row p1 (1 : Int32))))))])) tQ
      refine XT.lloadN X2284.here hx rfl (hb hby at_163) rfl ?_
      refine XS.aload X2284.here hx rfl (hb hby at_164) rfl rfl ?_
      refine XS.iconst X2284.here hx rfl (hb hby at_166) ?_
      exact kk
    clear k2310
    obtain ⟨_, _, ⟨T2312, L2313, kc2314, nc2315⟩, -, X2316, ⟨Lc2317, hQ2318, l2319, y2320, z2321⟩, st2322⟩ := Jvm.LawKit.callS X2284 hx (y := mn14) hown (mvT hZ (tw29 hw)) (mvT hZ (tw30 hw)) (mvT hZ (tw4 hw)) (mvT hZ (tw31 hw)) (by decide) (backOf (W := 2) (rmO2 l Z a0 hw [] a1897 p1 p2 a1685 r1926 q1927 (own_row p1 (0 : Int32)) (own_row p1 (1 : Int32)) (0 : Int32) (0 : Int32) (FP.i2d (own_val p2 (0 : Int32))) (FP.i2d (own_val p2 (1 : Int32))) (0 : UInt64) (0 : UInt64) ((own_val p3 (0 : Int32)).toInt64) ((own_val p3 (1 : Int32)).toInt64) ((own_val p3 (2 : Int32)).toInt64) ((own_val p3 (3 : Int32)).toInt64) T2280.heap n0 Z2301 F2304 g2295 g2296 g2297 g2298 g2299 F2302 n1941 n1945 n1936 n1899 n1939 n1943 ge1903 ge1938 ge1942) hZ (tw31 hw) (tw4 hw) (by decide) (by decide)) (g := (mkF m 167 #[vi p0, vj p1, ss, vj p2, ss, vj p3, ss, vi (4 : Int32), vr a1685, vr a1816, vr a1897, vj (((0 : Int64) + ((own_val p2 (0 : Int32)).toInt64 * (own_sel ((own_val p3 (0 : Int32)).toInt64) ((own_val p3 (1 : Int32)).toInt64) ((own_val p3 (2 : Int32)).toInt64) ((own_val p3 (3 : Int32)).toInt64) (own_row p1 (0 : Int32))))) + ((own_val p2 (1 : Int32)).toInt64 * (own_sel ((own_val p3 (0 : Int32)).toInt64) ((own_val p3 (1 : Int32)).toInt64) ((own_val p3 (2 : Int32)).toInt64) ((own_val p3 (3 : Int32)).toInt64) (own_row p1 (1 : Int32))))), ss] [(.int (2 : Int32)), (.ref a1685), (.long p2), (.long p1), (.ref a1897), (.long (((0 : Int64) + ((own_val p2 (0 : Int32)).toInt64 * (own_sel ((own_val p3 (0 : Int32)).toInt64) ((own_val p3 (1 : Int32)).toInt64) ((own_val p3 (2 : Int32)).toInt64) ((own_val p3 (3 : Int32)).toInt64) (own_row p1 (0 : Int32))))) + ((own_val p2 (1 : Int32)).toInt64 * (own_sel ((own_val p3 (0 : Int32)).toInt64) ((own_val p3 (1 : Int32)).toInt64) ((own_val p3 (2 : Int32)).toInt64) ((own_val p3 (3 : Int32)).toInt64) (own_row p1 (1 : Int32))))))])) rfl (by rw [hml]; rfl) (argsL := [(.ref a1897), (.long p1), (.long p2), (.ref a1685), (.int (2 : Int32))]) (rest := [(.long (((0 : Int64) + ((own_val p2 (0 : Int32)).toInt64 * (own_sel ((own_val p3 (0 : Int32)).toInt64) ((own_val p3 (1 : Int32)).toInt64) ((own_val p3 (2 : Int32)).toInt64) ((own_val p3 (3 : Int32)).toInt64) (own_row p1 (0 : Int32))))) + ((own_val p2 (1 : Int32)).toInt64 * (own_sel ((own_val p3 (0 : Int32)).toInt64) ((own_val p3 (1 : Int32)).toInt64) ((own_val p3 (2 : Int32)).toInt64) ((own_val p3 (3 : Int32)).toInt64) (own_row p1 (1 : Int32))))))]) (lenOf pd_20 rfl) rfl (by show 2 * 0 + _ ≤ _; exact Nat.le_of_eq rfl) (hb hby at_167) (fun _ _ => ⟨rfl, rfl, (by decide : 5 + 0 ≤ _), (by decide : 19 + 0 ≤ _)⟩)
    dsimp only [Pt.U, Pt.locs, Pt.cells, Pt.slots] at X2316 l2319 y2320 z2321 st2322 hQ2318
    subst l2319 y2320 z2321
    obtain ⟨rfl, N2323, K2326, g2327, g2328, g2329, g2330, g2331⟩ := hQ2318
    have N2332 := Fr.app N2300 N2323
    have Z2333 : n0 ≤ T2312.heap.size := Nat.le_trans Z2301 K2326.1
    have F2334 : own_A Z T2312.heap a1685 .long [(.long ((own_val p3 (0 : Int32)).toInt64)), (.long ((own_val p3 (1 : Int32)).toInt64)), (.long ((own_val p3 (2 : Int32)).toInt64)), (.long ((own_val p3 (3 : Int32)).toInt64))] := F2302.keep K2326 (ninS n1899 (ninS n1939 (ninS n1943 nin0)))
    clear F2302
    have F2335 : own_A Z T2312.heap a1816 .double [(.double (FP.l2d ((own_val p3 (0 : Int32)).toInt64))), (.double (FP.l2d ((own_val p3 (1 : Int32)).toInt64))), (.double (FP.l2d ((own_val p3 (2 : Int32)).toInt64))), (.double (FP.l2d ((own_val p3 (3 : Int32)).toInt64)))] := F2303.keep K2326 (ninS n1901 (ninS n1940 (ninS n1944 nin0)))
    clear F2303
    have F2336 : xa5 Z T2312.heap a1897 := F2304.keep K2326
    clear F2304
    clear g2295
    clear g2296
    clear g2297
    clear g2298
    clear g2299
    have k2342 : own_G p e below E0 T2312 (mkF m 170 #[vi p0, vj p1, ss, vj p2, ss, vj p3, ss, vi (4 : Int32), vr a1685, vr a1816, vr a1897, vj (((0 : Int64) + ((own_val p2 (0 : Int32)).toInt64 * (own_sel ((own_val p3 (0 : Int32)).toInt64) ((own_val p3 (1 : Int32)).toInt64) ((own_val p3 (2 : Int32)).toInt64) ((own_val p3 (3 : Int32)).toInt64) (own_row p1 (0 : Int32))))) + ((own_val p2 (1 : Int32)).toInt64 * (own_sel ((own_val p3 (0 : Int32)).toInt64) ((own_val p3 (1 : Int32)).toInt64) ((own_val p3 (2 : Int32)).toInt64) ((own_val p3 (3 : Int32)).toInt64) (own_row p1 (1 : Int32))))), ss] [(.long ((own_val p2 (2 : Int32)).toInt64 * (own_sel ((own_val p3 (0 : Int32)).toInt64) ((own_val p3 (1 : Int32)).toInt64) ((own_val p3 (2 : Int32)).toInt64) ((own_val p3 (3 : Int32)).toInt64) (own_row p1 (2 : Int32))))), (.long (((0 : Int64) + ((own_val p2 (0 : Int32)).toInt64 * (own_sel ((own_val p3 (0 : Int32)).toInt64) ((own_val p3 (1 : Int32)).toInt64) ((own_val p3 (2 : Int32)).toInt64) ((own_val p3 (3 : Int32)).toInt64) (own_row p1 (0 : Int32))))) + ((own_val p2 (1 : Int32)).toInt64 * (own_sel ((own_val p3 (0 : Int32)).toInt64) ((own_val p3 (1 : Int32)).toInt64) ((own_val p3 (2 : Int32)).toInt64) ((own_val p3 (3 : Int32)).toInt64) (own_row p1 (1 : Int32))))))]) := fun tQ kk => k2311 tQ (st2322 _ kk)
    clear k2311 st2322
    have k2343 : own_G p e below E0 T2312 (mkF m 188 #[vi p0, vj p1, ss, vj p2, ss, vj p3, ss, vi (4 : Int32), vr a1685, vr a1816, vr a1897, vj ((((0 : Int64) + ((own_val p2 (0 : Int32)).toInt64 * (own_sel ((own_val p3 (0 : Int32)).toInt64) ((own_val p3 (1 : Int32)).toInt64) ((own_val p3 (2 : Int32)).toInt64) ((own_val p3 (3 : Int32)).toInt64) (own_row p1 (0 : Int32))))) + ((own_val p2 (1 : Int32)).toInt64 * (own_sel ((own_val p3 (0 : Int32)).toInt64) ((own_val p3 (1 : Int32)).toInt64) ((own_val p3 (2 : Int32)).toInt64) ((own_val p3 (3 : Int32)).toInt64) (own_row p1 (1 : Int32))))) + ((own_val p2 (2 : Int32)).toInt64 * (own_sel ((own_val p3 (0 : Int32)).toInt64) ((own_val p3 (1 : Int32)).toInt64) ((own_val p3 (2 : Int32)).toInt64) ((own_val p3 (3 : Int32)).toInt64) (own_row p1 (2 : Int32))))), ss] [(.int (3 : Int32)), (.ref a1685), (.long p2), (.long p1), (.ref a1897), (.long ((((0 : Int64) + ((own_val p2 (0 : Int32)).toInt64 * (own_sel ((own_val p3 (0 : Int32)).toInt64) ((own_val p3 (1 : Int32)).toInt64) ((own_val p3 (2 : Int32)).toInt64) ((own_val p3 (3 : Int32)).toInt64) (own_row p1 (0 : Int32))))) + ((own_val p2 (1 : Int32)).toInt64 * (own_sel ((own_val p3 (0 : Int32)).toInt64) ((own_val p3 (1 : Int32)).toInt64) ((own_val p3 (2 : Int32)).toInt64) ((own_val p3 (3 : Int32)).toInt64) (own_row p1 (1 : Int32))))) + ((own_val p2 (2 : Int32)).toInt64 * (own_sel ((own_val p3 (0 : Int32)).toInt64) ((own_val p3 (1 : Int32)).toInt64) ((own_val p3 (2 : Int32)).toInt64) ((own_val p3 (3 : Int32)).toInt64) (own_row p1 (2 : Int32))))))]) := by
      intro tQ kk
      refine k2342 tQ ?_
      refine XT.ladd X2316.here hx rfl (hb hby at_170) rfl ?_
      refine XT.lstore X2316.here hx rfl (hb hby at_171) rfl (l' := #[vi p0, vj p1, ss, vj p2, ss, vj p3, ss, vi (4 : Int32), vr a1685, vr a1816, vr a1897, vj ((((0 : Int64) + ((own_val p2 (0 : Int32)).toInt64 * (own_sel ((own_val p3 (0 : Int32)).toInt64) ((own_val p3 (1 : Int32)).toInt64) ((own_val p3 (2 : Int32)).toInt64) ((own_val p3 (3 : Int32)).toInt64) (own_row p1 (0 : Int32))))) + ((own_val p2 (1 : Int32)).toInt64 * (own_sel ((own_val p3 (0 : Int32)).toInt64) ((own_val p3 (1 : Int32)).toInt64) ((own_val p3 (2 : Int32)).toInt64) ((own_val p3 (3 : Int32)).toInt64) (own_row p1 (1 : Int32))))) + ((own_val p2 (2 : Int32)).toInt64 * (own_sel ((own_val p3 (0 : Int32)).toInt64) ((own_val p3 (1 : Int32)).toInt64) ((own_val p3 (2 : Int32)).toInt64) ((own_val p3 (3 : Int32)).toInt64) (own_row p1 (2 : Int32))))), ss]) rfl ?_
      refine XS.iload X2316.here hx rfl (hb hby at_173) rfl ?_
      refine XS.iconst X2316.here hx rfl (hb hby at_175) ?_
      show Steps p.tables e below (T2312.setTop (mkF m 176 #[vi p0, vj p1, ss, vj p2, ss, vj p3, ss, vi (4 : Int32), vr a1685, vr a1816, vr a1897, vj ((((0 : Int64) + ((own_val p2 (0 : Int32)).toInt64 * (own_sel ((own_val p3 (0 : Int32)).toInt64) ((own_val p3 (1 : Int32)).toInt64) ((own_val p3 (2 : Int32)).toInt64) ((own_val p3 (3 : Int32)).toInt64) (own_row p1 (0 : Int32))))) + ((own_val p2 (1 : Int32)).toInt64 * (own_sel ((own_val p3 (0 : Int32)).toInt64) ((own_val p3 (1 : Int32)).toInt64) ((own_val p3 (2 : Int32)).toInt64) ((own_val p3 (3 : Int32)).toInt64) (own_row p1 (1 : Int32))))) + ((own_val p2 (2 : Int32)).toInt64 * (own_sel ((own_val p3 (0 : Int32)).toInt64) ((own_val p3 (1 : Int32)).toInt64) ((own_val p3 (2 : Int32)).toInt64) ((own_val p3 (3 : Int32)).toInt64) (own_row p1 (2 : Int32))))), ss] [(.int (3 : Int32)), (.int (4 : Int32))])) tQ
      refine XS.icmpNo X2316.here hx rfl (hb hby at_176) rfl (own_ic_leN (by decide)) ?_
      refine XT.lload X2316.here hx rfl (hb hby at_179) rfl ?_
      refine XS.aload X2316.here hx rfl (hb hby at_181) rfl rfl ?_
      refine XT.lloadN X2316.here hx rfl (hb hby at_183) rfl ?_
      show Steps p.tables e below (T2312.setTop (mkF m 184 #[vi p0, vj p1, ss, vj p2, ss, vj p3, ss, vi (4 : Int32), vr a1685, vr a1816, vr a1897, vj ((((0 : Int64) + ((own_val p2 (0 : Int32)).toInt64 * (own_sel ((own_val p3 (0 : Int32)).toInt64) ((own_val p3 (1 : Int32)).toInt64) ((own_val p3 (2 : Int32)).toInt64) ((own_val p3 (3 : Int32)).toInt64) (own_row p1 (0 : Int32))))) + ((own_val p2 (1 : Int32)).toInt64 * (own_sel ((own_val p3 (0 : Int32)).toInt64) ((own_val p3 (1 : Int32)).toInt64) ((own_val p3 (2 : Int32)).toInt64) ((own_val p3 (3 : Int32)).toInt64) (own_row p1 (1 : Int32))))) + ((own_val p2 (2 : Int32)).toInt64 * (own_sel ((own_val p3 (0 : Int32)).toInt64) ((own_val p3 (1 : Int32)).toInt64) ((own_val p3 (2 : Int32)).toInt64) ((own_val p3 (3 : Int32)).toInt64) (own_row p1 (2 : Int32))))), ss] [(.long p1), (.ref a1897), (.long ((((0 : Int64) + ((own_val p2 (0 : Int32)).toInt64 * (own_sel ((own_val p3 (0 : Int32)).toInt64) ((own_val p3 (1 : Int32)).toInt64) ((own_val p3 (2 : Int32)).toInt64) ((own_val p3 (3 : Int32)).toInt64) (own_row p1 (0 : Int32))))) + ((own_val p2 (1 : Int32)).toInt64 * (own_sel ((own_val p3 (0 : Int32)).toInt64) ((own_val p3 (1 : Int32)).toInt64) ((own_val p3 (2 : Int32)).toInt64) ((own_val p3 (3 : Int32)).toInt64) (own_row p1 (1 : Int32))))) + ((own_val p2 (2 : Int32)).toInt64 * (own_sel ((own_val p3 (0 : Int32)).toInt64) ((own_val p3 (1 : Int32)).toInt64) ((own_val p3 (2 : Int32)).toInt64) ((own_val p3 (3 : Int32)).toInt64) (own_row p1 (2 : Int32))))))])) tQ
      refine XT.lloadN X2316.here hx rfl (hb hby at_184) rfl ?_
      refine XS.aload X2316.here hx rfl (hb hby at_185) rfl rfl ?_
      refine XS.iconst X2316.here hx rfl (hb hby at_187) ?_
      exact kk
    clear k2342
    obtain ⟨_, _, ⟨T2344, L2345, kc2346, nc2347⟩, -, X2348, ⟨Lc2349, hQ2350, l2351, y2352, z2353⟩, st2354⟩ := Jvm.LawKit.callS X2316 hx (y := mn14) hown (mvT hZ (tw29 hw)) (mvT hZ (tw30 hw)) (mvT hZ (tw4 hw)) (mvT hZ (tw31 hw)) (by decide) (backOf (W := 2) (rmO3 l Z a0 hw [] a1897 p1 p2 a1685 r1926 q1927 (own_row p1 (0 : Int32)) (own_row p1 (1 : Int32)) (own_row p1 (2 : Int32)) (0 : Int32) (FP.i2d (own_val p2 (0 : Int32))) (FP.i2d (own_val p2 (1 : Int32))) (FP.i2d (own_val p2 (2 : Int32))) (0 : UInt64) ((own_val p3 (0 : Int32)).toInt64) ((own_val p3 (1 : Int32)).toInt64) ((own_val p3 (2 : Int32)).toInt64) ((own_val p3 (3 : Int32)).toInt64) T2312.heap n0 Z2333 F2336 g2327 g2328 g2329 g2330 g2331 F2334 n1941 n1945 n1936 n1899 n1939 n1943 ge1903 ge1938 ge1942) hZ (tw31 hw) (tw4 hw) (by decide) (by decide)) (g := (mkF m 188 #[vi p0, vj p1, ss, vj p2, ss, vj p3, ss, vi (4 : Int32), vr a1685, vr a1816, vr a1897, vj ((((0 : Int64) + ((own_val p2 (0 : Int32)).toInt64 * (own_sel ((own_val p3 (0 : Int32)).toInt64) ((own_val p3 (1 : Int32)).toInt64) ((own_val p3 (2 : Int32)).toInt64) ((own_val p3 (3 : Int32)).toInt64) (own_row p1 (0 : Int32))))) + ((own_val p2 (1 : Int32)).toInt64 * (own_sel ((own_val p3 (0 : Int32)).toInt64) ((own_val p3 (1 : Int32)).toInt64) ((own_val p3 (2 : Int32)).toInt64) ((own_val p3 (3 : Int32)).toInt64) (own_row p1 (1 : Int32))))) + ((own_val p2 (2 : Int32)).toInt64 * (own_sel ((own_val p3 (0 : Int32)).toInt64) ((own_val p3 (1 : Int32)).toInt64) ((own_val p3 (2 : Int32)).toInt64) ((own_val p3 (3 : Int32)).toInt64) (own_row p1 (2 : Int32))))), ss] [(.int (3 : Int32)), (.ref a1685), (.long p2), (.long p1), (.ref a1897), (.long ((((0 : Int64) + ((own_val p2 (0 : Int32)).toInt64 * (own_sel ((own_val p3 (0 : Int32)).toInt64) ((own_val p3 (1 : Int32)).toInt64) ((own_val p3 (2 : Int32)).toInt64) ((own_val p3 (3 : Int32)).toInt64) (own_row p1 (0 : Int32))))) + ((own_val p2 (1 : Int32)).toInt64 * (own_sel ((own_val p3 (0 : Int32)).toInt64) ((own_val p3 (1 : Int32)).toInt64) ((own_val p3 (2 : Int32)).toInt64) ((own_val p3 (3 : Int32)).toInt64) (own_row p1 (1 : Int32))))) + ((own_val p2 (2 : Int32)).toInt64 * (own_sel ((own_val p3 (0 : Int32)).toInt64) ((own_val p3 (1 : Int32)).toInt64) ((own_val p3 (2 : Int32)).toInt64) ((own_val p3 (3 : Int32)).toInt64) (own_row p1 (2 : Int32))))))])) rfl (by rw [hml]; rfl) (argsL := [(.ref a1897), (.long p1), (.long p2), (.ref a1685), (.int (3 : Int32))]) (rest := [(.long ((((0 : Int64) + ((own_val p2 (0 : Int32)).toInt64 * (own_sel ((own_val p3 (0 : Int32)).toInt64) ((own_val p3 (1 : Int32)).toInt64) ((own_val p3 (2 : Int32)).toInt64) ((own_val p3 (3 : Int32)).toInt64) (own_row p1 (0 : Int32))))) + ((own_val p2 (1 : Int32)).toInt64 * (own_sel ((own_val p3 (0 : Int32)).toInt64) ((own_val p3 (1 : Int32)).toInt64) ((own_val p3 (2 : Int32)).toInt64) ((own_val p3 (3 : Int32)).toInt64) (own_row p1 (1 : Int32))))) + ((own_val p2 (2 : Int32)).toInt64 * (own_sel ((own_val p3 (0 : Int32)).toInt64) ((own_val p3 (1 : Int32)).toInt64) ((own_val p3 (2 : Int32)).toInt64) ((own_val p3 (3 : Int32)).toInt64) (own_row p1 (2 : Int32))))))]) (lenOf pd_20 rfl) rfl (by show 2 * 0 + _ ≤ _; exact Nat.le_of_eq rfl) (hb hby at_188) (fun _ _ => ⟨rfl, rfl, (by decide : 5 + 0 ≤ _), (by decide : 19 + 0 ≤ _)⟩)
    dsimp only [Pt.U, Pt.locs, Pt.cells, Pt.slots] at X2348 l2351 y2352 z2353 st2354 hQ2350
    subst l2351 y2352 z2353
    obtain ⟨rfl, N2355, K2358, g2359, g2360, g2361, g2362, g2363⟩ := hQ2350
    have N2364 := Fr.app N2332 N2355
    have Z2365 : n0 ≤ T2344.heap.size := Nat.le_trans Z2333 K2358.1
    have F2366 : own_A Z T2344.heap a1685 .long [(.long ((own_val p3 (0 : Int32)).toInt64)), (.long ((own_val p3 (1 : Int32)).toInt64)), (.long ((own_val p3 (2 : Int32)).toInt64)), (.long ((own_val p3 (3 : Int32)).toInt64))] := F2334.keep K2358 (ninS n1899 (ninS n1939 (ninS n1943 nin0)))
    clear F2334
    have F2367 : own_A Z T2344.heap a1816 .double [(.double (FP.l2d ((own_val p3 (0 : Int32)).toInt64))), (.double (FP.l2d ((own_val p3 (1 : Int32)).toInt64))), (.double (FP.l2d ((own_val p3 (2 : Int32)).toInt64))), (.double (FP.l2d ((own_val p3 (3 : Int32)).toInt64)))] := F2335.keep K2358 (ninS n1901 (ninS n1940 (ninS n1944 nin0)))
    clear F2335
    have F2368 : xa5 Z T2344.heap a1897 := F2336.keep K2358
    clear F2336
    clear g2327
    clear g2328
    clear g2329
    clear g2330
    clear g2331
    have k2374 : own_G p e below E0 T2344 (mkF m 191 #[vi p0, vj p1, ss, vj p2, ss, vj p3, ss, vi (4 : Int32), vr a1685, vr a1816, vr a1897, vj ((((0 : Int64) + ((own_val p2 (0 : Int32)).toInt64 * (own_sel ((own_val p3 (0 : Int32)).toInt64) ((own_val p3 (1 : Int32)).toInt64) ((own_val p3 (2 : Int32)).toInt64) ((own_val p3 (3 : Int32)).toInt64) (own_row p1 (0 : Int32))))) + ((own_val p2 (1 : Int32)).toInt64 * (own_sel ((own_val p3 (0 : Int32)).toInt64) ((own_val p3 (1 : Int32)).toInt64) ((own_val p3 (2 : Int32)).toInt64) ((own_val p3 (3 : Int32)).toInt64) (own_row p1 (1 : Int32))))) + ((own_val p2 (2 : Int32)).toInt64 * (own_sel ((own_val p3 (0 : Int32)).toInt64) ((own_val p3 (1 : Int32)).toInt64) ((own_val p3 (2 : Int32)).toInt64) ((own_val p3 (3 : Int32)).toInt64) (own_row p1 (2 : Int32))))), ss] [(.long ((own_val p2 (3 : Int32)).toInt64 * (own_sel ((own_val p3 (0 : Int32)).toInt64) ((own_val p3 (1 : Int32)).toInt64) ((own_val p3 (2 : Int32)).toInt64) ((own_val p3 (3 : Int32)).toInt64) (own_row p1 (3 : Int32))))), (.long ((((0 : Int64) + ((own_val p2 (0 : Int32)).toInt64 * (own_sel ((own_val p3 (0 : Int32)).toInt64) ((own_val p3 (1 : Int32)).toInt64) ((own_val p3 (2 : Int32)).toInt64) ((own_val p3 (3 : Int32)).toInt64) (own_row p1 (0 : Int32))))) + ((own_val p2 (1 : Int32)).toInt64 * (own_sel ((own_val p3 (0 : Int32)).toInt64) ((own_val p3 (1 : Int32)).toInt64) ((own_val p3 (2 : Int32)).toInt64) ((own_val p3 (3 : Int32)).toInt64) (own_row p1 (1 : Int32))))) + ((own_val p2 (2 : Int32)).toInt64 * (own_sel ((own_val p3 (0 : Int32)).toInt64) ((own_val p3 (1 : Int32)).toInt64) ((own_val p3 (2 : Int32)).toInt64) ((own_val p3 (3 : Int32)).toInt64) (own_row p1 (2 : Int32))))))]) := fun tQ kk => k2343 tQ (st2354 _ kk)
    clear k2343 st2354
    have k2375 : own_G p e below E0 T2344 (mkF m 219 #[vi p0, vj p1, ss, vj p2, ss, vj p3, ss, vi (4 : Int32), vr a1685, vr a1816, vr a1897, vj (((((0 : Int64) + ((own_val p2 (0 : Int32)).toInt64 * (own_sel ((own_val p3 (0 : Int32)).toInt64) ((own_val p3 (1 : Int32)).toInt64) ((own_val p3 (2 : Int32)).toInt64) ((own_val p3 (3 : Int32)).toInt64) (own_row p1 (0 : Int32))))) + ((own_val p2 (1 : Int32)).toInt64 * (own_sel ((own_val p3 (0 : Int32)).toInt64) ((own_val p3 (1 : Int32)).toInt64) ((own_val p3 (2 : Int32)).toInt64) ((own_val p3 (3 : Int32)).toInt64) (own_row p1 (1 : Int32))))) + ((own_val p2 (2 : Int32)).toInt64 * (own_sel ((own_val p3 (0 : Int32)).toInt64) ((own_val p3 (1 : Int32)).toInt64) ((own_val p3 (2 : Int32)).toInt64) ((own_val p3 (3 : Int32)).toInt64) (own_row p1 (2 : Int32))))) + ((own_val p2 (3 : Int32)).toInt64 * (own_sel ((own_val p3 (0 : Int32)).toInt64) ((own_val p3 (1 : Int32)).toInt64) ((own_val p3 (2 : Int32)).toInt64) ((own_val p3 (3 : Int32)).toInt64) (own_row p1 (3 : Int32))))), ss] [(.ref a1816), (.ref a1897)]) := by
      intro tQ kk
      refine k2374 tQ ?_
      refine XT.ladd X2348.here hx rfl (hb hby at_191) rfl ?_
      refine XT.lstore X2348.here hx rfl (hb hby at_192) rfl (l' := #[vi p0, vj p1, ss, vj p2, ss, vj p3, ss, vi (4 : Int32), vr a1685, vr a1816, vr a1897, vj (((((0 : Int64) + ((own_val p2 (0 : Int32)).toInt64 * (own_sel ((own_val p3 (0 : Int32)).toInt64) ((own_val p3 (1 : Int32)).toInt64) ((own_val p3 (2 : Int32)).toInt64) ((own_val p3 (3 : Int32)).toInt64) (own_row p1 (0 : Int32))))) + ((own_val p2 (1 : Int32)).toInt64 * (own_sel ((own_val p3 (0 : Int32)).toInt64) ((own_val p3 (1 : Int32)).toInt64) ((own_val p3 (2 : Int32)).toInt64) ((own_val p3 (3 : Int32)).toInt64) (own_row p1 (1 : Int32))))) + ((own_val p2 (2 : Int32)).toInt64 * (own_sel ((own_val p3 (0 : Int32)).toInt64) ((own_val p3 (1 : Int32)).toInt64) ((own_val p3 (2 : Int32)).toInt64) ((own_val p3 (3 : Int32)).toInt64) (own_row p1 (2 : Int32))))) + ((own_val p2 (3 : Int32)).toInt64 * (own_sel ((own_val p3 (0 : Int32)).toInt64) ((own_val p3 (1 : Int32)).toInt64) ((own_val p3 (2 : Int32)).toInt64) ((own_val p3 (3 : Int32)).toInt64) (own_row p1 (3 : Int32))))), ss]) rfl ?_
      refine XS.iload X2348.here hx rfl (hb hby at_194) rfl ?_
      refine XS.iconst X2348.here hx rfl (hb hby at_196) ?_
      show Steps p.tables e below (T2344.setTop (mkF m 197 #[vi p0, vj p1, ss, vj p2, ss, vj p3, ss, vi (4 : Int32), vr a1685, vr a1816, vr a1897, vj (((((0 : Int64) + ((own_val p2 (0 : Int32)).toInt64 * (own_sel ((own_val p3 (0 : Int32)).toInt64) ((own_val p3 (1 : Int32)).toInt64) ((own_val p3 (2 : Int32)).toInt64) ((own_val p3 (3 : Int32)).toInt64) (own_row p1 (0 : Int32))))) + ((own_val p2 (1 : Int32)).toInt64 * (own_sel ((own_val p3 (0 : Int32)).toInt64) ((own_val p3 (1 : Int32)).toInt64) ((own_val p3 (2 : Int32)).toInt64) ((own_val p3 (3 : Int32)).toInt64) (own_row p1 (1 : Int32))))) + ((own_val p2 (2 : Int32)).toInt64 * (own_sel ((own_val p3 (0 : Int32)).toInt64) ((own_val p3 (1 : Int32)).toInt64) ((own_val p3 (2 : Int32)).toInt64) ((own_val p3 (3 : Int32)).toInt64) (own_row p1 (2 : Int32))))) + ((own_val p2 (3 : Int32)).toInt64 * (own_sel ((own_val p3 (0 : Int32)).toInt64) ((own_val p3 (1 : Int32)).toInt64) ((own_val p3 (2 : Int32)).toInt64) ((own_val p3 (3 : Int32)).toInt64) (own_row p1 (3 : Int32))))), ss] [(.int (4 : Int32)), (.int (4 : Int32))])) tQ
      refine XS.icmpYes X2348.here hx rfl (pc0 := 197) (pc' := 215) rfl (hb hby at_197) rfl (own_ic_leY (by decide)) (by decide) (by decide) ?_
      refine XS.aload X2348.here hx rfl (hb hby at_215) rfl rfl ?_
      refine XS.aload X2348.here hx rfl (hb hby at_217) rfl rfl ?_
      exact kk
    clear k2374
    obtain ⟨cq2387, kq2388, qa2389, qb2390, qc2391⟩ := isOf hZ rfl F2368
    obtain ⟨_, _, ⟨T2376, L2377, kc2378, nc2379⟩, -, X2380, ⟨Lc2381, hQ2382, l2383, y2384, z2385⟩, st2386⟩ := X2348.virtualBack hx (y := mn17) (z := mn17) hown (mvT hZ (tw22 hw)) (mvT hZ (tw23 hw)) (notFace_of_selects (args := #[]) (mvT hZ (tw25 hw))) (mvT hZ (tw25 hw)) (mvT hZ (tw24 hw)) (by decide) (backOf (W := 0) (rmD4 l Z a0 hw [] a1897 a1816 r1926 q1927 (own_row p1 (0 : Int32)) (own_row p1 (1 : Int32)) (own_row p1 (2 : Int32)) (own_row p1 (3 : Int32)) (FP.i2d (own_val p2 (0 : Int32))) (FP.i2d (own_val p2 (1 : Int32))) (FP.i2d (own_val p2 (2 : Int32))) (FP.i2d (own_val p2 (3 : Int32))) (FP.l2d ((own_val p3 (0 : Int32)).toInt64)) (FP.l2d ((own_val p3 (1 : Int32)).toInt64)) (FP.l2d ((own_val p3 (2 : Int32)).toInt64)) (FP.l2d ((own_val p3 (3 : Int32)).toInt64)) (own_val p2 (0 : Int32)).toInt (own_val p2 (1 : Int32)).toInt (own_val p2 (2 : Int32)).toInt (own_val p2 (3 : Int32)).toInt (own_sel (own_val p3 (0 : Int32)).toInt64 (own_val p3 (1 : Int32)).toInt64 (own_val p3 (2 : Int32)).toInt64 (own_val p3 (3 : Int32)).toInt64 (own_row p1 (0 : Int32))).toInt (own_sel (own_val p3 (0 : Int32)).toInt64 (own_val p3 (1 : Int32)).toInt64 (own_val p3 (2 : Int32)).toInt64 (own_val p3 (3 : Int32)).toInt64 (own_row p1 (1 : Int32))).toInt (own_sel (own_val p3 (0 : Int32)).toInt64 (own_val p3 (1 : Int32)).toInt64 (own_val p3 (2 : Int32)).toInt64 (own_val p3 (3 : Int32)).toInt64 (own_row p1 (2 : Int32))).toInt (own_sel (own_val p3 (0 : Int32)).toInt64 (own_val p3 (1 : Int32)).toInt64 (own_val p3 (2 : Int32)).toInt64 (own_val p3 (3 : Int32)).toInt64 (own_row p1 (3 : Int32))).toInt T2344.heap n0 Z2365 g2359 g2360 g2361 g2362 g2363 F2367 (own_rowc p1 (0 : Int32)) (FP.Core.i2d_int (own_val p2 (0 : Int32))) (own_selDI p3 (own_rowc p1 (0 : Int32))) (own_vb p2 (0 : Int32)) (own_selb p3 (own_rowc p1 (0 : Int32))) (own_rowc p1 (1 : Int32)) (FP.Core.i2d_int (own_val p2 (1 : Int32))) (own_selDI p3 (own_rowc p1 (1 : Int32))) (own_vb p2 (1 : Int32)) (own_selb p3 (own_rowc p1 (1 : Int32))) (own_rowc p1 (2 : Int32)) (FP.Core.i2d_int (own_val p2 (2 : Int32))) (own_selDI p3 (own_rowc p1 (2 : Int32))) (own_vb p2 (2 : Int32)) (own_selb p3 (own_rowc p1 (2 : Int32))) (own_rowc p1 (3 : Int32)) (FP.Core.i2d_int (own_val p2 (3 : Int32))) (own_selDI p3 (own_rowc p1 (3 : Int32))) (own_vb p2 (3 : Int32)) (own_selb p3 (own_rowc p1 (3 : Int32)))) hZ (tw26 hw) (tw10 hw) (by decide) (by decide)) qa2389 qc2391 (g := (mkF m 219 #[vi p0, vj p1, ss, vj p2, ss, vj p3, ss, vi (4 : Int32), vr a1685, vr a1816, vr a1897, vj (((((0 : Int64) + ((own_val p2 (0 : Int32)).toInt64 * (own_sel ((own_val p3 (0 : Int32)).toInt64) ((own_val p3 (1 : Int32)).toInt64) ((own_val p3 (2 : Int32)).toInt64) ((own_val p3 (3 : Int32)).toInt64) (own_row p1 (0 : Int32))))) + ((own_val p2 (1 : Int32)).toInt64 * (own_sel ((own_val p3 (0 : Int32)).toInt64) ((own_val p3 (1 : Int32)).toInt64) ((own_val p3 (2 : Int32)).toInt64) ((own_val p3 (3 : Int32)).toInt64) (own_row p1 (1 : Int32))))) + ((own_val p2 (2 : Int32)).toInt64 * (own_sel ((own_val p3 (0 : Int32)).toInt64) ((own_val p3 (1 : Int32)).toInt64) ((own_val p3 (2 : Int32)).toInt64) ((own_val p3 (3 : Int32)).toInt64) (own_row p1 (2 : Int32))))) + ((own_val p2 (3 : Int32)).toInt64 * (own_sel ((own_val p3 (0 : Int32)).toInt64) ((own_val p3 (1 : Int32)).toInt64) ((own_val p3 (2 : Int32)).toInt64) ((own_val p3 (3 : Int32)).toInt64) (own_row p1 (3 : Int32))))), ss] [(.ref a1816), (.ref a1897)])) rfl (by rw [hml]; rfl) (Steps.refl _) (argsL := [(.ref a1816)]) (rest := []) (lenOf pd_19 rfl) rfl (by show 2 * 0 + _ ≤ _; exact Nat.le_of_eq rfl) (hb hby at_219) (fun _ _ => ⟨rfl, rfl, (by decide : 5 + 0 ≤ _), (by decide : 19 + 0 ≤ _)⟩)
    dsimp only [Pt.U, Pt.locs, Pt.cells, Pt.slots] at X2380 l2383 y2384 z2385 st2386 hQ2382
    subst l2383 y2384 z2385
    obtain ⟨s2395, rfl, N2392, e2393, g2396⟩ := hQ2382
    have N2397 := Fr.app N2364 N2392
    have k2398 : own_G p e below E0 T2376 (mkF m 222 #[vi p0, vj p1, ss, vj p2, ss, vj p3, ss, vi (4 : Int32), vr a1685, vr a1816, vr a1897, vj (((((0 : Int64) + ((own_val p2 (0 : Int32)).toInt64 * (own_sel ((own_val p3 (0 : Int32)).toInt64) ((own_val p3 (1 : Int32)).toInt64) ((own_val p3 (2 : Int32)).toInt64) ((own_val p3 (3 : Int32)).toInt64) (own_row p1 (0 : Int32))))) + ((own_val p2 (1 : Int32)).toInt64 * (own_sel ((own_val p3 (0 : Int32)).toInt64) ((own_val p3 (1 : Int32)).toInt64) ((own_val p3 (2 : Int32)).toInt64) ((own_val p3 (3 : Int32)).toInt64) (own_row p1 (1 : Int32))))) + ((own_val p2 (2 : Int32)).toInt64 * (own_sel ((own_val p3 (0 : Int32)).toInt64) ((own_val p3 (1 : Int32)).toInt64) ((own_val p3 (2 : Int32)).toInt64) ((own_val p3 (3 : Int32)).toInt64) (own_row p1 (2 : Int32))))) + ((own_val p2 (3 : Int32)).toInt64 * (own_sel ((own_val p3 (0 : Int32)).toInt64) ((own_val p3 (1 : Int32)).toInt64) ((own_val p3 (2 : Int32)).toInt64) ((own_val p3 (3 : Int32)).toInt64) (own_row p1 (3 : Int32))))), ss] [(.double s2395)]) := fun tQ kk => k2375 tQ (st2386.trans kk)
    clear k2375 st2386
    have k2399 : own_G p e below E0 T2376 (mkF m 234 #[vi p0, vj p1, ss, vj p2, ss, vj p3, ss, vi (4 : Int32), vr a1685, vr a1816, vr a1897, vj (((((0 : Int64) + ((own_val p2 (0 : Int32)).toInt64 * (own_sel ((own_val p3 (0 : Int32)).toInt64) ((own_val p3 (1 : Int32)).toInt64) ((own_val p3 (2 : Int32)).toInt64) ((own_val p3 (3 : Int32)).toInt64) (own_row p1 (0 : Int32))))) + ((own_val p2 (1 : Int32)).toInt64 * (own_sel ((own_val p3 (0 : Int32)).toInt64) ((own_val p3 (1 : Int32)).toInt64) ((own_val p3 (2 : Int32)).toInt64) ((own_val p3 (3 : Int32)).toInt64) (own_row p1 (1 : Int32))))) + ((own_val p2 (2 : Int32)).toInt64 * (own_sel ((own_val p3 (0 : Int32)).toInt64) ((own_val p3 (1 : Int32)).toInt64) ((own_val p3 (2 : Int32)).toInt64) ((own_val p3 (3 : Int32)).toInt64) (own_row p1 (2 : Int32))))) + ((own_val p2 (3 : Int32)).toInt64 * (own_sel ((own_val p3 (0 : Int32)).toInt64) ((own_val p3 (1 : Int32)).toInt64) ((own_val p3 (2 : Int32)).toInt64) ((own_val p3 (3 : Int32)).toInt64) (own_row p1 (3 : Int32))))), ss] [(.int (1 : Int32))]) := by
      intro tQ kk
      refine k2398 tQ ?_
      refine XT.lload X2380.here hx rfl (hb hby at_222) rfl ?_
      refine XS.l2dS X2380.here hx rfl (hb hby at_224) rfl rfl ?_
      refine XS.dcmpS (v := (0 : Int32)) X2380.here hx rfl (hb hby at_225) rfl (own_eq0 .l g2396 (own_dl _ (own_ra (own_ra (own_ra (own_ra (show (0 : Int64).toInt = 0 from rfl) (by have := own_p9 (own_vb p2 (0 : Int32)) (own_selb p3 (own_rowc p1 (0 : Int32))); have := own_p9 (own_vb p2 (1 : Int32)) (own_selb p3 (own_rowc p1 (1 : Int32))); have := own_p9 (own_vb p2 (2 : Int32)) (own_selb p3 (own_rowc p1 (2 : Int32))); have := own_p9 (own_vb p2 (3 : Int32)) (own_selb p3 (own_rowc p1 (3 : Int32))); omega) (own_vb p2 (0 : Int32)) (own_selb p3 (own_rowc p1 (0 : Int32)))) (by have := own_p9 (own_vb p2 (0 : Int32)) (own_selb p3 (own_rowc p1 (0 : Int32))); have := own_p9 (own_vb p2 (1 : Int32)) (own_selb p3 (own_rowc p1 (1 : Int32))); have := own_p9 (own_vb p2 (2 : Int32)) (own_selb p3 (own_rowc p1 (2 : Int32))); have := own_p9 (own_vb p2 (3 : Int32)) (own_selb p3 (own_rowc p1 (3 : Int32))); omega) (own_vb p2 (1 : Int32)) (own_selb p3 (own_rowc p1 (1 : Int32)))) (by have := own_p9 (own_vb p2 (0 : Int32)) (own_selb p3 (own_rowc p1 (0 : Int32))); have := own_p9 (own_vb p2 (1 : Int32)) (own_selb p3 (own_rowc p1 (1 : Int32))); have := own_p9 (own_vb p2 (2 : Int32)) (own_selb p3 (own_rowc p1 (2 : Int32))); have := own_p9 (own_vb p2 (3 : Int32)) (own_selb p3 (own_rowc p1 (3 : Int32))); omega) (own_vb p2 (2 : Int32)) (own_selb p3 (own_rowc p1 (2 : Int32)))) (by have := own_p9 (own_vb p2 (0 : Int32)) (own_selb p3 (own_rowc p1 (0 : Int32))); have := own_p9 (own_vb p2 (1 : Int32)) (own_selb p3 (own_rowc p1 (1 : Int32))); have := own_p9 (own_vb p2 (2 : Int32)) (own_selb p3 (own_rowc p1 (2 : Int32))); have := own_p9 (own_vb p2 (3 : Int32)) (own_selb p3 (own_rowc p1 (3 : Int32))); omega) (own_vb p2 (3 : Int32)) (own_selb p3 (own_rowc p1 (3 : Int32)))) (own_s7 (by have := own_p9 (own_vb p2 (0 : Int32)) (own_selb p3 (own_rowc p1 (0 : Int32))); have := own_p9 (own_vb p2 (1 : Int32)) (own_selb p3 (own_rowc p1 (1 : Int32))); have := own_p9 (own_vb p2 (2 : Int32)) (own_selb p3 (own_rowc p1 (2 : Int32))); have := own_p9 (own_vb p2 (3 : Int32)) (own_selb p3 (own_rowc p1 (3 : Int32))); omega) (by have := own_p9 (own_vb p2 (0 : Int32)) (own_selb p3 (own_rowc p1 (0 : Int32))); have := own_p9 (own_vb p2 (1 : Int32)) (own_selb p3 (own_rowc p1 (1 : Int32))); have := own_p9 (own_vb p2 (2 : Int32)) (own_selb p3 (own_rowc p1 (2 : Int32))); have := own_p9 (own_vb p2 (3 : Int32)) (own_selb p3 (own_rowc p1 (3 : Int32))); omega)))) ?_
      refine XS.ifNo X2380.here hx rfl (hb hby at_226) rfl (own_if_neN (by decide)) ?_
      show Steps p.tables e below (T2376.setTop (mkF m 229 #[vi p0, vj p1, ss, vj p2, ss, vj p3, ss, vi (4 : Int32), vr a1685, vr a1816, vr a1897, vj (((((0 : Int64) + ((own_val p2 (0 : Int32)).toInt64 * (own_sel ((own_val p3 (0 : Int32)).toInt64) ((own_val p3 (1 : Int32)).toInt64) ((own_val p3 (2 : Int32)).toInt64) ((own_val p3 (3 : Int32)).toInt64) (own_row p1 (0 : Int32))))) + ((own_val p2 (1 : Int32)).toInt64 * (own_sel ((own_val p3 (0 : Int32)).toInt64) ((own_val p3 (1 : Int32)).toInt64) ((own_val p3 (2 : Int32)).toInt64) ((own_val p3 (3 : Int32)).toInt64) (own_row p1 (1 : Int32))))) + ((own_val p2 (2 : Int32)).toInt64 * (own_sel ((own_val p3 (0 : Int32)).toInt64) ((own_val p3 (1 : Int32)).toInt64) ((own_val p3 (2 : Int32)).toInt64) ((own_val p3 (3 : Int32)).toInt64) (own_row p1 (2 : Int32))))) + ((own_val p2 (3 : Int32)).toInt64 * (own_sel ((own_val p3 (0 : Int32)).toInt64) ((own_val p3 (1 : Int32)).toInt64) ((own_val p3 (2 : Int32)).toInt64) ((own_val p3 (3 : Int32)).toInt64) (own_row p1 (3 : Int32))))), ss] [])) tQ
      refine XS.iconst X2380.here hx rfl (hb hby at_229) ?_
      refine XS.goto X2380.here hx rfl (pc0 := 230) (pc' := 234) rfl (hb hby at_230) (by decide) (by decide) ?_
      exact kk
    clear k2398
    obtain ⟨fs, hr, hrun, hended, hW, hsame⟩ := X2380.leave (v := some (.int (1 : Int32))) (fun h => by rw [Bd.returns] at h; cases h)
    have hrun0 := k2399 _ (retOut X2380 hx Bd.returns (t := .boolean) rfl (Or.inl ⟨rfl, Or.inr (Or.inl rfl), _, rfl⟩) (hb hby at_234) hr)
    subst hE0
    refine ⟨_, _, hrun0, hrun, hended, _, _, rfl, ?_, ⟨_, rfl⟩, hW, hsame.mono (by decide) (by decide)⟩
    show Qrm0 Z p0 p1 p2 p3 h0 n0 _ T2376.heap _
    rw [e2393]
    exact ⟨rfl, N2397⟩
  · skip
    have k2400 : own_G p e below E0 T1912 (mkF m 125 #[vi p0, vj p1, ss, vj p2, ss, vj p3, ss, vi (5 : Int32), vr a1685, vr a1816, vr a1897, vj (0 : Int64), ss] [(.int (0 : Int32)), (.ref a1685), (.long p2), (.long p1), (.ref a1897), (.long (0 : Int64))]) := by
      intro tQ kk
      refine k1954 tQ ?_
      refine XS.iload X1916.here hx rfl (hb hby at_111) rfl ?_
      refine XS.ifNo X1916.here hx rfl (hb hby at_113) rfl (own_if_leN (by decide)) ?_
      refine XT.lload X1916.here hx rfl (hb hby at_116) rfl ?_
      refine XS.aload X1916.here hx rfl (hb hby at_118) rfl rfl ?_
      show Steps p.tables e below (T1912.setTop (mkF m 120 #[vi p0, vj p1, ss, vj p2, ss, vj p3, ss, vi (5 : Int32), vr a1685, vr a1816, vr a1897, vj (0 : Int64), ss] [(.ref a1897), (.long (0 : Int64))])) tQ
      refine XT.lloadN X1916.here hx rfl (hb hby at_120) rfl ?_
      refine XT.lloadN X1916.here hx rfl (hb hby at_121) rfl ?_
      refine XS.aload X1916.here hx rfl (hb hby at_122) rfl rfl ?_
      refine XS.iconst X1916.here hx rfl (hb hby at_124) ?_
      exact kk
    clear k1954
    obtain ⟨_, _, ⟨T2401, L2402, kc2403, nc2404⟩, -, X2405, ⟨Lc2406, hQ2407, l2408, y2409, z2410⟩, st2411⟩ := Jvm.LawKit.callS X1916 hx (y := mn14) hown (mvT hZ (tw29 hw)) (mvT hZ (tw30 hw)) (mvT hZ (tw4 hw)) (mvT hZ (tw31 hw)) (by decide) (backOf (W := 2) (rmO0 l Z a0 hw [] a1897 p1 p2 a1685 r1926 q1927 (0 : Int32) (0 : Int32) (0 : Int32) (0 : Int32) (0 : UInt64) (0 : UInt64) (0 : UInt64) (0 : UInt64) ((own_val p3 (0 : Int32)).toInt64) ((own_val p3 (1 : Int32)).toInt64) ((own_val p3 (2 : Int32)).toInt64) ((own_val p3 (3 : Int32)).toInt64) T1912.heap n0 Z1946 F1949 g1929 g1930 g1931 g1932 g1933 F1947 n1941 n1945 n1936 n1899 n1939 n1943 ge1903 ge1938 ge1942) hZ (tw31 hw) (tw4 hw) (by decide) (by decide)) (g := (mkF m 125 #[vi p0, vj p1, ss, vj p2, ss, vj p3, ss, vi (5 : Int32), vr a1685, vr a1816, vr a1897, vj (0 : Int64), ss] [(.int (0 : Int32)), (.ref a1685), (.long p2), (.long p1), (.ref a1897), (.long (0 : Int64))])) rfl (by rw [hml]; rfl) (argsL := [(.ref a1897), (.long p1), (.long p2), (.ref a1685), (.int (0 : Int32))]) (rest := [(.long (0 : Int64))]) (lenOf pd_20 rfl) rfl (by show 2 * 0 + _ ≤ _; exact Nat.le_of_eq rfl) (hb hby at_125) (fun _ _ => ⟨rfl, rfl, (by decide : 5 + 0 ≤ _), (by decide : 19 + 0 ≤ _)⟩)
    dsimp only [Pt.U, Pt.locs, Pt.cells, Pt.slots] at X2405 l2408 y2409 z2410 st2411 hQ2407
    subst l2408 y2409 z2410
    obtain ⟨rfl, N2412, K2415, g2416, g2417, g2418, g2419, g2420⟩ := hQ2407
    have N2421 := Fr.app N1937 N2412
    have Z2422 : n0 ≤ T2401.heap.size := Nat.le_trans Z1946 K2415.1
    have F2423 : own_A Z T2401.heap a1685 .long [(.long ((own_val p3 (0 : Int32)).toInt64)), (.long ((own_val p3 (1 : Int32)).toInt64)), (.long ((own_val p3 (2 : Int32)).toInt64)), (.long ((own_val p3 (3 : Int32)).toInt64))] := F1947.keep K2415 (ninS n1899 (ninS n1939 (ninS n1943 nin0)))
    clear F1947
    have F2424 : own_A Z T2401.heap a1816 .double [(.double (FP.l2d ((own_val p3 (0 : Int32)).toInt64))), (.double (FP.l2d ((own_val p3 (1 : Int32)).toInt64))), (.double (FP.l2d ((own_val p3 (2 : Int32)).toInt64))), (.double (FP.l2d ((own_val p3 (3 : Int32)).toInt64)))] := F1948.keep K2415 (ninS n1901 (ninS n1940 (ninS n1944 nin0)))
    clear F1948
    have F2425 : xa5 Z T2401.heap a1897 := F1949.keep K2415
    clear F1949
    clear g1929
    clear g1930
    clear g1931
    clear g1932
    clear g1933
    have k2431 : own_G p e below E0 T2401 (mkF m 128 #[vi p0, vj p1, ss, vj p2, ss, vj p3, ss, vi (5 : Int32), vr a1685, vr a1816, vr a1897, vj (0 : Int64), ss] [(.long ((own_val p2 (0 : Int32)).toInt64 * (own_sel ((own_val p3 (0 : Int32)).toInt64) ((own_val p3 (1 : Int32)).toInt64) ((own_val p3 (2 : Int32)).toInt64) ((own_val p3 (3 : Int32)).toInt64) (own_row p1 (0 : Int32))))), (.long (0 : Int64))]) := fun tQ kk => k2400 tQ (st2411 _ kk)
    clear k2400 st2411
    have k2432 : own_G p e below E0 T2401 (mkF m 146 #[vi p0, vj p1, ss, vj p2, ss, vj p3, ss, vi (5 : Int32), vr a1685, vr a1816, vr a1897, vj ((0 : Int64) + ((own_val p2 (0 : Int32)).toInt64 * (own_sel ((own_val p3 (0 : Int32)).toInt64) ((own_val p3 (1 : Int32)).toInt64) ((own_val p3 (2 : Int32)).toInt64) ((own_val p3 (3 : Int32)).toInt64) (own_row p1 (0 : Int32))))), ss] [(.int (1 : Int32)), (.ref a1685), (.long p2), (.long p1), (.ref a1897), (.long ((0 : Int64) + ((own_val p2 (0 : Int32)).toInt64 * (own_sel ((own_val p3 (0 : Int32)).toInt64) ((own_val p3 (1 : Int32)).toInt64) ((own_val p3 (2 : Int32)).toInt64) ((own_val p3 (3 : Int32)).toInt64) (own_row p1 (0 : Int32))))))]) := by
      intro tQ kk
      refine k2431 tQ ?_
      refine XT.ladd X2405.here hx rfl (hb hby at_128) rfl ?_
      refine XT.lstore X2405.here hx rfl (hb hby at_129) rfl (l' := #[vi p0, vj p1, ss, vj p2, ss, vj p3, ss, vi (5 : Int32), vr a1685, vr a1816, vr a1897, vj ((0 : Int64) + ((own_val p2 (0 : Int32)).toInt64 * (own_sel ((own_val p3 (0 : Int32)).toInt64) ((own_val p3 (1 : Int32)).toInt64) ((own_val p3 (2 : Int32)).toInt64) ((own_val p3 (3 : Int32)).toInt64) (own_row p1 (0 : Int32))))), ss]) rfl ?_
      refine XS.iload X2405.here hx rfl (hb hby at_131) rfl ?_
      refine XS.iconst X2405.here hx rfl (hb hby at_133) ?_
      show Steps p.tables e below (T2401.setTop (mkF m 134 #[vi p0, vj p1, ss, vj p2, ss, vj p3, ss, vi (5 : Int32), vr a1685, vr a1816, vr a1897, vj ((0 : Int64) + ((own_val p2 (0 : Int32)).toInt64 * (own_sel ((own_val p3 (0 : Int32)).toInt64) ((own_val p3 (1 : Int32)).toInt64) ((own_val p3 (2 : Int32)).toInt64) ((own_val p3 (3 : Int32)).toInt64) (own_row p1 (0 : Int32))))), ss] [(.int (1 : Int32)), (.int (5 : Int32))])) tQ
      refine XS.icmpNo X2405.here hx rfl (hb hby at_134) rfl (own_ic_leN (by decide)) ?_
      refine XT.lload X2405.here hx rfl (hb hby at_137) rfl ?_
      refine XS.aload X2405.here hx rfl (hb hby at_139) rfl rfl ?_
      refine XT.lloadN X2405.here hx rfl (hb hby at_141) rfl ?_
      show Steps p.tables e below (T2401.setTop (mkF m 142 #[vi p0, vj p1, ss, vj p2, ss, vj p3, ss, vi (5 : Int32), vr a1685, vr a1816, vr a1897, vj ((0 : Int64) + ((own_val p2 (0 : Int32)).toInt64 * (own_sel ((own_val p3 (0 : Int32)).toInt64) ((own_val p3 (1 : Int32)).toInt64) ((own_val p3 (2 : Int32)).toInt64) ((own_val p3 (3 : Int32)).toInt64) (own_row p1 (0 : Int32))))), ss] [(.long p1), (.ref a1897), (.long ((0 : Int64) + ((own_val p2 (0 : Int32)).toInt64 * (own_sel ((own_val p3 (0 : Int32)).toInt64) ((own_val p3 (1 : Int32)).toInt64) ((own_val p3 (2 : Int32)).toInt64) ((own_val p3 (3 : Int32)).toInt64) (own_row p1 (0 : Int32))))))])) tQ
      refine XT.lloadN X2405.here hx rfl (hb hby at_142) rfl ?_
      refine XS.aload X2405.here hx rfl (hb hby at_143) rfl rfl ?_
      refine XS.iconst X2405.here hx rfl (hb hby at_145) ?_
      exact kk
    clear k2431
    obtain ⟨_, _, ⟨T2433, L2434, kc2435, nc2436⟩, -, X2437, ⟨Lc2438, hQ2439, l2440, y2441, z2442⟩, st2443⟩ := Jvm.LawKit.callS X2405 hx (y := mn14) hown (mvT hZ (tw29 hw)) (mvT hZ (tw30 hw)) (mvT hZ (tw4 hw)) (mvT hZ (tw31 hw)) (by decide) (backOf (W := 2) (rmO1 l Z a0 hw [] a1897 p1 p2 a1685 r1926 q1927 (own_row p1 (0 : Int32)) (0 : Int32) (0 : Int32) (0 : Int32) (FP.i2d (own_val p2 (0 : Int32))) (0 : UInt64) (0 : UInt64) (0 : UInt64) ((own_val p3 (0 : Int32)).toInt64) ((own_val p3 (1 : Int32)).toInt64) ((own_val p3 (2 : Int32)).toInt64) ((own_val p3 (3 : Int32)).toInt64) T2401.heap n0 Z2422 F2425 g2416 g2417 g2418 g2419 g2420 F2423 n1941 n1945 n1936 n1899 n1939 n1943 ge1903 ge1938 ge1942) hZ (tw31 hw) (tw4 hw) (by decide) (by decide)) (g := (mkF m 146 #[vi p0, vj p1, ss, vj p2, ss, vj p3, ss, vi (5 : Int32), vr a1685, vr a1816, vr a1897, vj ((0 : Int64) + ((own_val p2 (0 : Int32)).toInt64 * (own_sel ((own_val p3 (0 : Int32)).toInt64) ((own_val p3 (1 : Int32)).toInt64) ((own_val p3 (2 : Int32)).toInt64) ((own_val p3 (3 : Int32)).toInt64) (own_row p1 (0 : Int32))))), ss] [(.int (1 : Int32)), (.ref a1685), (.long p2), (.long p1), (.ref a1897), (.long ((0 : Int64) + ((own_val p2 (0 : Int32)).toInt64 * (own_sel ((own_val p3 (0 : Int32)).toInt64) ((own_val p3 (1 : Int32)).toInt64) ((own_val p3 (2 : Int32)).toInt64) ((own_val p3 (3 : Int32)).toInt64) (own_row p1 (0 : Int32))))))])) rfl (by rw [hml]; rfl) (argsL := [(.ref a1897), (.long p1), (.long p2), (.ref a1685), (.int (1 : Int32))]) (rest := [(.long ((0 : Int64) + ((own_val p2 (0 : Int32)).toInt64 * (own_sel ((own_val p3 (0 : Int32)).toInt64) ((own_val p3 (1 : Int32)).toInt64) ((own_val p3 (2 : Int32)).toInt64) ((own_val p3 (3 : Int32)).toInt64) (own_row p1 (0 : Int32))))))]) (lenOf pd_20 rfl) rfl (by show 2 * 0 + _ ≤ _; exact Nat.le_of_eq rfl) (hb hby at_146) (fun _ _ => ⟨rfl, rfl, (by decide : 5 + 0 ≤ _), (by decide : 19 + 0 ≤ _)⟩)
    dsimp only [Pt.U, Pt.locs, Pt.cells, Pt.slots] at X2437 l2440 y2441 z2442 st2443 hQ2439
    subst l2440 y2441 z2442
    obtain ⟨rfl, N2444, K2447, g2448, g2449, g2450, g2451, g2452⟩ := hQ2439
    have N2453 := Fr.app N2421 N2444
    have Z2454 : n0 ≤ T2433.heap.size := Nat.le_trans Z2422 K2447.1
    have F2455 : own_A Z T2433.heap a1685 .long [(.long ((own_val p3 (0 : Int32)).toInt64)), (.long ((own_val p3 (1 : Int32)).toInt64)), (.long ((own_val p3 (2 : Int32)).toInt64)), (.long ((own_val p3 (3 : Int32)).toInt64))] := F2423.keep K2447 (ninS n1899 (ninS n1939 (ninS n1943 nin0)))
    clear F2423
    have F2456 : own_A Z T2433.heap a1816 .double [(.double (FP.l2d ((own_val p3 (0 : Int32)).toInt64))), (.double (FP.l2d ((own_val p3 (1 : Int32)).toInt64))), (.double (FP.l2d ((own_val p3 (2 : Int32)).toInt64))), (.double (FP.l2d ((own_val p3 (3 : Int32)).toInt64)))] := F2424.keep K2447 (ninS n1901 (ninS n1940 (ninS n1944 nin0)))
    clear F2424
    have F2457 : xa5 Z T2433.heap a1897 := F2425.keep K2447
    clear F2425
    clear g2416
    clear g2417
    clear g2418
    clear g2419
    clear g2420
    have k2463 : own_G p e below E0 T2433 (mkF m 149 #[vi p0, vj p1, ss, vj p2, ss, vj p3, ss, vi (5 : Int32), vr a1685, vr a1816, vr a1897, vj ((0 : Int64) + ((own_val p2 (0 : Int32)).toInt64 * (own_sel ((own_val p3 (0 : Int32)).toInt64) ((own_val p3 (1 : Int32)).toInt64) ((own_val p3 (2 : Int32)).toInt64) ((own_val p3 (3 : Int32)).toInt64) (own_row p1 (0 : Int32))))), ss] [(.long ((own_val p2 (1 : Int32)).toInt64 * (own_sel ((own_val p3 (0 : Int32)).toInt64) ((own_val p3 (1 : Int32)).toInt64) ((own_val p3 (2 : Int32)).toInt64) ((own_val p3 (3 : Int32)).toInt64) (own_row p1 (1 : Int32))))), (.long ((0 : Int64) + ((own_val p2 (0 : Int32)).toInt64 * (own_sel ((own_val p3 (0 : Int32)).toInt64) ((own_val p3 (1 : Int32)).toInt64) ((own_val p3 (2 : Int32)).toInt64) ((own_val p3 (3 : Int32)).toInt64) (own_row p1 (0 : Int32))))))]) := fun tQ kk => k2432 tQ (st2443 _ kk)
    clear k2432 st2443
    have k2464 : own_G p e below E0 T2433 (mkF m 167 #[vi p0, vj p1, ss, vj p2, ss, vj p3, ss, vi (5 : Int32), vr a1685, vr a1816, vr a1897, vj (((0 : Int64) + ((own_val p2 (0 : Int32)).toInt64 * (own_sel ((own_val p3 (0 : Int32)).toInt64) ((own_val p3 (1 : Int32)).toInt64) ((own_val p3 (2 : Int32)).toInt64) ((own_val p3 (3 : Int32)).toInt64) (own_row p1 (0 : Int32))))) + ((own_val p2 (1 : Int32)).toInt64 * (own_sel ((own_val p3 (0 : Int32)).toInt64) ((own_val p3 (1 : Int32)).toInt64) ((own_val p3 (2 : Int32)).toInt64) ((own_val p3 (3 : Int32)).toInt64) (own_row p1 (1 : Int32))))), ss] [(.int (2 : Int32)), (.ref a1685), (.long p2), (.long p1), (.ref a1897), (.long (((0 : Int64) + ((own_val p2 (0 : Int32)).toInt64 * (own_sel ((own_val p3 (0 : Int32)).toInt64) ((own_val p3 (1 : Int32)).toInt64) ((own_val p3 (2 : Int32)).toInt64) ((own_val p3 (3 : Int32)).toInt64) (own_row p1 (0 : Int32))))) + ((own_val p2 (1 : Int32)).toInt64 * (own_sel ((own_val p3 (0 : Int32)).toInt64) ((own_val p3 (1 : Int32)).toInt64) ((own_val p3 (2 : Int32)).toInt64) ((own_val p3 (3 : Int32)).toInt64) (own_row p1 (1 : Int32))))))]) := by
      intro tQ kk
      refine k2463 tQ ?_
      refine XT.ladd X2437.here hx rfl (hb hby at_149) rfl ?_
      refine XT.lstore X2437.here hx rfl (hb hby at_150) rfl (l' := #[vi p0, vj p1, ss, vj p2, ss, vj p3, ss, vi (5 : Int32), vr a1685, vr a1816, vr a1897, vj (((0 : Int64) + ((own_val p2 (0 : Int32)).toInt64 * (own_sel ((own_val p3 (0 : Int32)).toInt64) ((own_val p3 (1 : Int32)).toInt64) ((own_val p3 (2 : Int32)).toInt64) ((own_val p3 (3 : Int32)).toInt64) (own_row p1 (0 : Int32))))) + ((own_val p2 (1 : Int32)).toInt64 * (own_sel ((own_val p3 (0 : Int32)).toInt64) ((own_val p3 (1 : Int32)).toInt64) ((own_val p3 (2 : Int32)).toInt64) ((own_val p3 (3 : Int32)).toInt64) (own_row p1 (1 : Int32))))), ss]) rfl ?_
      refine XS.iload X2437.here hx rfl (hb hby at_152) rfl ?_
      refine XS.iconst X2437.here hx rfl (hb hby at_154) ?_
      show Steps p.tables e below (T2433.setTop (mkF m 155 #[vi p0, vj p1, ss, vj p2, ss, vj p3, ss, vi (5 : Int32), vr a1685, vr a1816, vr a1897, vj (((0 : Int64) + ((own_val p2 (0 : Int32)).toInt64 * (own_sel ((own_val p3 (0 : Int32)).toInt64) ((own_val p3 (1 : Int32)).toInt64) ((own_val p3 (2 : Int32)).toInt64) ((own_val p3 (3 : Int32)).toInt64) (own_row p1 (0 : Int32))))) + ((own_val p2 (1 : Int32)).toInt64 * (own_sel ((own_val p3 (0 : Int32)).toInt64) ((own_val p3 (1 : Int32)).toInt64) ((own_val p3 (2 : Int32)).toInt64) ((own_val p3 (3 : Int32)).toInt64) (own_row p1 (1 : Int32))))), ss] [(.int (2 : Int32)), (.int (5 : Int32))])) tQ
      refine XS.icmpNo X2437.here hx rfl (hb hby at_155) rfl (own_ic_leN (by decide)) ?_
      refine XT.lload X2437.here hx rfl (hb hby at_158) rfl ?_
      refine XS.aload X2437.here hx rfl (hb hby at_160) rfl rfl ?_
      refine XT.lloadN X2437.here hx rfl (hb hby at_162) rfl ?_
      show Steps p.tables e below (T2433.setTop (mkF m 163 #[vi p0, vj p1, ss, vj p2, ss, vj p3, ss, vi (5 : Int32), vr a1685, vr a1816, vr a1897, vj (((0 : Int64) + ((own_val p2 (0 : Int32)).toInt64 * (own_sel ((own_val p3 (0 : Int32)).toInt64) ((own_val p3 (1 : Int32)).toInt64) ((own_val p3 (2 : Int32)).toInt64) ((own_val p3 (3 : Int32)).toInt64) (own_row p1 (0 : Int32))))) + ((own_val p2 (1 : Int32)).toInt64 * (own_sel ((own_val p3 (0 : Int32)).toInt64) ((own_val p3 (1 : Int32)).toInt64) ((own_val p3 (2 : Int32)).toInt64) ((own_val p3 (3 : Int32)).toInt64) (own_row p1 (1 : Int32))))), ss] [(.long p1), (.ref a1897), (.long (((0 : Int64) + ((own_val p2 (0 : Int32)).toInt64 * (own_sel ((own_val p3 (0 : Int32)).toInt64) ((own_val p3 (1 : Int32)).toInt64) ((own_val p3 (2 : Int32)).toInt64) ((own_val p3 (3 : Int32)).toInt64) (own_row p1 (0 : Int32))))) + ((own_val p2 (1 : Int32)).toInt64 * (own_sel ((own_val p3 (0 : Int32)).toInt64) ((own_val p3 (1 : Int32)).toInt64) ((own_val p3 (2 : Int32)).toInt64) ((own_val p3 (3 : Int32)).toInt64) (own_row p1 (1 : Int32))))))])) tQ
      refine XT.lloadN X2437.here hx rfl (hb hby at_163) rfl ?_
      refine XS.aload X2437.here hx rfl (hb hby at_164) rfl rfl ?_
      refine XS.iconst X2437.here hx rfl (hb hby at_166) ?_
      exact kk
    clear k2463
    obtain ⟨_, _, ⟨T2465, L2466, kc2467, nc2468⟩, -, X2469, ⟨Lc2470, hQ2471, l2472, y2473, z2474⟩, st2475⟩ := Jvm.LawKit.callS X2437 hx (y := mn14) hown (mvT hZ (tw29 hw)) (mvT hZ (tw30 hw)) (mvT hZ (tw4 hw)) (mvT hZ (tw31 hw)) (by decide) (backOf (W := 2) (rmO2 l Z a0 hw [] a1897 p1 p2 a1685 r1926 q1927 (own_row p1 (0 : Int32)) (own_row p1 (1 : Int32)) (0 : Int32) (0 : Int32) (FP.i2d (own_val p2 (0 : Int32))) (FP.i2d (own_val p2 (1 : Int32))) (0 : UInt64) (0 : UInt64) ((own_val p3 (0 : Int32)).toInt64) ((own_val p3 (1 : Int32)).toInt64) ((own_val p3 (2 : Int32)).toInt64) ((own_val p3 (3 : Int32)).toInt64) T2433.heap n0 Z2454 F2457 g2448 g2449 g2450 g2451 g2452 F2455 n1941 n1945 n1936 n1899 n1939 n1943 ge1903 ge1938 ge1942) hZ (tw31 hw) (tw4 hw) (by decide) (by decide)) (g := (mkF m 167 #[vi p0, vj p1, ss, vj p2, ss, vj p3, ss, vi (5 : Int32), vr a1685, vr a1816, vr a1897, vj (((0 : Int64) + ((own_val p2 (0 : Int32)).toInt64 * (own_sel ((own_val p3 (0 : Int32)).toInt64) ((own_val p3 (1 : Int32)).toInt64) ((own_val p3 (2 : Int32)).toInt64) ((own_val p3 (3 : Int32)).toInt64) (own_row p1 (0 : Int32))))) + ((own_val p2 (1 : Int32)).toInt64 * (own_sel ((own_val p3 (0 : Int32)).toInt64) ((own_val p3 (1 : Int32)).toInt64) ((own_val p3 (2 : Int32)).toInt64) ((own_val p3 (3 : Int32)).toInt64) (own_row p1 (1 : Int32))))), ss] [(.int (2 : Int32)), (.ref a1685), (.long p2), (.long p1), (.ref a1897), (.long (((0 : Int64) + ((own_val p2 (0 : Int32)).toInt64 * (own_sel ((own_val p3 (0 : Int32)).toInt64) ((own_val p3 (1 : Int32)).toInt64) ((own_val p3 (2 : Int32)).toInt64) ((own_val p3 (3 : Int32)).toInt64) (own_row p1 (0 : Int32))))) + ((own_val p2 (1 : Int32)).toInt64 * (own_sel ((own_val p3 (0 : Int32)).toInt64) ((own_val p3 (1 : Int32)).toInt64) ((own_val p3 (2 : Int32)).toInt64) ((own_val p3 (3 : Int32)).toInt64) (own_row p1 (1 : Int32))))))])) rfl (by rw [hml]; rfl) (argsL := [(.ref a1897), (.long p1), (.long p2), (.ref a1685), (.int (2 : Int32))]) (rest := [(.long (((0 : Int64) + ((own_val p2 (0 : Int32)).toInt64 * (own_sel ((own_val p3 (0 : Int32)).toInt64) ((own_val p3 (1 : Int32)).toInt64) ((own_val p3 (2 : Int32)).toInt64) ((own_val p3 (3 : Int32)).toInt64) (own_row p1 (0 : Int32))))) + ((own_val p2 (1 : Int32)).toInt64 * (own_sel ((own_val p3 (0 : Int32)).toInt64) ((own_val p3 (1 : Int32)).toInt64) ((own_val p3 (2 : Int32)).toInt64) ((own_val p3 (3 : Int32)).toInt64) (own_row p1 (1 : Int32))))))]) (lenOf pd_20 rfl) rfl (by show 2 * 0 + _ ≤ _; exact Nat.le_of_eq rfl) (hb hby at_167) (fun _ _ => ⟨rfl, rfl, (by decide : 5 + 0 ≤ _), (by decide : 19 + 0 ≤ _)⟩)
    dsimp only [Pt.U, Pt.locs, Pt.cells, Pt.slots] at X2469 l2472 y2473 z2474 st2475 hQ2471
    subst l2472 y2473 z2474
    obtain ⟨rfl, N2476, K2479, g2480, g2481, g2482, g2483, g2484⟩ := hQ2471
    have N2485 := Fr.app N2453 N2476
    have Z2486 : n0 ≤ T2465.heap.size := Nat.le_trans Z2454 K2479.1
    have F2487 : own_A Z T2465.heap a1685 .long [(.long ((own_val p3 (0 : Int32)).toInt64)), (.long ((own_val p3 (1 : Int32)).toInt64)), (.long ((own_val p3 (2 : Int32)).toInt64)), (.long ((own_val p3 (3 : Int32)).toInt64))] := F2455.keep K2479 (ninS n1899 (ninS n1939 (ninS n1943 nin0)))
    clear F2455
    have F2488 : own_A Z T2465.heap a1816 .double [(.double (FP.l2d ((own_val p3 (0 : Int32)).toInt64))), (.double (FP.l2d ((own_val p3 (1 : Int32)).toInt64))), (.double (FP.l2d ((own_val p3 (2 : Int32)).toInt64))), (.double (FP.l2d ((own_val p3 (3 : Int32)).toInt64)))] := F2456.keep K2479 (ninS n1901 (ninS n1940 (ninS n1944 nin0)))
    clear F2456
    have F2489 : xa5 Z T2465.heap a1897 := F2457.keep K2479
    clear F2457
    clear g2448
    clear g2449
    clear g2450
    clear g2451
    clear g2452
    have k2495 : own_G p e below E0 T2465 (mkF m 170 #[vi p0, vj p1, ss, vj p2, ss, vj p3, ss, vi (5 : Int32), vr a1685, vr a1816, vr a1897, vj (((0 : Int64) + ((own_val p2 (0 : Int32)).toInt64 * (own_sel ((own_val p3 (0 : Int32)).toInt64) ((own_val p3 (1 : Int32)).toInt64) ((own_val p3 (2 : Int32)).toInt64) ((own_val p3 (3 : Int32)).toInt64) (own_row p1 (0 : Int32))))) + ((own_val p2 (1 : Int32)).toInt64 * (own_sel ((own_val p3 (0 : Int32)).toInt64) ((own_val p3 (1 : Int32)).toInt64) ((own_val p3 (2 : Int32)).toInt64) ((own_val p3 (3 : Int32)).toInt64) (own_row p1 (1 : Int32))))), ss] [(.long ((own_val p2 (2 : Int32)).toInt64 * (own_sel ((own_val p3 (0 : Int32)).toInt64) ((own_val p3 (1 : Int32)).toInt64) ((own_val p3 (2 : Int32)).toInt64) ((own_val p3 (3 : Int32)).toInt64) (own_row p1 (2 : Int32))))), (.long (((0 : Int64) + ((own_val p2 (0 : Int32)).toInt64 * (own_sel ((own_val p3 (0 : Int32)).toInt64) ((own_val p3 (1 : Int32)).toInt64) ((own_val p3 (2 : Int32)).toInt64) ((own_val p3 (3 : Int32)).toInt64) (own_row p1 (0 : Int32))))) + ((own_val p2 (1 : Int32)).toInt64 * (own_sel ((own_val p3 (0 : Int32)).toInt64) ((own_val p3 (1 : Int32)).toInt64) ((own_val p3 (2 : Int32)).toInt64) ((own_val p3 (3 : Int32)).toInt64) (own_row p1 (1 : Int32))))))]) := fun tQ kk => k2464 tQ (st2475 _ kk)
    clear k2464 st2475
    have k2496 : own_G p e below E0 T2465 (mkF m 188 #[vi p0, vj p1, ss, vj p2, ss, vj p3, ss, vi (5 : Int32), vr a1685, vr a1816, vr a1897, vj ((((0 : Int64) + ((own_val p2 (0 : Int32)).toInt64 * (own_sel ((own_val p3 (0 : Int32)).toInt64) ((own_val p3 (1 : Int32)).toInt64) ((own_val p3 (2 : Int32)).toInt64) ((own_val p3 (3 : Int32)).toInt64) (own_row p1 (0 : Int32))))) + ((own_val p2 (1 : Int32)).toInt64 * (own_sel ((own_val p3 (0 : Int32)).toInt64) ((own_val p3 (1 : Int32)).toInt64) ((own_val p3 (2 : Int32)).toInt64) ((own_val p3 (3 : Int32)).toInt64) (own_row p1 (1 : Int32))))) + ((own_val p2 (2 : Int32)).toInt64 * (own_sel ((own_val p3 (0 : Int32)).toInt64) ((own_val p3 (1 : Int32)).toInt64) ((own_val p3 (2 : Int32)).toInt64) ((own_val p3 (3 : Int32)).toInt64) (own_row p1 (2 : Int32))))), ss] [(.int (3 : Int32)), (.ref a1685), (.long p2), (.long p1), (.ref a1897), (.long ((((0 : Int64) + ((own_val p2 (0 : Int32)).toInt64 * (own_sel ((own_val p3 (0 : Int32)).toInt64) ((own_val p3 (1 : Int32)).toInt64) ((own_val p3 (2 : Int32)).toInt64) ((own_val p3 (3 : Int32)).toInt64) (own_row p1 (0 : Int32))))) + ((own_val p2 (1 : Int32)).toInt64 * (own_sel ((own_val p3 (0 : Int32)).toInt64) ((own_val p3 (1 : Int32)).toInt64) ((own_val p3 (2 : Int32)).toInt64) ((own_val p3 (3 : Int32)).toInt64) (own_row p1 (1 : Int32))))) + ((own_val p2 (2 : Int32)).toInt64 * (own_sel ((own_val p3 (0 : Int32)).toInt64) ((own_val p3 (1 : Int32)).toInt64) ((own_val p3 (2 : Int32)).toInt64) ((own_val p3 (3 : Int32)).toInt64) (own_row p1 (2 : Int32))))))]) := by
      intro tQ kk
      refine k2495 tQ ?_
      refine XT.ladd X2469.here hx rfl (hb hby at_170) rfl ?_
      refine XT.lstore X2469.here hx rfl (hb hby at_171) rfl (l' := #[vi p0, vj p1, ss, vj p2, ss, vj p3, ss, vi (5 : Int32), vr a1685, vr a1816, vr a1897, vj ((((0 : Int64) + ((own_val p2 (0 : Int32)).toInt64 * (own_sel ((own_val p3 (0 : Int32)).toInt64) ((own_val p3 (1 : Int32)).toInt64) ((own_val p3 (2 : Int32)).toInt64) ((own_val p3 (3 : Int32)).toInt64) (own_row p1 (0 : Int32))))) + ((own_val p2 (1 : Int32)).toInt64 * (own_sel ((own_val p3 (0 : Int32)).toInt64) ((own_val p3 (1 : Int32)).toInt64) ((own_val p3 (2 : Int32)).toInt64) ((own_val p3 (3 : Int32)).toInt64) (own_row p1 (1 : Int32))))) + ((own_val p2 (2 : Int32)).toInt64 * (own_sel ((own_val p3 (0 : Int32)).toInt64) ((own_val p3 (1 : Int32)).toInt64) ((own_val p3 (2 : Int32)).toInt64) ((own_val p3 (3 : Int32)).toInt64) (own_row p1 (2 : Int32))))), ss]) rfl ?_
      refine XS.iload X2469.here hx rfl (hb hby at_173) rfl ?_
      refine XS.iconst X2469.here hx rfl (hb hby at_175) ?_
      show Steps p.tables e below (T2465.setTop (mkF m 176 #[vi p0, vj p1, ss, vj p2, ss, vj p3, ss, vi (5 : Int32), vr a1685, vr a1816, vr a1897, vj ((((0 : Int64) + ((own_val p2 (0 : Int32)).toInt64 * (own_sel ((own_val p3 (0 : Int32)).toInt64) ((own_val p3 (1 : Int32)).toInt64) ((own_val p3 (2 : Int32)).toInt64) ((own_val p3 (3 : Int32)).toInt64) (own_row p1 (0 : Int32))))) + ((own_val p2 (1 : Int32)).toInt64 * (own_sel ((own_val p3 (0 : Int32)).toInt64) ((own_val p3 (1 : Int32)).toInt64) ((own_val p3 (2 : Int32)).toInt64) ((own_val p3 (3 : Int32)).toInt64) (own_row p1 (1 : Int32))))) + ((own_val p2 (2 : Int32)).toInt64 * (own_sel ((own_val p3 (0 : Int32)).toInt64) ((own_val p3 (1 : Int32)).toInt64) ((own_val p3 (2 : Int32)).toInt64) ((own_val p3 (3 : Int32)).toInt64) (own_row p1 (2 : Int32))))), ss] [(.int (3 : Int32)), (.int (5 : Int32))])) tQ
      refine XS.icmpNo X2469.here hx rfl (hb hby at_176) rfl (own_ic_leN (by decide)) ?_
      refine XT.lload X2469.here hx rfl (hb hby at_179) rfl ?_
      refine XS.aload X2469.here hx rfl (hb hby at_181) rfl rfl ?_
      refine XT.lloadN X2469.here hx rfl (hb hby at_183) rfl ?_
      show Steps p.tables e below (T2465.setTop (mkF m 184 #[vi p0, vj p1, ss, vj p2, ss, vj p3, ss, vi (5 : Int32), vr a1685, vr a1816, vr a1897, vj ((((0 : Int64) + ((own_val p2 (0 : Int32)).toInt64 * (own_sel ((own_val p3 (0 : Int32)).toInt64) ((own_val p3 (1 : Int32)).toInt64) ((own_val p3 (2 : Int32)).toInt64) ((own_val p3 (3 : Int32)).toInt64) (own_row p1 (0 : Int32))))) + ((own_val p2 (1 : Int32)).toInt64 * (own_sel ((own_val p3 (0 : Int32)).toInt64) ((own_val p3 (1 : Int32)).toInt64) ((own_val p3 (2 : Int32)).toInt64) ((own_val p3 (3 : Int32)).toInt64) (own_row p1 (1 : Int32))))) + ((own_val p2 (2 : Int32)).toInt64 * (own_sel ((own_val p3 (0 : Int32)).toInt64) ((own_val p3 (1 : Int32)).toInt64) ((own_val p3 (2 : Int32)).toInt64) ((own_val p3 (3 : Int32)).toInt64) (own_row p1 (2 : Int32))))), ss] [(.long p1), (.ref a1897), (.long ((((0 : Int64) + ((own_val p2 (0 : Int32)).toInt64 * (own_sel ((own_val p3 (0 : Int32)).toInt64) ((own_val p3 (1 : Int32)).toInt64) ((own_val p3 (2 : Int32)).toInt64) ((own_val p3 (3 : Int32)).toInt64) (own_row p1 (0 : Int32))))) + ((own_val p2 (1 : Int32)).toInt64 * (own_sel ((own_val p3 (0 : Int32)).toInt64) ((own_val p3 (1 : Int32)).toInt64) ((own_val p3 (2 : Int32)).toInt64) ((own_val p3 (3 : Int32)).toInt64) (own_row p1 (1 : Int32))))) + ((own_val p2 (2 : Int32)).toInt64 * (own_sel ((own_val p3 (0 : Int32)).toInt64) ((own_val p3 (1 : Int32)).toInt64) ((own_val p3 (2 : Int32)).toInt64) ((own_val p3 (3 : Int32)).toInt64) (own_row p1 (2 : Int32))))))])) tQ
      refine XT.lloadN X2469.here hx rfl (hb hby at_184) rfl ?_
      refine XS.aload X2469.here hx rfl (hb hby at_185) rfl rfl ?_
      refine XS.iconst X2469.here hx rfl (hb hby at_187) ?_
      exact kk
    clear k2495
    obtain ⟨_, _, ⟨T2497, L2498, kc2499, nc2500⟩, -, X2501, ⟨Lc2502, hQ2503, l2504, y2505, z2506⟩, st2507⟩ := Jvm.LawKit.callS X2469 hx (y := mn14) hown (mvT hZ (tw29 hw)) (mvT hZ (tw30 hw)) (mvT hZ (tw4 hw)) (mvT hZ (tw31 hw)) (by decide) (backOf (W := 2) (rmO3 l Z a0 hw [] a1897 p1 p2 a1685 r1926 q1927 (own_row p1 (0 : Int32)) (own_row p1 (1 : Int32)) (own_row p1 (2 : Int32)) (0 : Int32) (FP.i2d (own_val p2 (0 : Int32))) (FP.i2d (own_val p2 (1 : Int32))) (FP.i2d (own_val p2 (2 : Int32))) (0 : UInt64) ((own_val p3 (0 : Int32)).toInt64) ((own_val p3 (1 : Int32)).toInt64) ((own_val p3 (2 : Int32)).toInt64) ((own_val p3 (3 : Int32)).toInt64) T2465.heap n0 Z2486 F2489 g2480 g2481 g2482 g2483 g2484 F2487 n1941 n1945 n1936 n1899 n1939 n1943 ge1903 ge1938 ge1942) hZ (tw31 hw) (tw4 hw) (by decide) (by decide)) (g := (mkF m 188 #[vi p0, vj p1, ss, vj p2, ss, vj p3, ss, vi (5 : Int32), vr a1685, vr a1816, vr a1897, vj ((((0 : Int64) + ((own_val p2 (0 : Int32)).toInt64 * (own_sel ((own_val p3 (0 : Int32)).toInt64) ((own_val p3 (1 : Int32)).toInt64) ((own_val p3 (2 : Int32)).toInt64) ((own_val p3 (3 : Int32)).toInt64) (own_row p1 (0 : Int32))))) + ((own_val p2 (1 : Int32)).toInt64 * (own_sel ((own_val p3 (0 : Int32)).toInt64) ((own_val p3 (1 : Int32)).toInt64) ((own_val p3 (2 : Int32)).toInt64) ((own_val p3 (3 : Int32)).toInt64) (own_row p1 (1 : Int32))))) + ((own_val p2 (2 : Int32)).toInt64 * (own_sel ((own_val p3 (0 : Int32)).toInt64) ((own_val p3 (1 : Int32)).toInt64) ((own_val p3 (2 : Int32)).toInt64) ((own_val p3 (3 : Int32)).toInt64) (own_row p1 (2 : Int32))))), ss] [(.int (3 : Int32)), (.ref a1685), (.long p2), (.long p1), (.ref a1897), (.long ((((0 : Int64) + ((own_val p2 (0 : Int32)).toInt64 * (own_sel ((own_val p3 (0 : Int32)).toInt64) ((own_val p3 (1 : Int32)).toInt64) ((own_val p3 (2 : Int32)).toInt64) ((own_val p3 (3 : Int32)).toInt64) (own_row p1 (0 : Int32))))) + ((own_val p2 (1 : Int32)).toInt64 * (own_sel ((own_val p3 (0 : Int32)).toInt64) ((own_val p3 (1 : Int32)).toInt64) ((own_val p3 (2 : Int32)).toInt64) ((own_val p3 (3 : Int32)).toInt64) (own_row p1 (1 : Int32))))) + ((own_val p2 (2 : Int32)).toInt64 * (own_sel ((own_val p3 (0 : Int32)).toInt64) ((own_val p3 (1 : Int32)).toInt64) ((own_val p3 (2 : Int32)).toInt64) ((own_val p3 (3 : Int32)).toInt64) (own_row p1 (2 : Int32))))))])) rfl (by rw [hml]; rfl) (argsL := [(.ref a1897), (.long p1), (.long p2), (.ref a1685), (.int (3 : Int32))]) (rest := [(.long ((((0 : Int64) + ((own_val p2 (0 : Int32)).toInt64 * (own_sel ((own_val p3 (0 : Int32)).toInt64) ((own_val p3 (1 : Int32)).toInt64) ((own_val p3 (2 : Int32)).toInt64) ((own_val p3 (3 : Int32)).toInt64) (own_row p1 (0 : Int32))))) + ((own_val p2 (1 : Int32)).toInt64 * (own_sel ((own_val p3 (0 : Int32)).toInt64) ((own_val p3 (1 : Int32)).toInt64) ((own_val p3 (2 : Int32)).toInt64) ((own_val p3 (3 : Int32)).toInt64) (own_row p1 (1 : Int32))))) + ((own_val p2 (2 : Int32)).toInt64 * (own_sel ((own_val p3 (0 : Int32)).toInt64) ((own_val p3 (1 : Int32)).toInt64) ((own_val p3 (2 : Int32)).toInt64) ((own_val p3 (3 : Int32)).toInt64) (own_row p1 (2 : Int32))))))]) (lenOf pd_20 rfl) rfl (by show 2 * 0 + _ ≤ _; exact Nat.le_of_eq rfl) (hb hby at_188) (fun _ _ => ⟨rfl, rfl, (by decide : 5 + 0 ≤ _), (by decide : 19 + 0 ≤ _)⟩)
    dsimp only [Pt.U, Pt.locs, Pt.cells, Pt.slots] at X2501 l2504 y2505 z2506 st2507 hQ2503
    subst l2504 y2505 z2506
    obtain ⟨rfl, N2508, K2511, g2512, g2513, g2514, g2515, g2516⟩ := hQ2503
    have N2517 := Fr.app N2485 N2508
    have Z2518 : n0 ≤ T2497.heap.size := Nat.le_trans Z2486 K2511.1
    have F2519 : own_A Z T2497.heap a1685 .long [(.long ((own_val p3 (0 : Int32)).toInt64)), (.long ((own_val p3 (1 : Int32)).toInt64)), (.long ((own_val p3 (2 : Int32)).toInt64)), (.long ((own_val p3 (3 : Int32)).toInt64))] := F2487.keep K2511 (ninS n1899 (ninS n1939 (ninS n1943 nin0)))
    clear F2487
    have F2520 : own_A Z T2497.heap a1816 .double [(.double (FP.l2d ((own_val p3 (0 : Int32)).toInt64))), (.double (FP.l2d ((own_val p3 (1 : Int32)).toInt64))), (.double (FP.l2d ((own_val p3 (2 : Int32)).toInt64))), (.double (FP.l2d ((own_val p3 (3 : Int32)).toInt64)))] := F2488.keep K2511 (ninS n1901 (ninS n1940 (ninS n1944 nin0)))
    clear F2488
    have F2521 : xa5 Z T2497.heap a1897 := F2489.keep K2511
    clear F2489
    clear g2480
    clear g2481
    clear g2482
    clear g2483
    clear g2484
    have k2527 : own_G p e below E0 T2497 (mkF m 191 #[vi p0, vj p1, ss, vj p2, ss, vj p3, ss, vi (5 : Int32), vr a1685, vr a1816, vr a1897, vj ((((0 : Int64) + ((own_val p2 (0 : Int32)).toInt64 * (own_sel ((own_val p3 (0 : Int32)).toInt64) ((own_val p3 (1 : Int32)).toInt64) ((own_val p3 (2 : Int32)).toInt64) ((own_val p3 (3 : Int32)).toInt64) (own_row p1 (0 : Int32))))) + ((own_val p2 (1 : Int32)).toInt64 * (own_sel ((own_val p3 (0 : Int32)).toInt64) ((own_val p3 (1 : Int32)).toInt64) ((own_val p3 (2 : Int32)).toInt64) ((own_val p3 (3 : Int32)).toInt64) (own_row p1 (1 : Int32))))) + ((own_val p2 (2 : Int32)).toInt64 * (own_sel ((own_val p3 (0 : Int32)).toInt64) ((own_val p3 (1 : Int32)).toInt64) ((own_val p3 (2 : Int32)).toInt64) ((own_val p3 (3 : Int32)).toInt64) (own_row p1 (2 : Int32))))), ss] [(.long ((own_val p2 (3 : Int32)).toInt64 * (own_sel ((own_val p3 (0 : Int32)).toInt64) ((own_val p3 (1 : Int32)).toInt64) ((own_val p3 (2 : Int32)).toInt64) ((own_val p3 (3 : Int32)).toInt64) (own_row p1 (3 : Int32))))), (.long ((((0 : Int64) + ((own_val p2 (0 : Int32)).toInt64 * (own_sel ((own_val p3 (0 : Int32)).toInt64) ((own_val p3 (1 : Int32)).toInt64) ((own_val p3 (2 : Int32)).toInt64) ((own_val p3 (3 : Int32)).toInt64) (own_row p1 (0 : Int32))))) + ((own_val p2 (1 : Int32)).toInt64 * (own_sel ((own_val p3 (0 : Int32)).toInt64) ((own_val p3 (1 : Int32)).toInt64) ((own_val p3 (2 : Int32)).toInt64) ((own_val p3 (3 : Int32)).toInt64) (own_row p1 (1 : Int32))))) + ((own_val p2 (2 : Int32)).toInt64 * (own_sel ((own_val p3 (0 : Int32)).toInt64) ((own_val p3 (1 : Int32)).toInt64) ((own_val p3 (2 : Int32)).toInt64) ((own_val p3 (3 : Int32)).toInt64) (own_row p1 (2 : Int32))))))]) := fun tQ kk => k2496 tQ (st2507 _ kk)
    clear k2496 st2507
    have k2528 : own_G p e below E0 T2497 (mkF m 209 #[vi p0, vj p1, ss, vj p2, ss, vj p3, ss, vi (5 : Int32), vr a1685, vr a1816, vr a1897, vj (((((0 : Int64) + ((own_val p2 (0 : Int32)).toInt64 * (own_sel ((own_val p3 (0 : Int32)).toInt64) ((own_val p3 (1 : Int32)).toInt64) ((own_val p3 (2 : Int32)).toInt64) ((own_val p3 (3 : Int32)).toInt64) (own_row p1 (0 : Int32))))) + ((own_val p2 (1 : Int32)).toInt64 * (own_sel ((own_val p3 (0 : Int32)).toInt64) ((own_val p3 (1 : Int32)).toInt64) ((own_val p3 (2 : Int32)).toInt64) ((own_val p3 (3 : Int32)).toInt64) (own_row p1 (1 : Int32))))) + ((own_val p2 (2 : Int32)).toInt64 * (own_sel ((own_val p3 (0 : Int32)).toInt64) ((own_val p3 (1 : Int32)).toInt64) ((own_val p3 (2 : Int32)).toInt64) ((own_val p3 (3 : Int32)).toInt64) (own_row p1 (2 : Int32))))) + ((own_val p2 (3 : Int32)).toInt64 * (own_sel ((own_val p3 (0 : Int32)).toInt64) ((own_val p3 (1 : Int32)).toInt64) ((own_val p3 (2 : Int32)).toInt64) ((own_val p3 (3 : Int32)).toInt64) (own_row p1 (3 : Int32))))), ss] [(.int (4 : Int32)), (.ref a1685), (.long p2), (.long p1), (.ref a1897), (.long (((((0 : Int64) + ((own_val p2 (0 : Int32)).toInt64 * (own_sel ((own_val p3 (0 : Int32)).toInt64) ((own_val p3 (1 : Int32)).toInt64) ((own_val p3 (2 : Int32)).toInt64) ((own_val p3 (3 : Int32)).toInt64) (own_row p1 (0 : Int32))))) + ((own_val p2 (1 : Int32)).toInt64 * (own_sel ((own_val p3 (0 : Int32)).toInt64) ((own_val p3 (1 : Int32)).toInt64) ((own_val p3 (2 : Int32)).toInt64) ((own_val p3 (3 : Int32)).toInt64) (own_row p1 (1 : Int32))))) + ((own_val p2 (2 : Int32)).toInt64 * (own_sel ((own_val p3 (0 : Int32)).toInt64) ((own_val p3 (1 : Int32)).toInt64) ((own_val p3 (2 : Int32)).toInt64) ((own_val p3 (3 : Int32)).toInt64) (own_row p1 (2 : Int32))))) + ((own_val p2 (3 : Int32)).toInt64 * (own_sel ((own_val p3 (0 : Int32)).toInt64) ((own_val p3 (1 : Int32)).toInt64) ((own_val p3 (2 : Int32)).toInt64) ((own_val p3 (3 : Int32)).toInt64) (own_row p1 (3 : Int32))))))]) := by
      intro tQ kk
      refine k2527 tQ ?_
      refine XT.ladd X2501.here hx rfl (hb hby at_191) rfl ?_
      refine XT.lstore X2501.here hx rfl (hb hby at_192) rfl (l' := #[vi p0, vj p1, ss, vj p2, ss, vj p3, ss, vi (5 : Int32), vr a1685, vr a1816, vr a1897, vj (((((0 : Int64) + ((own_val p2 (0 : Int32)).toInt64 * (own_sel ((own_val p3 (0 : Int32)).toInt64) ((own_val p3 (1 : Int32)).toInt64) ((own_val p3 (2 : Int32)).toInt64) ((own_val p3 (3 : Int32)).toInt64) (own_row p1 (0 : Int32))))) + ((own_val p2 (1 : Int32)).toInt64 * (own_sel ((own_val p3 (0 : Int32)).toInt64) ((own_val p3 (1 : Int32)).toInt64) ((own_val p3 (2 : Int32)).toInt64) ((own_val p3 (3 : Int32)).toInt64) (own_row p1 (1 : Int32))))) + ((own_val p2 (2 : Int32)).toInt64 * (own_sel ((own_val p3 (0 : Int32)).toInt64) ((own_val p3 (1 : Int32)).toInt64) ((own_val p3 (2 : Int32)).toInt64) ((own_val p3 (3 : Int32)).toInt64) (own_row p1 (2 : Int32))))) + ((own_val p2 (3 : Int32)).toInt64 * (own_sel ((own_val p3 (0 : Int32)).toInt64) ((own_val p3 (1 : Int32)).toInt64) ((own_val p3 (2 : Int32)).toInt64) ((own_val p3 (3 : Int32)).toInt64) (own_row p1 (3 : Int32))))), ss]) rfl ?_
      refine XS.iload X2501.here hx rfl (hb hby at_194) rfl ?_
      refine XS.iconst X2501.here hx rfl (hb hby at_196) ?_
      show Steps p.tables e below (T2497.setTop (mkF m 197 #[vi p0, vj p1, ss, vj p2, ss, vj p3, ss, vi (5 : Int32), vr a1685, vr a1816, vr a1897, vj (((((0 : Int64) + ((own_val p2 (0 : Int32)).toInt64 * (own_sel ((own_val p3 (0 : Int32)).toInt64) ((own_val p3 (1 : Int32)).toInt64) ((own_val p3 (2 : Int32)).toInt64) ((own_val p3 (3 : Int32)).toInt64) (own_row p1 (0 : Int32))))) + ((own_val p2 (1 : Int32)).toInt64 * (own_sel ((own_val p3 (0 : Int32)).toInt64) ((own_val p3 (1 : Int32)).toInt64) ((own_val p3 (2 : Int32)).toInt64) ((own_val p3 (3 : Int32)).toInt64) (own_row p1 (1 : Int32))))) + ((own_val p2 (2 : Int32)).toInt64 * (own_sel ((own_val p3 (0 : Int32)).toInt64) ((own_val p3 (1 : Int32)).toInt64) ((own_val p3 (2 : Int32)).toInt64) ((own_val p3 (3 : Int32)).toInt64) (own_row p1 (2 : Int32))))) + ((own_val p2 (3 : Int32)).toInt64 * (own_sel ((own_val p3 (0 : Int32)).toInt64) ((own_val p3 (1 : Int32)).toInt64) ((own_val p3 (2 : Int32)).toInt64) ((own_val p3 (3 : Int32)).toInt64) (own_row p1 (3 : Int32))))), ss] [(.int (4 : Int32)), (.int (5 : Int32))])) tQ
      refine XS.icmpNo X2501.here hx rfl (hb hby at_197) rfl (own_ic_leN (by decide)) ?_
      refine XT.lload X2501.here hx rfl (hb hby at_200) rfl ?_
      refine XS.aload X2501.here hx rfl (hb hby at_202) rfl rfl ?_
      refine XT.lloadN X2501.here hx rfl (hb hby at_204) rfl ?_
      show Steps p.tables e below (T2497.setTop (mkF m 205 #[vi p0, vj p1, ss, vj p2, ss, vj p3, ss, vi (5 : Int32), vr a1685, vr a1816, vr a1897, vj (((((0 : Int64) + ((own_val p2 (0 : Int32)).toInt64 * (own_sel ((own_val p3 (0 : Int32)).toInt64) ((own_val p3 (1 : Int32)).toInt64) ((own_val p3 (2 : Int32)).toInt64) ((own_val p3 (3 : Int32)).toInt64) (own_row p1 (0 : Int32))))) + ((own_val p2 (1 : Int32)).toInt64 * (own_sel ((own_val p3 (0 : Int32)).toInt64) ((own_val p3 (1 : Int32)).toInt64) ((own_val p3 (2 : Int32)).toInt64) ((own_val p3 (3 : Int32)).toInt64) (own_row p1 (1 : Int32))))) + ((own_val p2 (2 : Int32)).toInt64 * (own_sel ((own_val p3 (0 : Int32)).toInt64) ((own_val p3 (1 : Int32)).toInt64) ((own_val p3 (2 : Int32)).toInt64) ((own_val p3 (3 : Int32)).toInt64) (own_row p1 (2 : Int32))))) + ((own_val p2 (3 : Int32)).toInt64 * (own_sel ((own_val p3 (0 : Int32)).toInt64) ((own_val p3 (1 : Int32)).toInt64) ((own_val p3 (2 : Int32)).toInt64) ((own_val p3 (3 : Int32)).toInt64) (own_row p1 (3 : Int32))))), ss] [(.long p1), (.ref a1897), (.long (((((0 : Int64) + ((own_val p2 (0 : Int32)).toInt64 * (own_sel ((own_val p3 (0 : Int32)).toInt64) ((own_val p3 (1 : Int32)).toInt64) ((own_val p3 (2 : Int32)).toInt64) ((own_val p3 (3 : Int32)).toInt64) (own_row p1 (0 : Int32))))) + ((own_val p2 (1 : Int32)).toInt64 * (own_sel ((own_val p3 (0 : Int32)).toInt64) ((own_val p3 (1 : Int32)).toInt64) ((own_val p3 (2 : Int32)).toInt64) ((own_val p3 (3 : Int32)).toInt64) (own_row p1 (1 : Int32))))) + ((own_val p2 (2 : Int32)).toInt64 * (own_sel ((own_val p3 (0 : Int32)).toInt64) ((own_val p3 (1 : Int32)).toInt64) ((own_val p3 (2 : Int32)).toInt64) ((own_val p3 (3 : Int32)).toInt64) (own_row p1 (2 : Int32))))) + ((own_val p2 (3 : Int32)).toInt64 * (own_sel ((own_val p3 (0 : Int32)).toInt64) ((own_val p3 (1 : Int32)).toInt64) ((own_val p3 (2 : Int32)).toInt64) ((own_val p3 (3 : Int32)).toInt64) (own_row p1 (3 : Int32))))))])) tQ
      refine XT.lloadN X2501.here hx rfl (hb hby at_205) rfl ?_
      refine XS.aload X2501.here hx rfl (hb hby at_206) rfl rfl ?_
      refine XS.iconst X2501.here hx rfl (hb hby at_208) ?_
      exact kk
    clear k2527
    obtain ⟨_, _, ⟨T2529, L2530, kc2531, nc2532⟩, -, X2533, ⟨Lc2534, hQ2535, l2536, y2537, z2538⟩, st2539⟩ := Jvm.LawKit.callS X2501 hx (y := mn14) hown (mvT hZ (tw29 hw)) (mvT hZ (tw30 hw)) (mvT hZ (tw4 hw)) (mvT hZ (tw31 hw)) (by decide) (backOf (W := 2) (rmO4 l Z a0 hw [] a1897 p1 p2 a1685 r1926 q1927 (own_row p1 (0 : Int32)) (own_row p1 (1 : Int32)) (own_row p1 (2 : Int32)) (own_row p1 (3 : Int32)) (FP.i2d (own_val p2 (0 : Int32))) (FP.i2d (own_val p2 (1 : Int32))) (FP.i2d (own_val p2 (2 : Int32))) (FP.i2d (own_val p2 (3 : Int32))) ((own_val p3 (0 : Int32)).toInt64) ((own_val p3 (1 : Int32)).toInt64) ((own_val p3 (2 : Int32)).toInt64) ((own_val p3 (3 : Int32)).toInt64) T2497.heap n0 Z2518 F2521 g2512 g2513 g2514 g2515 g2516 F2519 n1941 n1945 n1936 n1899 n1939 n1943 ge1903) hZ (tw31 hw) (tw4 hw) (by decide) (by decide)) (g := (mkF m 209 #[vi p0, vj p1, ss, vj p2, ss, vj p3, ss, vi (5 : Int32), vr a1685, vr a1816, vr a1897, vj (((((0 : Int64) + ((own_val p2 (0 : Int32)).toInt64 * (own_sel ((own_val p3 (0 : Int32)).toInt64) ((own_val p3 (1 : Int32)).toInt64) ((own_val p3 (2 : Int32)).toInt64) ((own_val p3 (3 : Int32)).toInt64) (own_row p1 (0 : Int32))))) + ((own_val p2 (1 : Int32)).toInt64 * (own_sel ((own_val p3 (0 : Int32)).toInt64) ((own_val p3 (1 : Int32)).toInt64) ((own_val p3 (2 : Int32)).toInt64) ((own_val p3 (3 : Int32)).toInt64) (own_row p1 (1 : Int32))))) + ((own_val p2 (2 : Int32)).toInt64 * (own_sel ((own_val p3 (0 : Int32)).toInt64) ((own_val p3 (1 : Int32)).toInt64) ((own_val p3 (2 : Int32)).toInt64) ((own_val p3 (3 : Int32)).toInt64) (own_row p1 (2 : Int32))))) + ((own_val p2 (3 : Int32)).toInt64 * (own_sel ((own_val p3 (0 : Int32)).toInt64) ((own_val p3 (1 : Int32)).toInt64) ((own_val p3 (2 : Int32)).toInt64) ((own_val p3 (3 : Int32)).toInt64) (own_row p1 (3 : Int32))))), ss] [(.int (4 : Int32)), (.ref a1685), (.long p2), (.long p1), (.ref a1897), (.long (((((0 : Int64) + ((own_val p2 (0 : Int32)).toInt64 * (own_sel ((own_val p3 (0 : Int32)).toInt64) ((own_val p3 (1 : Int32)).toInt64) ((own_val p3 (2 : Int32)).toInt64) ((own_val p3 (3 : Int32)).toInt64) (own_row p1 (0 : Int32))))) + ((own_val p2 (1 : Int32)).toInt64 * (own_sel ((own_val p3 (0 : Int32)).toInt64) ((own_val p3 (1 : Int32)).toInt64) ((own_val p3 (2 : Int32)).toInt64) ((own_val p3 (3 : Int32)).toInt64) (own_row p1 (1 : Int32))))) + ((own_val p2 (2 : Int32)).toInt64 * (own_sel ((own_val p3 (0 : Int32)).toInt64) ((own_val p3 (1 : Int32)).toInt64) ((own_val p3 (2 : Int32)).toInt64) ((own_val p3 (3 : Int32)).toInt64) (own_row p1 (2 : Int32))))) + ((own_val p2 (3 : Int32)).toInt64 * (own_sel ((own_val p3 (0 : Int32)).toInt64) ((own_val p3 (1 : Int32)).toInt64) ((own_val p3 (2 : Int32)).toInt64) ((own_val p3 (3 : Int32)).toInt64) (own_row p1 (3 : Int32))))))])) rfl (by rw [hml]; rfl) (argsL := [(.ref a1897), (.long p1), (.long p2), (.ref a1685), (.int (4 : Int32))]) (rest := [(.long (((((0 : Int64) + ((own_val p2 (0 : Int32)).toInt64 * (own_sel ((own_val p3 (0 : Int32)).toInt64) ((own_val p3 (1 : Int32)).toInt64) ((own_val p3 (2 : Int32)).toInt64) ((own_val p3 (3 : Int32)).toInt64) (own_row p1 (0 : Int32))))) + ((own_val p2 (1 : Int32)).toInt64 * (own_sel ((own_val p3 (0 : Int32)).toInt64) ((own_val p3 (1 : Int32)).toInt64) ((own_val p3 (2 : Int32)).toInt64) ((own_val p3 (3 : Int32)).toInt64) (own_row p1 (1 : Int32))))) + ((own_val p2 (2 : Int32)).toInt64 * (own_sel ((own_val p3 (0 : Int32)).toInt64) ((own_val p3 (1 : Int32)).toInt64) ((own_val p3 (2 : Int32)).toInt64) ((own_val p3 (3 : Int32)).toInt64) (own_row p1 (2 : Int32))))) + ((own_val p2 (3 : Int32)).toInt64 * (own_sel ((own_val p3 (0 : Int32)).toInt64) ((own_val p3 (1 : Int32)).toInt64) ((own_val p3 (2 : Int32)).toInt64) ((own_val p3 (3 : Int32)).toInt64) (own_row p1 (3 : Int32))))))]) (lenOf pd_20 rfl) rfl (by show 2 * 0 + _ ≤ _; exact Nat.le_of_eq rfl) (hb hby at_209) (fun _ _ => ⟨rfl, rfl, (by decide : 5 + 2 ≤ _), (by decide : 19 + 16 ≤ _)⟩)
    dsimp only [Pt.U, Pt.locs, Pt.cells, Pt.slots] at X2533 l2536 y2537 z2538 st2539 hQ2535
    subst l2536 y2537 z2538
    obtain ⟨u2543, v2544, rfl, N2540, K2545, g2546, g2547, g2548, g2549, g2550, nw2551, nw2552, n2553⟩ := hQ2535
    have N2554 := Fr.app N2517 N2540
    have ge2555 : n0 ≤ u2543 := Nat.le_trans Z2518 nw2551
    have n2556 : a1685 ≠ u2543 := own_lt_ne2 F2519.lt nw2551
    have n2557 : a1816 ≠ u2543 := own_lt_ne2 F2520.lt nw2551
    have n2558 : a1897 ≠ u2543 := own_lt_ne2 F2521.lt nw2551
    have n2559 : r1926 ≠ u2543 := own_lt_ne2 g2515.lt nw2551
    have n2560 : q1927 ≠ u2543 := own_lt_ne2 g2516.lt nw2551
    have ge2561 : n0 ≤ v2544 := Nat.le_trans Z2518 nw2552
    have n2562 : a1685 ≠ v2544 := own_lt_ne2 F2519.lt nw2552
    have n2563 : a1816 ≠ v2544 := own_lt_ne2 F2520.lt nw2552
    have n2564 : a1897 ≠ v2544 := own_lt_ne2 F2521.lt nw2552
    have n2565 : r1926 ≠ v2544 := own_lt_ne2 g2515.lt nw2552
    have n2566 : q1927 ≠ v2544 := own_lt_ne2 g2516.lt nw2552
    have Z2567 : n0 ≤ T2529.heap.size := Nat.le_trans Z2518 K2545.1
    have F2568 : own_A Z T2529.heap a1685 .long [(.long ((own_val p3 (0 : Int32)).toInt64)), (.long ((own_val p3 (1 : Int32)).toInt64)), (.long ((own_val p3 (2 : Int32)).toInt64)), (.long ((own_val p3 (3 : Int32)).toInt64))] := F2519.keep K2545 (ninS n1899 nin0)
    clear F2519
    have F2569 : own_A Z T2529.heap a1816 .double [(.double (FP.l2d ((own_val p3 (0 : Int32)).toInt64))), (.double (FP.l2d ((own_val p3 (1 : Int32)).toInt64))), (.double (FP.l2d ((own_val p3 (2 : Int32)).toInt64))), (.double (FP.l2d ((own_val p3 (3 : Int32)).toInt64)))] := F2520.keep K2545 (ninS n1901 nin0)
    clear F2520
    have F2570 : xa5 Z T2529.heap a1897 := F2521.keep K2545
    clear F2521
    clear g2512
    clear g2513
    clear g2514
    have F2574 : own_A Z T2529.heap r1926 .int [(.int (own_row p1 (0 : Int32))), (.int (own_row p1 (1 : Int32))), (.int (own_row p1 (2 : Int32))), (.int (own_row p1 (3 : Int32)))] := g2515.keep K2545 (ninS (Ne.symm n1941) nin0)
    clear g2515
    have F2575 : own_A Z T2529.heap q1927 .double [(.double (FP.i2d (own_val p2 (0 : Int32)))), (.double (FP.i2d (own_val p2 (1 : Int32)))), (.double (FP.i2d (own_val p2 (2 : Int32)))), (.double (FP.i2d (own_val p2 (3 : Int32))))] := g2516.keep K2545 (ninS (Ne.symm n1945) nin0)
    clear g2516
    have k2576 : own_G p e below E0 T2529 (mkF m 212 #[vi p0, vj p1, ss, vj p2, ss, vj p3, ss, vi (5 : Int32), vr a1685, vr a1816, vr a1897, vj (((((0 : Int64) + ((own_val p2 (0 : Int32)).toInt64 * (own_sel ((own_val p3 (0 : Int32)).toInt64) ((own_val p3 (1 : Int32)).toInt64) ((own_val p3 (2 : Int32)).toInt64) ((own_val p3 (3 : Int32)).toInt64) (own_row p1 (0 : Int32))))) + ((own_val p2 (1 : Int32)).toInt64 * (own_sel ((own_val p3 (0 : Int32)).toInt64) ((own_val p3 (1 : Int32)).toInt64) ((own_val p3 (2 : Int32)).toInt64) ((own_val p3 (3 : Int32)).toInt64) (own_row p1 (1 : Int32))))) + ((own_val p2 (2 : Int32)).toInt64 * (own_sel ((own_val p3 (0 : Int32)).toInt64) ((own_val p3 (1 : Int32)).toInt64) ((own_val p3 (2 : Int32)).toInt64) ((own_val p3 (3 : Int32)).toInt64) (own_row p1 (2 : Int32))))) + ((own_val p2 (3 : Int32)).toInt64 * (own_sel ((own_val p3 (0 : Int32)).toInt64) ((own_val p3 (1 : Int32)).toInt64) ((own_val p3 (2 : Int32)).toInt64) ((own_val p3 (3 : Int32)).toInt64) (own_row p1 (3 : Int32))))), ss] [(.long ((own_val p2 (4 : Int32)).toInt64 * (own_sel ((own_val p3 (0 : Int32)).toInt64) ((own_val p3 (1 : Int32)).toInt64) ((own_val p3 (2 : Int32)).toInt64) ((own_val p3 (3 : Int32)).toInt64) (own_row p1 (4 : Int32))))), (.long (((((0 : Int64) + ((own_val p2 (0 : Int32)).toInt64 * (own_sel ((own_val p3 (0 : Int32)).toInt64) ((own_val p3 (1 : Int32)).toInt64) ((own_val p3 (2 : Int32)).toInt64) ((own_val p3 (3 : Int32)).toInt64) (own_row p1 (0 : Int32))))) + ((own_val p2 (1 : Int32)).toInt64 * (own_sel ((own_val p3 (0 : Int32)).toInt64) ((own_val p3 (1 : Int32)).toInt64) ((own_val p3 (2 : Int32)).toInt64) ((own_val p3 (3 : Int32)).toInt64) (own_row p1 (1 : Int32))))) + ((own_val p2 (2 : Int32)).toInt64 * (own_sel ((own_val p3 (0 : Int32)).toInt64) ((own_val p3 (1 : Int32)).toInt64) ((own_val p3 (2 : Int32)).toInt64) ((own_val p3 (3 : Int32)).toInt64) (own_row p1 (2 : Int32))))) + ((own_val p2 (3 : Int32)).toInt64 * (own_sel ((own_val p3 (0 : Int32)).toInt64) ((own_val p3 (1 : Int32)).toInt64) ((own_val p3 (2 : Int32)).toInt64) ((own_val p3 (3 : Int32)).toInt64) (own_row p1 (3 : Int32))))))]) := fun tQ kk => k2528 tQ (st2539 _ kk)
    clear k2528 st2539
    have k2577 : own_G p e below E0 T2529 (mkF m 219 #[vi p0, vj p1, ss, vj p2, ss, vj p3, ss, vi (5 : Int32), vr a1685, vr a1816, vr a1897, vj ((((((0 : Int64) + ((own_val p2 (0 : Int32)).toInt64 * (own_sel ((own_val p3 (0 : Int32)).toInt64) ((own_val p3 (1 : Int32)).toInt64) ((own_val p3 (2 : Int32)).toInt64) ((own_val p3 (3 : Int32)).toInt64) (own_row p1 (0 : Int32))))) + ((own_val p2 (1 : Int32)).toInt64 * (own_sel ((own_val p3 (0 : Int32)).toInt64) ((own_val p3 (1 : Int32)).toInt64) ((own_val p3 (2 : Int32)).toInt64) ((own_val p3 (3 : Int32)).toInt64) (own_row p1 (1 : Int32))))) + ((own_val p2 (2 : Int32)).toInt64 * (own_sel ((own_val p3 (0 : Int32)).toInt64) ((own_val p3 (1 : Int32)).toInt64) ((own_val p3 (2 : Int32)).toInt64) ((own_val p3 (3 : Int32)).toInt64) (own_row p1 (2 : Int32))))) + ((own_val p2 (3 : Int32)).toInt64 * (own_sel ((own_val p3 (0 : Int32)).toInt64) ((own_val p3 (1 : Int32)).toInt64) ((own_val p3 (2 : Int32)).toInt64) ((own_val p3 (3 : Int32)).toInt64) (own_row p1 (3 : Int32))))) + ((own_val p2 (4 : Int32)).toInt64 * (own_sel ((own_val p3 (0 : Int32)).toInt64) ((own_val p3 (1 : Int32)).toInt64) ((own_val p3 (2 : Int32)).toInt64) ((own_val p3 (3 : Int32)).toInt64) (own_row p1 (4 : Int32))))), ss] [(.ref a1816), (.ref a1897)]) := by
      intro tQ kk
      refine k2576 tQ ?_
      refine XT.ladd X2533.here hx rfl (hb hby at_212) rfl ?_
      refine XT.lstore X2533.here hx rfl (hb hby at_213) rfl (l' := #[vi p0, vj p1, ss, vj p2, ss, vj p3, ss, vi (5 : Int32), vr a1685, vr a1816, vr a1897, vj ((((((0 : Int64) + ((own_val p2 (0 : Int32)).toInt64 * (own_sel ((own_val p3 (0 : Int32)).toInt64) ((own_val p3 (1 : Int32)).toInt64) ((own_val p3 (2 : Int32)).toInt64) ((own_val p3 (3 : Int32)).toInt64) (own_row p1 (0 : Int32))))) + ((own_val p2 (1 : Int32)).toInt64 * (own_sel ((own_val p3 (0 : Int32)).toInt64) ((own_val p3 (1 : Int32)).toInt64) ((own_val p3 (2 : Int32)).toInt64) ((own_val p3 (3 : Int32)).toInt64) (own_row p1 (1 : Int32))))) + ((own_val p2 (2 : Int32)).toInt64 * (own_sel ((own_val p3 (0 : Int32)).toInt64) ((own_val p3 (1 : Int32)).toInt64) ((own_val p3 (2 : Int32)).toInt64) ((own_val p3 (3 : Int32)).toInt64) (own_row p1 (2 : Int32))))) + ((own_val p2 (3 : Int32)).toInt64 * (own_sel ((own_val p3 (0 : Int32)).toInt64) ((own_val p3 (1 : Int32)).toInt64) ((own_val p3 (2 : Int32)).toInt64) ((own_val p3 (3 : Int32)).toInt64) (own_row p1 (3 : Int32))))) + ((own_val p2 (4 : Int32)).toInt64 * (own_sel ((own_val p3 (0 : Int32)).toInt64) ((own_val p3 (1 : Int32)).toInt64) ((own_val p3 (2 : Int32)).toInt64) ((own_val p3 (3 : Int32)).toInt64) (own_row p1 (4 : Int32))))), ss]) rfl ?_
      refine XS.aload X2533.here hx rfl (hb hby at_215) rfl rfl ?_
      refine XS.aload X2533.here hx rfl (hb hby at_217) rfl rfl ?_
      exact kk
    clear k2576
    obtain ⟨cq2589, kq2590, qa2591, qb2592, qc2593⟩ := isOf hZ rfl F2570
    obtain ⟨_, _, ⟨T2578, L2579, kc2580, nc2581⟩, -, X2582, ⟨Lc2583, hQ2584, l2585, y2586, z2587⟩, st2588⟩ := X2533.virtualBack hx (y := mn17) (z := mn17) hown (mvT hZ (tw22 hw)) (mvT hZ (tw23 hw)) (notFace_of_selects (args := #[]) (mvT hZ (tw25 hw))) (mvT hZ (tw25 hw)) (mvT hZ (tw24 hw)) (by decide) (backOf (W := 0) (rmD5 l Z a0 hw [] a1897 a1816 u2543 v2544 (own_row p1 (0 : Int32)) (own_row p1 (1 : Int32)) (own_row p1 (2 : Int32)) (own_row p1 (3 : Int32)) (own_row p1 (4 : Int32)) (FP.i2d (own_val p2 (0 : Int32))) (FP.i2d (own_val p2 (1 : Int32))) (FP.i2d (own_val p2 (2 : Int32))) (FP.i2d (own_val p2 (3 : Int32))) (FP.i2d (own_val p2 (4 : Int32))) (FP.l2d ((own_val p3 (0 : Int32)).toInt64)) (FP.l2d ((own_val p3 (1 : Int32)).toInt64)) (FP.l2d ((own_val p3 (2 : Int32)).toInt64)) (FP.l2d ((own_val p3 (3 : Int32)).toInt64)) (own_val p2 (0 : Int32)).toInt (own_val p2 (1 : Int32)).toInt (own_val p2 (2 : Int32)).toInt (own_val p2 (3 : Int32)).toInt (own_val p2 (4 : Int32)).toInt (own_sel (own_val p3 (0 : Int32)).toInt64 (own_val p3 (1 : Int32)).toInt64 (own_val p3 (2 : Int32)).toInt64 (own_val p3 (3 : Int32)).toInt64 (own_row p1 (0 : Int32))).toInt (own_sel (own_val p3 (0 : Int32)).toInt64 (own_val p3 (1 : Int32)).toInt64 (own_val p3 (2 : Int32)).toInt64 (own_val p3 (3 : Int32)).toInt64 (own_row p1 (1 : Int32))).toInt (own_sel (own_val p3 (0 : Int32)).toInt64 (own_val p3 (1 : Int32)).toInt64 (own_val p3 (2 : Int32)).toInt64 (own_val p3 (3 : Int32)).toInt64 (own_row p1 (2 : Int32))).toInt (own_sel (own_val p3 (0 : Int32)).toInt64 (own_val p3 (1 : Int32)).toInt64 (own_val p3 (2 : Int32)).toInt64 (own_val p3 (3 : Int32)).toInt64 (own_row p1 (3 : Int32))).toInt (own_sel (own_val p3 (0 : Int32)).toInt64 (own_val p3 (1 : Int32)).toInt64 (own_val p3 (2 : Int32)).toInt64 (own_val p3 (3 : Int32)).toInt64 (own_row p1 (4 : Int32))).toInt T2529.heap n0 Z2567 g2546 g2547 g2548 g2549 g2550 F2569 (own_rowc p1 (0 : Int32)) (FP.Core.i2d_int (own_val p2 (0 : Int32))) (own_selDI p3 (own_rowc p1 (0 : Int32))) (own_vb p2 (0 : Int32)) (own_selb p3 (own_rowc p1 (0 : Int32))) (own_rowc p1 (1 : Int32)) (FP.Core.i2d_int (own_val p2 (1 : Int32))) (own_selDI p3 (own_rowc p1 (1 : Int32))) (own_vb p2 (1 : Int32)) (own_selb p3 (own_rowc p1 (1 : Int32))) (own_rowc p1 (2 : Int32)) (FP.Core.i2d_int (own_val p2 (2 : Int32))) (own_selDI p3 (own_rowc p1 (2 : Int32))) (own_vb p2 (2 : Int32)) (own_selb p3 (own_rowc p1 (2 : Int32))) (own_rowc p1 (3 : Int32)) (FP.Core.i2d_int (own_val p2 (3 : Int32))) (own_selDI p3 (own_rowc p1 (3 : Int32))) (own_vb p2 (3 : Int32)) (own_selb p3 (own_rowc p1 (3 : Int32))) (own_rowc p1 (4 : Int32)) (FP.Core.i2d_int (own_val p2 (4 : Int32))) (own_selDI p3 (own_rowc p1 (4 : Int32))) (own_vb p2 (4 : Int32)) (own_selb p3 (own_rowc p1 (4 : Int32)))) hZ (tw26 hw) (tw10 hw) (by decide) (by decide)) qa2591 qc2593 (g := (mkF m 219 #[vi p0, vj p1, ss, vj p2, ss, vj p3, ss, vi (5 : Int32), vr a1685, vr a1816, vr a1897, vj ((((((0 : Int64) + ((own_val p2 (0 : Int32)).toInt64 * (own_sel ((own_val p3 (0 : Int32)).toInt64) ((own_val p3 (1 : Int32)).toInt64) ((own_val p3 (2 : Int32)).toInt64) ((own_val p3 (3 : Int32)).toInt64) (own_row p1 (0 : Int32))))) + ((own_val p2 (1 : Int32)).toInt64 * (own_sel ((own_val p3 (0 : Int32)).toInt64) ((own_val p3 (1 : Int32)).toInt64) ((own_val p3 (2 : Int32)).toInt64) ((own_val p3 (3 : Int32)).toInt64) (own_row p1 (1 : Int32))))) + ((own_val p2 (2 : Int32)).toInt64 * (own_sel ((own_val p3 (0 : Int32)).toInt64) ((own_val p3 (1 : Int32)).toInt64) ((own_val p3 (2 : Int32)).toInt64) ((own_val p3 (3 : Int32)).toInt64) (own_row p1 (2 : Int32))))) + ((own_val p2 (3 : Int32)).toInt64 * (own_sel ((own_val p3 (0 : Int32)).toInt64) ((own_val p3 (1 : Int32)).toInt64) ((own_val p3 (2 : Int32)).toInt64) ((own_val p3 (3 : Int32)).toInt64) (own_row p1 (3 : Int32))))) + ((own_val p2 (4 : Int32)).toInt64 * (own_sel ((own_val p3 (0 : Int32)).toInt64) ((own_val p3 (1 : Int32)).toInt64) ((own_val p3 (2 : Int32)).toInt64) ((own_val p3 (3 : Int32)).toInt64) (own_row p1 (4 : Int32))))), ss] [(.ref a1816), (.ref a1897)])) rfl (by rw [hml]; rfl) (Steps.refl _) (argsL := [(.ref a1816)]) (rest := []) (lenOf pd_19 rfl) rfl (by show 2 * 0 + _ ≤ _; exact Nat.le_of_eq rfl) (hb hby at_219) (fun _ _ => ⟨rfl, rfl, (by decide : 7 + 0 ≤ _), (by decide : 35 + 0 ≤ _)⟩)
    dsimp only [Pt.U, Pt.locs, Pt.cells, Pt.slots] at X2582 l2585 y2586 z2587 st2588 hQ2584
    subst l2585 y2586 z2587
    obtain ⟨s2597, rfl, N2594, e2595, g2598⟩ := hQ2584
    have N2599 := Fr.app N2554 N2594
    have k2600 : own_G p e below E0 T2578 (mkF m 222 #[vi p0, vj p1, ss, vj p2, ss, vj p3, ss, vi (5 : Int32), vr a1685, vr a1816, vr a1897, vj ((((((0 : Int64) + ((own_val p2 (0 : Int32)).toInt64 * (own_sel ((own_val p3 (0 : Int32)).toInt64) ((own_val p3 (1 : Int32)).toInt64) ((own_val p3 (2 : Int32)).toInt64) ((own_val p3 (3 : Int32)).toInt64) (own_row p1 (0 : Int32))))) + ((own_val p2 (1 : Int32)).toInt64 * (own_sel ((own_val p3 (0 : Int32)).toInt64) ((own_val p3 (1 : Int32)).toInt64) ((own_val p3 (2 : Int32)).toInt64) ((own_val p3 (3 : Int32)).toInt64) (own_row p1 (1 : Int32))))) + ((own_val p2 (2 : Int32)).toInt64 * (own_sel ((own_val p3 (0 : Int32)).toInt64) ((own_val p3 (1 : Int32)).toInt64) ((own_val p3 (2 : Int32)).toInt64) ((own_val p3 (3 : Int32)).toInt64) (own_row p1 (2 : Int32))))) + ((own_val p2 (3 : Int32)).toInt64 * (own_sel ((own_val p3 (0 : Int32)).toInt64) ((own_val p3 (1 : Int32)).toInt64) ((own_val p3 (2 : Int32)).toInt64) ((own_val p3 (3 : Int32)).toInt64) (own_row p1 (3 : Int32))))) + ((own_val p2 (4 : Int32)).toInt64 * (own_sel ((own_val p3 (0 : Int32)).toInt64) ((own_val p3 (1 : Int32)).toInt64) ((own_val p3 (2 : Int32)).toInt64) ((own_val p3 (3 : Int32)).toInt64) (own_row p1 (4 : Int32))))), ss] [(.double s2597)]) := fun tQ kk => k2577 tQ (st2588.trans kk)
    clear k2577 st2588
    have k2601 : own_G p e below E0 T2578 (mkF m 234 #[vi p0, vj p1, ss, vj p2, ss, vj p3, ss, vi (5 : Int32), vr a1685, vr a1816, vr a1897, vj ((((((0 : Int64) + ((own_val p2 (0 : Int32)).toInt64 * (own_sel ((own_val p3 (0 : Int32)).toInt64) ((own_val p3 (1 : Int32)).toInt64) ((own_val p3 (2 : Int32)).toInt64) ((own_val p3 (3 : Int32)).toInt64) (own_row p1 (0 : Int32))))) + ((own_val p2 (1 : Int32)).toInt64 * (own_sel ((own_val p3 (0 : Int32)).toInt64) ((own_val p3 (1 : Int32)).toInt64) ((own_val p3 (2 : Int32)).toInt64) ((own_val p3 (3 : Int32)).toInt64) (own_row p1 (1 : Int32))))) + ((own_val p2 (2 : Int32)).toInt64 * (own_sel ((own_val p3 (0 : Int32)).toInt64) ((own_val p3 (1 : Int32)).toInt64) ((own_val p3 (2 : Int32)).toInt64) ((own_val p3 (3 : Int32)).toInt64) (own_row p1 (2 : Int32))))) + ((own_val p2 (3 : Int32)).toInt64 * (own_sel ((own_val p3 (0 : Int32)).toInt64) ((own_val p3 (1 : Int32)).toInt64) ((own_val p3 (2 : Int32)).toInt64) ((own_val p3 (3 : Int32)).toInt64) (own_row p1 (3 : Int32))))) + ((own_val p2 (4 : Int32)).toInt64 * (own_sel ((own_val p3 (0 : Int32)).toInt64) ((own_val p3 (1 : Int32)).toInt64) ((own_val p3 (2 : Int32)).toInt64) ((own_val p3 (3 : Int32)).toInt64) (own_row p1 (4 : Int32))))), ss] [(.int (1 : Int32))]) := by
      intro tQ kk
      refine k2600 tQ ?_
      refine XT.lload X2582.here hx rfl (hb hby at_222) rfl ?_
      refine XS.l2dS X2582.here hx rfl (hb hby at_224) rfl rfl ?_
      refine XS.dcmpS (v := (0 : Int32)) X2582.here hx rfl (hb hby at_225) rfl (own_eq0 .l g2598 (own_dl _ (own_ra (own_ra (own_ra (own_ra (own_ra (show (0 : Int64).toInt = 0 from rfl) (by have := own_p9 (own_vb p2 (0 : Int32)) (own_selb p3 (own_rowc p1 (0 : Int32))); have := own_p9 (own_vb p2 (1 : Int32)) (own_selb p3 (own_rowc p1 (1 : Int32))); have := own_p9 (own_vb p2 (2 : Int32)) (own_selb p3 (own_rowc p1 (2 : Int32))); have := own_p9 (own_vb p2 (3 : Int32)) (own_selb p3 (own_rowc p1 (3 : Int32))); have := own_p9 (own_vb p2 (4 : Int32)) (own_selb p3 (own_rowc p1 (4 : Int32))); omega) (own_vb p2 (0 : Int32)) (own_selb p3 (own_rowc p1 (0 : Int32)))) (by have := own_p9 (own_vb p2 (0 : Int32)) (own_selb p3 (own_rowc p1 (0 : Int32))); have := own_p9 (own_vb p2 (1 : Int32)) (own_selb p3 (own_rowc p1 (1 : Int32))); have := own_p9 (own_vb p2 (2 : Int32)) (own_selb p3 (own_rowc p1 (2 : Int32))); have := own_p9 (own_vb p2 (3 : Int32)) (own_selb p3 (own_rowc p1 (3 : Int32))); have := own_p9 (own_vb p2 (4 : Int32)) (own_selb p3 (own_rowc p1 (4 : Int32))); omega) (own_vb p2 (1 : Int32)) (own_selb p3 (own_rowc p1 (1 : Int32)))) (by have := own_p9 (own_vb p2 (0 : Int32)) (own_selb p3 (own_rowc p1 (0 : Int32))); have := own_p9 (own_vb p2 (1 : Int32)) (own_selb p3 (own_rowc p1 (1 : Int32))); have := own_p9 (own_vb p2 (2 : Int32)) (own_selb p3 (own_rowc p1 (2 : Int32))); have := own_p9 (own_vb p2 (3 : Int32)) (own_selb p3 (own_rowc p1 (3 : Int32))); have := own_p9 (own_vb p2 (4 : Int32)) (own_selb p3 (own_rowc p1 (4 : Int32))); omega) (own_vb p2 (2 : Int32)) (own_selb p3 (own_rowc p1 (2 : Int32)))) (by have := own_p9 (own_vb p2 (0 : Int32)) (own_selb p3 (own_rowc p1 (0 : Int32))); have := own_p9 (own_vb p2 (1 : Int32)) (own_selb p3 (own_rowc p1 (1 : Int32))); have := own_p9 (own_vb p2 (2 : Int32)) (own_selb p3 (own_rowc p1 (2 : Int32))); have := own_p9 (own_vb p2 (3 : Int32)) (own_selb p3 (own_rowc p1 (3 : Int32))); have := own_p9 (own_vb p2 (4 : Int32)) (own_selb p3 (own_rowc p1 (4 : Int32))); omega) (own_vb p2 (3 : Int32)) (own_selb p3 (own_rowc p1 (3 : Int32)))) (by have := own_p9 (own_vb p2 (0 : Int32)) (own_selb p3 (own_rowc p1 (0 : Int32))); have := own_p9 (own_vb p2 (1 : Int32)) (own_selb p3 (own_rowc p1 (1 : Int32))); have := own_p9 (own_vb p2 (2 : Int32)) (own_selb p3 (own_rowc p1 (2 : Int32))); have := own_p9 (own_vb p2 (3 : Int32)) (own_selb p3 (own_rowc p1 (3 : Int32))); have := own_p9 (own_vb p2 (4 : Int32)) (own_selb p3 (own_rowc p1 (4 : Int32))); omega) (own_vb p2 (4 : Int32)) (own_selb p3 (own_rowc p1 (4 : Int32)))) (own_s7 (by have := own_p9 (own_vb p2 (0 : Int32)) (own_selb p3 (own_rowc p1 (0 : Int32))); have := own_p9 (own_vb p2 (1 : Int32)) (own_selb p3 (own_rowc p1 (1 : Int32))); have := own_p9 (own_vb p2 (2 : Int32)) (own_selb p3 (own_rowc p1 (2 : Int32))); have := own_p9 (own_vb p2 (3 : Int32)) (own_selb p3 (own_rowc p1 (3 : Int32))); have := own_p9 (own_vb p2 (4 : Int32)) (own_selb p3 (own_rowc p1 (4 : Int32))); omega) (by have := own_p9 (own_vb p2 (0 : Int32)) (own_selb p3 (own_rowc p1 (0 : Int32))); have := own_p9 (own_vb p2 (1 : Int32)) (own_selb p3 (own_rowc p1 (1 : Int32))); have := own_p9 (own_vb p2 (2 : Int32)) (own_selb p3 (own_rowc p1 (2 : Int32))); have := own_p9 (own_vb p2 (3 : Int32)) (own_selb p3 (own_rowc p1 (3 : Int32))); have := own_p9 (own_vb p2 (4 : Int32)) (own_selb p3 (own_rowc p1 (4 : Int32))); omega)))) ?_
      refine XS.ifNo X2582.here hx rfl (hb hby at_226) rfl (own_if_neN (by decide)) ?_
      show Steps p.tables e below (T2578.setTop (mkF m 229 #[vi p0, vj p1, ss, vj p2, ss, vj p3, ss, vi (5 : Int32), vr a1685, vr a1816, vr a1897, vj ((((((0 : Int64) + ((own_val p2 (0 : Int32)).toInt64 * (own_sel ((own_val p3 (0 : Int32)).toInt64) ((own_val p3 (1 : Int32)).toInt64) ((own_val p3 (2 : Int32)).toInt64) ((own_val p3 (3 : Int32)).toInt64) (own_row p1 (0 : Int32))))) + ((own_val p2 (1 : Int32)).toInt64 * (own_sel ((own_val p3 (0 : Int32)).toInt64) ((own_val p3 (1 : Int32)).toInt64) ((own_val p3 (2 : Int32)).toInt64) ((own_val p3 (3 : Int32)).toInt64) (own_row p1 (1 : Int32))))) + ((own_val p2 (2 : Int32)).toInt64 * (own_sel ((own_val p3 (0 : Int32)).toInt64) ((own_val p3 (1 : Int32)).toInt64) ((own_val p3 (2 : Int32)).toInt64) ((own_val p3 (3 : Int32)).toInt64) (own_row p1 (2 : Int32))))) + ((own_val p2 (3 : Int32)).toInt64 * (own_sel ((own_val p3 (0 : Int32)).toInt64) ((own_val p3 (1 : Int32)).toInt64) ((own_val p3 (2 : Int32)).toInt64) ((own_val p3 (3 : Int32)).toInt64) (own_row p1 (3 : Int32))))) + ((own_val p2 (4 : Int32)).toInt64 * (own_sel ((own_val p3 (0 : Int32)).toInt64) ((own_val p3 (1 : Int32)).toInt64) ((own_val p3 (2 : Int32)).toInt64) ((own_val p3 (3 : Int32)).toInt64) (own_row p1 (4 : Int32))))), ss] [])) tQ
      refine XS.iconst X2582.here hx rfl (hb hby at_229) ?_
      refine XS.goto X2582.here hx rfl (pc0 := 230) (pc' := 234) rfl (hb hby at_230) (by decide) (by decide) ?_
      exact kk
    clear k2600
    obtain ⟨fs, hr, hrun, hended, hW, hsame⟩ := X2582.leave (v := some (.int (1 : Int32))) (fun h => by rw [Bd.returns] at h; cases h)
    have hrun0 := k2601 _ (retOut X2582 hx Bd.returns (t := .boolean) rfl (Or.inl ⟨rfl, Or.inr (Or.inl rfl), _, rfl⟩) (hb hby at_234) hr)
    subst hE0
    refine ⟨_, _, hrun0, hrun, hended, _, _, rfl, ?_, ⟨_, rfl⟩, hW, hsame.mono (by decide) (by decide)⟩
    show Qrm0 Z p0 p1 p2 p3 h0 n0 _ T2578.heap _
    rw [e2595]
    exact ⟨rfl, N2599⟩
set_option maxRecDepth 65536 in
set_option maxHeartbeats 40000000 in
theorem comes_1 {Post : Tables → Env → Array Value → State → Outcome → State → Prop} (hpost : ∀ tb e args s v u, (limb_1_1.after args s (.returned v) u = true ∧ limb_1_2.after args s (.returned v) u = true ∧ True) → FrameEnd s (.returned v) u (Jvm.fieldLocs frame_1_writes args s ++ Jvm.arrayLocs frame_1_arrays args s ++ Jvm.staticLocs frame_1_statics s) 24 192 → Post tb e args s (.returned v) u) :
    ArmFor flags0 classFile x code maxLocals ret World_1 tables_1 room_1 Calls_1 rest_1 Pre_1 Post := by
  intro l hfl _ _ p e ha hc hk s m args below hf hA hF happ hP
  obtain ⟨hcalls, hrest, hpre⟩ := hP
  obtain ⟨-, -, -, hnamed, -, -, -, hat⟩ := (Spec.applies_iff hf).mp happ
  obtain ⟨hg, hn⟩ := and_e (Cond.before_iff.mp (show (Jvm.Cond.and given_1 narrow_1).before args s = true from hpre))
  obtain ⟨hct, hr0⟩ := and_e hg
  obtain ⟨ha0, hr1⟩ := and_e hr0
  obtain ⟨ha1, hr2⟩ := and_e hr1
  obtain ⟨ha2, hr3⟩ := and_e hr2
  obtain ⟨w0, w1, w2, w3, rfl⟩ : ∃ w0 w1 w2 w3 : Value, args = #[w0, w1, w2, w3] := by
    have hs : args.size = 4 := by simpa [Cond.value, given_1] using hct
    obtain ⟨L⟩ := args
    match L, hs with
    | [w0, w1, w2, w3], _ => exact ⟨w0, w1, w2, w3, rfl⟩
  have hw := fun d (hd : d ∈ tables_1) => atoms_spec (ws := Jvm.Cond.code x code maxLocals ret :: tables_1) hat d (List.mem_cons_of_mem _ hd)
  have hfit : Fit s := fun {y c} hc i hi => by
    obtain ⟨ha, rfl⟩ := Array.getElem?_eq_some_iff.mp hc
    have q := List.all_eq_true.mp ((Array.all_eq_true_iff_forall_mem.mp hF) _ (Array.getElem_mem ha)) i (List.mem_range.mpr hi)
    simpa [Array.getElem?_eq_getElem hi] using q
  obtain ⟨i0, ev0⟩ := is_v ha0
  obtain rfl : w0 = (.int i0) := Option.some.inj ev0
  obtain ⟨i1, ev1⟩ := isL_v ha1
  obtain rfl : w1 = (.long i1) := Option.some.inj ev1
  obtain ⟨i2, ev2⟩ := isL_v ha2
  obtain rfl : w2 = (.long i2) := Option.some.inj ev2
  obtain ⟨i3, ev3⟩ := isL_v hr3
  obtain rfl : w3 = (.long i3) := Option.some.inj ev3
  obtain ⟨n, o, h1, h2, h3, _, L, rfl, ⟨rfl, N⟩, hq⟩ := rm0 l s _ hw tables_1 i0 i1 i2 i3 s.heap s.heap.size (Nat.le_refl _) p e ha hc hk s m _ below hf ((Spec.applies_iff_loose hf).mp happ).1 ⟨rfl, State.Warmed39.refl s, rfl⟩ trivial
  refine ⟨n, _, h1, h2, h3, hpost _ _ _ _ _ _ ⟨Cond.after_iff.mpr rfl, Cond.after_iff.mpr (eq_i res_at (Term.int_eval (1)) rfl), trivial⟩ ⟨hq.1, hq.2.1, (hq.2.2.sift fun y hy => Or.inr (N y hy)).mono (by decide) (by decide)⟩⟩
theorem main_1_1 : Claimed_1_1 := comes_1 fun _ _ _ _ _ _ h hF => ⟨h.1, hF⟩
theorem main_1_2 : Claimed_1_2 := comes_1 fun _ _ _ _ _ _ h hF => ⟨h.2.1, hF⟩
end Jvm.Pilot.@@N@@
namespace Jvm.Pilot.@@N@@
open Jvm Jvm.ClassFile Sem Op Lib Jvm.Free Jvm.Stand Jvm.Pilot.@@N@@.Jvm.D
/-! MADE BY PROGRAM (witnessworld.py) out of the Statement's table words and the real class files: 16 classes; the members and pool entries that the words name. The judged class is class 1, her method 4. -/
namespace start1
open Jvm.ClassFile
def u (s : String) : CpInfo := .utf8 (stringToUtf16 s)
/-- a pool by its gaps: so many unusable entries, then the entry; so many at the end -/
def gap : Nat → List CpInfo → List CpInfo
  | 0, r => r
  | n + 1, r => .unusable :: gap n r
def poolList (es : List (Nat × CpInfo)) (last : Nat) : List CpInfo := es.foldr (fun e r => gap e.1 (e.2 :: r)) (gap last [])
def pool (es : List (Nat × CpInfo)) (last : Nat) : Array CpInfo := ⟨poolList es last⟩
def fileOf (pool : Array CpInfo) (this : Nat) (attrs : Array Attribute := #[]) (ms : Array MethodInfo := #[]) (fl : Nat := 33) (sup : Nat := 0) (ifs : Array Nat := #[]) (fds : Array FieldInfo := #[]) : ClassFile where
  minorVersion := 0
  majorVersion := 65
  constantPool := pool
  accessFlags := fl
  thisClass := this
  superClass := sup
  interfaces := ifs
  fields := fds
  methods := ms
  attributes := attrs
def plain (name : String) (sup : Option ClassId) : Class where
  name := name
  kind := .ordinary
  loader := none
  accessFlags := 33
  super := sup
  interfaces := #[]
  cf := none
  fields := #[]
  methods := #[]
  instanceTypes := #[]
  staticTypes := #[]
  resolved := #[]
  callSites := []
  init := .initialized
  statics := none
  mirror := none

def pool0 : Array CpInfo := pool [(5, u "<init>"), (0, u "()V"), (1, .class_ 10), (1, u "java/lang/Object")] 113

def k0c0 : Code := { maxStack := 0, maxLocals := 1, code := object_method_1_code, exceptionTable := #[], attributes := #[] }
def k0m0 : Method := { name := "<init>", desc := "()V", sig := { parameters := [], returnType := none }, accessFlags := 1, code := some k0c0 }
/-- java/lang/Object -/
def k0 : Class := { plain "java/lang/Object" none with
  accessFlags := 33
  interfaces := #[]
  cf := some (fileOf pool0 8 #[] #[{ accessFlags := 1, nameIndex := 5, descriptorIndex := 6, attributes := #[] }] 33 0 #[] #[])
  fields := #[]
  methods := #[k0m0]
  instanceTypes := #[]
  staticTypes := #[]
  resolved := Array.replicate 124 none
  statics := none }

def pool1 : Array CpInfo := pool [(2, .class_ 4), (0, .nameAndType 5 6), (0, u "java/lang/Object"), (0, u "<init>"), (0, u "()V"), (0, .long 1023), (1, .long 3), (1, .methodref 12 13), (0, .class_ 14), (0, .nameAndType 15 16), (0, u "com/example/netloom/netloom/embed/SparseColumnDotPinLaw"), (0, u "row"), (0, u "(JI)I"), (0, .methodref 12 18), (0, .nameAndType 19 16), (0, u "val"), (0, .methodref 21 22), (0, .class_ 23), (0, .nameAndType 24 25), (0, u "com/example/netloom/netloom/embed/SparseColumn"), (0, u "add"), (0, u "(ID)V"), (0, .integer 2147483647), (0, .methodref 21 3), (0, .methodref 12 29), (0, .nameAndType 30 31), (0, u "addOne"), (0, u "(Lcom/example/netloom/netloom/embed/SparseColumn;JJ[JI)J"), (0, .methodref 21 33), (0, .nameAndType 34 35), (0, u "dot"), (0, u "([D)D"), (2, u "law"), (0, u "(IJJJ)Z")] 7

def k1m0 : Method := { name := "<init>", desc := "()V", sig := { parameters := [], returnType := none }, accessFlags := 1, code := none }
def k1c1 : Code := { maxStack := 4, maxLocals := 3, code := method_2_code, exceptionTable := #[], attributes := #[] }
def k1m1 : Method := { name := "val", desc := "(JI)I", sig := { parameters := [.long, .int], returnType := some .int }, accessFlags := 10, code := some k1c1 }
def k1c2 : Code := { maxStack := 4, maxLocals := 3, code := method_3_code, exceptionTable := #[], attributes := #[] }
def k1m2 : Method := { name := "row", desc := "(JI)I", sig := { parameters := [.long, .int], returnType := some .int }, accessFlags := 10, code := some k1c2 }
def k1c3 : Code := { maxStack := 4, maxLocals := 9, code := method_4_code, exceptionTable := #[], attributes := #[] }
def k1m3 : Method := { name := "addOne", desc := "(Lcom/example/netloom/netloom/embed/SparseColumn;JJ[JI)J", sig := { parameters := [(.object "com/example/netloom/netloom/embed/SparseColumn"), .long, .long, (.array .long), .int], returnType := some .long }, accessFlags := 10, code := some k1c3 }
def k1c4 : Code := { maxStack := 9, maxLocals := 13, code := code, exceptionTable := #[], attributes := #[] }
def k1m4 : Method := { name := "law", desc := "(IJJJ)Z", sig := { parameters := [.int, .long, .long, .long], returnType := some .boolean }, accessFlags := 9, code := some k1c4 }
/-- com/example/netloom/netloom/embed/SparseColumnDotPinLaw -/
def k1 : Class := { plain "com/example/netloom/netloom/embed/SparseColumnDotPinLaw" (some 0) with
  accessFlags := 49
  interfaces := #[]
  cf := some (fileOf pool1 12 #[] #[{ accessFlags := 1, nameIndex := 5, descriptorIndex := 6, attributes := #[] }, { accessFlags := 10, nameIndex := 19, descriptorIndex := 16, attributes := #[] }, { accessFlags := 10, nameIndex := 15, descriptorIndex := 16, attributes := #[] }, { accessFlags := 10, nameIndex := 30, descriptorIndex := 31, attributes := #[] }, { accessFlags := 9, nameIndex := 38, descriptorIndex := 39, attributes := #[] }] 49 2 #[] #[])
  fields := #[]
  methods := #[k1m0, k1m1, k1m2, k1m3, k1m4]
  instanceTypes := #[]
  staticTypes := #[]
  resolved := Array.replicate 47 none
  statics := none }

def pool2 : Array CpInfo := pool [(1, .methodref 2 3), (0, .class_ 4), (0, .nameAndType 5 6), (0, u "java/lang/Object"), (0, u "<init>"), (0, u "()V"), (0, .fieldref 8 9), (0, .class_ 10), (0, .nameAndType 11 12), (0, u "com/example/netloom/netloom/embed/SparseColumn"), (0, u "rows"), (0, u "[I"), (0, .fieldref 8 14), (0, .nameAndType 15 16), (0, u "values"), (0, u "[D"), (0, .fieldref 8 18), (0, .nameAndType 19 20), (0, u "size"), (0, u "I"), (0, .methodref 22 23), (0, .class_ 24), (0, .nameAndType 25 26), (0, u "java/util/Arrays"), (0, u "copyOf"), (0, u "([II)[I"), (0, .methodref 22 28), (0, .nameAndType 25 29), (0, u "([DI)[D"), (2, u "add"), (0, u "(ID)V"), (6, u "dot"), (0, u "([D)D")] 2

def k2c0 : Code := { maxStack := 2, maxLocals := 1, code := prog_50_method_1_code, exceptionTable := #[], attributes := #[] }
def k2m0 : Method := { name := "<init>", desc := "()V", sig := { parameters := [], returnType := none }, accessFlags := 0, code := some k2c0 }
def k2c1 : Code := { maxStack := 4, maxLocals := 4, code := prog_50_method_2_code, exceptionTable := #[], attributes := #[] }
def k2m1 : Method := { name := "add", desc := "(ID)V", sig := { parameters := [.int, .double], returnType := none }, accessFlags := 0, code := some k2c1 }
def k2c2 : Code := { maxStack := 7, maxLocals := 5, code := prog_50_method_6_code, exceptionTable := #[], attributes := #[] }
def k2m2 : Method := { name := "dot", desc := "([D)D", sig := { parameters := [(.array .double)], returnType := some .double }, accessFlags := 0, code := some k2c2 }
/-- com/example/netloom/netloom/embed/SparseColumn -/
def k2 : Class := { plain "com/example/netloom/netloom/embed/SparseColumn" (some 0) with
  accessFlags := 48
  interfaces := #[]
  cf := some (fileOf pool2 8 #[] #[{ accessFlags := 0, nameIndex := 5, descriptorIndex := 6, attributes := #[] }, { accessFlags := 0, nameIndex := 32, descriptorIndex := 33, attributes := #[] }, { accessFlags := 0, nameIndex := 40, descriptorIndex := 41, attributes := #[] }] 48 2 #[] #[{ accessFlags := 2, nameIndex := 11, descriptorIndex := 12, attributes := #[] }, { accessFlags := 2, nameIndex := 15, descriptorIndex := 16, attributes := #[] }, { accessFlags := 2, nameIndex := 19, descriptorIndex := 20, attributes := #[] }])
  fields := #[{ name := "rows", type := (.array .int), accessFlags := 2, slot := 0, constantValue := 0 }, { name := "values", type := (.array .double), accessFlags := 2, slot := 1, constantValue := 0 }, { name := "size", type := .int, accessFlags := 2, slot := 2, constantValue := 0 }]
  methods := #[k2m0, k2m1, k2m2]
  instanceTypes := #[(.array .int), (.array .double), .int]
  staticTypes := #[]
  resolved := Array.replicate 44 none
  statics := none }

def pool3 : Array CpInfo := pool [(2, .class_ 4), (1, u "java/lang/Object"), (0, u "<init>"), (0, u "()V"), (7, .class_ 16), (1, u "java/util/Arrays"), (57, .class_ 76), (1, u "java/util/Arrays$NaturalOrder"), (36, .class_ 115), (1, u "java/util/Arrays$LegacyMergeSort"), (1, u "Z"), (32, .methodref 151 152), (0, .class_ 153), (0, .nameAndType 154 155), (0, u "java/lang/System"), (0, u "arraycopy"), (0, u "(Ljava/lang/Object;ILjava/lang/Object;II)V"), (146, u "copyOf"), (1, .methodref 305 306), (0, .class_ 307), (0, .nameAndType 308 309), (0, u "java/lang/Math"), (0, u "min"), (0, u "(II)I"), (65, .class_ 376), (0, u "java/util/Arrays$ArrayList"), (68, u "$assertionsDisabled"), (269, u "MIN_ARRAY_SORT_GRAN"), (0, u "I"), (2, u "INSERTIONSORT_THRESHOLD"), (151, u "([II)[I"), (3, u "([DI)[D"), (99, .class_ 976), (0, u "java/util/Arrays$ArrayItr")] 52

def k3m0 : Method := { name := "<init>", desc := "()V", sig := { parameters := [], returnType := none }, accessFlags := 2, code := none }
def k3c1 : Code := { maxStack := 6, maxLocals := 3, code := jdk_65_method_123_code, exceptionTable := #[], attributes := #[] }
def k3m1 : Method := { name := "copyOf", desc := "([II)[I", sig := { parameters := [(.array .int), .int], returnType := some (.array .int) }, accessFlags := 9, code := some k3c1 }
def k3c2 : Code := { maxStack := 6, maxLocals := 3, code := jdk_65_method_127_code, exceptionTable := #[], attributes := #[] }
def k3m2 : Method := { name := "copyOf", desc := "([DI)[D", sig := { parameters := [(.array .double), .int], returnType := some (.array .double) }, accessFlags := 9, code := some k3c2 }
/-- java/util/Arrays -/
def k3 : Class := { plain "java/util/Arrays" (some 0) with
  accessFlags := 49
  interfaces := #[]
  cf := some (fileOf pool3 14 #[.nestMembers #[975, 375, 113, 74]] #[{ accessFlags := 2, nameIndex := 5, descriptorIndex := 6, attributes := #[] }, { accessFlags := 9, nameIndex := 302, descriptorIndex := 871, attributes := #[] }, { accessFlags := 9, nameIndex := 302, descriptorIndex := 875, attributes := #[] }] 49 2 #[] #[{ accessFlags := 26, nameIndex := 715, descriptorIndex := 716, attributes := #[] }, { accessFlags := 26, nameIndex := 719, descriptorIndex := 716, attributes := #[] }, { accessFlags := 4120, nameIndex := 445, descriptorIndex := 117, attributes := #[] }])
  fields := #[{ name := "MIN_ARRAY_SORT_GRAN", type := .int, accessFlags := 26, slot := 0, constantValue := 0 }, { name := "INSERTIONSORT_THRESHOLD", type := .int, accessFlags := 26, slot := 1, constantValue := 0 }, { name := "$assertionsDisabled", type := .boolean, accessFlags := 4120, slot := 2, constantValue := 0 }]
  methods := #[k3m0, k3m1, k3m2]
  instanceTypes := #[]
  staticTypes := #[.int, .int, .boolean]
  resolved := Array.replicate 1029 none
  statics := none }

def pool4 : Array CpInfo := pool [(1, .class_ 2), (0, u "java/lang/Math"), (1, .class_ 6), (1, u "java/lang/Object"), (0, u "<init>"), (0, u "()V"), (89, .class_ 100), (1, u "java/lang/Math$RandomNumberGeneratorHolder"), (71, u "negativeZeroFloatBits"), (0, u "J"), (2, u "negativeZeroDoubleBits"), (24, u "min"), (43, u "$assertionsDisabled"), (0, u "Z"), (88, u "(II)I"), (2, u "twoToTheDoubleScaleDown"), (0, u "D"), (4, u "twoToTheDoubleScaleUp"), (9, u "E"), (3, u "PI"), (2, u "TAU"), (2, u "DEGREES_TO_RADIANS"), (0, u "RADIANS_TO_DEGREES")] 94

def k4m0 : Method := { name := "<init>", desc := "()V", sig := { parameters := [], returnType := none }, accessFlags := 2, code := none }
def k4c1 : Code := { maxStack := 2, maxLocals := 2, code := jdk_29_method_69_code, exceptionTable := #[], attributes := #[] }
def k4m1 : Method := { name := "min", desc := "(II)I", sig := { parameters := [.int, .int], returnType := some .int }, accessFlags := 9, code := some k4c1 }
/-- java/lang/Math -/
def k4 : Class := { plain "java/lang/Math" (some 0) with
  accessFlags := 49
  interfaces := #[]
  cf := some (fileOf pool4 1 #[.nestMembers #[98]] #[{ accessFlags := 2, nameIndex := 7, descriptorIndex := 8, attributes := #[] }, { accessFlags := 9, nameIndex := 201, descriptorIndex := 335, attributes := #[] }] 49 4 #[] #[{ accessFlags := 25, nameIndex := 354, descriptorIndex := 339, attributes := #[] }, { accessFlags := 25, nameIndex := 358, descriptorIndex := 339, attributes := #[] }, { accessFlags := 25, nameIndex := 361, descriptorIndex := 339, attributes := #[] }, { accessFlags := 26, nameIndex := 364, descriptorIndex := 339, attributes := #[] }, { accessFlags := 26, nameIndex := 365, descriptorIndex := 339, attributes := #[] }, { accessFlags := 26, nameIndex := 172, descriptorIndex := 173, attributes := #[] }, { accessFlags := 26, nameIndex := 176, descriptorIndex := 173, attributes := #[] }, { accessFlags := 8, nameIndex := 344, descriptorIndex := 339, attributes := #[] }, { accessFlags := 8, nameIndex := 338, descriptorIndex := 339, attributes := #[] }, { accessFlags := 4120, nameIndex := 245, descriptorIndex := 246, attributes := #[] }])
  fields := #[{ name := "E", type := .double, accessFlags := 25, slot := 0, constantValue := 0 }, { name := "PI", type := .double, accessFlags := 25, slot := 1, constantValue := 0 }, { name := "TAU", type := .double, accessFlags := 25, slot := 2, constantValue := 0 }, { name := "DEGREES_TO_RADIANS", type := .double, accessFlags := 26, slot := 3, constantValue := 0 }, { name := "RADIANS_TO_DEGREES", type := .double, accessFlags := 26, slot := 4, constantValue := 0 }, { name := "negativeZeroFloatBits", type := .long, accessFlags := 26, slot := 5, constantValue := 0 }, { name := "negativeZeroDoubleBits", type := .long, accessFlags := 26, slot := 6, constantValue := 0 }, { name := "twoToTheDoubleScaleUp", type := .double, accessFlags := 8, slot := 7, constantValue := 0 }, { name := "twoToTheDoubleScaleDown", type := .double, accessFlags := 8, slot := 8, constantValue := 0 }, { name := "$assertionsDisabled", type := .boolean, accessFlags := 4120, slot := 9, constantValue := 0 }]
  methods := #[k4m0, k4m1]
  instanceTypes := #[]
  staticTypes := #[.double, .double, .double, .double, .double, .long, .long, .double, .double, .boolean]
  resolved := Array.replicate 460 none
  statics := none }

def pool5 : Array CpInfo := pool [(2, .class_ 4), (1, u "java/lang/Object"), (0, u "<init>"), (0, u "()V"), (1, .class_ 10), (1, u "java/lang/System"), (0, u "allowSecurityManager"), (0, u "I"), (16, u "cons"), (0, u "Ljava/io/Console;"), (77, .class_ 110), (1, u "java/lang/System$CallersHolder"), (43, u "initialErrStream"), (0, u "Ljava/io/PrintStream;"), (19, u "security"), (0, u "Ljava/lang/SecurityManager;"), (31, .class_ 209), (0, u "java/lang/System$1"), (7, u "props"), (0, u "Ljava/util/Properties;"), (2, u "lineSeparator"), (0, u "Ljava/lang/String;"), (96, .class_ 321), (1, u "java/lang/System$LoggerFinder"), (5, .class_ 328), (0, u "java/lang/System$Logger"), (67, u "err"), (2, u "out"), (91, u "notSupportedJnuEncoding"), (15, u "in"), (17, u "initialIn"), (0, u "Ljava/io/InputStream;"), (35, u "bootLayer"), (0, u "Ljava/lang/ModuleLayer;"), (99, .class_ 664), (0, u "java/lang/System$2"), (9, u "NEVER"), (2, u "MAYBE"), (49, u "arraycopy"), (0, u "(Ljava/lang/Object;ILjava/lang/Object;II)V"), (72, .class_ 802), (0, u "java/lang/System$Logger$Level")] 31

def k5m0 : Method := { name := "<init>", desc := "()V", sig := { parameters := [], returnType := none }, accessFlags := 2, code := none }
def k5m1 : Method := { name := "arraycopy", desc := "(Ljava/lang/Object;ILjava/lang/Object;II)V", sig := { parameters := [(.object "java/lang/Object"), .int, (.object "java/lang/Object"), .int, .int], returnType := none }, accessFlags := 265, code := none }
/-- java/lang/System -/
def k5 : Class := { plain "java/lang/System" (some 0) with
  accessFlags := 49
  interfaces := #[]
  cf := some (fileOf pool5 8 #[.nestMembers #[319, 327, 801, 108, 663, 208]] #[{ accessFlags := 2, nameIndex := 5, descriptorIndex := 6, attributes := #[] }, { accessFlags := 265, nameIndex := 727, descriptorIndex := 728, attributes := #[] }] 49 2 #[] #[{ accessFlags := 25, nameIndex := 507, descriptorIndex := 526, attributes := #[] }, { accessFlags := 25, nameIndex := 399, descriptorIndex := 155, attributes := #[] }, { accessFlags := 25, nameIndex := 396, descriptorIndex := 155, attributes := #[] }, { accessFlags := 10, nameIndex := 525, descriptorIndex := 526, attributes := #[] }, { accessFlags := 26, nameIndex := 674, descriptorIndex := 12, attributes := #[] }, { accessFlags := 26, nameIndex := 677, descriptorIndex := 12, attributes := #[] }, { accessFlags := 10, nameIndex := 11, descriptorIndex := 12, attributes := #[] }, { accessFlags := 74, nameIndex := 175, descriptorIndex := 176, attributes := #[] }, { accessFlags := 10, nameIndex := 491, descriptorIndex := 222, attributes := #[] }, { accessFlags := 74, nameIndex := 29, descriptorIndex := 30, attributes := #[] }, { accessFlags := 74, nameIndex := 154, descriptorIndex := 155, attributes := #[] }, { accessFlags := 10, nameIndex := 217, descriptorIndex := 218, attributes := #[] }, { accessFlags := 10, nameIndex := 221, descriptorIndex := 222, attributes := #[] }, { accessFlags := 8, nameIndex := 562, descriptorIndex := 563, attributes := #[] }])
  fields := #[{ name := "in", type := (.object "java/io/InputStream"), accessFlags := 25, slot := 0, constantValue := 0 }, { name := "out", type := (.object "java/io/PrintStream"), accessFlags := 25, slot := 1, constantValue := 0 }, { name := "err", type := (.object "java/io/PrintStream"), accessFlags := 25, slot := 2, constantValue := 0 }, { name := "initialIn", type := (.object "java/io/InputStream"), accessFlags := 10, slot := 3, constantValue := 0 }, { name := "NEVER", type := .int, accessFlags := 26, slot := 4, constantValue := 0 }, { name := "MAYBE", type := .int, accessFlags := 26, slot := 5, constantValue := 0 }, { name := "allowSecurityManager", type := .int, accessFlags := 10, slot := 6, constantValue := 0 }, { name := "security", type := (.object "java/lang/SecurityManager"), accessFlags := 74, slot := 7, constantValue := 0 }, { name := "notSupportedJnuEncoding", type := (.object "java/lang/String"), accessFlags := 10, slot := 8, constantValue := 0 }, { name := "cons", type := (.object "java/io/Console"), accessFlags := 74, slot := 9, constantValue := 0 }, { name := "initialErrStream", type := (.object "java/io/PrintStream"), accessFlags := 74, slot := 10, constantValue := 0 }, { name := "props", type := (.object "java/util/Properties"), accessFlags := 10, slot := 11, constantValue := 0 }, { name := "lineSeparator", type := (.object "java/lang/String"), accessFlags := 10, slot := 12, constantValue := 0 }, { name := "bootLayer", type := (.object "java/lang/ModuleLayer"), accessFlags := 8, slot := 13, constantValue := 0 }]
  methods := #[k5m0, k5m1]
  instanceTypes := #[]
  staticTypes := #[(.object "java/io/InputStream"), (.object "java/io/PrintStream"), (.object "java/io/PrintStream"), (.object "java/io/InputStream"), .int, .int, .int, (.object "java/lang/SecurityManager"), (.object "java/lang/String"), (.object "java/io/Console"), (.object "java/io/PrintStream"), (.object "java/util/Properties"), (.object "java/lang/String"), (.object "java/lang/ModuleLayer")]
  resolved := Array.replicate 834 none
  statics := none }

def pool6 : Array CpInfo := pool [(1, u "java/lang/Cloneable"), (0, .class_ 1), (0, u "java/lang/Object"), (0, .class_ 3)] 3

/-- java/lang/Cloneable -/
def k6 : Class := { plain "java/lang/Cloneable" (some 0) with
  accessFlags := 1537
  interfaces := #[]
  cf := some (fileOf pool6 2 #[] #[] 1537 4 #[] #[])
  fields := #[]
  methods := #[]
  instanceTypes := #[]
  staticTypes := #[]
  resolved := Array.replicate 8 none
  statics := none }

def pool7 : Array CpInfo := pool [(1, u "java/io/Serializable"), (0, .class_ 1), (0, u "java/lang/Object"), (0, .class_ 3)] 3

/-- java/io/Serializable -/
def k7 : Class := { plain "java/io/Serializable" (some 0) with
  accessFlags := 1537
  interfaces := #[]
  cf := some (fileOf pool7 2 #[] #[] 1537 4 #[] #[])
  fields := #[]
  methods := #[]
  instanceTypes := #[]
  staticTypes := #[]
  resolved := Array.replicate 8 none
  statics := none }

/-- the primitive byte -/
def k8 : Class := { plain "byte" none with kind := .primitive 'B', accessFlags := 0x411 }
/-- [B -/
def k9 : Class := { plain "[B" (some 0) with kind := .array 8 .byte, interfaces := #[6, 7], accessFlags := 1041 }

/-- the primitive double -/
def k10 : Class := { plain "double" none with kind := .primitive 'D', accessFlags := 0x411 }
/-- [D -/
def k11 : Class := { plain "[D" (some 0) with kind := .array 10 .double, interfaces := #[6, 7], accessFlags := 1041 }

/-- the primitive int -/
def k12 : Class := { plain "int" none with kind := .primitive 'I', accessFlags := 0x411 }
/-- [I -/
def k13 : Class := { plain "[I" (some 0) with kind := .array 12 .int, interfaces := #[6, 7], accessFlags := 1041 }

/-- the primitive long -/
def k14 : Class := { plain "long" none with kind := .primitive 'J', accessFlags := 0x411 }
/-- [J -/
def k15 : Class := { plain "[J" (some 0) with kind := .array 14 .long, interfaces := #[6, 7], accessFlags := 1041 }

def heap : Heap := #[]
def classes : Array Class := #[k0, k1, k2, k3, k4, k5, k6, k7, k8, k9, k10, k11, k12, k13, k14, k15]
def interned : List (Array UInt16 × Addr) := []
def slotsUsed : Nat := 0
def theMethod : MethodId := ⟨1, 4⟩
def args0 : Array Value := #[.int 3, .long 4, .long 5, .long 6]
def aboutOver (below : List Frame) : State where
  vm := { classes := classes, interned := interned.toArray }
  heap := heap
  slotsUsed := slotsUsed
  threads := #[{ frames := .invoking theMethod args0 :: below }]
def below0 : List Frame := [.native { method := ⟨0, 0⟩, args := #[] }]
def about1 : State := aboutOver below0
def p0 : Program := .bare "" "" ""
def e0 : Env := launch0.env 0 0 0
theorem w_frames : about1.frames = Frame.invoking theMethod args0 :: below0 := rfl
set_option maxRecDepth 65536 in
theorem w_args : argsFit about1.vm theMethod args0 = true := by decide +kernel
set_option maxRecDepth 65536 in
theorem w_heap : heapFits about1 = true := by decide +kernel
set_option maxRecDepth 65536 in
theorem w_runnable : about1.curStatus? = some .runnable := by decide +kernel
set_option maxRecDepth 65536 in
theorem w_alone : about1.alone = true := by decide +kernel
set_option maxRecDepth 65536 in
theorem w_named : about1.methodNamed? x = some theMethod := by decide +kernel
set_option maxRecDepth 65536 in
theorem w_hears : about1.hears theMethod below0 = true := by decide +kernel
set_option maxRecDepth 65536 in
theorem w_ripe : about1.ripe theMethod args0 below0 = true := by decide +kernel
theorem w_running : about1.status = .running := rfl
set_option maxRecDepth 65536 in
theorem w_room : about1.hasRoom e0.platform room_1 = true :=
  launch0.hasRoom_least _ room_1 (by decide +kernel) (by decide +kernel) (by decide +kernel) (by decide +kernel) (by decide +kernel) (by decide +kernel)
theorem allAtoms_all (ts : List Jvm.Cond) (a : Array Jvm.Value) (st : Jvm.State) : (allAtoms ts).before a st = ts.all (fun c => c.before a st) := by
  induction ts with
  | nil => rfl
  | cons c t ih =>
    show (Jvm.Cond.and c (allAtoms t)).before a st = _
    rw [Jvm.Cond.before_and, ih, List.all_cons]
def words1 : List Jvm.Cond := Jvm.Cond.code x code maxLocals ret :: tables_1
/-- a 'code' word, met by the world's own term for the bytes: nothing is compared byte by byte -/
theorem code_word {y : MethodName} {bytes : ByteArray} {mx : Nat} {rt : Option FieldType} {a : Array Value} {s : State} {m : MethodId} {meth : Method} {c : Code} (h1 : s.methodNamed? y = some m) (h2 : s.vm.method? m = some meth) (h3 : meth.code = some c) (h4 : c.code = bytes)
    (h5 : (c.maxLocals == mx && c.exceptionTable.isEmpty && decide (c.maxStack ≤ mostOperands) && decide (meth.sig.returnType = rt) && !meth.locks && decide (parseMethodDescriptor y.desc = some meth.sig)) = true) : (Jvm.Cond.code y bytes mx rt).before a s = true := by
  simp only [Bool.and_eq_true, beq_iff_eq, Bool.not_eq_true', decide_eq_true_eq] at h5
  obtain ⟨⟨⟨⟨⟨g1, g2⟩, g3⟩, g4⟩, g5⟩, g6⟩ := h5
  simp [Cond.before, Cond.holds, Cond.value, h1, h2, h3, h4, g1, g2, g3, g4, g5, g6]
def isCode : Jvm.Cond → Bool
  | .code _ _ _ _ => true
  | _ => false
theorem all_split {L : List Jvm.Cond} {P : Jvm.Cond → Bool} (h1 : L.all (fun c => isCode c || P c) = true) (h2 : ∀ c ∈ L.filter isCode, P c = true) : L.all P = true := by
  refine List.all_eq_true.mpr fun c hc => ?_
  have h := List.all_eq_true.mp h1 c hc
  rcases Bool.eq_false_or_eq_true (isCode c) with hi | hi
  · exact h2 c (List.mem_filter.mpr ⟨hc, hi⟩)
  · simpa [hi] using h
set_option maxRecDepth 65536 in
theorem w_c0 : (Jvm.Cond.code x code maxLocals ret).before args0 about1 = true := code_word (m := ⟨1, 4⟩) (meth := k1m4) (c := k1c4) (by decide +kernel) rfl rfl rfl (by decide +kernel)
set_option maxRecDepth 65536 in
theorem w_c1 : (Jvm.Cond.code ({ cls := "com/example/netloom/netloom/embed/SparseColumnDotPinLaw", name := "val", desc := "(JI)I" } : Jvm.MethodName) method_2_code (3 : Nat) (Option.some Jvm.ClassFile.FieldType.int)).before args0 about1 = true := code_word (m := ⟨1, 1⟩) (meth := k1m1) (c := k1c1) (by decide +kernel) rfl rfl rfl (by decide +kernel)
set_option maxRecDepth 65536 in
theorem w_c2 : (Jvm.Cond.code ({ cls := "com/example/netloom/netloom/embed/SparseColumn", name := "<init>", desc := "()V" } : Jvm.MethodName) prog_50_method_1_code (1 : Nat) (Option.none : Option Jvm.ClassFile.FieldType)).before args0 about1 = true := code_word (m := ⟨2, 0⟩) (meth := k2m0) (c := k2c0) (by decide +kernel) rfl rfl rfl (by decide +kernel)
set_option maxRecDepth 65536 in
theorem w_c3 : (Jvm.Cond.code ({ cls := "java/lang/Object", name := "<init>", desc := "()V" } : Jvm.MethodName) object_method_1_code (1 : Nat) (Option.none : Option Jvm.ClassFile.FieldType)).before args0 about1 = true := code_word (m := ⟨0, 0⟩) (meth := k0m0) (c := k0c0) (by decide +kernel) rfl rfl rfl (by decide +kernel)
set_option maxRecDepth 65536 in
theorem w_c4 : (Jvm.Cond.code ({ cls := "com/example/netloom/netloom/embed/SparseColumn", name := "dot", desc := "([D)D" } : Jvm.MethodName) prog_50_method_6_code (5 : Nat) (Option.some Jvm.ClassFile.FieldType.double)).before args0 about1 = true := code_word (m := ⟨2, 2⟩) (meth := k2m2) (c := k2c2) (by decide +kernel) rfl rfl rfl (by decide +kernel)
set_option maxRecDepth 65536 in
theorem w_c5 : (Jvm.Cond.code ({ cls := "com/example/netloom/netloom/embed/SparseColumnDotPinLaw", name := "addOne", desc := "(Lcom/example/netloom/netloom/embed/SparseColumn;JJ[JI)J" } : Jvm.MethodName) method_4_code (9 : Nat) (Option.some Jvm.ClassFile.FieldType.long)).before args0 about1 = true := code_word (m := ⟨1, 3⟩) (meth := k1m3) (c := k1c3) (by decide +kernel) rfl rfl rfl (by decide +kernel)
set_option maxRecDepth 65536 in
theorem w_c6 : (Jvm.Cond.code ({ cls := "com/example/netloom/netloom/embed/SparseColumnDotPinLaw", name := "row", desc := "(JI)I" } : Jvm.MethodName) method_3_code (3 : Nat) (Option.some Jvm.ClassFile.FieldType.int)).before args0 about1 = true := code_word (m := ⟨1, 2⟩) (meth := k1m2) (c := k1c2) (by decide +kernel) rfl rfl rfl (by decide +kernel)
set_option maxRecDepth 65536 in
theorem w_c7 : (Jvm.Cond.code ({ cls := "com/example/netloom/netloom/embed/SparseColumn", name := "add", desc := "(ID)V" } : Jvm.MethodName) prog_50_method_2_code (4 : Nat) (Option.none : Option Jvm.ClassFile.FieldType)).before args0 about1 = true := code_word (m := ⟨2, 1⟩) (meth := k2m1) (c := k2c1) (by decide +kernel) rfl rfl rfl (by decide +kernel)
set_option maxRecDepth 65536 in
theorem w_c8 : (Jvm.Cond.code ({ cls := "java/util/Arrays", name := "copyOf", desc := "([II)[I" } : Jvm.MethodName) jdk_65_method_123_code (3 : Nat) (Option.some (Jvm.ClassFile.FieldType.array Jvm.ClassFile.FieldType.int))).before args0 about1 = true := code_word (m := ⟨3, 1⟩) (meth := k3m1) (c := k3c1) (by decide +kernel) rfl rfl rfl (by decide +kernel)
set_option maxRecDepth 65536 in
theorem w_c9 : (Jvm.Cond.code ({ cls := "java/lang/Math", name := "min", desc := "(II)I" } : Jvm.MethodName) jdk_29_method_69_code (2 : Nat) (Option.some Jvm.ClassFile.FieldType.int)).before args0 about1 = true := code_word (m := ⟨4, 1⟩) (meth := k4m1) (c := k4c1) (by decide +kernel) rfl rfl rfl (by decide +kernel)
set_option maxRecDepth 65536 in
theorem w_c10 : (Jvm.Cond.code ({ cls := "java/util/Arrays", name := "copyOf", desc := "([DI)[D" } : Jvm.MethodName) jdk_65_method_127_code (3 : Nat) (Option.some (Jvm.ClassFile.FieldType.array Jvm.ClassFile.FieldType.double))).before args0 about1 = true := code_word (m := ⟨3, 2⟩) (meth := k3m2) (c := k3c2) (by decide +kernel) rfl rfl rfl (by decide +kernel)
def codes1 : List Jvm.Cond := [Jvm.Cond.code x code maxLocals ret, Jvm.Cond.code ({ cls := "com/example/netloom/netloom/embed/SparseColumnDotPinLaw", name := "val", desc := "(JI)I" } : Jvm.MethodName) method_2_code (3 : Nat) (Option.some Jvm.ClassFile.FieldType.int), Jvm.Cond.code ({ cls := "com/example/netloom/netloom/embed/SparseColumn", name := "<init>", desc := "()V" } : Jvm.MethodName) prog_50_method_1_code (1 : Nat) (Option.none : Option Jvm.ClassFile.FieldType), Jvm.Cond.code ({ cls := "java/lang/Object", name := "<init>", desc := "()V" } : Jvm.MethodName) object_method_1_code (1 : Nat) (Option.none : Option Jvm.ClassFile.FieldType), Jvm.Cond.code ({ cls := "com/example/netloom/netloom/embed/SparseColumn", name := "dot", desc := "([D)D" } : Jvm.MethodName) prog_50_method_6_code (5 : Nat) (Option.some Jvm.ClassFile.FieldType.double), Jvm.Cond.code ({ cls := "com/example/netloom/netloom/embed/SparseColumnDotPinLaw", name := "addOne", desc := "(Lcom/example/netloom/netloom/embed/SparseColumn;JJ[JI)J" } : Jvm.MethodName) method_4_code (9 : Nat) (Option.some Jvm.ClassFile.FieldType.long), Jvm.Cond.code ({ cls := "com/example/netloom/netloom/embed/SparseColumnDotPinLaw", name := "row", desc := "(JI)I" } : Jvm.MethodName) method_3_code (3 : Nat) (Option.some Jvm.ClassFile.FieldType.int), Jvm.Cond.code ({ cls := "com/example/netloom/netloom/embed/SparseColumn", name := "add", desc := "(ID)V" } : Jvm.MethodName) prog_50_method_2_code (4 : Nat) (Option.none : Option Jvm.ClassFile.FieldType), Jvm.Cond.code ({ cls := "java/util/Arrays", name := "copyOf", desc := "([II)[I" } : Jvm.MethodName) jdk_65_method_123_code (3 : Nat) (Option.some (Jvm.ClassFile.FieldType.array Jvm.ClassFile.FieldType.int)), Jvm.Cond.code ({ cls := "java/lang/Math", name := "min", desc := "(II)I" } : Jvm.MethodName) jdk_29_method_69_code (2 : Nat) (Option.some Jvm.ClassFile.FieldType.int), Jvm.Cond.code ({ cls := "java/util/Arrays", name := "copyOf", desc := "([DI)[D" } : Jvm.MethodName) jdk_65_method_127_code (3 : Nat) (Option.some (Jvm.ClassFile.FieldType.array Jvm.ClassFile.FieldType.double))]
set_option maxRecDepth 65536 in
theorem codes_eq : words1.filter isCode = codes1 := rfl
theorem w_codes : ∀ c ∈ words1.filter isCode, c.before args0 about1 = true := by
  rw [codes_eq]
  intro c hc
  simp only [codes1, List.mem_cons, List.not_mem_nil, or_false] at hc
  rcases hc with rfl | rfl | rfl | rfl | rfl | rfl | rfl | rfl | rfl | rfl | rfl
  · exact w_c0
  · exact w_c1
  · exact w_c2
  · exact w_c3
  · exact w_c4
  · exact w_c5
  · exact w_c6
  · exact w_c7
  · exact w_c8
  · exact w_c9
  · exact w_c10
set_option maxRecDepth 65536 in
theorem w_t1 : (words1.take 24).all (fun c => isCode c || c.before args0 about1) = true := by decide +kernel
set_option maxRecDepth 65536 in
theorem w_t2 : ((words1.drop 24).take 24).all (fun c => isCode c || c.before args0 about1) = true := by decide +kernel
set_option maxRecDepth 65536 in
theorem w_t3 : ((words1.drop 24).drop 24).all (fun c => isCode c || c.before args0 about1) = true := by decide +kernel
theorem w_tables : (allAtoms (Jvm.Cond.code x code maxLocals ret :: tables_1)).before args0 about1 = true := by
  rw [allAtoms_all]
  show words1.all (fun c => c.before args0 about1) = true
  refine all_split ?_ w_codes
  rw [← List.take_append_drop 24 words1, List.all_append, w_t1, ← List.take_append_drop 24 (words1.drop 24), List.all_append, w_t2, w_t3]
  rfl
set_option maxRecDepth 65536 in
theorem w_case : (Jvm.Cond.and given_1 narrow_1).before args0 about1 = true := by decide +kernel
theorem w_applies : (headSpec (Jvm.Cond.code x code maxLocals ret :: tables_1) room_1).applies x e0.platform about1 = true :=
  (Spec.applies_iff w_frames).mpr ⟨w_running, w_runnable, w_alone, w_named, w_hears, w_ripe, w_room, w_tables⟩
theorem atStart : AtStart classFile x code maxLocals ret World_1 tables_1 room_1 Calls_1 rest_1 Pre_1 launch0 p0 e0 about1 theMethod args0 below0 :=
  ⟨lists_1, trivial, launch0.admits_env _ _ _, launch0.least_env, fairChoices_fair.cas, fairChoices_fair.clock, w_frames, w_args, w_heap, w_applies, trivial, trivial, w_case⟩
end start1
theorem witness_1 : WitnessClaimed_1 := ⟨start1.p0, start1.e0, start1.about1, start1.theMethod, start1.args0, start1.below0, start1.atStart⟩
end Jvm.Pilot.@@N@@
