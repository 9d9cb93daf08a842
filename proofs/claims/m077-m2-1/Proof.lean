import JvmDerived
import JvmDerived.Pilot.@@N@@Statement
import JvmDerived.Pilot.@@N@@Code
set_option linter.unusedVariables false
set_option linter.unusedSimpArgs false
@@BLOCK:NumsL.lean.txt@@
namespace Jvm.Pilot.@@N@@
open Jvm Jvm.ClassFile Sem Op Lib Jvm.Free Jvm.Stand Jvm.LawKit Jvm.RoadKit Bundle Jvm.Pilot.@@N@@.Jvm.D
open Jvm.Free.Fl (NoNaN64 Fin64 Nz64)
theorem own_lt_ne {a b n : Nat} (h : a < n) (g : b = n) : a ≠ b := by omega
theorem own_lt_ne2 {a b n : Nat} (h : a < n) (g : n ≤ b) : a ≠ b := by omega
theorem own_ge_of {k b n : Nat} (h : k ≤ n) (g : b = n) : k ≤ b := by omega
abbrev uu : Slot := .unset
abbrev ss : Slot := .second
abbrev vi (x : Int32) : Slot := .val (.int x)
abbrev vj (x : Int64) : Slot := .val (.long x)
abbrev vd (x : UInt64) : Slot := .val (.double x)
abbrev vr (x : Addr) : Slot := .val (.ref x)
/-- whatever is reached from here is reached from E -/
abbrev own_G (p : Program) (e : Env) (below : List Frame) (E T : State) (g : JFrame) : Prop := ∀ t, Steps p.tables e below (T.setTop g) t → Steps p.tables e below E t
theorem own_if_eqY {x : Int32} (h : x = 0) : ifCond.holds .eq x = true := by subst h; rfl
theorem own_if_eqN {x : Int32} (h : ¬ x = 0) : ifCond.holds .eq x = false := beq_false_of_ne h
theorem own_if_neY {x : Int32} (h : ¬ x = 0) : ifCond.holds .ne x = true := bne_iff_ne.mpr h
theorem own_if_neN {x : Int32} (h : x = 0) : ifCond.holds .ne x = false := by subst h; rfl
theorem own_if_ltY {x : Int32} (h : x < 0) : ifCond.holds .lt x = true := decide_eq_true h
theorem own_if_ltN {x : Int32} (h : ¬ x < 0) : ifCond.holds .lt x = false := decide_eq_false h
theorem own_if_geY {x : Int32} (h : ¬ x < 0) : ifCond.holds .ge x = true := decide_eq_true (Int32.not_lt.mp h)
theorem own_if_geN {x : Int32} (h : x < 0) : ifCond.holds .ge x = false := decide_eq_false (fun q => Int32.not_le.mpr h q)
theorem own_if_gtY {x : Int32} (h : 0 < x) : ifCond.holds .gt x = true := decide_eq_true h
theorem own_if_gtN {x : Int32} (h : ¬ 0 < x) : ifCond.holds .gt x = false := decide_eq_false h
theorem own_if_leY {x : Int32} (h : ¬ 0 < x) : ifCond.holds .le x = true := decide_eq_true (Int32.not_lt.mp h)
theorem own_if_leN {x : Int32} (h : 0 < x) : ifCond.holds .le x = false := decide_eq_false (fun q => Int32.not_le.mpr h q)
theorem own_ic_eqY {x y : Int32} (h : x = y) : if_icmp.holds .eq x y = true := beq_iff_eq.mpr h
theorem own_ic_eqN {x y : Int32} (h : ¬ x = y) : if_icmp.holds .eq x y = false := beq_false_of_ne h
theorem own_ic_neY {x y : Int32} (h : ¬ x = y) : if_icmp.holds .ne x y = true := bne_iff_ne.mpr h
theorem own_ic_neN {x y : Int32} (h : x = y) : if_icmp.holds .ne x y = false := by subst h; exact bne_self_eq_false x
theorem own_ic_ltY {x y : Int32} (h : x < y) : if_icmp.holds .lt x y = true := decide_eq_true h
theorem own_ic_ltN {x y : Int32} (h : ¬ x < y) : if_icmp.holds .lt x y = false := decide_eq_false h
theorem own_ic_geY {x y : Int32} (h : ¬ x < y) : if_icmp.holds .ge x y = true := decide_eq_true (Int32.not_lt.mp h)
theorem own_ic_geN {x y : Int32} (h : x < y) : if_icmp.holds .ge x y = false := decide_eq_false (fun q => Int32.not_le.mpr h q)
theorem own_ic_gtY {x y : Int32} (h : y < x) : if_icmp.holds .gt x y = true := decide_eq_true h
theorem own_ic_gtN {x y : Int32} (h : ¬ y < x) : if_icmp.holds .gt x y = false := decide_eq_false h
theorem own_ic_leY {x y : Int32} (h : ¬ y < x) : if_icmp.holds .le x y = true := decide_eq_true (Int32.not_lt.mp h)
theorem own_ic_leN {x y : Int32} (h : y < x) : if_icmp.holds .le x y = false := decide_eq_false (fun q => Int32.not_le.mpr h q)
/-- what a comparison of two whole or scaled values pushes -/
def own_c (i j : Int) : Int32 := if i < j then -1 else if i = j then 0 else 1
theorem own_cE (o : CmpOp) {x y : UInt64} {i j : Int} (h : FP.dcmp x y = some (compare i j)) : cmpValue (FP.dcmp x y) o = own_c i j := by
  rw [h, FP.Core.compare_ite, own_c]
  by_cases h1 : i < j
  · rw [if_pos h1, if_pos h1]; cases o <;> rfl
  · rw [if_neg h1, if_neg h1]
    by_cases h2 : i = j
    · rw [if_pos h2, if_pos h2]; cases o <;> rfl
    · rw [if_neg h2, if_neg h2]; cases o <;> rfl
theorem own_c_lt {i j : Int} (h : i < j) : own_c i j = -1 := by rw [own_c, if_pos h]
theorem own_c_eq {i j : Int} (h : i = j) : own_c i j = 0 := by rw [own_c, if_neg (by omega), if_pos h]
theorem own_c_gt {i j : Int} (h : j < i) : own_c i j = 1 := by rw [own_c, if_neg (by omega), if_neg (by omega)]
theorem own_c_cases (i j : Int) : (i < j ∧ own_c i j = -1) ∨ (i = j ∧ own_c i j = 0) ∨ (j < i ∧ own_c i j = 1) := by
  rcases Int.lt_trichotomy i j with h | h | h
  · exact Or.inl ⟨h, own_c_lt h⟩
  · exact Or.inr (Or.inl ⟨h, own_c_eq h⟩)
  · exact Or.inr (Or.inr ⟨h, own_c_gt h⟩)
theorem own_c_ltY {i j : Int} (h : i < j) : ifCond.holds .lt (own_c i j) = true := by rw [own_c_lt h]; rfl
theorem own_c_ltN {i j : Int} (h : ¬ i < j) : ifCond.holds .lt (own_c i j) = false := by rcases own_c_cases i j with q | q | q <;> first | exact absurd q.1 h | (rw [q.2]; rfl)
theorem own_c_geY {i j : Int} (h : ¬ i < j) : ifCond.holds .ge (own_c i j) = true := by rcases own_c_cases i j with q | q | q <;> first | exact absurd q.1 h | (rw [q.2]; rfl)
theorem own_c_geN {i j : Int} (h : i < j) : ifCond.holds .ge (own_c i j) = false := by rw [own_c_lt h]; rfl
theorem own_c_gtY {i j : Int} (h : j < i) : ifCond.holds .gt (own_c i j) = true := by rw [own_c_gt h]; rfl
theorem own_c_gtN {i j : Int} (h : ¬ j < i) : ifCond.holds .gt (own_c i j) = false := by rcases own_c_cases i j with q | q | q <;> first | exact absurd q.1 h | (rw [q.2]; rfl)
theorem own_c_leY {i j : Int} (h : ¬ j < i) : ifCond.holds .le (own_c i j) = true := by rcases own_c_cases i j with q | q | q <;> first | exact absurd q.1 h | (rw [q.2]; rfl)
theorem own_c_leN {i j : Int} (h : j < i) : ifCond.holds .le (own_c i j) = false := by rw [own_c_gt h]; rfl
theorem own_c_eqY {i j : Int} (h : i = j) : ifCond.holds .eq (own_c i j) = true := by rw [own_c_eq h]; rfl
theorem own_c_eqN {i j : Int} (h : ¬ i = j) : ifCond.holds .eq (own_c i j) = false := by rcases own_c_cases i j with q | q | q <;> first | exact absurd q.1 h | (rw [q.2]; rfl)
theorem own_c_neY {i j : Int} (h : ¬ i = j) : ifCond.holds .ne (own_c i j) = true := by rcases own_c_cases i j with q | q | q <;> first | exact absurd q.1 h | (rw [q.2]; rfl)
theorem own_c_neN {i j : Int} (h : i = j) : ifCond.holds .ne (own_c i j) = false := by rw [own_c_eq h]; rfl
theorem own_l_lt {i j : Int64} (h : i < j) : XT.cmpL i j = -1 := by
  rw [XT.cmpL, if_neg (fun q => Int64.lt_irrefl (Int64.lt_trans h q)), if_neg (fun q => Int64.lt_irrefl (q ▸ h))]
theorem own_l_eq {i j : Int64} (h : i = j) : XT.cmpL i j = 0 := by subst h; rw [XT.cmpL, if_neg Int64.lt_irrefl, if_pos rfl]
theorem own_l_gt {i j : Int64} (h : j < i) : XT.cmpL i j = 1 := by rw [XT.cmpL, if_pos h]
theorem own_l_cases (i j : Int64) : (i < j ∧ XT.cmpL i j = -1) ∨ (i = j ∧ XT.cmpL i j = 0) ∨ (j < i ∧ XT.cmpL i j = 1) := by
  by_cases h : i < j
  · exact Or.inl ⟨h, own_l_lt h⟩
  · by_cases h2 : i = j
    · exact Or.inr (Or.inl ⟨h2, own_l_eq h2⟩)
    · have h3 : j < i := by
        rw [Int64.lt_iff_toInt_lt] at h ⊢
        have h4 : i.toInt ≠ j.toInt := fun q => h2 (Int64.toInt_inj.mp q)
        omega
      exact Or.inr (Or.inr ⟨h3, own_l_gt h3⟩)
theorem own_l_ltY {i j : Int64} (h : i < j) : ifCond.holds .lt (XT.cmpL i j) = true := by rw [own_l_lt h]; rfl
theorem own_l_ltN {i j : Int64} (h : ¬ i < j) : ifCond.holds .lt (XT.cmpL i j) = false := by rcases own_l_cases i j with q | q | q <;> first | exact absurd q.1 h | (rw [q.2]; rfl)
theorem own_l_geY {i j : Int64} (h : ¬ i < j) : ifCond.holds .ge (XT.cmpL i j) = true := by rcases own_l_cases i j with q | q | q <;> first | exact absurd q.1 h | (rw [q.2]; rfl)
theorem own_l_geN {i j : Int64} (h : i < j) : ifCond.holds .ge (XT.cmpL i j) = false := by rw [own_l_lt h]; rfl
theorem own_l_gtY {i j : Int64} (h : j < i) : ifCond.holds .gt (XT.cmpL i j) = true := by rw [own_l_gt h]; rfl
theorem own_l_gtN {i j : Int64} (h : ¬ j < i) : ifCond.holds .gt (XT.cmpL i j) = false := by rcases own_l_cases i j with q | q | q <;> first | exact absurd q.1 h | (rw [q.2]; rfl)
theorem own_l_leY {i j : Int64} (h : ¬ j < i) : ifCond.holds .le (XT.cmpL i j) = true := by rcases own_l_cases i j with q | q | q <;> first | exact absurd q.1 h | (rw [q.2]; rfl)
theorem own_l_leN {i j : Int64} (h : j < i) : ifCond.holds .le (XT.cmpL i j) = false := by rw [own_l_gt h]; rfl
theorem own_l_eqY {i j : Int64} (h : i = j) : ifCond.holds .eq (XT.cmpL i j) = true := by rw [own_l_eq h]; rfl
theorem own_l_eqN {i j : Int64} (h : ¬ i = j) : ifCond.holds .eq (XT.cmpL i j) = false := by rcases own_l_cases i j with q | q | q <;> first | exact absurd q.1 h | (rw [q.2]; rfl)
theorem own_l_neY {i j : Int64} (h : ¬ i = j) : ifCond.holds .ne (XT.cmpL i j) = true := by rcases own_l_cases i j with q | q | q <;> first | exact absurd q.1 h | (rw [q.2]; rfl)
theorem own_l_neN {i j : Int64} (h : i = j) : ifCond.holds .ne (XT.cmpL i j) = false := by rw [own_l_eq h]; rfl
theorem own_ac_eq_Y {x y : Value} (h : x = y) : XT.acmp .eq x y = true := decide_eq_true h
theorem own_ac_eq_N {x y : Value} (h : ¬ x = y) : XT.acmp .eq x y = false := decide_eq_false h
theorem own_ac_ne_Y {x y : Value} (h : ¬ x = y) : XT.acmp .ne x y = true := decide_eq_true h
theorem own_ac_ne_N {x y : Value} (h : x = y) : XT.acmp .ne x y = false := decide_eq_false (fun q => q h)
theorem own_ar_eq_Y {x y : Addr} (h : x = y) : XT.acmp .eq (.ref x) (.ref y) = true := own_ac_eq_Y (congrArg Value.ref h)
theorem own_ar_eq_N {x y : Addr} (h : ¬ x = y) : XT.acmp .eq (.ref x) (.ref y) = false := own_ac_eq_N (fun q => h (Value.ref.inj q))
theorem own_ar_ne_Y {x y : Addr} (h : ¬ x = y) : XT.acmp .ne (.ref x) (.ref y) = true := own_ac_ne_Y (fun q => h (Value.ref.inj q))
theorem own_ar_ne_N {x y : Addr} (h : x = y) : XT.acmp .ne (.ref x) (.ref y) = false := own_ac_ne_N (congrArg Value.ref h)
/-- a static's object's field that the case names by a number -/
theorem own_ord {args : Array Value} {s : State} {t : Term} {C n d : String} {k : Int32} {x : Addr} (ev : t.eval args s none [] s = some (.ref x))
    (h : (Jvm.Cond.eq (Term.field t C n d) (Term.int k)).value args s none s [] = some true) : s.fieldOf? x C n d = some (.int k) := by
  obtain ⟨v, u, e1, e2, k1, k2⟩ := cmp_v (Or.inl h)
  have e3 : u = .int k := by have := (Term.int_eval (args := args) (first := s) (o := none) (idx := []) (s := s) k).symm.trans e2; exact (Option.some.inj this).symm
  subst e3
  obtain ⟨z, rfl⟩ := k2
  have q := gotT (Cond.eq_ints e1 e2) h
  rw [← fld_at ev, e1, q]
/-! doubles: exact values in units of the least double -/
def own_z (x : UInt64) : Int := FP.Core.zval FP.Core.b64 (FP.Core.val64 x)
theorem own_nn {i : Int} {x : UInt64} (h : FP.Core.DInt i x) : NoNaN64 x := Fl.val64_no.mpr (FP.Core.DInt_ne_nan h)
theorem own_cmpz {x y : UInt64} (hx : NoNaN64 x) (hy : NoNaN64 y) : FP.dcmp x y = some (compare (own_z x) (own_z y)) := FP.Core.dcmp_zval (Fl.val64_no.mp hx) (Fl.val64_no.mp hy)
theorem own_d0 : FP.Core.DInt 0 FP.dconst0 := by
  have h := FP.Core.l2d_int (a := 0) (by decide)
  rw [FP.Core.l2d_zero] at h; exact h
theorem own_d1 : FP.Core.DInt 1 FP.dconst1 := FP.Core.dint_one
theorem own_zi {i : Int} {x : UInt64} (h : FP.Core.DInt i x) : own_z x = i * (FP.Core.one64 : Int) := FP.Core.DInt_zval h
theorem own_fini {i : Int} {x : UInt64} (h : FP.Core.DInt i x) : Fin64 x := by
  have h' : FP.Core.Whole i (FP.Core.val64 x) := h
  cases hv : FP.Core.val64 x with
  | nan => rw [hv] at h'; exact h'.elim
  | inf s => rw [hv] at h'; exact h'.elim
  | fin s c q => exact Fl.fin64_core.mpr ⟨s, c, q, hv⟩
theorem own_one : (0 : Int) < (FP.Core.one64 : Int) := by have := FP.Core.one64_pos; omega
theorem own_nz {x : UInt64} (h : own_z x ≠ 0) : Nz64 x := Fl.nz64_core.mpr fun ⟨s, q, e⟩ => h (by
  show FP.Core.zval FP.Core.b64 (FP.Core.val64 x) = 0
  rw [e]; show FP.Core.signed s (0 * _) = 0; rw [Nat.zero_mul]; cases s <;> rfl)
theorem own_nzi {i : Int} {x : UInt64} (h : FP.Core.DInt i x) (hi : i ≠ 0) : Nz64 x := own_nz (by
  rw [own_zi h]; intro q; rcases Int.mul_eq_zero.mp q with r | r
  · exact hi r
  · have := own_one; omega)
theorem own_zn (x : UInt64) : (own_z x).natAbs = FP.Core.zmag FP.Core.b64 (FP.Core.val64 x) := FP.Core.natAbs_signed _ _
/-- the quotient, by the two values alone -/
theorem own_quot {x y : UInt64} (hx : Fin64 x) (hy : Fin64 y) (hz : own_z y ≠ 0) :
    FP.Core.val64 (FP.ddiv x y) = FP.Core.roundRatio FP.Core.b64 (FP.Core.sgn (FP.Core.val64 x) != FP.Core.sgn (FP.Core.val64 y)) (own_z x).natAbs (own_z y).natAbs 0 := by
  obtain ⟨s, c, q, ex⟩ := Fl.fin64_core.mp hx
  obtain ⟨t, d, r, ey⟩ := Fl.fin64_core.mp hy
  have fx : FP.Core.fits FP.Core.b64 (.fin s c q) := ex ▸ FP.Core.val64_fits x
  have fy : FP.Core.fits FP.Core.b64 (.fin t d r) := ey ▸ FP.Core.val64_fits y
  have hd : d ≠ 0 := fun h => hz (by
    show FP.Core.zval FP.Core.b64 (FP.Core.val64 y) = 0
    rw [ey, h]; show FP.Core.signed t (0 * _) = 0; rw [Nat.zero_mul]; cases t <;> rfl)
  rw [own_zn, own_zn, show FP.ddiv x y = FP.Core.ddiv x y from rfl, FP.Core.val64_ddiv, ex, ey]
  show (if d = 0 then _ else FP.Core.roundRatio FP.Core.b64 (s != t) c d (q - r)) = FP.Core.roundRatio FP.Core.b64 (s != t) (c * 2 ^ (q - FP.Core.b64.qmin).toNat) (d * 2 ^ (r - FP.Core.b64.qmin).toNat) 0
  rw [if_neg hd]
  refine FP.Core.roundRatio_congr (Nat.pos_of_ne_zero hd) (Nat.mul_pos (Nat.pos_of_ne_zero hd) (Nat.two_pow_pos _)) ?_
  have h1 := fx.2.1
  have h2 := fy.2.1
  have e1 : (r - FP.Core.b64.qmin).toNat + (q - r - 0).toNat = (q - FP.Core.b64.qmin).toNat + (0 - (q - r)).toNat := by omega
  calc c * (d * 2 ^ (r - FP.Core.b64.qmin).toNat) * 2 ^ (q - r - 0).toNat = c * d * (2 ^ (r - FP.Core.b64.qmin).toNat * 2 ^ (q - r - 0).toNat) := by
        rw [Nat.mul_assoc, Nat.mul_assoc, Nat.mul_assoc]
    _ = c * d * (2 ^ (q - FP.Core.b64.qmin).toNat * 2 ^ (0 - (q - r)).toNat) := by rw [← Nat.pow_add, ← Nat.pow_add, e1]
    _ = c * 2 ^ (q - FP.Core.b64.qmin).toNat * d * 2 ^ (0 - (q - r)).toNat := by
        rw [Nat.mul_right_comm c _ d, Nat.mul_assoc (c * d)]
theorem own_noNaN_of {x : UInt64} {s : Bool} {A B : Nat} {e : Int} (h : FP.Core.val64 x = FP.Core.roundRatio FP.Core.b64 s A B e) : NoNaN64 x :=
  Fl.val64_no.mpr (h ▸ FP.Core.roundRatio_ne_nan _ _ _ _ _)
theorem own_div_nn {x y : UInt64} (hx : Fin64 x) (hy : Fin64 y) (hz : own_z y ≠ 0) : NoNaN64 (FP.ddiv x y) := Fl.ddiv_out hx.noNaN hy (own_nz hz)
/-- what is rounded below (above) a double stays there -/
theorem own_rr_le {s : Bool} {A B : Nat} {V : UInt64} (hB : 0 < B) (hV : NoNaN64 V) (h : A * FP.Core.one64 ≤ (own_z V).natAbs * B) :
    FP.Core.zmag FP.Core.b64 (FP.Core.roundRatio FP.Core.b64 s A B 0) ≤ (own_z V).natAbs := by
  rw [own_zn] at h ⊢
  refine FP.Core.zmag_roundRatio_le FP.Core.good_b64 hB (FP.Core.val64_fits V) (Fl.val64_no.mp hV) (e0 := FP.Core.b64.qmin) (Int.le_refl _) (by decide +kernel) ?_
  rw [Int.sub_self]
  show A * 2 ^ (0 - FP.Core.b64.qmin).toNat ≤ _ * 1 * B
  rw [Nat.mul_one, Int.zero_sub, FP.Core.pow_qmin64]; exact h
theorem own_rr_ge {s : Bool} {A B : Nat} {V : UInt64} (hB : 0 < B) (h : (own_z V).natAbs * B ≤ A * FP.Core.one64) :
    (own_z V).natAbs ≤ FP.Core.zmag FP.Core.b64 (FP.Core.roundRatio FP.Core.b64 s A B 0) := by
  rw [own_zn] at h ⊢
  refine FP.Core.zmag_roundRatio_ge FP.Core.good_b64 hB (FP.Core.val64_fits V) (e0 := FP.Core.b64.qmin) (Int.le_refl _) (by decide +kernel) ?_
  rw [Int.sub_self]
  show _ * 1 * B ≤ A * 2 ^ (0 - FP.Core.b64.qmin).toNat
  rw [Nat.mul_one, Int.zero_sub, FP.Core.pow_qmin64]; exact h
theorem own_z_signed {x : UInt64} {s : Bool} {A B : Nat} (h : FP.Core.val64 x = FP.Core.roundRatio FP.Core.b64 s A B 0) :
    own_z x = FP.Core.signed s (FP.Core.zmag FP.Core.b64 (FP.Core.roundRatio FP.Core.b64 s A B 0)) := by
  show FP.Core.signed _ _ = _
  rw [h, FP.Core.sgn_roundRatio]
/-- a quotient of two that are not below nought -/
theorem own_div_ge0 {x y : UInt64} (hx : Fin64 x) (hy : Fin64 y) (hz : own_z y ≠ 0) (h0 : 0 ≤ own_z x) (h1 : 0 ≤ own_z y) : 0 ≤ own_z (FP.ddiv x y) := by
  have hq := own_quot hx hy hz
  rw [own_z_signed hq]
  cases hs : (FP.Core.sgn (FP.Core.val64 x) != FP.Core.sgn (FP.Core.val64 y)) with
  | false => exact Int.natCast_nonneg _
  | true =>
    have hy2 : FP.Core.sgn (FP.Core.val64 y) = false := by
      cases hs2 : FP.Core.sgn (FP.Core.val64 y) with
      | false => rfl
      | true =>
        exfalso; have : own_z y = -(FP.Core.zmag FP.Core.b64 (FP.Core.val64 y) : Int) := by show FP.Core.signed _ _ = _; rw [hs2]; rfl
        omega
    have hx2 : FP.Core.sgn (FP.Core.val64 x) = true := by rw [hy2] at hs; simpa using hs
    have hx3 : own_z x = -(FP.Core.zmag FP.Core.b64 (FP.Core.val64 x) : Int) := by show FP.Core.signed _ _ = _; rw [hx2]; rfl
    have hx4 : (own_z x).natAbs = 0 := by omega
    rw [hx4, FP.Core.roundRatio, if_pos rfl]
    show 0 ≤ FP.Core.signed true (0 * _); rw [Nat.zero_mul]; decide
theorem own_div_le {x y V : UInt64} (hx : Fin64 x) (hy : Fin64 y) (hz : own_z y ≠ 0) (hV : NoNaN64 V) (h0 : 0 ≤ own_z x) (h1 : 0 ≤ own_z y) (h2 : 0 ≤ own_z V)
    (h : own_z x * (FP.Core.one64 : Int) ≤ own_z V * own_z y) : own_z (FP.ddiv x y) ≤ own_z V := by
  have hq := own_quot hx hy hz
  have hge := own_div_ge0 hx hy hz h0 h1
  have hB : 0 < (own_z y).natAbs := by omega
  have h3 : (own_z x).natAbs * FP.Core.one64 ≤ (own_z V).natAbs * (own_z y).natAbs := by
    have e1 : ((own_z x).natAbs : Int) = own_z x := by omega
    have e2 : ((own_z y).natAbs : Int) = own_z y := by omega
    have e3 : ((own_z V).natAbs : Int) = own_z V := by omega
    have : (((own_z x).natAbs * FP.Core.one64 : Nat) : Int) ≤ (((own_z V).natAbs * (own_z y).natAbs : Nat) : Int) := by
      rw [Int.natCast_mul, Int.natCast_mul, e1, e2, e3]; exact h
    exact Int.ofNat_le.mp this
  have := own_rr_le (s := FP.Core.sgn (FP.Core.val64 x) != FP.Core.sgn (FP.Core.val64 y)) hB hV h3
  have h4 : (own_z (FP.ddiv x y)).natAbs ≤ (own_z V).natAbs := by rw [own_zn, hq]; exact this
  omega
/-- two doubles of the same whole value compare as equal -/
theorem own_eq0 {x y : UInt64} {i : Int} (o : CmpOp) (hx : FP.Core.DInt i x) (hy : FP.Core.DInt i y) : cmpValue (FP.dcmp x y) o = 0 := by
  rw [own_cE o (FP.Core.dcmp_int hx hy), own_c_eq rfl]
theorem own_mb {a b A B : Int} (h1 : -A ≤ a) (h2 : a ≤ A) (h3 : -B ≤ b) (h4 : b ≤ B) (h : A * B ≤ 9007199254740992) : (a * b).natAbs ≤ 2 ^ 53 := by
  rw [Int.natAbs_mul]
  have e1 : a.natAbs ≤ A.toNat := by omega
  have e2 : b.natAbs ≤ B.toNat := by omega
  have e3 : a.natAbs * b.natAbs ≤ A.toNat * B.toNat := Nat.mul_le_mul e1 e2
  have e4 : ((A.toNat * B.toNat : Nat) : Int) = A * B := by rw [Int.natCast_mul, Int.toNat_of_nonneg (by omega), Int.toNat_of_nonneg (by omega)]
  have e5 : (2 : Nat) ^ 53 = 9007199254740992 := by decide
  omega
theorem own_dl (a : Int64) {i : Int} (h : a.toInt = i) (hb : i.natAbs ≤ 2 ^ 53) : FP.Core.DInt i (FP.l2d a) := by subst h; exact FP.Core.l2d_int hb
theorem own_lm {a b : Int64} (h : (a.toInt * b.toInt).natAbs ≤ 2 ^ 53) : (a * b).toInt = a.toInt * b.toInt := by
  have e5 : (2 : Nat) ^ 53 = 9007199254740992 := by decide
  exact Jvm.Kit.i64_mul (by omega) (by omega)
theorem own_sgn_mul {s t : Bool} {b : Nat} {k : Int} (hb : 0 < b) (h : FP.Core.signed s (k.natAbs * b) = k * FP.Core.signed t b) : FP.Core.signed (s != t) k.natAbs = k := by
  have hb' : (0 : Int) < (b : Int) := by omega
  have e : ((k.natAbs * b : Nat) : Int) = (k.natAbs : Int) * (b : Int) := Int.natCast_mul _ _
  have key : ∀ z : Int, (k.natAbs : Int) * (b : Int) = z * (b : Int) → (k.natAbs : Int) = z := fun z q => Int.eq_of_mul_eq_mul_right (by omega) q
  cases s <;> cases t
  · show (k.natAbs : Int) = k
    apply key; rw [← e]; exact h
  · show -(k.natAbs : Int) = k
    have h' : ((k.natAbs * b : Nat) : Int) = k * -(b : Int) := h
    have := key (-k) (by rw [← e, h', Int.mul_neg, Int.neg_mul]); omega
  · show -(k.natAbs : Int) = k
    have h' : -((k.natAbs * b : Nat) : Int) = k * (b : Int) := h
    have := key (-k) (by rw [← e, Int.neg_mul, ← h', Int.neg_neg]); omega
  · show (k.natAbs : Int) = k
    have h' : -((k.natAbs * b : Nat) : Int) = k * -(b : Int) := h
    apply key; rw [← e]
    have : -((k.natAbs * b : Nat) : Int) = -(k * (b : Int)) := by rw [h', Int.mul_neg]
    omega
/-- a quotient of whole values that comes out even -/
theorem own_ddiv_int {k j : Int} {x y : UInt64} (hx : FP.Core.DInt (k * j) x) (hy : FP.Core.DInt j y) (hj : j ≠ 0) (hk : k.natAbs ≤ 2 ^ 53) : FP.Core.DInt k (FP.ddiv x y) := by
  have zx := own_zi hx
  have zy := own_zi hy
  have hz : own_z y ≠ 0 := by rw [zy]; exact Int.mul_ne_zero hj (by have := own_one; omega)
  have hq := own_quot (own_fini hx) (own_fini hy) hz
  have ha : (own_z x).natAbs = k.natAbs * (own_z y).natAbs := by rw [zx, zy, Int.mul_assoc, Int.natAbs_mul]
  have hb : 0 < (own_z y).natAbs := by omega
  show FP.Core.Whole k (FP.Core.val64 (FP.ddiv x y))
  rw [hq, ha, FP.Core.roundRatio_congr (A' := k.natAbs) (B' := 1) (e' := 0) hb (by decide) (by rw [Nat.mul_one])]
  refine FP.Core.whole_round FP.Core.good_b64 FP.Core.wide_b64 hk (d := .fin (FP.Core.sgn (FP.Core.val64 x) != FP.Core.sgn (FP.Core.val64 y)) k.natAbs 0) ?_
  show FP.Core.signed _ (k.natAbs * 1) = k * ((1 : Nat) : Int)
  rw [Nat.mul_one, show ((1 : Nat) : Int) = 1 from rfl, Int.mul_one]
  refine own_sgn_mul hb ?_
  have e1 : FP.Core.signed (FP.Core.sgn (FP.Core.val64 x)) (own_z x).natAbs = own_z x := by rw [own_zn]; rfl
  have e2 : FP.Core.signed (FP.Core.sgn (FP.Core.val64 y)) (own_z y).natAbs = own_z y := by rw [own_zn]; rfl
  rw [← ha, e1, e2, zx, zy, Int.mul_assoc]
theorem own_zmag_s (s : Bool) (A B : Nat) (e : Int) : FP.Core.zmag FP.Core.b64 (FP.Core.roundRatio FP.Core.b64 s A B e) = FP.Core.zmag FP.Core.b64 (FP.Core.roundRatio FP.Core.b64 false A B e) := by
  cases s with
  | false => rfl
  | true =>
    rw [show FP.Core.roundRatio FP.Core.b64 true A B e = FP.Core.negate (FP.Core.roundRatio FP.Core.b64 false A B e) from (FP.Core.negate_roundRatio FP.Core.b64 false A B e).symm]
    cases FP.Core.roundRatio FP.Core.b64 false A B e <;> rfl
theorem own_div_n {x y : UInt64} (hx : Fin64 x) (hy : Fin64 y) (hz : own_z y ≠ 0) : (own_z (FP.ddiv x y)).natAbs = FP.Core.zmag FP.Core.b64 (FP.Core.roundRatio FP.Core.b64 false (own_z x).natAbs (own_z y).natAbs 0) := by
  rw [own_zn, own_quot hx hy hz, own_zmag_s]
/-- two quotients of the same ratio, none below nought -/
theorem own_div_congr {x y x' y' : UInt64} (hx : Fin64 x) (hy : Fin64 y) (hz : own_z y ≠ 0) (hx' : Fin64 x') (hy' : Fin64 y') (hz' : own_z y' ≠ 0)
    (g1 : 0 ≤ own_z x) (g2 : 0 ≤ own_z y) (g3 : 0 ≤ own_z x') (g4 : 0 ≤ own_z y') (h : own_z x * own_z y' = own_z x' * own_z y) : own_z (FP.ddiv x y) = own_z (FP.ddiv x' y') := by
  have e1 := own_div_n hx hy hz
  have e2 := own_div_n hx' hy' hz'
  have k1 := own_div_ge0 hx hy hz g1 g2
  have k2 := own_div_ge0 hx' hy' hz' g3 g4
  have h' : (own_z x).natAbs * (own_z y').natAbs = (own_z x').natAbs * (own_z y).natAbs := by rw [← Int.natAbs_mul, ← Int.natAbs_mul, h]
  rw [FP.Core.roundRatio_congr (A' := (own_z x').natAbs) (B' := (own_z y').natAbs) (e' := 0) (by omega) (by omega) (by rw [h'])] at e1
  omega
/-- m * 2^k units is a double -/
theorem own_rep (m k : Nat) (hm : m < 2 ^ 53) (hk : k ≤ 2045) : ∃ V : UInt64, Fin64 V ∧ own_z V = ((m * 2 ^ k : Nat) : Int) := by
  have hq : FP.Core.b64.qmin = -1074 := FP.Core.qmin_b64
  have hq2 : FP.Core.b64.qmax = 971 := by decide
  obtain ⟨c, q, e1, e2⟩ := FP.Core.round_exact FP.Core.good_b64 false (c := m) (q := (k : Int) - 1074) hm (by rw [hq]; omega) (by rw [hq2]; omega)
  have hv : FP.Core.val64 (FP.Core.of64 (FP.Core.round FP.Core.b64 (.fin false m ((k : Int) - 1074)))) = .fin false c q := by
    rw [FP.Core.val64_of64 (FP.Core.round_fits FP.Core.good_b64 _), e1]
  refine ⟨_, Fl.fin64_core.mpr ⟨_, _, _, hv⟩, ?_⟩
  show FP.Core.zval FP.Core.b64 _ = _
  rw [hv]
  show ((FP.Core.inUnits c q FP.Core.b64.qmin : Nat) : Int) = _
  rw [e2, FP.Core.inUnits, hq, show ((k : Int) - 1074 - -1074).toNat = k by omega]
/-- a quotient that comes out even in some binary place -/
theorem own_div_exact {x y : UInt64} (hx : Fin64 x) (hy : Fin64 y) (hz : own_z y ≠ 0) (g1 : 0 ≤ own_z x) (g2 : 0 ≤ own_z y) (m k : Nat) (hm : m < 2 ^ 53) (hk : k ≤ 2045)
    (h : own_z x * (FP.Core.one64 : Int) = ((m * 2 ^ k : Nat) : Int) * own_z y) : own_z (FP.ddiv x y) = ((m * 2 ^ k : Nat) : Int) := by
  obtain ⟨V, fV, zV⟩ := own_rep m k hm hk
  have k1 := own_div_ge0 hx hy hz g1 g2
  have e1 := own_div_n hx hy hz
  have h3 : (own_z x).natAbs * FP.Core.one64 = (own_z V).natAbs * (own_z y).natAbs := by
    have := congrArg Int.natAbs h
    rw [Int.natAbs_mul, Int.natAbs_mul, ← zV] at this
    exact this
  have l1 := own_rr_le (s := false) (A := (own_z x).natAbs) (B := (own_z y).natAbs) (V := V) (by omega) fV.noNaN (Nat.le_of_eq h3)
  have l2 := own_rr_ge (s := false) (A := (own_z x).natAbs) (B := (own_z y).natAbs) (V := V) (by omega) (Nat.le_of_eq h3.symm)
  omega
theorem own_eqz {x y : UInt64} (o : CmpOp) (hx : NoNaN64 x) (hy : NoNaN64 y) (h : own_z x = own_z y) : cmpValue (FP.dcmp x y) o = 0 := by
  rw [own_cE o (own_cmpz hx hy), own_c_eq h]
theorem own_ge0 {x : UInt64} (h : 0 ≤ own_z x) : ¬ own_z x < own_z FP.dconst0 := by rw [own_zi own_d0, Int.zero_mul]; exact Int.not_lt.mpr h
theorem own_le1 {x : UInt64} (h : own_z x ≤ own_z FP.dconst1) : ¬ own_z FP.dconst1 < own_z x := Int.not_lt.mpr h
/-! exact sums, differences, products and quotients in some binary place -/
theorem own_z_neg {x : UInt64} (h : Fin64 x) : own_z (FP.dneg x) = -own_z x ∧ Fin64 (FP.dneg x) := by
  obtain ⟨s, c, q, e⟩ := Fl.fin64_core.mp h
  have hv : FP.Core.val64 (FP.dneg x) = FP.Core.negate (FP.Core.val64 x) := FP.val64_dneg x
  refine ⟨?_, Fl.fin64_core.mpr ⟨!s, c, q, by rw [hv, e]; rfl⟩⟩
  show FP.Core.zval _ _ = -FP.Core.zval _ _
  rw [hv, FP.Core.zval_negate]
theorem own_repI (m : Int) (k : Nat) (hm : m.natAbs < 2 ^ 53) (hk : k ≤ 2045) : ∃ V : UInt64, Fin64 V ∧ own_z V = m * ((2 ^ k : Nat) : Int) := by
  obtain ⟨V, fV, zV⟩ := own_rep m.natAbs k hm hk
  rw [Int.natCast_mul] at zV
  by_cases h : 0 ≤ m
  · exact ⟨V, fV, by rw [zV, Int.natAbs_of_nonneg h]⟩
  · refine ⟨FP.dneg V, (own_z_neg fV).2, ?_⟩
    rw [(own_z_neg fV).1, zV, ← Int.neg_mul]
    congr 1; omega
/-- what is finite and rounds from a value that is a double is that double -/
theorem own_round_exact {x : UInt64} {sg : Bool} {n : Nat} {e : Int} (hv : FP.Core.val64 x = FP.Core.round FP.Core.b64 (.fin sg n e)) (he : FP.Core.b64.qmin ≤ e) {V : UInt64} (fV : Fin64 V) (h : FP.Core.signed sg (FP.Core.inUnits n e FP.Core.b64.qmin) = own_z V) :
    own_z x = own_z V ∧ Fin64 x := by
  have nV := Fl.val64_no.mp fV.noNaN
  have h1 := FP.Core.zval_round_le FP.Core.good_b64 (s := sg) (c := n) (q := e) (V := FP.Core.val64 V) (FP.Core.val64_fits V) nV (e0 := FP.Core.b64.qmin) (Int.le_refl _) he (by
    rw [Int.sub_self]; show _ ≤ _ * ((1 : Nat) : Int); rw [show ((1 : Nat) : Int) = 1 from rfl, Int.mul_one]; exact Int.le_of_eq h)
  have h2 := FP.Core.zval_round_ge FP.Core.good_b64 (s := sg) (c := n) (q := e) (V := FP.Core.val64 V) (FP.Core.val64_fits V) nV (e0 := FP.Core.b64.qmin) (Int.le_refl _) he (by
    rw [Int.sub_self]; show _ * ((1 : Nat) : Int) ≤ _; rw [show ((1 : Nat) : Int) = 1 from rfl, Int.mul_one]; exact Int.le_of_eq h.symm)
  have hz : own_z x = own_z V := by
    show FP.Core.zval _ (FP.Core.val64 x) = FP.Core.zval _ (FP.Core.val64 V)
    rw [hv]; exact Int.le_antisymm h1 h2
  refine ⟨hz, ?_⟩
  have nx : NoNaN64 x := Fl.val64_no.mpr (by rw [hv]; exact fun z => FP.Core.roundRatio_ne_nan _ _ _ _ _ z)
  cases hx : FP.Core.val64 x with
  | nan => exact absurd hx (Fl.val64_no.mp nx)
  | fin s c q => exact Fl.fin64_core.mpr ⟨s, c, q, hx⟩
  | inf s =>
    exfalso
    have b := (Fl.fin64_core.mp fV).zval_lt
    have e1 : (own_z x).natAbs = FP.Core.b64.tails * 2 ^ (FP.Core.b64.exps - 2) := by rw [own_zn, hx]; rfl
    have e2 : (own_z V).natAbs = FP.Core.zmag FP.Core.b64 (FP.Core.val64 V) := own_zn V
    rw [hz, e2] at e1
    omega
theorem own_add_exact {x y : UInt64} (hx : Fin64 x) (hy : Fin64 y) (m : Int) (k : Nat) (hm : m.natAbs < 2 ^ 53) (hk : k ≤ 2045) (h : own_z x + own_z y = m * ((2 ^ k : Nat) : Int)) : own_z (FP.dadd x y) = m * ((2 ^ k : Nat) : Int) ∧ Fin64 (FP.dadd x y) := by
  obtain ⟨V, fV, zV⟩ := own_repI m k hm hk
  obtain ⟨s, c, q, ex⟩ := Fl.fin64_core.mp hx
  obtain ⟨t, d, r, ey⟩ := Fl.fin64_core.mp hy
  obtain ⟨sg, n, e, e1, e2, e3⟩ := FP.Core.sum_units (f := FP.Core.b64) (ex ▸ FP.Core.val64_fits x) (ey ▸ FP.Core.val64_fits y)
  have hv : FP.Core.val64 (FP.dadd x y) = FP.Core.round FP.Core.b64 (.fin sg n e) := by
    rw [show FP.dadd x y = FP.Core.dadd x y from rfl, FP.Core.val64_dadd, ex, ey, e1]
  rw [← ex, ← ey] at e3
  rw [← zV]
  exact own_round_exact hv e2 fV (e3.trans (h.trans zV.symm))
theorem own_sub_exact {x y : UInt64} (hx : Fin64 x) (hy : Fin64 y) (m : Int) (k : Nat) (hm : m.natAbs < 2 ^ 53) (hk : k ≤ 2045) (h : own_z x - own_z y = m * ((2 ^ k : Nat) : Int)) : own_z (FP.dsub x y) = m * ((2 ^ k : Nat) : Int) ∧ Fin64 (FP.dsub x y) := by
  obtain ⟨V, fV, zV⟩ := own_repI m k hm hk
  obtain ⟨s, c, q, ex⟩ := Fl.fin64_core.mp hx
  obtain ⟨t, d, r, ey⟩ := Fl.fin64_core.mp hy
  have fy : FP.Core.fits FP.Core.b64 (.fin (!t) d r) := FP.Core.negate_fits (d := .fin t d r) (ey ▸ FP.Core.val64_fits y)
  obtain ⟨sg, n, e, e1, e2, e3⟩ := FP.Core.sum_units (f := FP.Core.b64) (ex ▸ FP.Core.val64_fits x) fy
  have hv : FP.Core.val64 (FP.dsub x y) = FP.Core.round FP.Core.b64 (.fin sg n e) := by
    rw [show FP.dsub x y = FP.Core.dsub x y from rfl, FP.Core.val64_dsub, ex, ey, ← e1]; rfl
  have hn : FP.Core.zval FP.Core.b64 (.fin (!t) d r) = -own_z y := by
    show FP.Core.zval FP.Core.b64 (FP.Core.negate (.fin t d r)) = -FP.Core.zval FP.Core.b64 (FP.Core.val64 y)
    rw [FP.Core.zval_negate, ey]
  rw [← ex, hn] at e3
  rw [← zV]
  exact own_round_exact hv e2 fV (e3.trans (by rw [zV, ← h]; rfl))
theorem own_fin_of_z {x V : UInt64} (nx : NoNaN64 x) (fV : Fin64 V) (hz : own_z x = own_z V) : Fin64 x := by
  cases hx : FP.Core.val64 x with
  | nan => exact absurd hx (Fl.val64_no.mp nx)
  | fin s c q => exact Fl.fin64_core.mpr ⟨s, c, q, hx⟩
  | inf s =>
    exfalso
    have b := (Fl.fin64_core.mp fV).zval_lt
    have e1 : (own_z x).natAbs = FP.Core.b64.tails * 2 ^ (FP.Core.b64.exps - 2) := by rw [own_zn, hx]; rfl
    have e2 : (own_z V).natAbs = FP.Core.zmag FP.Core.b64 (FP.Core.val64 V) := own_zn V
    rw [hz, e2] at e1
    omega
theorem own_divI_exact {x y : UInt64} (hx : Fin64 x) (hy : Fin64 y) (hz : own_z y ≠ 0) (m : Int) (k : Nat) (hm : m.natAbs < 2 ^ 53) (hk : k ≤ 2045)
    (h : own_z x * (FP.Core.one64 : Int) = m * ((2 ^ k : Nat) : Int) * own_z y) : own_z (FP.ddiv x y) = m * ((2 ^ k : Nat) : Int) ∧ Fin64 (FP.ddiv x y) := by
  obtain ⟨V, fV, zV⟩ := own_repI m k hm hk
  have hq := own_quot hx hy hz
  have nn := own_div_nn hx hy hz
  have hb : 0 < (own_z y).natAbs := by omega
  have h3 : (own_z x).natAbs * FP.Core.one64 = (own_z V).natAbs * (own_z y).natAbs := by
    have := congrArg Int.natAbs h
    rw [Int.natAbs_mul, Int.natAbs_mul, ← zV] at this
    exact this
  have l1 := own_rr_le (s := FP.Core.sgn (FP.Core.val64 x) != FP.Core.sgn (FP.Core.val64 y)) (A := (own_z x).natAbs) (B := (own_z y).natAbs) (V := V) hb fV.noNaN (Nat.le_of_eq h3)
  have l2 := own_rr_ge (s := FP.Core.sgn (FP.Core.val64 x) != FP.Core.sgn (FP.Core.val64 y)) (A := (own_z x).natAbs) (B := (own_z y).natAbs) (V := V) hb (Nat.le_of_eq h3.symm)
  have hz' : own_z (FP.ddiv x y) = own_z V := by
    rw [own_z_signed hq, Nat.le_antisymm l1 l2]
    refine own_sgn_mul hb ?_
    have e1 : FP.Core.signed (FP.Core.sgn (FP.Core.val64 x)) (own_z x).natAbs = own_z x := by rw [own_zn]; rfl
    have e2 : FP.Core.signed (FP.Core.sgn (FP.Core.val64 y)) (own_z y).natAbs = own_z y := by rw [own_zn]; rfl
    rw [← h3, FP.Core.signed_mul, e1, e2, h, zV]
  exact ⟨hz'.trans zV, own_fin_of_z nn fV hz'⟩
/-! products, by the two values alone -/
theorem own_prod {x y : UInt64} (hx : Fin64 x) (hy : Fin64 y) :
    FP.Core.val64 (FP.dmul x y) = FP.Core.roundRatio FP.Core.b64 (FP.Core.sgn (FP.Core.val64 x) != FP.Core.sgn (FP.Core.val64 y)) ((own_z x).natAbs * (own_z y).natAbs) (FP.Core.one64 * FP.Core.one64) 0 := by
  obtain ⟨s, c, q, ex⟩ := Fl.fin64_core.mp hx
  obtain ⟨t, d, r, ey⟩ := Fl.fin64_core.mp hy
  have fx : FP.Core.fits FP.Core.b64 (.fin s c q) := ex ▸ FP.Core.val64_fits x
  have fy : FP.Core.fits FP.Core.b64 (.fin t d r) := ey ▸ FP.Core.val64_fits y
  have hq : 0 < FP.Core.one64 * FP.Core.one64 := Nat.mul_pos FP.Core.one64_pos FP.Core.one64_pos
  rw [own_zn, own_zn, show FP.dmul x y = FP.Core.dmul x y from rfl, FP.Core.val64_dmul, ex, ey]
  show FP.Core.roundRatio FP.Core.b64 (s != t) (c * d) 1 (q + r) = FP.Core.roundRatio FP.Core.b64 (s != t) (c * 2 ^ (q - FP.Core.b64.qmin).toNat * (d * 2 ^ (r - FP.Core.b64.qmin).toNat)) (FP.Core.one64 * FP.Core.one64) 0
  refine FP.Core.roundRatio_congr Nat.one_pos hq ?_
  have h1 := fx.2.1
  have h2 := fy.2.1
  have e1 : (-FP.Core.b64.qmin).toNat + (-FP.Core.b64.qmin).toNat + (q + r - 0).toNat = (q - FP.Core.b64.qmin).toNat + (r - FP.Core.b64.qmin).toNat + (0 - (q + r)).toNat := by
    have hm : FP.Core.b64.qmin = -1074 := by decide
    rw [hm] at h1 h2 ⊢; omega
  rw [← FP.Core.pow_qmin64, Nat.mul_one]
  calc c * d * (2 ^ (-FP.Core.b64.qmin).toNat * 2 ^ (-FP.Core.b64.qmin).toNat) * 2 ^ (q + r - 0).toNat
      = c * d * (2 ^ (-FP.Core.b64.qmin).toNat * 2 ^ (-FP.Core.b64.qmin).toNat * 2 ^ (q + r - 0).toNat) := by rw [Nat.mul_assoc]
    _ = c * d * (2 ^ (q - FP.Core.b64.qmin).toNat * 2 ^ (r - FP.Core.b64.qmin).toNat * 2 ^ (0 - (q + r)).toNat) := by rw [← Nat.pow_add, ← Nat.pow_add, e1, Nat.pow_add, Nat.pow_add]
    _ = c * 2 ^ (q - FP.Core.b64.qmin).toNat * (d * 2 ^ (r - FP.Core.b64.qmin).toNat) * 2 ^ (0 - (q + r)).toNat := by
        rw [← Nat.mul_assoc, ← Nat.mul_assoc, Nat.mul_assoc c d, Nat.mul_comm d, ← Nat.mul_assoc c, Nat.mul_assoc _ d]
theorem own_mul_nn {x y : UInt64} (hx : Fin64 x) (hy : Fin64 y) : NoNaN64 (FP.dmul x y) := own_noNaN_of (own_prod hx hy)
theorem own_sgnz (x : UInt64) : FP.Core.signed (FP.Core.sgn (FP.Core.val64 x)) (own_z x).natAbs = own_z x := by rw [own_zn]; rfl
theorem own_signed2 (s t : Bool) (a b : Nat) : FP.Core.signed (s != t) (a * b) = FP.Core.signed s a * FP.Core.signed t b := by
  cases s <;> cases t <;> simp [FP.Core.signed, Int.natCast_mul, Int.neg_mul, Int.mul_neg]
theorem own_q1 : 0 < FP.Core.one64 * FP.Core.one64 := Nat.mul_pos FP.Core.one64_pos FP.Core.one64_pos
theorem own_prod_le {x y V : UInt64} (hx : Fin64 x) (hy : Fin64 y) (hV : NoNaN64 V) (h : (own_z x).natAbs * (own_z y).natAbs ≤ (own_z V).natAbs * FP.Core.one64) : (own_z (FP.dmul x y)).natAbs ≤ (own_z V).natAbs := by
  rw [own_zn (FP.dmul x y), own_prod hx hy]
  refine own_rr_le own_q1 hV ?_
  rw [← Nat.mul_assoc]; exact Nat.mul_le_mul_right _ h
theorem own_prod_ge {x y V : UInt64} (hx : Fin64 x) (hy : Fin64 y) (h : (own_z V).natAbs * FP.Core.one64 ≤ (own_z x).natAbs * (own_z y).natAbs) : (own_z V).natAbs ≤ (own_z (FP.dmul x y)).natAbs := by
  rw [own_zn (FP.dmul x y), own_prod hx hy]
  refine own_rr_ge own_q1 ?_
  rw [← Nat.mul_assoc]; exact Nat.mul_le_mul_right _ h
theorem own_mul_exact {x y : UInt64} (hx : Fin64 x) (hy : Fin64 y) (m : Int) (k : Nat) (hm : m.natAbs < 2 ^ 53) (hk : k ≤ 2045)
    (h : own_z x * own_z y = m * ((2 ^ k : Nat) : Int) * (FP.Core.one64 : Int)) : own_z (FP.dmul x y) = m * ((2 ^ k : Nat) : Int) ∧ Fin64 (FP.dmul x y) := by
  obtain ⟨V, fV, zV⟩ := own_repI m k hm hk
  have h3 : (own_z x).natAbs * (own_z y).natAbs = (own_z V).natAbs * FP.Core.one64 := by
    have := congrArg Int.natAbs h
    rw [Int.natAbs_mul, Int.natAbs_mul, ← zV] at this
    exact this
  have l1 := own_prod_le hx hy fV.noNaN (Nat.le_of_eq h3)
  have l2 := own_prod_ge hx hy (Nat.le_of_eq h3.symm)
  have l3 := Nat.le_antisymm l1 l2
  have hz' : own_z (FP.dmul x y) = own_z V := by
    rw [own_z_signed (own_prod hx hy)]
    rw [own_zn, own_prod hx hy] at l3
    rw [l3]
    have e1 : FP.Core.signed (FP.Core.sgn (FP.Core.val64 x) != FP.Core.sgn (FP.Core.val64 y)) (own_z V).natAbs * (FP.Core.one64 : Int) = own_z V * (FP.Core.one64 : Int) := by
      rw [← FP.Core.signed_mul, ← h3, own_signed2, own_sgnz, own_sgnz, h, zV]
    have := own_one
    exact Int.eq_of_mul_eq_mul_right (by omega) e1
  exact ⟨hz'.trans zV, own_fin_of_z (own_mul_nn hx hy) fV hz'⟩
/-- a product of two above nought that isn't below a double above nought -/
theorem own_mul_pos {x y : UInt64} (hx : Fin64 x) (hy : Fin64 y) (h0 : 0 < own_z x) (h1 : 0 < own_z y) : 0 ≤ own_z (FP.dmul x y) := by
  have s1 : FP.Core.sgn (FP.Core.val64 x) = false := by
    cases hs : FP.Core.sgn (FP.Core.val64 x) with
    | false => rfl
    | true => exfalso; have := own_sgnz x; rw [hs] at this; simp only [FP.Core.signed, if_true] at this; omega
  have s2 : FP.Core.sgn (FP.Core.val64 y) = false := by
    cases hs : FP.Core.sgn (FP.Core.val64 y) with
    | false => rfl
    | true => exfalso; have := own_sgnz y; rw [hs] at this; simp only [FP.Core.signed, if_true] at this; omega
  rw [own_z_signed (own_prod hx hy), s1, s2]
  exact Int.natCast_nonneg _
/-! arrays by the list of what they hold -/
def own_A (Z : State) (h : Heap) (a : Addr) (ty : FieldType) (vs : List Value) : Prop := ∃ c : Cell, Arr Z h a c ty ∧ c.slots.toList = vs
section OwnArr
variable {p : Program} {l : Launch} {e : Env} {R : Room} {s : State} {m : MethodId} {args : Array Value} {below : List Frame} {meth : Method} {c : Code} {T : State} {locs : List Loc} {cells slots : Nat} {Z : State} {h h' : Heap} {a b : Addr} {ty : FieldType} {vs : List Value} {sl : Nat} {v : Value} {ws : List Addr}
theorem own_A.lt (F : own_A Z h a ty vs) : a < h.size := by obtain ⟨c, A, -⟩ := F; exact A.lt
theorem own_A.ext (F : own_A Z h a ty vs) (E : Ext h h') : own_A Z h' a ty vs := by obtain ⟨c, A, r⟩ := F; exact ⟨c, A.ext E, r⟩
theorem own_A.other (F : own_A Z h b ty vs) (W : Wr h h' a sl v) (q : b ≠ a) : own_A Z h' b ty vs := by obtain ⟨c, A, r⟩ := F; exact ⟨c, A.other W q, r⟩
theorem own_A.keep (F : own_A Z h a ty vs) (K : Keep h h' ws) (q : a ∉ ws) : own_A Z h' a ty vs := by obtain ⟨c, A, r⟩ := F; exact ⟨c, ⟨K.2.1 a c A.1 q, A.2⟩, r⟩
theorem own_A.new {k : ClassId} {n : Int32} (A : Arr Z h a (newA k ty n) ty) : own_A Z h a ty (List.replicate n.toNatClampNeg (defaultValue ty)) := ⟨_, A, by simp [newA]⟩
theorem own_A.len (X : Stand p l e R s m args below meth c T locs cells slots) (hx : p.tables.exec = Jvm.exec) (hZ : Z.Warmed39 s.vm) (eT : T.heap = h) (F : own_A Z h a ty vs)
    {g : JFrame} (hg : g.method = m) {rest : List Value} (hs : g.stack = .ref a :: rest) (hd : decode c.code g.pc = .ok (.arraylength, 1)) (target : State)
    (hr : Steps p.tables e below (T.setTop { g with pc := g.pc + 1, stack := .int vs.length.toInt32 :: rest }) target) : Steps p.tables e below (T.setTop g) target := by
  obtain ⟨cl, A, rfl⟩ := F
  refine X.arraylength hx (cell := cl) (by rw [eT]; exact A.1) (State.isArrayOf_alike hZ.alike A.2.1) hg hs hd _ ?_
  rw [Array.length_toList] at hr; exact hr
theorem own_A.inb {cl : Cell} {j : Int32} (hj : ¬ j < 0) (hv : cl.slots.toList[j.toNatClampNeg]? = some v) : ¬ (j < 0 ∨ cl.slots.size ≤ j.toNatClampNeg) := by
  rintro (q | q)
  · exact hj q
  · rw [List.getElem?_eq_none (by rw [Array.length_toList]; exact q)] at hv; cases hv
theorem own_A.dld (X : Stand p l e R s m args below meth c T locs cells slots) (hx : p.tables.exec = Jvm.exec) (hZ : Z.Warmed39 s.vm) (eT : T.heap = h) (F : own_A Z h a .double vs) {j : Int32} (hj : ¬ j < 0) (hv : vs[j.toNatClampNeg]? = some v)
    {g : JFrame} (hg : g.method = m) {rest : List Value} (hs : g.stack = .int j :: .ref a :: rest) (hd : decode c.code g.pc = .ok (.daload, 1)) (target : State)
    (hr : Steps p.tables e below (T.setTop { g with pc := g.pc + 1, stack := v :: rest }) target) : Steps p.tables e below (T.setTop g) target := by
  obtain ⟨cl, A, rfl⟩ := F
  exact X.daload hx (by rw [eT]; exact A.1) (State.isArrayOf_alike hZ.alike A.2.1) A.2.2 (own_A.inb hj hv) (by rw [← Array.getElem?_toList]; exact hv) hg hs hd _ hr
theorem own_A.ild (X : Stand p l e R s m args below meth c T locs cells slots) (hx : p.tables.exec = Jvm.exec) (hZ : Z.Warmed39 s.vm) (eT : T.heap = h) (F : own_A Z h a .int vs) {j : Int32} (hj : ¬ j < 0) (hv : vs[j.toNatClampNeg]? = some v)
    {g : JFrame} (hg : g.method = m) {rest : List Value} (hs : g.stack = .int j :: .ref a :: rest) (hd : decode c.code g.pc = .ok (.iaload, 1)) (target : State)
    (hr : Steps p.tables e below (T.setTop { g with pc := g.pc + 1, stack := v :: rest }) target) : Steps p.tables e below (T.setTop g) target := by
  obtain ⟨cl, A, rfl⟩ := F
  exact X.iaload hx (by rw [eT]; exact A.1) (State.isArrayOf_alike hZ.alike A.2.1) A.2.2 (own_A.inb hj hv) (by rw [← Array.getElem?_toList]; exact hv) hg hs hd _ hr
theorem own_A.lld (X : Stand p l e R s m args below meth c T locs cells slots) (hx : p.tables.exec = Jvm.exec) (hZ : Z.Warmed39 s.vm) (eT : T.heap = h) (F : own_A Z h a .long vs) {j : Int32} (hj : ¬ j < 0) (hv : vs[j.toNatClampNeg]? = some v)
    {g : JFrame} (hg : g.method = m) {rest : List Value} (hs : g.stack = .int j :: .ref a :: rest) (hd : decode c.code g.pc = .ok (.laload, 1)) (target : State)
    (hr : Steps p.tables e below (T.setTop { g with pc := g.pc + 1, stack := v :: rest }) target) : Steps p.tables e below (T.setTop g) target := by
  obtain ⟨cl, A, rfl⟩ := F
  exact X.laload hx (by rw [eT]; exact A.1) (State.isArrayOf_alike hZ.alike A.2.1) A.2.2 (own_A.inb hj hv) (by rw [← Array.getElem?_toList]; exact hv) hg hs hd _ hr
theorem own_A.same {cl : Cell} (A : Arr Z h a cl ty) (W : Wr h h' a sl v) : own_A Z h' a ty (cl.slots.toList.set sl v) := ⟨_, A.same W, by simp [Cell.setSlot]⟩
theorem own_A.dst (X : Stand p l e R s m args below meth c T locs cells slots) (hx : p.tables.exec = Jvm.exec) (hZ : Z.Warmed39 s.vm) (eT : T.heap = h) (F : own_A Z h a .double vs) {j : Int32} {x : UInt64} (hj : ¬ j < 0) {o : Value} (hv : vs[j.toNatClampNeg]? = some o)
    {g : JFrame} (hg : g.method = m) {rest : List Value} (hs : g.stack = .double x :: .int j :: .ref a :: rest) (hd : decode c.code g.pc = .ok (.dastore, 1)) :
    ∃ T' h', Stand p l e R s m args below meth c T' (locs ++ [⟨a, j.toNatClampNeg⟩]) cells slots ∧ T'.heap = h' ∧ Wr h h' a j.toNatClampNeg (.double x) ∧ own_A Z h' a .double (vs.set j.toNatClampNeg (.double x)) ∧
      ∀ target, Steps p.tables e below (T'.setTop { g with pc := g.pc + 1, stack := rest }) target → Steps p.tables e below (T.setTop g) target := by
  obtain ⟨cl, A, rfl⟩ := F
  obtain ⟨T', h', X', e', W, st⟩ := stD X hx hZ eT A (own_A.inb hj hv) hg hs hd
  exact ⟨T', h', X', e', W, own_A.same A W, st⟩
theorem own_A.ist (X : Stand p l e R s m args below meth c T locs cells slots) (hx : p.tables.exec = Jvm.exec) (hZ : Z.Warmed39 s.vm) (eT : T.heap = h) (F : own_A Z h a .int vs) {j : Int32} {x : Int32} (hj : ¬ j < 0) {o : Value} (hv : vs[j.toNatClampNeg]? = some o)
    {g : JFrame} (hg : g.method = m) {rest : List Value} (hs : g.stack = .int x :: .int j :: .ref a :: rest) (hd : decode c.code g.pc = .ok (.iastore, 1)) :
    ∃ T' h', Stand p l e R s m args below meth c T' (locs ++ [⟨a, j.toNatClampNeg⟩]) cells slots ∧ T'.heap = h' ∧ Wr h h' a j.toNatClampNeg (.int x) ∧ own_A Z h' a .int (vs.set j.toNatClampNeg (.int x)) ∧
      ∀ target, Steps p.tables e below (T'.setTop { g with pc := g.pc + 1, stack := rest }) target → Steps p.tables e below (T.setTop g) target := by
  obtain ⟨cl, A, rfl⟩ := F
  obtain ⟨T', h', X', e', W, st⟩ := stI X hx hZ eT A (own_A.inb hj hv) hg hs hd
  exact ⟨T', h', X', e', W, own_A.same A W, st⟩
theorem own_A.lst (X : Stand p l e R s m args below meth c T locs cells slots) (hx : p.tables.exec = Jvm.exec) (hZ : Z.Warmed39 s.vm) (eT : T.heap = h) (F : own_A Z h a .long vs) {j : Int32} {x : Int64} (hj : ¬ j < 0) {o : Value} (hv : vs[j.toNatClampNeg]? = some o)
    {g : JFrame} (hg : g.method = m) {rest : List Value} (hs : g.stack = .long x :: .int j :: .ref a :: rest) (hd : decode c.code g.pc = .ok (.lastore, 1)) :
    ∃ T' h', Stand p l e R s m args below meth c T' (locs ++ [⟨a, j.toNatClampNeg⟩]) cells slots ∧ T'.heap = h' ∧ Wr h h' a j.toNatClampNeg (.long x) ∧ own_A Z h' a .long (vs.set j.toNatClampNeg (.long x)) ∧
      ∀ target, Steps p.tables e below (T'.setTop { g with pc := g.pc + 1, stack := rest }) target → Steps p.tables e below (T.setTop g) target := by
  obtain ⟨cl, A, rfl⟩ := F
  obtain ⟨T', h', X', e', W, st⟩ := stJ X hx hZ eT A (own_A.inb hj hv) hg hs hd
  exact ⟨T', h', X', e', W, own_A.same A W, st⟩
end OwnArr
/-! arrays of objects, by the list of what they hold -/
def own_O (Z : State) (h : Heap) (a : Addr) (C : String) (vs : List Value) : Prop := ∃ c : Cell, Arr Z h a c (.object C) ∧ Ovr Z c.cls C ∧ c.slots.toList = vs
section OwnObj
variable {p : Program} {l : Launch} {e : Env} {R : Room} {s : State} {m : MethodId} {args : Array Value} {below : List Frame} {meth : Method} {c : Code} {T : State} {locs : List Loc} {cells slots : Nat} {Z : State} {h h' : Heap} {a b : Addr} {C : String} {vs : List Value} {sl : Nat} {v : Value} {ws : List Addr} {a0 : Array Value}
theorem own_O.lt (F : own_O Z h a C vs) : a < h.size := by obtain ⟨c, A, -⟩ := F; exact A.lt
theorem own_O.ext (F : own_O Z h a C vs) (E : Ext h h') : own_O Z h' a C vs := by obtain ⟨c, A, r⟩ := F; exact ⟨c, A.ext E, r⟩
theorem own_O.other (F : own_O Z h b C vs) (W : Wr h h' a sl v) (q : b ≠ a) : own_O Z h' b C vs := by obtain ⟨c, A, r⟩ := F; exact ⟨c, A.other W q, r⟩
theorem own_O.keep (F : own_O Z h a C vs) (K : Keep h h' ws) (q : a ∉ ws) : own_O Z h' a C vs := by obtain ⟨c, A, r⟩ := F; exact ⟨c, ⟨K.2.1 a c A.1 q, A.2⟩, r⟩
theorem own_O.new {k : ClassId} {n : Int32} (A : Arr Z h a (newA k (.object C) n) (.object C)) (O : Ovr Z k C) : own_O Z h a C (List.replicate n.toNatClampNeg .null) := ⟨_, A, O, by simp [newA, defaultValue]⟩
theorem own_O.len (X : Stand p l e R s m args below meth c T locs cells slots) (hx : p.tables.exec = Jvm.exec) (hZ : Z.Warmed39 s.vm) (eT : T.heap = h) (F : own_O Z h a C vs)
    {g : JFrame} (hg : g.method = m) {rest : List Value} (hs : g.stack = .ref a :: rest) (hd : decode c.code g.pc = .ok (.arraylength, 1)) (target : State)
    (hr : Steps p.tables e below (T.setTop { g with pc := g.pc + 1, stack := .int vs.length.toInt32 :: rest }) target) : Steps p.tables e below (T.setTop g) target := by
  obtain ⟨cl, A, -, rfl⟩ := F
  refine X.arraylength hx (cell := cl) (by rw [eT]; exact A.1) (State.isArrayOf_alike hZ.alike A.2.1) hg hs hd _ ?_
  rw [Array.length_toList] at hr; exact hr
theorem own_O.ald (X : Stand p l e R s m args below meth c T locs cells slots) (hx : p.tables.exec = Jvm.exec) (hZ : Z.Warmed39 s.vm) (eT : T.heap = h) (F : own_O Z h a C vs) {j : Int32} (hj : ¬ j < 0) (hv : vs[j.toNatClampNeg]? = some v)
    {g : JFrame} (hg : g.method = m) {rest : List Value} (hs : g.stack = .int j :: .ref a :: rest) (hd : decode c.code g.pc = .ok (.aaload, 1)) (target : State)
    (hr : Steps p.tables e below (T.setTop { g with pc := g.pc + 1, stack := v :: rest }) target) : Steps p.tables e below (T.setTop g) target := by
  obtain ⟨cl, A, -, rfl⟩ := F
  exact X.aaload hx (by rw [eT]; exact A.1) (State.isArrayOf_alike hZ.alike A.2.1) rfl A.2.2 (own_A.inb hj hv) (by rw [← Array.getElem?_toList]; exact hv) hg hs hd _ hr
theorem own_O.ast (X : Stand p l e R s m args below meth c T locs cells slots) (hx : p.tables.exec = Jvm.exec) (hZ : Z.Warmed39 s.vm) (eT : T.heap = h) (F : own_O Z h a C vs) {j : Int32} {y : Addr} (hj : ¬ j < 0) {o : Value} (hv : vs[j.toNatClampNeg]? = some o) (I : Ins Z h y C true)
    {g : JFrame} (hg : g.method = m) {rest : List Value} (hs : g.stack = .ref y :: .int j :: .ref a :: rest) (hd : decode c.code g.pc = .ok (.aastore, 1)) :
    ∃ T' h', Stand p l e R s m args below meth c T' (locs ++ [⟨a, j.toNatClampNeg⟩]) cells slots ∧ T'.heap = h' ∧ Wr h h' a j.toNatClampNeg (.ref y) ∧ own_O Z h' a C (vs.set j.toNatClampNeg (.ref y)) ∧
      ∀ target, Steps p.tables e below (T'.setTop { g with pc := g.pc + 1, stack := rest }) target → Steps p.tables e below (T.setTop g) target := by
  obtain ⟨cl, A, O, rfl⟩ := F
  obtain ⟨T', h', X', e', W, st⟩ := stR X hx hZ eT A (own_A.inb hj hv) rfl (Sto.of A O I) hg hs hd
  exact ⟨T', h', X', e', W, ⟨_, A.same W, O, by simp [Cell.setSlot]⟩, st⟩
/-- a constructor through an entry that is resolved already -/
theorem own_mvRef {own : String} {index : Nat} {y : MethodName} (hZ : Z.Warmed39 s.vm) (hy : y.cls ≠ "java/lang/invoke/MethodHandle" ∧ y.cls ≠ "java/lang/invoke/VarHandle") (wi : (Jvm.Cond.instanceMethod y).before a0 Z = true) (w : (Jvm.Cond.methodRef own index y).before a0 Z = true) : (Jvm.Cond.methodRef own index y).before args s = true := by
  obtain ⟨mk, methM, hn, -, -, -⟩ := Cond.instanceMethod_spec wi
  have h1 := Cond.methodRef_warmed39 hZ hn hy w
  exact h1
theorem own_refReady {own : String} {index : Nat} {y : MethodName} (hown : s.vm.findClass own = some m.cls) (hy : y.cls ≠ "java/lang/invoke/MethodHandle" ∧ y.cls ≠ "java/lang/invoke/VarHandle") (w : (Jvm.Cond.methodRef own index y).before args s = true) (e : Env) :
    ∀ (U : State) (r : MethodId), s.WarmedH U.vm → s.methodNamed? y = some r → namesResolved U.vm m.cls index r.cls ∧ U.vm.methodReady m.cls index r := by
  intro U r hW hn
  have h1 := Cond.methodRef_warmed39 hW.wide hn hy w
  have ho : (s.setVm U.vm).vm.findClass own = some m.cls := by show U.vm.findClass own = _; rw [hW.wide.alike.findClass]; exact hown
  obtain ⟨m', c', hf, hr, hc, hnr⟩ := Cond.methodRef_named e ho h1
  have hf2 : (s.setVm U.vm).methodFound? y.cls y.name y.desc = some r := (State.methodFound?_setVm_of_named hW.wide.alike hn hy).trans (State.methodFound?_of_named hn hy)
  cases hf2.symm.trans hf
  have hc2 : (s.setVm U.vm).vm.findClass y.cls = some r.cls := by show U.vm.findClass y.cls = _; rw [hW.wide.alike.findClass]; exact findClass_of_methodNamed hn
  cases hc2.symm.trans hc
  exact ⟨hnr, hr⟩
theorem own_specialRef (X : Stand p l e R s m args below meth c T locs cells slots) (hexec : p.tables.exec = Jvm.exec) {own : String} {index : Nat} {y : MethodName} (hy1 : y.name = "<init>")
    (hown : s.vm.findClass own = some m.cls) (hlink : (Jvm.Cond.methodRef own index y).before args s = true) (hinst : (Jvm.Cond.instanceMethod y).before args s = true)
    {bytes : ByteArray} {maxL : Nat} (hcode : (Jvm.Cond.code y bytes maxL none).before args s = true)
    (hy : y.cls ≠ "java/lang/invoke/MethodHandle" ∧ y.cls ≠ "java/lang/invoke/VarHandle")
    {W : Nat} {Pre : Pt → Array Value → Prop} {Post : Pt → Array Value → Option Value → Pt → Prop} (hK : Back l R p e below s args y 3 W Pre Post)
    {g : JFrame} (hg : g.method = m) (hsize : g.locals.size = c.maxLocals) {s₀ : State} (hcome : Steps p.tables e below s₀ (T.setTop g)) {a : Addr} {argsL rest : List Value}
    (hlen : ∀ sig, parseMethodDescriptor y.desc = some sig → argsL.length = sig.parameters.length) (hstack : g.stack = argsL.reverse ++ .ref a :: rest) (hW : 2 * g.monitorRoom + (rest.map fun v => v.category).sum ≤ W)
    (hdg : decode c.code g.pc = .ok (.invokespecial index, 3)) (hpre : ∀ vm₁, s.WarmedH vm₁ → Pre ⟨T.setVm vm₁, locs, cells, slots⟩ (.ref a :: argsL).toArray) :
    ∃ (v : Option Value) (vm₁ : Vm) (B : Pt), s.WarmedH vm₁ ∧ Stand p l e R s m args below meth c B.U B.locs B.cells B.slots ∧ Post ⟨T.setVm vm₁, locs, cells, slots⟩ (.ref a :: argsL).toArray v B ∧
      Steps p.tables e below s₀ (B.U.setTop { g with pc := g.pc + 3, stack := v.toList ++ rest }) := by
  have h : SCall p l e R s m args below meth c index y := SCall.of_ready hexec hy1 hinst hcode (own_refReady hown hy hlink e)
  exact h X hK hg hsize hcome hlen hstack hW hdg hpre
theorem own_mvNest {own host : String} {index : Nat} {y : MethodName} (hZ : Z.Warmed39 s.vm) (w : (Jvm.Cond.methodLinkNest own index y host).before a0 Z = true) : (Jvm.Cond.methodLinkNest own index y host).before args s = true := (Cond.methodLinkNest_wide hZ w :)
end OwnObj
abbrev own_d16 : List Value := [.double 0, .double 0, .double 0, .double 0, .double 0, .double 0, .double 0, .double 0, .double 0, .double 0, .double 0, .double 0, .double 0, .double 0, .double 0, .double 0]
abbrev own_i16 : List Value := [.int 0, .int 0, .int 0, .int 0, .int 0, .int 0, .int 0, .int 0, .int 0, .int 0, .int 0, .int 0, .int 0, .int 0, .int 0, .int 0]
abbrev own_d4 : List Value := [.double 0, .double 0, .double 0, .double 0]
abbrev own_i4 : List Value := [.int 0, .int 0, .int 0, .int 0]
theorem own_wrle {h h' : Heap} {a : Addr} {sl : Nat} {v : Value} {n : Nat} (W : Wr h h' a sl v) (z : n ≤ h.size) : n ≤ h'.size := Nat.le_trans z (Keep.of_wr W).1
theorem own_n0 : NoNaN64 FP.dconst0 := own_nn own_d0
theorem own_n1 : NoNaN64 FP.dconst1 := own_nn own_d1
theorem own_absn {x : UInt64} (h : Fin64 x) : NoNaN64 (x &&& 0x7fffffffffffffff) := (abs_fin h).noNaN
theorem own_max1 {y : UInt64} (hy : NoNaN64 y) : 0 < own_z (Native.java_lang_Math.nans.pick64 true FP.dconst1 y) := by
  have o := own_one
  have z1 : own_z FP.dconst1 = (FP.Core.one64 : Int) := by rw [own_zi own_d1, Int.one_mul]
  have h := own_cmpz own_n1 hy
  unfold Native.java_lang_Math.nans.pick64
  rw [h, FP.Core.compare_ite]
  by_cases h1 : own_z FP.dconst1 < own_z y
  · rw [if_pos h1]; show 0 < own_z y; omega
  · rw [if_neg h1]
    by_cases h2 : own_z FP.dconst1 = own_z y
    · rw [if_pos h2]
      show 0 < own_z (if _ then y else FP.dconst1)
      split <;> omega
    · rw [if_neg h2]; show 0 < own_z FP.dconst1; omega
theorem own_mul_pn {x y : UInt64} (hx : Fin64 x) (hy : Fin64 y) (h0 : 0 < own_z x) (h1 : own_z y < 0) : own_z (FP.dmul x y) ≤ 0 := by
  have hs : own_z (FP.dmul x y) = FP.Core.signed (FP.Core.sgn (FP.Core.val64 x) != FP.Core.sgn (FP.Core.val64 y)) (own_z (FP.dmul x y)).natAbs := by
    have h := own_z_signed (own_prod hx hy)
    rw [← own_prod hx hy, ← own_zn] at h; exact h
  have s1 : FP.Core.sgn (FP.Core.val64 x) = false := by
    cases hs : FP.Core.sgn (FP.Core.val64 x) with
    | false => rfl
    | true => exfalso; have := own_sgnz x; rw [hs] at this; simp only [FP.Core.signed, if_true] at this; omega
  have s2 : FP.Core.sgn (FP.Core.val64 y) = true := by
    cases hs : FP.Core.sgn (FP.Core.val64 y) with
    | true => rfl
    | false => exfalso; have := own_sgnz y; rw [hs] at this; simp [FP.Core.signed] at this; omega
  rw [hs, s1, s2]
  show -((own_z (FP.dmul x y)).natAbs : Int) ≤ 0; omega
theorem own_cm : Fin64 (13695778570484766357 : UInt64) ∧ own_z (13695778570484766357 : UInt64) < 0 := ⟨(Fl.fin64_iff _).mpr (by decide +kernel), by unfold own_z; decide +kernel⟩
theorem own_empty {s : State} {args : Array Value} {t : Term} {a : Addr} (ev : t.eval args s none [] s = some (.ref a)) (h1 : (Jvm.Cond.arrayOf t (.object "java/lang/Object")).value args s none s [] = some true)
    (h2 : (Jvm.Cond.eq (Term.length t) (Term.int 0)).value args s none s [] = some true) : own_A s s.heap a (.object "java/lang/Object") [] := by
  obtain ⟨c, A⟩ := Arr.start ev h1
  obtain ⟨x, y, e1, e2, -, -⟩ := cmp_v (Or.inl h2)
  have e3 : y = .int 0 := (Option.some.inj ((Term.int_eval (args := args) (first := s) (o := none) (idx := []) (s := s) 0).symm.trans e2)).symm
  subst e3
  obtain ⟨a', cell, g1, g2, g3⟩ := Term.length_spec e1
  cases ev.symm.trans g1
  subst g3
  have q := gotT (Cond.eq_ints e1 e2) h2
  have hc : c = cell := by
    unfold State.arrayAt? at g2
    rw [A.1] at g2
    simp only [Option.bind_eq_bind, Option.bind_some, Option.bind_eq_some_iff] at g2
    obtain ⟨k, -, g2⟩ := g2
    split at g2
    · cases g2
    · split at g2
      · exact Option.some.inj g2
      · cases g2
  have hb : cell.slots.size < 2 ^ 31 := by
    rcases Nat.lt_or_ge cell.slots.size (2 ^ 31) with h | h
    · exact h
    · exfalso
      simp [Term.eval, ev, g2, Nat.not_lt.mpr h] at e1
  have e4 : (cell.slots.size.toInt32).toInt = cell.slots.size := Int32.toInt_ofNat_of_lt hb
  rw [q] at e4
  have e5 : cell.slots.size = 0 := by have : (0 : Int32).toInt = 0 := rfl
                                      omega
  refine ⟨c, A, ?_⟩
  rw [hc]
  exact List.eq_nil_of_length_eq_zero (by rw [Array.length_toList]; exact e5)
def own_entry (i : Int32) : UInt64 := if i = 0 then FP.dconst1 else if i = 1 then (4611686018427387904 : UInt64) else if i = 2 then (13830554455654793216 : UInt64) else (13839561654909534208 : UInt64)
theorem own_entry0 {i : Int32} (h : i = 0) : FP.dconst1 = own_entry i := by rw [own_entry, if_pos h]
theorem own_entry1 {i : Int32} (h : ¬ i = 0) (h1 : i = 1) : (4611686018427387904 : UInt64) = own_entry i := by rw [own_entry, if_neg h, if_pos h1]
theorem own_entry2 {i : Int32} (h : ¬ i = 0) (h1 : ¬ i = 1) (h2 : i = 2) : (13830554455654793216 : UInt64) = own_entry i := by rw [own_entry, if_neg h, if_neg h1, if_pos h2]
theorem own_entry3 {i : Int32} (h : ¬ i = 0) (h1 : ¬ i = 1) (h2 : ¬ i = 2) : (13839561654909534208 : UInt64) = own_entry i := by rw [own_entry, if_neg h, if_neg h1, if_neg h2]
def own_quarter (i : Int32) : Int64 := if i = 0 then 4 else if i = 1 then 2 else if i = 2 then 4 else 1
theorem own_quarter0 {i : Int32} (h : i = 0) : (4 : Int64) = own_quarter i := by rw [own_quarter, if_pos h]
theorem own_quarter1 {i : Int32} (h : ¬ i = 0) (h1 : i = 1) : (2 : Int64) = own_quarter i := by rw [own_quarter, if_neg h, if_pos h1]
theorem own_quarter2 {i : Int32} (h : ¬ i = 0) (h1 : ¬ i = 1) (h2 : i = 2) : (4 : Int64) = own_quarter i := by rw [own_quarter, if_neg h, if_neg h1, if_pos h2]
theorem own_quarter3 {i : Int32} (h : ¬ i = 0) (h1 : ¬ i = 1) (h2 : ¬ i = 2) : (1 : Int64) = own_quarter i := by rw [own_quarter, if_neg h, if_neg h1, if_neg h2]
def own_effi (i t n c0 c1 c2 : Int32) : Int32 := if i = t then n else if i = 0 then c0 else if i = 1 then c1 else c2
theorem own_effi0 {i t n c0 c1 c2 : Int32} (h : i = t) : n = own_effi i t n c0 c1 c2 := by rw [own_effi, if_pos h]
theorem own_effi1 {i t n c0 c1 c2 : Int32} (h : ¬ i = t) (h1 : i = 0) : c0 = own_effi i t n c0 c1 c2 := by rw [own_effi, if_neg h, if_pos h1]
theorem own_effi2 {i t n c0 c1 c2 : Int32} (h : ¬ i = t) (h1 : ¬ i = 0) (h2 : i = 1) : c1 = own_effi i t n c0 c1 c2 := by rw [own_effi, if_neg h, if_neg h1, if_pos h2]
theorem own_effi3 {i t n c0 c1 c2 : Int32} (h : ¬ i = t) (h1 : ¬ i = 0) (h2 : ¬ i = 1) : c2 = own_effi i t n c0 c1 c2 := by rw [own_effi, if_neg h, if_neg h1, if_neg h2]
theorem own_o4 : (FP.Core.one64 : Int) = 4 * ((2 ^ 1072 : Nat) : Int) := by rw [FP.Core.one64]; decide +kernel
theorem own_z0 : own_z FP.dconst0 = 0 := by rw [own_zi own_d0, Int.zero_mul]
/-- the entry's value E and the quarters W: E * W is 4 or -4 by the sign -/
theorem own_eq (i : Int32) : ∃ E : Int, Fin64 (own_entry i) ∧ own_z (own_entry i) = E * (FP.Core.one64 : Int) ∧ E ≠ 0 ∧ -4 ≤ E ∧ E ≤ 4 ∧ 1 ≤ (own_quarter i).toInt ∧ (own_quarter i).toInt ≤ 4 ∧ ((0 < E ∧ E * (own_quarter i).toInt = 4) ∨ (E < 0 ∧ E * (own_quarter i).toInt = -4)) := by
  unfold own_entry own_quarter
  by_cases h0 : i = 0
  · rw [if_pos h0, if_pos h0]; exact ⟨1, own_fini own_d1, by rw [own_zi own_d1], by decide, by decide, by decide, by decide, by decide, Or.inl (by decide)⟩
  · rw [if_neg h0, if_neg h0]
    by_cases h1 : i = 1
    · rw [if_pos h1, if_pos h1]; exact ⟨2, (Fl.fin64_iff _).mpr (by decide +kernel), by unfold own_z FP.Core.one64; decide +kernel, by decide, by decide, by decide, by decide, by decide, Or.inl (by decide)⟩
    · rw [if_neg h1, if_neg h1]
      by_cases h2 : i = 2
      · rw [if_pos h2, if_pos h2]; exact ⟨-1, (Fl.fin64_iff _).mpr (by decide +kernel), by unfold own_z FP.Core.one64; decide +kernel, by decide, by decide, by decide, by decide, by decide, Or.inr (by decide)⟩
      · rw [if_neg h2, if_neg h2]; exact ⟨-4, (Fl.fin64_iff _).mpr (by decide +kernel), by unfold own_z FP.Core.one64; decide +kernel, by decide, by decide, by decide, by decide, by decide, Or.inr (by decide)⟩
theorem own_enf (i : Int32) : Fin64 (own_entry i) := by obtain ⟨E, h, -⟩ := own_eq i; exact h
def own_mb6 (m : Int64) : Prop := 0 ≤ m.toInt ∧ m.toInt ≤ 65535
def own_bs (i : Int32) (b : UInt64) (m : Int64) : Prop := (own_z (own_entry i) < own_z FP.dconst0 ∧ b = FP.dneg (FP.l2d m)) ∨ (¬ own_z (own_entry i) < own_z FP.dconst0 ∧ b = FP.l2d m)
theorem own_bsN {i : Int32} {m : Int64} (h : own_z (own_entry i) < own_z FP.dconst0) : own_bs i (FP.dneg (FP.l2d m)) m := Or.inl ⟨h, rfl⟩
theorem own_bsP {i : Int32} {m : Int64} (h : ¬ own_z (own_entry i) < own_z FP.dconst0) : own_bs i (FP.l2d m) m := Or.inr ⟨h, rfl⟩
def own_bE (b y : UInt64) (E W : Int) : Prop := Fin64 y ∧ Fin64 b ∧ own_z y = E * (FP.Core.one64 : Int) ∧ E ≠ 0 ∧ -4 ≤ E ∧ E ≤ 4 ∧ 0 ≤ W ∧ W ≤ 262140 ∧ ∃ B : Int, own_z b = B * (FP.Core.one64 : Int) ∧ B * 4 = W * E ∧ -65535 ≤ B ∧ B ≤ 65535
theorem own_prep {i : Int32} {b : UInt64} {m : Int64} (hb : own_bs i b m) (bm : own_mb6 m) : ∃ E, own_bE b (own_entry i) E (m.toInt * (own_quarter i).toInt) := by
  obtain ⟨E, f, z, e0, e1, e2, q1, q2, hq⟩ := own_eq i
  have o := own_one
  have e53 : (2 : Nat) ^ 53 = 9007199254740992 := by decide
  have dm := own_dl m rfl (by have := bm.1; have := bm.2; omega)
  have zm : own_z (FP.l2d m) = m.toInt * (FP.Core.one64 : Int) := own_zi dm
  have hW0 : 0 ≤ m.toInt * (own_quarter i).toInt := Int.mul_nonneg bm.1 (by omega)
  have hW1 : m.toInt * (own_quarter i).toInt ≤ 262140 := by have := Int.mul_le_mul bm.2 q2 (by omega) (by decide); omega
  refine ⟨E, f, ?_⟩
  unfold own_bs at hb
  rw [own_z0, z] at hb
  rcases hb with ⟨hn, rfl⟩ | ⟨hn, rfl⟩
  · have g := own_z_neg (Fl.l2d_fin m)
    have En : E < 0 := by
      rcases Int.lt_or_le E 0 with h | h
      · exact h
      · exact absurd (Int.mul_nonneg h (Int.le_of_lt o)) (by omega)
    refine ⟨g.2, z, e0, e1, e2, hW0, hW1, -m.toInt, by rw [g.1, zm, Int.neg_mul], ?_, by have := bm.2; omega, by have := bm.1; omega⟩
    rcases hq with h | h
    · omega
    · rw [Int.mul_assoc, Int.mul_comm _ E, h.2]; omega
  · have Ep : 0 < E := by
      rcases Int.lt_or_le E 0 with h | h
      · exact absurd (Int.mul_neg_of_neg_of_pos h o) hn
      · omega
    refine ⟨Fl.l2d_fin m, z, e0, e1, e2, hW0, hW1, m.toInt, zm, ?_, by have := bm.1; omega, bm.2⟩
    rcases hq with h | h
    · rw [Int.mul_assoc, Int.mul_comm _ E, h.2]
    · omega
theorem own_bEz {b y : UInt64} {E W : Int} (h : own_bE b y E W) : ¬ own_z y = own_z FP.dconst0 := by
  obtain ⟨-, -, z, e, -⟩ := h
  rw [z, own_z0]; intro q
  rcases Int.mul_eq_zero.mp q with r | r
  · exact e r
  · have := own_one; omega
theorem own_53l {i : Int} (h1 : -9007199254740992 < i) (h2 : i < 9007199254740992) : i.natAbs < 2 ^ 53 := by
  have e : (2 : Nat) ^ 53 = 9007199254740992 := by decide
  omega
theorem own_v {b y : UInt64} {E W : Int} (h : own_bE b y E W) : NoNaN64 (FP.dsub b FP.dconst0) ∧ Fin64 (FP.ddiv (FP.dsub b FP.dconst0) y) ∧ own_z (FP.ddiv (FP.dsub b FP.dconst0) y) = W * ((2 ^ 1072 : Nat) : Int) := by
  have hz := own_bEz h
  rw [own_z0] at hz
  obtain ⟨fy, fb, z, e, e1, e2, w0, w1, B, zB, hB, b1, b2⟩ := h
  have hU : ((2 ^ 1074 : Nat) : Int) = (FP.Core.one64 : Int) := by rw [FP.Core.one64]
  have d := own_sub_exact fb (own_fini own_d0) B 1074 (own_53l (by omega) (by omega)) (by decide) (by rw [zB, own_z0, Int.sub_zero, hU])
  rw [hU] at d
  have q := own_divI_exact d.2 fy hz W 1072 (own_53l (by omega) (by omega)) (by decide) (by
    rw [d.1, z, own_o4]
    generalize ((2 ^ 1072 : Nat) : Int) = U
    rw [show B * (4 * U) * (4 * U) = (B * 4) * (U * (4 * U)) by simp only [Int.mul_assoc, Int.mul_comm, Int.mul_left_comm], hB]
    simp only [Int.mul_assoc, Int.mul_comm, Int.mul_left_comm])
  exact ⟨d.2.noNaN, q.2, q.1⟩
theorem own_Wp {W : Int} (h : 0 ≤ W) : 0 ≤ W * ((2 ^ 1072 : Nat) : Int) := Int.mul_nonneg h (Int.natCast_nonneg _)
theorem own_chz {v b y : UInt64} {E W : Int} (Dv : Fin64 v ∧ own_z v = W * ((2 ^ 1072 : Nat) : Int)) (h : own_bE b y E W) : NoNaN64 (FP.dmul (13695778570484766357 : UInt64) (Native.java_lang_Math.nans.pick64 true FP.dconst1 (b &&& 0x7fffffffffffffff))) ∧
    ¬ own_z v < own_z (FP.dmul (13695778570484766357 : UInt64) (Native.java_lang_Math.nans.pick64 true FP.dconst1 (b &&& 0x7fffffffffffffff))) := by
  have fb := h.2.1
  have w0 : 0 ≤ W := h.2.2.2.2.2.2.1
  have fm : Fin64 (Native.java_lang_Math.nans.pick64 true FP.dconst1 (b &&& 0x7fffffffffffffff)) := Jvm.Free.Fl.pick64_fin (own_fini own_d1) (abs_fin fb)
  have pm := own_max1 (own_absn fb)
  refine ⟨own_mul_nn own_cm.1 fm, Int.not_lt.mpr ?_⟩
  rw [show FP.dmul (13695778570484766357 : UInt64) (Native.java_lang_Math.nans.pick64 true FP.dconst1 (b &&& 0x7fffffffffffffff)) = FP.dmul (Native.java_lang_Math.nans.pick64 true FP.dconst1 (b &&& 0x7fffffffffffffff)) (13695778570484766357 : UInt64) from FP.Core.dmul_comm _ _]
  have h1 := own_mul_pn fm own_cm.1 pm own_cm.2
  have h2 : 0 ≤ own_z v := by rw [Dv.2]; exact own_Wp w0
  omega
theorem own_mz {v b y : UInt64} {E W : Int} (Dv : Fin64 v ∧ own_z v = W * ((2 ^ 1072 : Nat) : Int)) (h : own_bE b y E W) : Fin64 (Native.java_lang_Math.nans.pick64 true FP.dconst0 v) ∧ own_z (Native.java_lang_Math.nans.pick64 true FP.dconst0 v) = W * ((2 ^ 1072 : Nat) : Int) := by
  refine ⟨Jvm.Free.Fl.pick64_fin (own_fini own_d0) Dv.1, ?_⟩
  have w0 : 0 ≤ own_z v := by rw [Dv.2]; exact own_Wp h.2.2.2.2.2.2.1
  have hc := own_cmpz own_n0 Dv.1.noNaN
  rw [← Dv.2]
  unfold Native.java_lang_Math.nans.pick64
  rw [hc, FP.Core.compare_ite]
  rw [own_z0]
  by_cases h1 : (0 : Int) < own_z v
  · rw [if_pos h1]; rfl
  · rw [if_neg h1]
    have h2 : (0 : Int) = own_z v := by omega
    rw [if_pos h2]
    show own_z (if _ then v else FP.dconst0) = _
    split
    · rfl
    · rw [own_z0]; exact h2
def own_cw (k w : UInt64) (c W : Int) : Prop := Fin64 k ∧ own_z k = c * (FP.Core.one64 : Int) ∧ -2147483648 ≤ c ∧ c ≤ 2147483648 ∧ Fin64 w ∧ own_z w = W * ((2 ^ 1072 : Nat) : Int) ∧ 0 ≤ W ∧ W ≤ 262140
theorem own_cWb {c W : Int} (h1 : -2147483648 ≤ c) (h2 : c ≤ 2147483648) (w0 : 0 ≤ W) (w1 : W ≤ 262140) : -562941363486720 ≤ c * W ∧ c * W ≤ 562941363486720 := by
  have h : (c * W).natAbs ≤ 2147483648 * 262140 := by rw [Int.natAbs_mul]; exact Nat.mul_le_mul (by omega) (by omega)
  omega
theorem own_cwm {k w : UInt64} {c W : Int} (h : own_cw k w c W) : Fin64 (FP.dmul k w) ∧ own_z (FP.dmul k w) = (c * W) * ((2 ^ 1072 : Nat) : Int) := by
  obtain ⟨fk, zk, c1, c2, fw, zw, w0, w1⟩ := h
  have b := own_cWb c1 c2 w0 w1
  have q := own_mul_exact fk fw (c * W) 1072 (own_53l (by omega) (by omega)) (by decide) (by
    rw [zk, zw]
    generalize ((2 ^ 1072 : Nat) : Int) = U
    simp only [Int.mul_assoc, Int.mul_comm, Int.mul_left_comm])
  exact ⟨q.2, q.1⟩
def own_sm (g : UInt64) (n : Nat) (S : Int) : Prop := Fin64 g ∧ own_z g = S * ((2 ^ 1072 : Nat) : Int) ∧ S.natAbs ≤ n * 562941363486720
theorem own_s0 : own_sm FP.dconst0 0 0 := ⟨own_fini own_d0, by rw [own_z0, Int.zero_mul], by decide⟩
theorem own_sad {g k w : UInt64} {n : Nat} {S c W : Int} (h : own_sm g n S) (hc : own_cw k w c W) (hn : n ≤ 3) : own_sm (FP.dadd g (FP.dmul k w)) (n + 1) (S + c * W) := by
  have m := own_cwm hc
  have b := own_cWb hc.2.2.1 hc.2.2.2.1 hc.2.2.2.2.2.2.1 hc.2.2.2.2.2.2.2
  have hS := h.2.2
  have q := own_add_exact h.1 m.1 (S + c * W) 1072 (own_53l (by omega) (by omega)) (by decide) (by rw [h.2.1, m.2, Int.add_mul])
  exact ⟨q.2, q.1, by omega⟩
theorem own_cwI (k : Int32) {w : UInt64} {m : Int64} {i : Int32} (h : Fin64 w ∧ own_z w = (m.toInt * (own_quarter i).toInt) * ((2 ^ 1072 : Nat) : Int)) (bm : own_mb6 m) : own_cw (FP.i2d k) w k.toInt (m.toInt * (own_quarter i).toInt) := by
  obtain ⟨E, -, -, -, -, -, q1, q2, -⟩ := own_eq i
  have a := k.toInt_lt; have b := k.le_toInt
  exact ⟨Fl.i2d_fin k, own_zi (FP.Core.i2d_int k), by omega, by omega, h.1, h.2, Int.mul_nonneg bm.1 (by omega), by have := Int.mul_le_mul bm.2 q2 (by omega) (by decide); omega⟩
theorem own_k4 : FP.Core.DInt 4 (4616189618054758400 : UInt64) := by
  have h := FP.Core.i2d_int 4
  rw [show FP.Core.i2d 4 = (4616189618054758400 : UInt64) by decide +kernel] at h; exact h
theorem own_g4 {g : UInt64} {n : Nat} {S : Int} (h : own_sm g n S) (hn : n ≤ 3) : Fin64 (FP.dmul g (4616189618054758400 : UInt64)) ∧ own_z (FP.dmul g (4616189618054758400 : UInt64)) = S * (FP.Core.one64 : Int) := by
  have hS := h.2.2
  have hU : ((2 ^ 1074 : Nat) : Int) = (FP.Core.one64 : Int) := by rw [FP.Core.one64]
  have q := own_mul_exact h.1 (own_fini own_k4) S 1074 (own_53l (by omega) (by omega)) (by decide) (by
    rw [h.2.1, own_zi own_k4, hU, own_o4]
    generalize ((2 ^ 1072 : Nat) : Int) = U
    simp only [Int.mul_assoc, Int.mul_comm, Int.mul_left_comm])
  rw [hU] at q
  exact ⟨q.2, q.1⟩
theorem own_end {g : UInt64} {n : Nat} {S : Int} {r : Int64} (h : own_sm g n S) (hn : n ≤ 3) (hr : r.toInt = S) : cmpValue (FP.dcmp (FP.dmul g (4616189618054758400 : UInt64)) (FP.l2d r)) .l = 0 := by
  have q := own_g4 h hn
  have hS := h.2.2
  have e53 : (2 : Nat) ^ 53 = 9007199254740992 := by decide
  have d := own_dl r hr (by omega)
  exact own_eqz .l q.1.noNaN (own_fini d).noNaN (q.2.trans (own_zi d).symm)
theorem own_t64 (k : Int32) {m : Int64} (bm : own_mb6 m) (i : Int32) : (k.toInt64 * (m * own_quarter i)).toInt = k.toInt * (m.toInt * (own_quarter i).toInt) ∧ -562941363486720 ≤ k.toInt * (m.toInt * (own_quarter i).toInt) ∧ k.toInt * (m.toInt * (own_quarter i).toInt) ≤ 562941363486720 := by
  obtain ⟨E, -, -, -, -, -, q1, q2, -⟩ := own_eq i
  have a := k.toInt_lt; have b := k.le_toInt
  have w0 : 0 ≤ m.toInt * (own_quarter i).toInt := Int.mul_nonneg bm.1 (by omega)
  have w1 : m.toInt * (own_quarter i).toInt ≤ 262140 := by have := Int.mul_le_mul bm.2 q2 (by omega) (by decide); omega
  have c := own_cWb (c := k.toInt) (by omega) (by omega) w0 w1
  have h1 : (m * own_quarter i).toInt = m.toInt * (own_quarter i).toInt := Jvm.Kit.i64_mul (by omega) (by omega)
  refine ⟨?_, c⟩
  rw [Jvm.Kit.i64_mul (by rw [h1, Jvm.Kit.i64_of_i32]; omega) (by rw [h1, Jvm.Kit.i64_of_i32]; omega), h1, Jvm.Kit.i64_of_i32]
theorem own_ref0 : (0 : Int64).toInt = 0 := rfl
theorem own_ref1 (k : Int32) {m : Int64} (bm : own_mb6 m) (i : Int32) : ((0 : Int64) + (k.toInt64 * (m * own_quarter i))).toInt = 0 + k.toInt * (m.toInt * (own_quarter i).toInt) := by
  have h := own_t64 k bm i
  rw [Jvm.Kit.i64_add (by rw [own_ref0, h.1]; omega) (by rw [own_ref0, h.1]; omega), own_ref0, h.1]
theorem own_ref2 (k : Int32) {m : Int64} (bm : own_mb6 m) (i : Int32) (k' : Int32) {m' : Int64} (bm' : own_mb6 m') (i' : Int32) : (((0 : Int64) + (k.toInt64 * (m * own_quarter i))) + (k'.toInt64 * (m' * own_quarter i'))).toInt = 0 + k.toInt * (m.toInt * (own_quarter i).toInt) + k'.toInt * (m'.toInt * (own_quarter i').toInt) := by
  have h := own_t64 k bm i
  have h' := own_t64 k' bm' i'
  have r := own_ref1 k bm i
  rw [Jvm.Kit.i64_add (by rw [r, h'.1]; omega) (by rw [r, h'.1]; omega), r, h'.1]
theorem own_m0 {p m : Int64} (h : m = p &&& (65535 : Int64)) : own_mb6 m := by
  have e := Jvm.Kit.i64_mask p 65535 (k := 16) (by decide) (by decide)
  unfold own_mb6; rw [h, e]; omega
theorem own_m1 {p m : Int64} (h : m = (XT.ushrL p (16 : Int32)) &&& (65535 : Int64)) : own_mb6 m := own_m0 h
def own_o3 (o : Int32) : Prop := o = 0 ∨ o = 1 ∨ o = 2
theorem own_o3i {o : Int32} (h : o.toInt = 0 ∨ o.toInt = 1 ∨ o.toInt = 2) : own_o3 o := by
  rcases h with q | q | q
  · exact Or.inl (Int32.toInt_inj.mp q)
  · exact Or.inr (Or.inl (Int32.toInt_inj.mp q))
  · exact Or.inr (Or.inr (Int32.toInt_inj.mp q))
theorem own_oi {p o : Int32} (h : o = ((XT.ushr p (2 : Int32)) &&& (3 : Int32)) % (3 : Int32)) : 0 ≤ o.toInt ∧ o.toInt ≤ 2 := by
  have h1 := Jvm.Kit.i32_mask (XT.ushr p (2 : Int32)) 3 (k := 2) (by decide) (by decide)
  have h3 : o.toInt = ((XT.ushr p (2 : Int32)) &&& (3 : Int32)).toInt % 3 := by rw [h, Jvm.Kit.i32_rem_nonneg (by omega)]; rfl
  omega
theorem own_o0 {p o : Int32} (h : o = ((XT.ushr p (2 : Int32)) &&& (3 : Int32)) % (3 : Int32)) : own_o3 o := own_o3i (by have := own_oi h; omega)
theorem own_oj {p o q : Int32} (h : o = ((XT.ushr p (2 : Int32)) &&& (3 : Int32)) % (3 : Int32)) (g : q = ((o + (1 : Int32)) + ((XT.ushr p (4 : Int32)) &&& (1 : Int32))) % (3 : Int32)) : 0 ≤ q.toInt ∧ q.toInt ≤ 2 ∧ q.toInt ≠ o.toInt := by
  have b := own_oi h
  have h1 := Jvm.Kit.i32_mask (XT.ushr p (4 : Int32)) 1 (k := 1) (by decide) (by decide)
  have h2 : (o + (1 : Int32)).toInt = o.toInt + 1 := Jvm.Kit.i32_add (q := 1) (by show _ ≤ _ + (1 : Int); omega) (by show _ + (1 : Int) < _; omega)
  have h4 : ((o + (1 : Int32)) + ((XT.ushr p (4 : Int32)) &&& (1 : Int32))).toInt = o.toInt + 1 + ((XT.ushr p (4 : Int32)) &&& (1 : Int32)).toInt := by rw [Jvm.Kit.i32_add (by rw [h2]; omega) (by rw [h2]; omega), h2]
  have h3 : q.toInt = (o.toInt + 1 + ((XT.ushr p (4 : Int32)) &&& (1 : Int32)).toInt) % 3 := by rw [g, Jvm.Kit.i32_rem_nonneg (by rw [h4]; omega), h4]; rfl
  omega
theorem own_o1 {p o q : Int32} (h : o = ((XT.ushr p (2 : Int32)) &&& (3 : Int32)) % (3 : Int32)) (g : q = ((o + (1 : Int32)) + ((XT.ushr p (4 : Int32)) &&& (1 : Int32))) % (3 : Int32)) : own_o3 q := own_o3i (by have := own_oj h g; omega)
theorem own_perm {p o q : Int32} (h : o = ((XT.ushr p (2 : Int32)) &&& (3 : Int32)) % (3 : Int32)) (g : q = ((o + (1 : Int32)) + ((XT.ushr p (4 : Int32)) &&& (1 : Int32))) % (3 : Int32)) :
    (o = 0 ∧ q = 1) ∨ (o = 0 ∧ q = 2) ∨ (o = 1 ∧ q = 0) ∨ (o = 1 ∧ q = 2) ∨ (o = 2 ∧ q = 0) ∨ (o = 2 ∧ q = 1) := by
  have c := own_oj h g
  have ne : q ≠ o := fun e => c.2.2 (by rw [e])
  have a := own_o0 h
  have b := own_o1 h g
  clear h g c
  unfold own_o3 at a b
  rcases a with a | a | a <;> rcases b with b | b | b <;> rw [a, b] at ne ⊢ <;> first | exact absurd rfl ne | decide
theorem own_tg {p t : Int32} (h : t = (XT.ushr p (9 : Int32)) &&& (3 : Int32)) : 0 ≤ t.toInt ∧ t.toInt ≤ 3 := by
  have h1 := Jvm.Kit.i32_mask (XT.ushr p (9 : Int32)) 3 (k := 2) (by decide) (by decide)
  rw [h]; omega
theorem own_rw {p n : Int32} (h : n = (p &&& (3 : Int32)) % (3 : Int32)) : n = 0 ∨ n = 1 ∨ n = 2 := by
  have h1 := Jvm.Kit.i32_mask p 3 (k := 2) (by decide) (by decide)
  have h3 : n.toInt = (p &&& (3 : Int32)).toInt % 3 := by rw [h, Jvm.Kit.i32_rem_nonneg (by omega)]; rfl
  exact own_o3i (by omega)
theorem own_oo {o : Int32} (h : own_o3 o) : ¬ o < 0 ∧ o < 3 := by rcases h with rfl | rfl | rfl <;> decide
abbrev own_pvl : List Value := ((own_i16.set ((0 : Int32)).toNatClampNeg (.int (-1 : Int32))).set ((1 : Int32)).toNatClampNeg (.int (-1 : Int32))).set ((2 : Int32)).toNatClampNeg (.int (-1 : Int32))
theorem own_pv0 {o : Int32} (h : own_o3 o) : own_pvl[o.toNatClampNeg]? = some (.int (-1 : Int32)) := by rcases h with rfl | rfl | rfl <;> rfl
theorem own_pv1 {p o q : Int32} (h : o = ((XT.ushr p (2 : Int32)) &&& (3 : Int32)) % (3 : Int32)) (g : q = ((o + (1 : Int32)) + ((XT.ushr p (4 : Int32)) &&& (1 : Int32))) % (3 : Int32)) : (own_pvl.set o.toNatClampNeg (.int (0 : Int32)))[q.toNatClampNeg]? = some (.int (-1 : Int32)) := by
  rcases own_perm h g with ⟨e1, e2⟩ | ⟨e1, e2⟩ | ⟨e1, e2⟩ | ⟨e1, e2⟩ | ⟨e1, e2⟩ | ⟨e1, e2⟩ <;> rw [e1, e2] <;> rfl
theorem own_t3 {t : Int32} (b : 0 ≤ t.toInt ∧ t.toInt ≤ 3) : t = 0 ∨ t = 1 ∨ t = 2 ∨ t = 3 := by
  have h : t.toInt = 0 ∨ t.toInt = 1 ∨ t.toInt = 2 ∨ t.toInt = 3 := by omega
  rcases h with q | q | q | q
  · exact Or.inl (Int32.toInt_inj.mp q)
  · exact Or.inr (Or.inl (Int32.toInt_inj.mp q))
  · exact Or.inr (Or.inr (Or.inl (Int32.toInt_inj.mp q)))
  · exact Or.inr (Or.inr (Or.inr (Int32.toInt_inj.mp q)))
theorem own_tn {t : Int32} (b : 0 ≤ t.toInt ∧ t.toInt ≤ 3) : ¬ t < 0 ∧ t.toNatClampNeg ≤ 3 := by rcases own_t3 b with rfl | rfl | rfl | rfl <;> decide
theorem own_tl {t : Int32} {L : List Value} (b : 0 ≤ t.toInt ∧ t.toInt ≤ 3) (ct : t < 3) (hl : L.length = 16) : t.toNatClampNeg < L.length := by have := (own_tn b).2; omega
abbrev own_cl (c0 c1 c2 : Int32) : List Value := ((own_d16.set ((0 : Int32)).toNatClampNeg (.double (FP.i2d c0))).set ((1 : Int32)).toNatClampNeg (.double (FP.i2d c1))).set ((2 : Int32)).toNatClampNeg (.double (FP.i2d c2))
theorem own_cl0 {o t n : Int32} (h : own_o3 o) (ct : ¬ t < 3) (c0 c1 c2 : Int32) : (own_cl c0 c1 c2)[o.toNatClampNeg]? = some (.double (FP.i2d (own_effi o t n c0 c1 c2))) := by
  rcases h with rfl | rfl | rfl
  · rw [← own_effi1 (fun e => ct (by rw [← e]; decide)) rfl]; rfl
  · rw [← own_effi2 (fun e => ct (by rw [← e]; decide)) (by decide) rfl]; rfl
  · rw [← own_effi3 (fun e => ct (by rw [← e]; decide)) (by decide) (by decide)]; rfl
theorem own_cl1 {o t n : Int32} (h : own_o3 o) (b : 0 ≤ t.toInt ∧ t.toInt ≤ 3) (ct : t < 3) (c0 c1 c2 : Int32) : ((own_cl c0 c1 c2).set t.toNatClampNeg (.double (FP.i2d n)))[o.toNatClampNeg]? = some (.double (FP.i2d (own_effi o t n c0 c1 c2))) := by
  rcases own_t3 b with rfl | rfl | rfl | rfl
  · rcases h with rfl | rfl | rfl
    · rw [← own_effi0 rfl]; rfl
    · rw [← own_effi2 (by decide) (by decide) rfl]; rfl
    · rw [← own_effi3 (by decide) (by decide) (by decide)]; rfl
  · rcases h with rfl | rfl | rfl
    · rw [← own_effi1 (by decide) rfl]; rfl
    · rw [← own_effi0 rfl]; rfl
    · rw [← own_effi3 (by decide) (by decide) (by decide)]; rfl
  · rcases h with rfl | rfl | rfl
    · rw [← own_effi1 (by decide) rfl]; rfl
    · rw [← own_effi2 (by decide) (by decide) rfl]; rfl
    · rw [← own_effi0 rfl]; rfl
  · exact absurd ct (by decide)

def QrmLi (Z : State) (a : Addr) (h0 : Heap) (n0 : Nat) (vQ : Option Value) (hQ : Heap) (LQ : List Loc) : Prop := vQ = none ∧ Fr n0 LQ ∧ Keep h0 hQ [a]
theorem ef_rmLi (m : MethodId) (a : Addr) : entryFrame m #[(.ref a)] 1 = mkF m 0 #[vr a] [] := by first | (simp [entryFrame, mkF, argsToLocals, Value.category]; done) | rfl
abbrev xa0 (Z : State) (h : Heap) (a : Addr) : Prop := Exa Z h a "com/example/netloom/netloom/embed/BasisFactor$Lines"
abbrev mn1 : MethodName := ⟨"com/example/netloom/netloom/embed/BasisFactor$Lines", "<init>", "()V"⟩
theorem pn_com_example_netloom_netloom_embed_BasisFactor_Lines : plainName "com/example/netloom/netloom/embed/BasisFactor$Lines" = true := by first | (simp [plainName, overriddenIn]; done) | decide +kernel
theorem p21_1_0 : decode prog_21_method_1_code 0 = .ok (.aload_n 0, 1) := by decide +kernel
theorem p21_1_1 : decode prog_21_method_1_code 1 = .ok (.invokespecial 1, 3) := by decide +kernel
abbrev HW (Z : State) (a0 : Array Value) : Prop := ∀ d ∈ tables_1, d.before a0 Z = true
def tw65 {Z a0} (hw : HW Z a0) := hw _ (List.mem_of_getElem? (i := 65) rfl)
def tw14 {Z a0} (hw : HW Z a0) := hw _ (List.mem_of_getElem? (i := 14) rfl)
def tw15 {Z a0} (hw : HW Z a0) := hw _ (List.mem_of_getElem? (i := 15) rfl)
theorem p21_1_4 : decode prog_21_method_1_code 4 = .ok (.aload_n 0, 1) := by decide +kernel
theorem p21_1_5 : decode prog_21_method_1_code 5 = .ok (.bipush 17, 2) := by decide +kernel
theorem p21_1_7 : decode prog_21_method_1_code 7 = .ok (.newarray .int, 2) := by decide +kernel
def tw5 {Z a0} (hw : HW Z a0) := hw _ (List.mem_of_getElem? (i := 5) rfl)
theorem p21_1_9 : decode prog_21_method_1_code 9 = .ok (.putfield 7, 3) := by decide +kernel
def tw66 {Z a0} (hw : HW Z a0) := hw _ (List.mem_of_getElem? (i := 66) rfl)
def tw60 {Z a0} (hw : HW Z a0) := hw _ (List.mem_of_getElem? (i := 60) rfl)
def tw67 {Z a0} (hw : HW Z a0) := hw _ (List.mem_of_getElem? (i := 67) rfl)
theorem p21_1_12 : decode prog_21_method_1_code 12 = .ok (.aload_n 0, 1) := by decide +kernel
theorem p21_1_13 : decode prog_21_method_1_code 13 = .ok (.bipush 64, 2) := by decide +kernel
theorem p21_1_15 : decode prog_21_method_1_code 15 = .ok (.newarray .int, 2) := by decide +kernel
theorem p21_1_17 : decode prog_21_method_1_code 17 = .ok (.putfield 13, 3) := by decide +kernel
def tw68 {Z a0} (hw : HW Z a0) := hw _ (List.mem_of_getElem? (i := 68) rfl)
def tw69 {Z a0} (hw : HW Z a0) := hw _ (List.mem_of_getElem? (i := 69) rfl)
theorem p21_1_20 : decode prog_21_method_1_code 20 = .ok (.aload_n 0, 1) := by decide +kernel
theorem p21_1_21 : decode prog_21_method_1_code 21 = .ok (.bipush 64, 2) := by decide +kernel
theorem p21_1_23 : decode prog_21_method_1_code 23 = .ok (.newarray .double, 2) := by decide +kernel
def tw6 {Z a0} (hw : HW Z a0) := hw _ (List.mem_of_getElem? (i := 6) rfl)
theorem p21_1_25 : decode prog_21_method_1_code 25 = .ok (.putfield 16, 3) := by decide +kernel
def tw70 {Z a0} (hw : HW Z a0) := hw _ (List.mem_of_getElem? (i := 70) rfl)
def tw71 {Z a0} (hw : HW Z a0) := hw _ (List.mem_of_getElem? (i := 71) rfl)
theorem p21_1_28 : decode prog_21_method_1_code 28 = .ok (.return_, 1) := by decide +kernel
set_option maxRecDepth 65536 in
set_option maxHeartbeats 40000000 in
theorem rmLi (l : Launch) (Z : State) (a0 : Array Value) (hw : ∀ d ∈ tables_1, d.before a0 Z = true) (ws : List Jvm.Cond) (a : Addr) (h0 : Heap) (n0 : Nat) (Z0 : n0 ≤ h0.size) (E1 : xa0 Z h0 a) (U1 : Unt h0 a) (ge_a : n0 ≤ a) :
  MetFree l mn1 (head1 (Jvm.Cond.code mn1 prog_21_method_1_code 1 none :: ws) ({ frames := 1, cells := 3, slots := 145, locals := 14 } : Room)) (fun aA U => aA = #[(.ref a)] ∧ Z.Warmed39 U.vm ∧ U.heap = h0) (fun _ _ _ _ _ => True) (fun _ U o U' => ∃ vR LR, o = .returned vR ∧ QrmLi Z a h0 n0 vR U'.heap LR ∧ FrameEnd U o U' LR ({ frames := 1, cells := 3, slots := 145, locals := 14 } : Room).cells ({ frames := 1, cells := 3, slots := 145, locals := 14 } : Room).slots) := by
 refine MetFree.of_bodySF (plainFor_of_name pn_com_example_netloom_netloom_embed_BasisFactor_Lines) hisR ?_
 intro p e s m args below meth c s₁ Bd hml0 hPre hKk
 obtain ⟨rfl, hZ, hh⟩ := hPre
 have hx := Bd.exec
 have hby := Bd.bytes
 have hH : ∀ {pc r}, decode prog_21_method_1_code pc = r → decode c.code pc = r := fun q => hb hby q
 have hml : c.maxLocals = 1 := hml0
 have hown : s.vm.findClass "com/example/netloom/netloom/embed/BasisFactor$Lines" = some m.cls := findClass_of_methodNamed Bd.named
 have hnm := (name_of_methodNamed Bd.named Bd.method).1
 have X0 : Stand p l e ({ frames := 1, cells := 3, slots := 145, locals := 14 } : Room) s m #[(.ref a)] below meth c s₁ [] 0 0 := Stand.of_body Bd
 have e0 : s₁.heap = h0 := by rw [← hh, Bd.state]; rfl
 have N0 := Fr.nil n0
 obtain ⟨E0, hE0⟩ : ∃ zE : State, zE = s₁.setTop (entryFrame m #[(.ref a)] 1) := ⟨_, rfl⟩
 have k0 : own_G p e below E0 s₁ (mkF m 0 #[vr a] []) := fun tz kz => hE0 ▸ castTop (ef_rmLi m a) kz
 have K0 : Keep h0 h0 [a] := Keep.refl _ _
 have kJ0 : own_G p e below E0 s₁ (mkF m 1 #[vr a] [(.ref a)]) := by
  intro tQ kk
  refine k0 tQ ?_
  refine XS.aloadN X0.here hx rfl (hH p21_1_0) rfl rfl ?_
  exact kk
 clear k0
 obtain ⟨TJ1, XJ2, eJ3, stJ4⟩ := initO X0 hx hZ hown (tw65 hw) (tw14 hw) (tw15 hw) e0 (g := (mkF m 1 #[vr a] [(.ref a)])) rfl (by rw [hml]; rfl) rfl (hH p21_1_1) (by decide) (W := 0) (by show 2 * 0 + _ ≤ _; exact Nat.le_of_eq rfl) (by decide)
 have kJ5 : own_G p e below E0 TJ1 (mkF m 4 #[vr a] []) := fun tQ kk => kJ0 tQ (stJ4 _ kk)
 clear kJ0 stJ4
 have kJ6 : own_G p e below E0 TJ1 (mkF m 7 #[vr a] [(.int (17 : Int32)), (.ref a)]) := by
  intro tQ kk
  refine kJ5 tQ ?_
  refine XS.aloadN XJ2.here hx rfl (hH p21_1_4) rfl rfl ?_
  refine XS.bipush XJ2.here hx rfl (hH p21_1_5) ?_
  exact kk
 clear kJ5
 obtain ⟨TJ7, hJ8, cAJ9, XJA, eJB, EJC, AJD, stJE⟩ := newP (aty := .int) XJ2 hx hZ (tw5 hw) eJ3 (g := (mkF m 7 #[vr a] [(.int (17 : Int32)), (.ref a)])) rfl (hH p21_1_7) rfl (by decide) (cap := 17) (by decide) (by decide) (by decide) (by decide)
 obtain ⟨aJF, gJG⟩ : ∃ zA : Nat, zA = h0.size := ⟨_, rfl⟩
 rw [← gJG] at AJD stJE
 have nJH := own_lt_ne E1.lt gJG
 have nwJI : h0.size ≤ aJF := own_ge_of K0.1 gJG
 have geJJ : n0 ≤ aJF := own_ge_of Z0 gJG
 replace Z0 := Nat.le_trans Z0 EJC.1
 replace E1 := E1.ext EJC
 replace U1 := U1.ext EJC
 replace K0 := K0.ext EJC
 have kJK : own_G p e below E0 TJ7 (mkF m 9 #[vr a] [(.ref aJF), (.ref a)]) := fun tQ kk => kJ6 tQ (stJE _ kk)
 clear kJ6 stJE
 obtain ⟨voJL, FJM⟩ := fld_laid E1 (Unt.known U1) (tw60 hw) (Or.inl (tw67 hw))
 obtain ⟨TJN, hJO, XJP, eJQ, WJR, stJS⟩ := putF XJA hx hZ hown (host := "") (Or.inl (tw66 hw)) Via.refl eJB FJM E1 (Or.inl (tw67 hw)) (tw60 hw) (ty := (.array .int)) (by decide) rfl rfl (g := (mkF m 9 #[vr a] [(.ref aJF), (.ref a)])) rfl rfl (hH p21_1_9)
 have NJT := Fr.snoc XJP N0 ge_a
 have kJU : own_G p e below E0 TJN (mkF m 12 #[vr a] []) := fun tQ kk => kJK tQ (stJS _ kk)
 clear kJK stJS
 replace E1 := E1.wr WJR
 replace U1 := U1.wr WJR
 replace Z0 := own_wrle WJR Z0
 replace K0 := K0.wr WJR (Or.inl (List.mem_of_getElem? (i := 0) rfl))
 have kJV : own_G p e below E0 TJN (mkF m 15 #[vr a] [(.int (64 : Int32)), (.ref a)]) := by
  intro tQ kk
  refine kJU tQ ?_
  refine XS.aloadN XJP.here hx rfl (hH p21_1_12) rfl rfl ?_
  refine XS.bipush XJP.here hx rfl (hH p21_1_13) ?_
  exact kk
 clear kJU
 obtain ⟨TJW, hJX, cAJY, XJZ, eK0, EK1, AK2, stK3⟩ := newP (aty := .int) XJP hx hZ (tw5 hw) eJQ (g := (mkF m 15 #[vr a] [(.int (64 : Int32)), (.ref a)])) rfl (hH p21_1_15) rfl (by decide) (cap := 64) (by decide) (by decide) (by decide) (by decide)
 obtain ⟨aK4, gK5⟩ : ∃ zA : Nat, zA = hJO.size := ⟨_, rfl⟩
 rw [← gK5] at AK2 stK3
 have nK6 := own_lt_ne E1.lt gK5
 have nwK7 : h0.size ≤ aK4 := own_ge_of K0.1 gK5
 have geK8 : n0 ≤ aK4 := own_ge_of Z0 gK5
 replace Z0 := Nat.le_trans Z0 EK1.1
 replace E1 := E1.ext EK1
 replace U1 := U1.ext EK1
 replace K0 := K0.ext EK1
 have kK9 : own_G p e below E0 TJW (mkF m 17 #[vr a] [(.ref aK4), (.ref a)]) := fun tQ kk => kJV tQ (stK3 _ kk)
 clear kJV stK3
 obtain ⟨voKA, FKB⟩ := fld_laid E1 (Unt.known U1) (tw60 hw) (Or.inl (tw69 hw))
 obtain ⟨TKC, hKD, XKE, eKF, WKG, stKH⟩ := putF XJZ hx hZ hown (host := "") (Or.inl (tw68 hw)) Via.refl eK0 FKB E1 (Or.inl (tw69 hw)) (tw60 hw) (ty := (.array .int)) (by decide) rfl rfl (g := (mkF m 17 #[vr a] [(.ref aK4), (.ref a)])) rfl rfl (hH p21_1_17)
 have NKI := Fr.snoc XKE NJT ge_a
 have kKJ : own_G p e below E0 TKC (mkF m 20 #[vr a] []) := fun tQ kk => kK9 tQ (stKH _ kk)
 clear kK9 stKH
 replace E1 := E1.wr WKG
 replace U1 := U1.wr WKG
 replace Z0 := own_wrle WKG Z0
 replace K0 := K0.wr WKG (Or.inl (List.mem_of_getElem? (i := 0) rfl))
 have kKK : own_G p e below E0 TKC (mkF m 23 #[vr a] [(.int (64 : Int32)), (.ref a)]) := by
  intro tQ kk
  refine kKJ tQ ?_
  refine XS.aloadN XKE.here hx rfl (hH p21_1_20) rfl rfl ?_
  refine XS.bipush XKE.here hx rfl (hH p21_1_21) ?_
  exact kk
 clear kKJ
 obtain ⟨TKL, hKM, cAKN, XKO, eKP, EKQ, AKR, stKS⟩ := newP (aty := .double) XKE hx hZ (tw6 hw) eKF (g := (mkF m 23 #[vr a] [(.int (64 : Int32)), (.ref a)])) rfl (hH p21_1_23) rfl (by decide) (cap := 64) (by decide) (by decide) (by decide) (by decide)
 obtain ⟨aKT, gKU⟩ : ∃ zA : Nat, zA = hKD.size := ⟨_, rfl⟩
 rw [← gKU] at AKR stKS
 have nKV := own_lt_ne E1.lt gKU
 have nwKW : h0.size ≤ aKT := own_ge_of K0.1 gKU
 have geKX : n0 ≤ aKT := own_ge_of Z0 gKU
 replace Z0 := Nat.le_trans Z0 EKQ.1
 replace E1 := E1.ext EKQ
 replace U1 := U1.ext EKQ
 replace K0 := K0.ext EKQ
 have kKY : own_G p e below E0 TKL (mkF m 25 #[vr a] [(.ref aKT), (.ref a)]) := fun tQ kk => kKK tQ (stKS _ kk)
 clear kKK stKS
 obtain ⟨voKZ, FL0⟩ := fld_laid E1 (Unt.known U1) (tw60 hw) (Or.inl (tw71 hw))
 obtain ⟨TL1, hL2, XL3, eL4, WL5, stL6⟩ := putF XKO hx hZ hown (host := "") (Or.inl (tw70 hw)) Via.refl eKP FL0 E1 (Or.inl (tw71 hw)) (tw60 hw) (ty := (.array .double)) (by decide) rfl rfl (g := (mkF m 25 #[vr a] [(.ref aKT), (.ref a)])) rfl rfl (hH p21_1_25)
 have NL7 := Fr.snoc XL3 NKI ge_a
 have kL8 : own_G p e below E0 TL1 (mkF m 28 #[vr a] []) := fun tQ kk => kKY tQ (stL6 _ kk)
 clear kKY stL6
 replace E1 := E1.wr WL5
 replace U1 := U1.wr WL5
 replace Z0 := own_wrle WL5 Z0
 replace K0 := K0.wr WL5 (Or.inl (List.mem_of_getElem? (i := 0) rfl))
 obtain ⟨fs, hr, hrun, hended, hW, hsame⟩ := XL3.leave (v := none) (fun _ => rfl)
 have hrun0 := kL8 _ (XL3.returnOut hx Bd.returns (hH p21_1_28) hr)
 subst hE0
 refine ⟨_, _, hrun0, hrun, hended, _, _, rfl, ?_, ⟨_, rfl⟩, hW, hsame.mono (by decide) (by decide)⟩
 show QrmLi Z a h0 n0 _ TL1.heap _
 rw [eL4]
 exact ⟨rfl, NL7, K0⟩
def QrmEn (Z : State) (a : Addr) (h0 : Heap) (n0 : Nat) (vQ : Option Value) (hQ : Heap) (LQ : List Loc) : Prop := vQ = none ∧ Fr n0 LQ ∧ Keep h0 hQ [a]
theorem ef_rmEn (m : MethodId) (a : Addr) : entryFrame m #[(.ref a)] 1 = mkF m 0 #[vr a] [] := by first | (simp [entryFrame, mkF, argsToLocals, Value.category]; done) | rfl
abbrev xa2 (Z : State) (h : Heap) (a : Addr) : Prop := Exa Z h a "com/example/netloom/netloom/embed/BasisFactor$Entries"
abbrev mn3 : MethodName := ⟨"com/example/netloom/netloom/embed/BasisFactor$Entries", "<init>", "()V"⟩
theorem pn_com_example_netloom_netloom_embed_BasisFactor_Entries : plainName "com/example/netloom/netloom/embed/BasisFactor$Entries" = true := by first | (simp [plainName, overriddenIn]; done) | decide +kernel
theorem p20_1_0 : decode prog_20_method_1_code 0 = .ok (.aload_n 0, 1) := by decide +kernel
theorem p20_1_1 : decode prog_20_method_1_code 1 = .ok (.invokespecial 1, 3) := by decide +kernel
def tw86 {Z a0} (hw : HW Z a0) := hw _ (List.mem_of_getElem? (i := 86) rfl)
theorem p20_1_4 : decode prog_20_method_1_code 4 = .ok (.aload_n 0, 1) := by decide +kernel
theorem p20_1_5 : decode prog_20_method_1_code 5 = .ok (.iconst 0, 1) := by decide +kernel
theorem p20_1_6 : decode prog_20_method_1_code 6 = .ok (.anewarray 7, 3) := by decide +kernel
def tw87 {Z a0} (hw : HW Z a0) := hw _ (List.mem_of_getElem? (i := 87) rfl)
def tw88 {Z a0} (hw : HW Z a0) := hw _ (List.mem_of_getElem? (i := 88) rfl)
theorem p20_1_9 : decode prog_20_method_1_code 9 = .ok (.putfield 9, 3) := by decide +kernel
def tw89 {Z a0} (hw : HW Z a0) := hw _ (List.mem_of_getElem? (i := 89) rfl)
def tw81 {Z a0} (hw : HW Z a0) := hw _ (List.mem_of_getElem? (i := 81) rfl)
def tw90 {Z a0} (hw : HW Z a0) := hw _ (List.mem_of_getElem? (i := 90) rfl)
theorem p20_1_12 : decode prog_20_method_1_code 12 = .ok (.aload_n 0, 1) := by decide +kernel
theorem p20_1_13 : decode prog_20_method_1_code 13 = .ok (.iconst 0, 1) := by decide +kernel
theorem p20_1_14 : decode prog_20_method_1_code 14 = .ok (.anewarray 15, 3) := by decide +kernel
def tw91 {Z a0} (hw : HW Z a0) := hw _ (List.mem_of_getElem? (i := 91) rfl)
def tw92 {Z a0} (hw : HW Z a0) := hw _ (List.mem_of_getElem? (i := 92) rfl)
theorem p20_1_17 : decode prog_20_method_1_code 17 = .ok (.putfield 17, 3) := by decide +kernel
def tw93 {Z a0} (hw : HW Z a0) := hw _ (List.mem_of_getElem? (i := 93) rfl)
def tw94 {Z a0} (hw : HW Z a0) := hw _ (List.mem_of_getElem? (i := 94) rfl)
theorem p20_1_20 : decode prog_20_method_1_code 20 = .ok (.aload_n 0, 1) := by decide +kernel
theorem p20_1_21 : decode prog_20_method_1_code 21 = .ok (.iconst 0, 1) := by decide +kernel
theorem p20_1_22 : decode prog_20_method_1_code 22 = .ok (.newarray .int, 2) := by decide +kernel
theorem p20_1_24 : decode prog_20_method_1_code 24 = .ok (.putfield 21, 3) := by decide +kernel
def tw95 {Z a0} (hw : HW Z a0) := hw _ (List.mem_of_getElem? (i := 95) rfl)
def tw96 {Z a0} (hw : HW Z a0) := hw _ (List.mem_of_getElem? (i := 96) rfl)
theorem p20_1_27 : decode prog_20_method_1_code 27 = .ok (.return_, 1) := by decide +kernel
set_option maxRecDepth 65536 in
set_option maxHeartbeats 40000000 in
theorem rmEn (l : Launch) (Z : State) (a0 : Array Value) (hw : ∀ d ∈ tables_1, d.before a0 Z = true) (ws : List Jvm.Cond) (a : Addr) (h0 : Heap) (n0 : Nat) (Z0 : n0 ≤ h0.size) (E1 : xa2 Z h0 a) (U1 : Unt h0 a) (ge_a : n0 ≤ a) :
  MetFree l mn3 (head1 (Jvm.Cond.code mn3 prog_20_method_1_code 1 none :: ws) ({ frames := 1, cells := 3, slots := 0, locals := 14 } : Room)) (fun aA U => aA = #[(.ref a)] ∧ Z.Warmed39 U.vm ∧ U.heap = h0) (fun _ _ _ _ _ => True) (fun _ U o U' => ∃ vR LR, o = .returned vR ∧ QrmEn Z a h0 n0 vR U'.heap LR ∧ FrameEnd U o U' LR ({ frames := 1, cells := 3, slots := 0, locals := 14 } : Room).cells ({ frames := 1, cells := 3, slots := 0, locals := 14 } : Room).slots) := by
 refine MetFree.of_bodySF (plainFor_of_name pn_com_example_netloom_netloom_embed_BasisFactor_Entries) hisR ?_
 intro p e s m args below meth c s₁ Bd hml0 hPre hKk
 obtain ⟨rfl, hZ, hh⟩ := hPre
 have hx := Bd.exec
 have hby := Bd.bytes
 have hH : ∀ {pc r}, decode prog_20_method_1_code pc = r → decode c.code pc = r := fun q => hb hby q
 have hml : c.maxLocals = 1 := hml0
 have hown : s.vm.findClass "com/example/netloom/netloom/embed/BasisFactor$Entries" = some m.cls := findClass_of_methodNamed Bd.named
 have hnm := (name_of_methodNamed Bd.named Bd.method).1
 have X0 : Stand p l e ({ frames := 1, cells := 3, slots := 0, locals := 14 } : Room) s m #[(.ref a)] below meth c s₁ [] 0 0 := Stand.of_body Bd
 have e0 : s₁.heap = h0 := by rw [← hh, Bd.state]; rfl
 have N0 := Fr.nil n0
 obtain ⟨E0, hE0⟩ : ∃ zE : State, zE = s₁.setTop (entryFrame m #[(.ref a)] 1) := ⟨_, rfl⟩
 have k0 : own_G p e below E0 s₁ (mkF m 0 #[vr a] []) := fun tz kz => hE0 ▸ castTop (ef_rmEn m a) kz
 have K0 : Keep h0 h0 [a] := Keep.refl _ _
 have kJ0 : own_G p e below E0 s₁ (mkF m 1 #[vr a] [(.ref a)]) := by
  intro tQ kk
  refine k0 tQ ?_
  refine XS.aloadN X0.here hx rfl (hH p20_1_0) rfl rfl ?_
  exact kk
 clear k0
 obtain ⟨TJ1, XJ2, eJ3, stJ4⟩ := initO X0 hx hZ hown (tw86 hw) (tw14 hw) (tw15 hw) e0 (g := (mkF m 1 #[vr a] [(.ref a)])) rfl (by rw [hml]; rfl) rfl (hH p20_1_1) (by decide) (W := 0) (by show 2 * 0 + _ ≤ _; exact Nat.le_of_eq rfl) (by decide)
 have kJ5 : own_G p e below E0 TJ1 (mkF m 4 #[vr a] []) := fun tQ kk => kJ0 tQ (stJ4 _ kk)
 clear kJ0 stJ4
 have kJ6 : own_G p e below E0 TJ1 (mkF m 6 #[vr a] [(.int (0 : Int32)), (.ref a)]) := by
  intro tQ kk
  refine kJ5 tQ ?_
  refine XS.aloadN XJ2.here hx rfl (hH p20_1_4) rfl rfl ?_
  refine XS.iconst XJ2.here hx rfl (hH p20_1_5) ?_
  exact kk
 clear kJ5
 obtain ⟨TJ7, hJ8, cAJ9, XJA, eJB, EJC, -, -, -, stJF⟩ := newRA (ty := .int) XJ2 hx hZ hown rfl (tw87 hw) (tw88 hw) eJ3 (g := (mkF m 6 #[vr a] [(.int (0 : Int32)), (.ref a)])) rfl (hH p20_1_6) rfl (by decide) (cap := 0) (by decide) (by decide) (by decide) (by decide) rfl
 obtain ⟨aJG, gJH⟩ : ∃ zA : Nat, zA = h0.size := ⟨_, rfl⟩
 rw [← gJH] at stJF
 have nJI := own_lt_ne E1.lt gJH
 have nwJJ : h0.size ≤ aJG := own_ge_of K0.1 gJH
 have geJK : n0 ≤ aJG := own_ge_of Z0 gJH
 replace Z0 := Nat.le_trans Z0 EJC.1
 replace E1 := E1.ext EJC
 replace U1 := U1.ext EJC
 replace K0 := K0.ext EJC
 have kJL : own_G p e below E0 TJ7 (mkF m 9 #[vr a] [(.ref aJG), (.ref a)]) := fun tQ kk => kJ6 tQ (stJF _ kk)
 clear kJ6 stJF
 obtain ⟨voJM, FJN⟩ := fld_laid E1 (Unt.known U1) (tw81 hw) (Or.inl (tw90 hw))
 obtain ⟨TJO, hJP, XJQ, eJR, WJS, stJT⟩ := putF XJA hx hZ hown (host := "") (Or.inl (tw89 hw)) Via.refl eJB FJN E1 (Or.inl (tw90 hw)) (tw81 hw) (ty := (.array (.array .int))) (by decide) rfl rfl (g := (mkF m 9 #[vr a] [(.ref aJG), (.ref a)])) rfl rfl (hH p20_1_9)
 have NJU := Fr.snoc XJQ N0 ge_a
 have kJV : own_G p e below E0 TJO (mkF m 12 #[vr a] []) := fun tQ kk => kJL tQ (stJT _ kk)
 clear kJL stJT
 replace E1 := E1.wr WJS
 replace U1 := U1.wr WJS
 replace Z0 := own_wrle WJS Z0
 replace K0 := K0.wr WJS (Or.inl (List.mem_of_getElem? (i := 0) rfl))
 have kJW : own_G p e below E0 TJO (mkF m 14 #[vr a] [(.int (0 : Int32)), (.ref a)]) := by
  intro tQ kk
  refine kJV tQ ?_
  refine XS.aloadN XJQ.here hx rfl (hH p20_1_12) rfl rfl ?_
  refine XS.iconst XJQ.here hx rfl (hH p20_1_13) ?_
  exact kk
 clear kJV
 obtain ⟨TJX, hJY, cAJZ, XK0, eK1, EK2, -, -, -, stK5⟩ := newRA (ty := .double) XJQ hx hZ hown rfl (tw91 hw) (tw92 hw) eJR (g := (mkF m 14 #[vr a] [(.int (0 : Int32)), (.ref a)])) rfl (hH p20_1_14) rfl (by decide) (cap := 0) (by decide) (by decide) (by decide) (by decide) rfl
 obtain ⟨aK6, gK7⟩ : ∃ zA : Nat, zA = hJP.size := ⟨_, rfl⟩
 rw [← gK7] at stK5
 have nK8 := own_lt_ne E1.lt gK7
 have nwK9 : h0.size ≤ aK6 := own_ge_of K0.1 gK7
 have geKA : n0 ≤ aK6 := own_ge_of Z0 gK7
 replace Z0 := Nat.le_trans Z0 EK2.1
 replace E1 := E1.ext EK2
 replace U1 := U1.ext EK2
 replace K0 := K0.ext EK2
 have kKB : own_G p e below E0 TJX (mkF m 17 #[vr a] [(.ref aK6), (.ref a)]) := fun tQ kk => kJW tQ (stK5 _ kk)
 clear kJW stK5
 obtain ⟨voKC, FKD⟩ := fld_laid E1 (Unt.known U1) (tw81 hw) (Or.inl (tw94 hw))
 obtain ⟨TKE, hKF, XKG, eKH, WKI, stKJ⟩ := putF XK0 hx hZ hown (host := "") (Or.inl (tw93 hw)) Via.refl eK1 FKD E1 (Or.inl (tw94 hw)) (tw81 hw) (ty := (.array (.array .double))) (by decide) rfl rfl (g := (mkF m 17 #[vr a] [(.ref aK6), (.ref a)])) rfl rfl (hH p20_1_17)
 have NKK := Fr.snoc XKG NJU ge_a
 have kKL : own_G p e below E0 TKE (mkF m 20 #[vr a] []) := fun tQ kk => kKB tQ (stKJ _ kk)
 clear kKB stKJ
 replace E1 := E1.wr WKI
 replace U1 := U1.wr WKI
 replace Z0 := own_wrle WKI Z0
 replace K0 := K0.wr WKI (Or.inl (List.mem_of_getElem? (i := 0) rfl))
 have kKM : own_G p e below E0 TKE (mkF m 22 #[vr a] [(.int (0 : Int32)), (.ref a)]) := by
  intro tQ kk
  refine kKL tQ ?_
  refine XS.aloadN XKG.here hx rfl (hH p20_1_20) rfl rfl ?_
  refine XS.iconst XKG.here hx rfl (hH p20_1_21) ?_
  exact kk
 clear kKL
 obtain ⟨TKN, hKO, cAKP, XKQ, eKR, EKS, AKT, stKU⟩ := newP (aty := .int) XKG hx hZ (tw5 hw) eKH (g := (mkF m 22 #[vr a] [(.int (0 : Int32)), (.ref a)])) rfl (hH p20_1_22) rfl (by decide) (cap := 0) (by decide) (by decide) (by decide) (by decide)
 obtain ⟨aKV, gKW⟩ : ∃ zA : Nat, zA = hKF.size := ⟨_, rfl⟩
 rw [← gKW] at AKT stKU
 have nKX := own_lt_ne E1.lt gKW
 have nwKY : h0.size ≤ aKV := own_ge_of K0.1 gKW
 have geKZ : n0 ≤ aKV := own_ge_of Z0 gKW
 replace Z0 := Nat.le_trans Z0 EKS.1
 replace E1 := E1.ext EKS
 replace U1 := U1.ext EKS
 replace K0 := K0.ext EKS
 have kL0 : own_G p e below E0 TKN (mkF m 24 #[vr a] [(.ref aKV), (.ref a)]) := fun tQ kk => kKM tQ (stKU _ kk)
 clear kKM stKU
 obtain ⟨voL1, FL2⟩ := fld_laid E1 (Unt.known U1) (tw81 hw) (Or.inl (tw96 hw))
 obtain ⟨TL3, hL4, XL5, eL6, WL7, stL8⟩ := putF XKQ hx hZ hown (host := "") (Or.inl (tw95 hw)) Via.refl eKR FL2 E1 (Or.inl (tw96 hw)) (tw81 hw) (ty := (.array .int)) (by decide) rfl rfl (g := (mkF m 24 #[vr a] [(.ref aKV), (.ref a)])) rfl rfl (hH p20_1_24)
 have NL9 := Fr.snoc XL5 NKK ge_a
 have kLA : own_G p e below E0 TL3 (mkF m 27 #[vr a] []) := fun tQ kk => kL0 tQ (stL8 _ kk)
 clear kL0 stL8
 replace E1 := E1.wr WL7
 replace U1 := U1.wr WL7
 replace Z0 := own_wrle WL7 Z0
 replace K0 := K0.wr WL7 (Or.inl (List.mem_of_getElem? (i := 0) rfl))
 obtain ⟨fs, hr, hrun, hended, hW, hsame⟩ := XL5.leave (v := none) (fun _ => rfl)
 have hrun0 := kLA _ (XL5.returnOut hx Bd.returns (hH p20_1_27) hr)
 subst hE0
 refine ⟨_, _, hrun0, hrun, hended, _, _, rfl, ?_, ⟨_, rfl⟩, hW, hsame.mono (by decide) (by decide)⟩
 show QrmEn Z a h0 n0 _ TL3.heap _
 rw [eL6]
 exact ⟨rfl, NL9, K0⟩
def QrmCl (Z : State) (a : Addr) (h0 : Heap) (n0 : Nat) (vQ : Option Value) (hQ : Heap) (LQ : List Loc) : Prop := vQ = none ∧ Fr n0 LQ ∧ Keep h0 hQ [a]
theorem ef_rmCl (m : MethodId) (a : Addr) : entryFrame m #[(.ref a)] 1 = mkF m 0 #[vr a] [] := by first | (simp [entryFrame, mkF, argsToLocals, Value.category]; done) | rfl
abbrev xa4 (Z : State) (h : Heap) (a : Addr) : Prop := Exa Z h a "com/example/netloom/netloom/embed/BasisFactor$CountLists"
abbrev mn5 : MethodName := ⟨"com/example/netloom/netloom/embed/BasisFactor$CountLists", "<init>", "()V"⟩
theorem pn_com_example_netloom_netloom_embed_BasisFactor_CountLists : plainName "com/example/netloom/netloom/embed/BasisFactor$CountLists" = true := by first | (simp [plainName, overriddenIn]; done) | decide +kernel
theorem p18_1_0 : decode prog_18_method_1_code 0 = .ok (.aload_n 0, 1) := by decide +kernel
theorem p18_1_1 : decode prog_18_method_1_code 1 = .ok (.invokespecial 1, 3) := by decide +kernel
def tw144 {Z a0} (hw : HW Z a0) := hw _ (List.mem_of_getElem? (i := 144) rfl)
theorem p18_1_4 : decode prog_18_method_1_code 4 = .ok (.aload_n 0, 1) := by decide +kernel
theorem p18_1_5 : decode prog_18_method_1_code 5 = .ok (.iconst 0, 1) := by decide +kernel
theorem p18_1_6 : decode prog_18_method_1_code 6 = .ok (.newarray .int, 2) := by decide +kernel
theorem p18_1_8 : decode prog_18_method_1_code 8 = .ok (.putfield 7, 3) := by decide +kernel
def tw145 {Z a0} (hw : HW Z a0) := hw _ (List.mem_of_getElem? (i := 145) rfl)
def tw139 {Z a0} (hw : HW Z a0) := hw _ (List.mem_of_getElem? (i := 139) rfl)
def tw146 {Z a0} (hw : HW Z a0) := hw _ (List.mem_of_getElem? (i := 146) rfl)
theorem p18_1_11 : decode prog_18_method_1_code 11 = .ok (.aload_n 0, 1) := by decide +kernel
theorem p18_1_12 : decode prog_18_method_1_code 12 = .ok (.iconst 0, 1) := by decide +kernel
theorem p18_1_13 : decode prog_18_method_1_code 13 = .ok (.newarray .int, 2) := by decide +kernel
theorem p18_1_15 : decode prog_18_method_1_code 15 = .ok (.putfield 13, 3) := by decide +kernel
def tw147 {Z a0} (hw : HW Z a0) := hw _ (List.mem_of_getElem? (i := 147) rfl)
def tw148 {Z a0} (hw : HW Z a0) := hw _ (List.mem_of_getElem? (i := 148) rfl)
theorem p18_1_18 : decode prog_18_method_1_code 18 = .ok (.aload_n 0, 1) := by decide +kernel
theorem p18_1_19 : decode prog_18_method_1_code 19 = .ok (.iconst 0, 1) := by decide +kernel
theorem p18_1_20 : decode prog_18_method_1_code 20 = .ok (.newarray .int, 2) := by decide +kernel
theorem p18_1_22 : decode prog_18_method_1_code 22 = .ok (.putfield 16, 3) := by decide +kernel
def tw149 {Z a0} (hw : HW Z a0) := hw _ (List.mem_of_getElem? (i := 149) rfl)
def tw150 {Z a0} (hw : HW Z a0) := hw _ (List.mem_of_getElem? (i := 150) rfl)
theorem p18_1_25 : decode prog_18_method_1_code 25 = .ok (.aload_n 0, 1) := by decide +kernel
theorem p18_1_26 : decode prog_18_method_1_code 26 = .ok (.iconst 0, 1) := by decide +kernel
theorem p18_1_27 : decode prog_18_method_1_code 27 = .ok (.newarray .int, 2) := by decide +kernel
theorem p18_1_29 : decode prog_18_method_1_code 29 = .ok (.putfield 19, 3) := by decide +kernel
def tw151 {Z a0} (hw : HW Z a0) := hw _ (List.mem_of_getElem? (i := 151) rfl)
def tw152 {Z a0} (hw : HW Z a0) := hw _ (List.mem_of_getElem? (i := 152) rfl)
theorem p18_1_32 : decode prog_18_method_1_code 32 = .ok (.return_, 1) := by decide +kernel
set_option maxRecDepth 65536 in
set_option maxHeartbeats 40000000 in
theorem rmCl (l : Launch) (Z : State) (a0 : Array Value) (hw : ∀ d ∈ tables_1, d.before a0 Z = true) (ws : List Jvm.Cond) (a : Addr) (h0 : Heap) (n0 : Nat) (Z0 : n0 ≤ h0.size) (E1 : xa4 Z h0 a) (U1 : Unt h0 a) (ge_a : n0 ≤ a) :
  MetFree l mn5 (head1 (Jvm.Cond.code mn5 prog_18_method_1_code 1 none :: ws) ({ frames := 1, cells := 4, slots := 0, locals := 14 } : Room)) (fun aA U => aA = #[(.ref a)] ∧ Z.Warmed39 U.vm ∧ U.heap = h0) (fun _ _ _ _ _ => True) (fun _ U o U' => ∃ vR LR, o = .returned vR ∧ QrmCl Z a h0 n0 vR U'.heap LR ∧ FrameEnd U o U' LR ({ frames := 1, cells := 4, slots := 0, locals := 14 } : Room).cells ({ frames := 1, cells := 4, slots := 0, locals := 14 } : Room).slots) := by
 refine MetFree.of_bodySF (plainFor_of_name pn_com_example_netloom_netloom_embed_BasisFactor_CountLists) hisR ?_
 intro p e s m args below meth c s₁ Bd hml0 hPre hKk
 obtain ⟨rfl, hZ, hh⟩ := hPre
 have hx := Bd.exec
 have hby := Bd.bytes
 have hH : ∀ {pc r}, decode prog_18_method_1_code pc = r → decode c.code pc = r := fun q => hb hby q
 have hml : c.maxLocals = 1 := hml0
 have hown : s.vm.findClass "com/example/netloom/netloom/embed/BasisFactor$CountLists" = some m.cls := findClass_of_methodNamed Bd.named
 have hnm := (name_of_methodNamed Bd.named Bd.method).1
 have X0 : Stand p l e ({ frames := 1, cells := 4, slots := 0, locals := 14 } : Room) s m #[(.ref a)] below meth c s₁ [] 0 0 := Stand.of_body Bd
 have e0 : s₁.heap = h0 := by rw [← hh, Bd.state]; rfl
 have N0 := Fr.nil n0
 obtain ⟨E0, hE0⟩ : ∃ zE : State, zE = s₁.setTop (entryFrame m #[(.ref a)] 1) := ⟨_, rfl⟩
 have k0 : own_G p e below E0 s₁ (mkF m 0 #[vr a] []) := fun tz kz => hE0 ▸ castTop (ef_rmCl m a) kz
 have K0 : Keep h0 h0 [a] := Keep.refl _ _
 have kJ0 : own_G p e below E0 s₁ (mkF m 1 #[vr a] [(.ref a)]) := by
  intro tQ kk
  refine k0 tQ ?_
  refine XS.aloadN X0.here hx rfl (hH p18_1_0) rfl rfl ?_
  exact kk
 clear k0
 obtain ⟨TJ1, XJ2, eJ3, stJ4⟩ := initO X0 hx hZ hown (tw144 hw) (tw14 hw) (tw15 hw) e0 (g := (mkF m 1 #[vr a] [(.ref a)])) rfl (by rw [hml]; rfl) rfl (hH p18_1_1) (by decide) (W := 0) (by show 2 * 0 + _ ≤ _; exact Nat.le_of_eq rfl) (by decide)
 have kJ5 : own_G p e below E0 TJ1 (mkF m 4 #[vr a] []) := fun tQ kk => kJ0 tQ (stJ4 _ kk)
 clear kJ0 stJ4
 have kJ6 : own_G p e below E0 TJ1 (mkF m 6 #[vr a] [(.int (0 : Int32)), (.ref a)]) := by
  intro tQ kk
  refine kJ5 tQ ?_
  refine XS.aloadN XJ2.here hx rfl (hH p18_1_4) rfl rfl ?_
  refine XS.iconst XJ2.here hx rfl (hH p18_1_5) ?_
  exact kk
 clear kJ5
 obtain ⟨TJ7, hJ8, cAJ9, XJA, eJB, EJC, AJD, stJE⟩ := newP (aty := .int) XJ2 hx hZ (tw5 hw) eJ3 (g := (mkF m 6 #[vr a] [(.int (0 : Int32)), (.ref a)])) rfl (hH p18_1_6) rfl (by decide) (cap := 0) (by decide) (by decide) (by decide) (by decide)
 obtain ⟨aJF, gJG⟩ : ∃ zA : Nat, zA = h0.size := ⟨_, rfl⟩
 rw [← gJG] at AJD stJE
 have nJH := own_lt_ne E1.lt gJG
 have nwJI : h0.size ≤ aJF := own_ge_of K0.1 gJG
 have geJJ : n0 ≤ aJF := own_ge_of Z0 gJG
 replace Z0 := Nat.le_trans Z0 EJC.1
 replace E1 := E1.ext EJC
 replace U1 := U1.ext EJC
 replace K0 := K0.ext EJC
 have kJK : own_G p e below E0 TJ7 (mkF m 8 #[vr a] [(.ref aJF), (.ref a)]) := fun tQ kk => kJ6 tQ (stJE _ kk)
 clear kJ6 stJE
 obtain ⟨voJL, FJM⟩ := fld_laid E1 (Unt.known U1) (tw139 hw) (Or.inl (tw146 hw))
 obtain ⟨TJN, hJO, XJP, eJQ, WJR, stJS⟩ := putF XJA hx hZ hown (host := "") (Or.inl (tw145 hw)) Via.refl eJB FJM E1 (Or.inl (tw146 hw)) (tw139 hw) (ty := (.array .int)) (by decide) rfl rfl (g := (mkF m 8 #[vr a] [(.ref aJF), (.ref a)])) rfl rfl (hH p18_1_8)
 have NJT := Fr.snoc XJP N0 ge_a
 have kJU : own_G p e below E0 TJN (mkF m 11 #[vr a] []) := fun tQ kk => kJK tQ (stJS _ kk)
 clear kJK stJS
 replace E1 := E1.wr WJR
 replace U1 := U1.wr WJR
 replace Z0 := own_wrle WJR Z0
 replace K0 := K0.wr WJR (Or.inl (List.mem_of_getElem? (i := 0) rfl))
 have kJV : own_G p e below E0 TJN (mkF m 13 #[vr a] [(.int (0 : Int32)), (.ref a)]) := by
  intro tQ kk
  refine kJU tQ ?_
  refine XS.aloadN XJP.here hx rfl (hH p18_1_11) rfl rfl ?_
  refine XS.iconst XJP.here hx rfl (hH p18_1_12) ?_
  exact kk
 clear kJU
 obtain ⟨TJW, hJX, cAJY, XJZ, eK0, EK1, AK2, stK3⟩ := newP (aty := .int) XJP hx hZ (tw5 hw) eJQ (g := (mkF m 13 #[vr a] [(.int (0 : Int32)), (.ref a)])) rfl (hH p18_1_13) rfl (by decide) (cap := 0) (by decide) (by decide) (by decide) (by decide)
 obtain ⟨aK4, gK5⟩ : ∃ zA : Nat, zA = hJO.size := ⟨_, rfl⟩
 rw [← gK5] at AK2 stK3
 have nK6 := own_lt_ne E1.lt gK5
 have nwK7 : h0.size ≤ aK4 := own_ge_of K0.1 gK5
 have geK8 : n0 ≤ aK4 := own_ge_of Z0 gK5
 replace Z0 := Nat.le_trans Z0 EK1.1
 replace E1 := E1.ext EK1
 replace U1 := U1.ext EK1
 replace K0 := K0.ext EK1
 have kK9 : own_G p e below E0 TJW (mkF m 15 #[vr a] [(.ref aK4), (.ref a)]) := fun tQ kk => kJV tQ (stK3 _ kk)
 clear kJV stK3
 obtain ⟨voKA, FKB⟩ := fld_laid E1 (Unt.known U1) (tw139 hw) (Or.inl (tw148 hw))
 obtain ⟨TKC, hKD, XKE, eKF, WKG, stKH⟩ := putF XJZ hx hZ hown (host := "") (Or.inl (tw147 hw)) Via.refl eK0 FKB E1 (Or.inl (tw148 hw)) (tw139 hw) (ty := (.array .int)) (by decide) rfl rfl (g := (mkF m 15 #[vr a] [(.ref aK4), (.ref a)])) rfl rfl (hH p18_1_15)
 have NKI := Fr.snoc XKE NJT ge_a
 have kKJ : own_G p e below E0 TKC (mkF m 18 #[vr a] []) := fun tQ kk => kK9 tQ (stKH _ kk)
 clear kK9 stKH
 replace E1 := E1.wr WKG
 replace U1 := U1.wr WKG
 replace Z0 := own_wrle WKG Z0
 replace K0 := K0.wr WKG (Or.inl (List.mem_of_getElem? (i := 0) rfl))
 have kKK : own_G p e below E0 TKC (mkF m 20 #[vr a] [(.int (0 : Int32)), (.ref a)]) := by
  intro tQ kk
  refine kKJ tQ ?_
  refine XS.aloadN XKE.here hx rfl (hH p18_1_18) rfl rfl ?_
  refine XS.iconst XKE.here hx rfl (hH p18_1_19) ?_
  exact kk
 clear kKJ
 obtain ⟨TKL, hKM, cAKN, XKO, eKP, EKQ, AKR, stKS⟩ := newP (aty := .int) XKE hx hZ (tw5 hw) eKF (g := (mkF m 20 #[vr a] [(.int (0 : Int32)), (.ref a)])) rfl (hH p18_1_20) rfl (by decide) (cap := 0) (by decide) (by decide) (by decide) (by decide)
 obtain ⟨aKT, gKU⟩ : ∃ zA : Nat, zA = hKD.size := ⟨_, rfl⟩
 rw [← gKU] at AKR stKS
 have nKV := own_lt_ne E1.lt gKU
 have nwKW : h0.size ≤ aKT := own_ge_of K0.1 gKU
 have geKX : n0 ≤ aKT := own_ge_of Z0 gKU
 replace Z0 := Nat.le_trans Z0 EKQ.1
 replace E1 := E1.ext EKQ
 replace U1 := U1.ext EKQ
 replace K0 := K0.ext EKQ
 have kKY : own_G p e below E0 TKL (mkF m 22 #[vr a] [(.ref aKT), (.ref a)]) := fun tQ kk => kKK tQ (stKS _ kk)
 clear kKK stKS
 obtain ⟨voKZ, FL0⟩ := fld_laid E1 (Unt.known U1) (tw139 hw) (Or.inl (tw150 hw))
 obtain ⟨TL1, hL2, XL3, eL4, WL5, stL6⟩ := putF XKO hx hZ hown (host := "") (Or.inl (tw149 hw)) Via.refl eKP FL0 E1 (Or.inl (tw150 hw)) (tw139 hw) (ty := (.array .int)) (by decide) rfl rfl (g := (mkF m 22 #[vr a] [(.ref aKT), (.ref a)])) rfl rfl (hH p18_1_22)
 have NL7 := Fr.snoc XL3 NKI ge_a
 have kL8 : own_G p e below E0 TL1 (mkF m 25 #[vr a] []) := fun tQ kk => kKY tQ (stL6 _ kk)
 clear kKY stL6
 replace E1 := E1.wr WL5
 replace U1 := U1.wr WL5
 replace Z0 := own_wrle WL5 Z0
 replace K0 := K0.wr WL5 (Or.inl (List.mem_of_getElem? (i := 0) rfl))
 have kL9 : own_G p e below E0 TL1 (mkF m 27 #[vr a] [(.int (0 : Int32)), (.ref a)]) := by
  intro tQ kk
  refine kL8 tQ ?_
  refine XS.aloadN XL3.here hx rfl (hH p18_1_25) rfl rfl ?_
  refine XS.iconst XL3.here hx rfl (hH p18_1_26) ?_
  exact kk
 clear kL8
 obtain ⟨TLA, hLB, cALC, XLD, eLE, ELF, ALG, stLH⟩ := newP (aty := .int) XL3 hx hZ (tw5 hw) eL4 (g := (mkF m 27 #[vr a] [(.int (0 : Int32)), (.ref a)])) rfl (hH p18_1_27) rfl (by decide) (cap := 0) (by decide) (by decide) (by decide) (by decide)
 obtain ⟨aLI, gLJ⟩ : ∃ zA : Nat, zA = hL2.size := ⟨_, rfl⟩
 rw [← gLJ] at ALG stLH
 have nLK := own_lt_ne E1.lt gLJ
 have nwLL : h0.size ≤ aLI := own_ge_of K0.1 gLJ
 have geLM : n0 ≤ aLI := own_ge_of Z0 gLJ
 replace Z0 := Nat.le_trans Z0 ELF.1
 replace E1 := E1.ext ELF
 replace U1 := U1.ext ELF
 replace K0 := K0.ext ELF
 have kLN : own_G p e below E0 TLA (mkF m 29 #[vr a] [(.ref aLI), (.ref a)]) := fun tQ kk => kL9 tQ (stLH _ kk)
 clear kL9 stLH
 obtain ⟨voLO, FLP⟩ := fld_laid E1 (Unt.known U1) (tw139 hw) (Or.inl (tw152 hw))
 obtain ⟨TLQ, hLR, XLS, eLT, WLU, stLV⟩ := putF XLD hx hZ hown (host := "") (Or.inl (tw151 hw)) Via.refl eLE FLP E1 (Or.inl (tw152 hw)) (tw139 hw) (ty := (.array .int)) (by decide) rfl rfl (g := (mkF m 29 #[vr a] [(.ref aLI), (.ref a)])) rfl rfl (hH p18_1_29)
 have NLW := Fr.snoc XLS NL7 ge_a
 have kLX : own_G p e below E0 TLQ (mkF m 32 #[vr a] []) := fun tQ kk => kLN tQ (stLV _ kk)
 clear kLN stLV
 replace E1 := E1.wr WLU
 replace U1 := U1.wr WLU
 replace Z0 := own_wrle WLU Z0
 replace K0 := K0.wr WLU (Or.inl (List.mem_of_getElem? (i := 0) rfl))
 obtain ⟨fs, hr, hrun, hended, hW, hsame⟩ := XLS.leave (v := none) (fun _ => rfl)
 have hrun0 := kLX _ (XLS.returnOut hx Bd.returns (hH p18_1_32) hr)
 subst hE0
 refine ⟨_, _, hrun0, hrun, hended, _, _, rfl, ?_, ⟨_, rfl⟩, hW, hsame.mono (by decide) (by decide)⟩
 show QrmCl Z a h0 n0 _ TLQ.heap _
 rw [eLT]
 exact ⟨rfl, NLW, K0⟩
def QrmEl (Z : State) (a : Addr) (b : Addr) (h0 : Heap) (n0 : Nat) (vQ : Option Value) (hQ : Heap) (LQ : List Loc) : Prop := vQ = none ∧ Fr n0 LQ ∧ Keep h0 hQ [a]
theorem ef_rmEl (m : MethodId) (a : Addr) (b : Addr) : entryFrame m #[(.ref a), (.ref b)] 2 = mkF m 0 #[vr a, vr b] [] := by first | (simp [entryFrame, mkF, argsToLocals, Value.category]; done) | rfl
abbrev xa6 (Z : State) (h : Heap) (a : Addr) : Prop := Exa Z h a "com/example/netloom/netloom/embed/BasisFactor$Elimination"
abbrev mn7 : MethodName := ⟨"com/example/netloom/netloom/embed/BasisFactor$Elimination", "<init>", "(Lcom/example/netloom/netloom/embed/BasisFactor;)V"⟩
theorem pn_com_example_netloom_netloom_embed_BasisFactor_Elimination : plainName "com/example/netloom/netloom/embed/BasisFactor$Elimination" = true := by first | (simp [plainName, overriddenIn]; done) | decide +kernel
theorem p19_1_0 : decode prog_19_method_1_code 0 = .ok (.aload_n 0, 1) := by decide +kernel
theorem p19_1_1 : decode prog_19_method_1_code 1 = .ok (.aload_n 1, 1) := by decide +kernel
theorem p19_1_2 : decode prog_19_method_1_code 2 = .ok (.putfield 3, 3) := by decide +kernel
def tw121 {Z a0} (hw : HW Z a0) := hw _ (List.mem_of_getElem? (i := 121) rfl)
def tw116 {Z a0} (hw : HW Z a0) := hw _ (List.mem_of_getElem? (i := 116) rfl)
def tw122 {Z a0} (hw : HW Z a0) := hw _ (List.mem_of_getElem? (i := 122) rfl)
theorem p19_1_5 : decode prog_19_method_1_code 5 = .ok (.aload_n 0, 1) := by decide +kernel
theorem p19_1_6 : decode prog_19_method_1_code 6 = .ok (.invokespecial 9, 3) := by decide +kernel
def tw123 {Z a0} (hw : HW Z a0) := hw _ (List.mem_of_getElem? (i := 123) rfl)
theorem p19_1_9 : decode prog_19_method_1_code 9 = .ok (.aload_n 0, 1) := by decide +kernel
theorem p19_1_10 : decode prog_19_method_1_code 10 = .ok (.new 15, 3) := by decide +kernel
def tw124 {Z a0} (hw : HW Z a0) := hw _ (List.mem_of_getElem? (i := 124) rfl)
def tw82 {Z a0} (hw : HW Z a0) := hw _ (List.mem_of_getElem? (i := 82) rfl)
theorem p19_1_13 : decode prog_19_method_1_code 13 = .ok (.dup, 1) := by decide +kernel
theorem p19_1_14 : decode prog_19_method_1_code 14 = .ok (.invokespecial 17, 3) := by decide +kernel
def tw125 {Z a0} (hw : HW Z a0) := hw _ (List.mem_of_getElem? (i := 125) rfl)
def tw85 {Z a0} (hw : HW Z a0) := hw _ (List.mem_of_getElem? (i := 85) rfl)
theorem pd_8 : parseMethodDescriptor "()V" = some ⟨[], none⟩ := by decide +kernel
def tw84 {Z a0} (hw : HW Z a0) := hw _ (List.mem_of_getElem? (i := 84) rfl)
theorem p19_1_17 : decode prog_19_method_1_code 17 = .ok (.putfield 18, 3) := by decide +kernel
def tw126 {Z a0} (hw : HW Z a0) := hw _ (List.mem_of_getElem? (i := 126) rfl)
def tw127 {Z a0} (hw : HW Z a0) := hw _ (List.mem_of_getElem? (i := 127) rfl)
theorem p19_1_20 : decode prog_19_method_1_code 20 = .ok (.aload_n 0, 1) := by decide +kernel
theorem p19_1_21 : decode prog_19_method_1_code 21 = .ok (.iconst 0, 1) := by decide +kernel
theorem p19_1_22 : decode prog_19_method_1_code 22 = .ok (.anewarray 22, 3) := by decide +kernel
def tw128 {Z a0} (hw : HW Z a0) := hw _ (List.mem_of_getElem? (i := 128) rfl)
theorem p19_1_25 : decode prog_19_method_1_code 25 = .ok (.putfield 24, 3) := by decide +kernel
def tw129 {Z a0} (hw : HW Z a0) := hw _ (List.mem_of_getElem? (i := 129) rfl)
def tw130 {Z a0} (hw : HW Z a0) := hw _ (List.mem_of_getElem? (i := 130) rfl)
theorem p19_1_28 : decode prog_19_method_1_code 28 = .ok (.aload_n 0, 1) := by decide +kernel
theorem p19_1_29 : decode prog_19_method_1_code 29 = .ok (.iconst 0, 1) := by decide +kernel
theorem p19_1_30 : decode prog_19_method_1_code 30 = .ok (.newarray .int, 2) := by decide +kernel
theorem p19_1_32 : decode prog_19_method_1_code 32 = .ok (.putfield 28, 3) := by decide +kernel
def tw131 {Z a0} (hw : HW Z a0) := hw _ (List.mem_of_getElem? (i := 131) rfl)
def tw132 {Z a0} (hw : HW Z a0) := hw _ (List.mem_of_getElem? (i := 132) rfl)
theorem p19_1_35 : decode prog_19_method_1_code 35 = .ok (.aload_n 0, 1) := by decide +kernel
theorem p19_1_36 : decode prog_19_method_1_code 36 = .ok (.iconst 0, 1) := by decide +kernel
theorem p19_1_37 : decode prog_19_method_1_code 37 = .ok (.newarray .int, 2) := by decide +kernel
theorem p19_1_39 : decode prog_19_method_1_code 39 = .ok (.putfield 31, 3) := by decide +kernel
def tw133 {Z a0} (hw : HW Z a0) := hw _ (List.mem_of_getElem? (i := 133) rfl)
def tw134 {Z a0} (hw : HW Z a0) := hw _ (List.mem_of_getElem? (i := 134) rfl)
theorem p19_1_42 : decode prog_19_method_1_code 42 = .ok (.aload_n 0, 1) := by decide +kernel
theorem p19_1_43 : decode prog_19_method_1_code 43 = .ok (.iconst 0, 1) := by decide +kernel
theorem p19_1_44 : decode prog_19_method_1_code 44 = .ok (.newarray .boolean, 2) := by decide +kernel
def tw135 {Z a0} (hw : HW Z a0) := hw _ (List.mem_of_getElem? (i := 135) rfl)
theorem p19_1_46 : decode prog_19_method_1_code 46 = .ok (.putfield 34, 3) := by decide +kernel
def tw136 {Z a0} (hw : HW Z a0) := hw _ (List.mem_of_getElem? (i := 136) rfl)
def tw137 {Z a0} (hw : HW Z a0) := hw _ (List.mem_of_getElem? (i := 137) rfl)
theorem p19_1_49 : decode prog_19_method_1_code 49 = .ok (.aload_n 0, 1) := by decide +kernel
theorem p19_1_50 : decode prog_19_method_1_code 50 = .ok (.new 38, 3) := by decide +kernel
def tw138 {Z a0} (hw : HW Z a0) := hw _ (List.mem_of_getElem? (i := 138) rfl)
def tw140 {Z a0} (hw : HW Z a0) := hw _ (List.mem_of_getElem? (i := 140) rfl)
theorem p19_1_53 : decode prog_19_method_1_code 53 = .ok (.dup, 1) := by decide +kernel
theorem p19_1_54 : decode prog_19_method_1_code 54 = .ok (.invokespecial 40, 3) := by decide +kernel
def tw141 {Z a0} (hw : HW Z a0) := hw _ (List.mem_of_getElem? (i := 141) rfl)
def tw143 {Z a0} (hw : HW Z a0) := hw _ (List.mem_of_getElem? (i := 143) rfl)
def tw142 {Z a0} (hw : HW Z a0) := hw _ (List.mem_of_getElem? (i := 142) rfl)
theorem p19_1_57 : decode prog_19_method_1_code 57 = .ok (.putfield 41, 3) := by decide +kernel
def tw153 {Z a0} (hw : HW Z a0) := hw _ (List.mem_of_getElem? (i := 153) rfl)
def tw154 {Z a0} (hw : HW Z a0) := hw _ (List.mem_of_getElem? (i := 154) rfl)
theorem p19_1_60 : decode prog_19_method_1_code 60 = .ok (.aload_n 0, 1) := by decide +kernel
theorem p19_1_61 : decode prog_19_method_1_code 61 = .ok (.new 38, 3) := by decide +kernel
theorem p19_1_64 : decode prog_19_method_1_code 64 = .ok (.dup, 1) := by decide +kernel
theorem p19_1_65 : decode prog_19_method_1_code 65 = .ok (.invokespecial 40, 3) := by decide +kernel
theorem p19_1_68 : decode prog_19_method_1_code 68 = .ok (.putfield 45, 3) := by decide +kernel
def tw155 {Z a0} (hw : HW Z a0) := hw _ (List.mem_of_getElem? (i := 155) rfl)
def tw156 {Z a0} (hw : HW Z a0) := hw _ (List.mem_of_getElem? (i := 156) rfl)
theorem p19_1_71 : decode prog_19_method_1_code 71 = .ok (.aload_n 0, 1) := by decide +kernel
theorem p19_1_72 : decode prog_19_method_1_code 72 = .ok (.iconst 0, 1) := by decide +kernel
theorem p19_1_73 : decode prog_19_method_1_code 73 = .ok (.newarray .double, 2) := by decide +kernel
theorem p19_1_75 : decode prog_19_method_1_code 75 = .ok (.putfield 48, 3) := by decide +kernel
def tw157 {Z a0} (hw : HW Z a0) := hw _ (List.mem_of_getElem? (i := 157) rfl)
def tw158 {Z a0} (hw : HW Z a0) := hw _ (List.mem_of_getElem? (i := 158) rfl)
theorem p19_1_78 : decode prog_19_method_1_code 78 = .ok (.aload_n 0, 1) := by decide +kernel
theorem p19_1_79 : decode prog_19_method_1_code 79 = .ok (.iconst 0, 1) := by decide +kernel
theorem p19_1_80 : decode prog_19_method_1_code 80 = .ok (.newarray .int, 2) := by decide +kernel
theorem p19_1_82 : decode prog_19_method_1_code 82 = .ok (.putfield 52, 3) := by decide +kernel
def tw159 {Z a0} (hw : HW Z a0) := hw _ (List.mem_of_getElem? (i := 159) rfl)
def tw160 {Z a0} (hw : HW Z a0) := hw _ (List.mem_of_getElem? (i := 160) rfl)
theorem p19_1_85 : decode prog_19_method_1_code 85 = .ok (.aload_n 0, 1) := by decide +kernel
theorem p19_1_86 : decode prog_19_method_1_code 86 = .ok (.iconst 0, 1) := by decide +kernel
theorem p19_1_87 : decode prog_19_method_1_code 87 = .ok (.newarray .int, 2) := by decide +kernel
theorem p19_1_89 : decode prog_19_method_1_code 89 = .ok (.putfield 55, 3) := by decide +kernel
def tw161 {Z a0} (hw : HW Z a0) := hw _ (List.mem_of_getElem? (i := 161) rfl)
def tw162 {Z a0} (hw : HW Z a0) := hw _ (List.mem_of_getElem? (i := 162) rfl)
theorem p19_1_92 : decode prog_19_method_1_code 92 = .ok (.return_, 1) := by decide +kernel
set_option maxRecDepth 65536 in
set_option maxHeartbeats 40000000 in
theorem rmEl (l : Launch) (Z : State) (a0 : Array Value) (hw : ∀ d ∈ tables_1, d.before a0 Z = true) (ws : List Jvm.Cond) (a : Addr) (b : Addr) (h0 : Heap) (n0 : Nat) (Z0 : n0 ≤ h0.size) (E1 : xa6 Z h0 a) (U1 : Unt h0 a) (ge_a : n0 ≤ a) :
  MetFree l mn7 (head1 (Jvm.Cond.code mn7 prog_19_method_1_code 2 none :: ws) ({ frames := 2, cells := 21, slots := 11, locals := 30 } : Room)) (fun aA U => aA = #[(.ref a), (.ref b)] ∧ Z.Warmed39 U.vm ∧ U.heap = h0) (fun _ _ _ _ _ => True) (fun _ U o U' => ∃ vR LR, o = .returned vR ∧ QrmEl Z a b h0 n0 vR U'.heap LR ∧ FrameEnd U o U' LR ({ frames := 2, cells := 21, slots := 11, locals := 30 } : Room).cells ({ frames := 2, cells := 21, slots := 11, locals := 30 } : Room).slots) := by
 refine MetFree.of_bodySF (plainFor_of_name pn_com_example_netloom_netloom_embed_BasisFactor_Elimination) hisR ?_
 intro p e s m args below meth c s₁ Bd hml0 hPre hKk
 obtain ⟨rfl, hZ, hh⟩ := hPre
 have hx := Bd.exec
 have hby := Bd.bytes
 have hH : ∀ {pc r}, decode prog_19_method_1_code pc = r → decode c.code pc = r := fun q => hb hby q
 have hml : c.maxLocals = 2 := hml0
 have hown : s.vm.findClass "com/example/netloom/netloom/embed/BasisFactor$Elimination" = some m.cls := findClass_of_methodNamed Bd.named
 have hnm := (name_of_methodNamed Bd.named Bd.method).1
 have X0 : Stand p l e ({ frames := 2, cells := 21, slots := 11, locals := 30 } : Room) s m #[(.ref a), (.ref b)] below meth c s₁ [] 0 0 := Stand.of_body Bd
 have e0 : s₁.heap = h0 := by rw [← hh, Bd.state]; rfl
 have N0 := Fr.nil n0
 obtain ⟨E0, hE0⟩ : ∃ zE : State, zE = s₁.setTop (entryFrame m #[(.ref a), (.ref b)] 2) := ⟨_, rfl⟩
 have k0 : own_G p e below E0 s₁ (mkF m 0 #[vr a, vr b] []) := fun tz kz => hE0 ▸ castTop (ef_rmEl m a b) kz
 have K0 : Keep h0 h0 [a] := Keep.refl _ _
 have kJ0 : own_G p e below E0 s₁ (mkF m 2 #[vr a, vr b] [(.ref b), (.ref a)]) := by
  intro tQ kk
  refine k0 tQ ?_
  refine XS.aloadN X0.here hx rfl (hH p19_1_0) rfl rfl ?_
  refine XS.aloadN X0.here hx rfl (hH p19_1_1) rfl rfl ?_
  exact kk
 clear k0
 obtain ⟨voJ1, FJ2⟩ := fld_laid E1 (Unt.known U1) (tw116 hw) (Or.inr (tw122 hw))
 obtain ⟨TJ3, hJ4, XJ5, eJ6, WJ7, stJ8⟩ := putF X0 hx hZ hown (host := "") (Or.inl (tw121 hw)) Via.refl e0 FJ2 E1 (Or.inr ⟨(tw122 hw), rfl, hnm⟩) (tw116 hw) (ty := (.object "com/example/netloom/netloom/embed/BasisFactor")) (by decide) rfl rfl (g := (mkF m 2 #[vr a, vr b] [(.ref b), (.ref a)])) rfl rfl (hH p19_1_2)
 have NJ9 := Fr.snoc XJ5 N0 ge_a
 have kJA : own_G p e below E0 TJ3 (mkF m 5 #[vr a, vr b] []) := fun tQ kk => kJ0 tQ (stJ8 _ kk)
 clear kJ0 stJ8
 replace E1 := E1.wr WJ7
 replace U1 := U1.wr WJ7
 replace Z0 := own_wrle WJ7 Z0
 replace K0 := K0.wr WJ7 (Or.inl (List.mem_of_getElem? (i := 0) rfl))
 have kJB : own_G p e below E0 TJ3 (mkF m 6 #[vr a, vr b] [(.ref a)]) := by
  intro tQ kk
  refine kJA tQ ?_
  refine XS.aloadN XJ5.here hx rfl (hH p19_1_5) rfl rfl ?_
  exact kk
 clear kJA
 obtain ⟨TJC, XJD, eJE, stJF⟩ := initO XJ5 hx hZ hown (tw123 hw) (tw14 hw) (tw15 hw) eJ6 (g := (mkF m 6 #[vr a, vr b] [(.ref a)])) rfl (by rw [hml]; rfl) rfl (hH p19_1_6) (by decide) (W := 0) (by show 2 * 0 + _ ≤ _; exact Nat.le_of_eq rfl) (by decide)
 have kJG : own_G p e below E0 TJC (mkF m 9 #[vr a, vr b] []) := fun tQ kk => kJB tQ (stJF _ kk)
 clear kJB stJF
 have kJH : own_G p e below E0 TJC (mkF m 10 #[vr a, vr b] [(.ref a)]) := by
  intro tQ kk
  refine kJG tQ ?_
  refine XS.aloadN XJD.here hx rfl (hH p19_1_9) rfl rfl ?_
  exact kk
 clear kJG
 obtain ⟨TJI, hJJ, XJK, eJL, EJM, AJN, DJO, UnJS, stJP⟩ := newO XJD hx hZ hown (tw124 hw) (tw81 hw) (tw82 hw) eJE (g := (mkF m 10 #[vr a, vr b] [(.ref a)])) rfl (hH p19_1_10) (by decide) (by decide)
 obtain ⟨aJQ, gJR⟩ : ∃ zA : Nat, zA = hJ4.size := ⟨_, rfl⟩
 rw [← gJR] at AJN DJO stJP UnJS
 have nJT := own_lt_ne E1.lt gJR
 have nwJU : h0.size ≤ aJQ := own_ge_of K0.1 gJR
 have geJV : n0 ≤ aJQ := own_ge_of Z0 gJR
 replace Z0 := Nat.le_trans Z0 EJM.1
 replace E1 := E1.ext EJM
 replace U1 := U1.ext EJM
 replace K0 := K0.ext EJM
 have UnJW : Unt hJJ aJQ := UnJS
 have kJX : own_G p e below E0 TJI (mkF m 13 #[vr a, vr b] [(.ref aJQ), (.ref a)]) := fun tQ kk => kJH tQ (stJP _ kk)
 clear kJH stJP
 have kJY : own_G p e below E0 TJI (mkF m 14 #[vr a, vr b] [(.ref aJQ), (.ref aJQ), (.ref a)]) := by
  intro tQ kk
  refine kJX tQ ?_
  refine XS.dup XJK.here hx rfl (hH p19_1_13) rfl rfl ?_
  exact kk
 clear kJX
 obtain ⟨_, _, ⟨TJZ, LK0, kcK1, ncK2⟩, -, XK3, ⟨LcK4, hQK5, lK6, yK7, zK8⟩, stK9⟩ := XJK.specialBackNest hx (y := mn3) rfl hown (own_mvNest hZ (tw125 hw)) (mvT hZ (tw84 hw)) (mvT hZ (tw85 hw)) (by decide) (backOf (W := 2) (rmEn l Z a0 hw [] aJQ hJJ n0 Z0 AJN UnJW geJV) hZ (tw85 hw) (tw82 hw) (by decide) (by decide)) (g := (mkF m 14 #[vr a, vr b] [(.ref aJQ), (.ref aJQ), (.ref a)])) rfl (by rw [hml]; rfl) (Steps.refl _) (a := aJQ) (argsL := []) (rest := [(.ref aJQ), (.ref a)]) (lenOf pd_8 rfl) rfl (by show 2 * 0 + _ ≤ _; exact Nat.le_of_eq rfl) (hH p19_1_14) (fun _ _ => ⟨rfl, eJL, (by decide : 1 + 3 ≤ _), (by decide : 3 + 0 ≤ _)⟩)
 dsimp only [Pt.U, Pt.locs, Pt.cells, Pt.slots] at XK3 lK6 yK7 zK8 stK9 hQK5
 subst yK7 zK8
 obtain ⟨rfl, NKA, KKD⟩ := hQK5
 have NKE : Fr n0 LK0 := by rw [lK6]; exact Fr.app NJ9 NKA
 clear lK6 NKA
 replace Z0 := Nat.le_trans Z0 KKD.1
 replace E1 := E1.keep KKD
 replace U1 := U1.keep KKD (ninS nJT nin0)
 replace AJN := AJN.keep KKD
 clear UnJW
 replace K0 := K0.trans KKD (allS (Or.inr nwJU) all0)
 have kKF : own_G p e below E0 TJZ (mkF m 17 #[vr a, vr b] [(.ref aJQ), (.ref a)]) := fun tQ kk => kJY tQ (stK9.trans kk)
 clear kJY stK9
 obtain ⟨voKG, FKH⟩ := fld_laid E1 (Unt.known U1) (tw116 hw) (Or.inr (tw127 hw))
 obtain ⟨TKI, hKJ, XKK, eKL, WKM, stKN⟩ := putF XK3 hx hZ hown (host := "") (Or.inl (tw126 hw)) Via.refl rfl FKH E1 (Or.inr ⟨(tw127 hw), rfl, hnm⟩) (tw116 hw) (ty := (.object "com/example/netloom/netloom/embed/BasisFactor$Entries")) (by decide) rfl rfl (g := (mkF m 17 #[vr a, vr b] [(.ref aJQ), (.ref a)])) rfl rfl (hH p19_1_17)
 have NKO := Fr.snoc XKK NKE ge_a
 have kKP : own_G p e below E0 TKI (mkF m 20 #[vr a, vr b] []) := fun tQ kk => kKF tQ (stKN _ kk)
 clear kKF stKN
 replace E1 := E1.wr WKM
 replace U1 := U1.wr WKM
 replace AJN := AJN.wr WKM
 replace Z0 := own_wrle WKM Z0
 replace K0 := K0.wr WKM (Or.inl (List.mem_of_getElem? (i := 0) rfl))
 have kKQ : own_G p e below E0 TKI (mkF m 22 #[vr a, vr b] [(.int (0 : Int32)), (.ref a)]) := by
  intro tQ kk
  refine kKP tQ ?_
  refine XS.aloadN XKK.here hx rfl (hH p19_1_20) rfl rfl ?_
  refine XS.iconst XKK.here hx rfl (hH p19_1_21) ?_
  exact kk
 clear kKP
 obtain ⟨TKR, hKS, cAKT, XKU, eKV, EKW, -, -, -, stKZ⟩ := newRA (ty := .int) XKK hx hZ hown rfl (tw128 hw) (tw88 hw) eKL (g := (mkF m 22 #[vr a, vr b] [(.int (0 : Int32)), (.ref a)])) rfl (hH p19_1_22) rfl (by decide) (cap := 0) (by decide) (by decide) (by decide) (by decide) rfl
 obtain ⟨aL0, gL1⟩ : ∃ zA : Nat, zA = hKJ.size := ⟨_, rfl⟩
 rw [← gL1] at stKZ
 have nL2 := own_lt_ne E1.lt gL1
 have nL3 := own_lt_ne AJN.lt gL1
 have nwL4 : h0.size ≤ aL0 := own_ge_of K0.1 gL1
 have geL5 : n0 ≤ aL0 := own_ge_of Z0 gL1
 replace Z0 := Nat.le_trans Z0 EKW.1
 replace E1 := E1.ext EKW
 replace U1 := U1.ext EKW
 replace AJN := AJN.ext EKW
 replace K0 := K0.ext EKW
 have kL6 : own_G p e below E0 TKR (mkF m 25 #[vr a, vr b] [(.ref aL0), (.ref a)]) := fun tQ kk => kKQ tQ (stKZ _ kk)
 clear kKQ stKZ
 obtain ⟨voL7, FL8⟩ := fld_laid E1 (Unt.known U1) (tw116 hw) (Or.inl (tw130 hw))
 obtain ⟨TL9, hLA, XLB, eLC, WLD, stLE⟩ := putF XKU hx hZ hown (host := "") (Or.inl (tw129 hw)) Via.refl eKV FL8 E1 (Or.inl (tw130 hw)) (tw116 hw) (ty := (.array (.array .int))) (by decide) rfl rfl (g := (mkF m 25 #[vr a, vr b] [(.ref aL0), (.ref a)])) rfl rfl (hH p19_1_25)
 have NLF := Fr.snoc XLB NKO ge_a
 have kLG : own_G p e below E0 TL9 (mkF m 28 #[vr a, vr b] []) := fun tQ kk => kL6 tQ (stLE _ kk)
 clear kL6 stLE
 replace E1 := E1.wr WLD
 replace U1 := U1.wr WLD
 replace AJN := AJN.wr WLD
 replace Z0 := own_wrle WLD Z0
 replace K0 := K0.wr WLD (Or.inl (List.mem_of_getElem? (i := 0) rfl))
 have kLH : own_G p e below E0 TL9 (mkF m 30 #[vr a, vr b] [(.int (0 : Int32)), (.ref a)]) := by
  intro tQ kk
  refine kLG tQ ?_
  refine XS.aloadN XLB.here hx rfl (hH p19_1_28) rfl rfl ?_
  refine XS.iconst XLB.here hx rfl (hH p19_1_29) ?_
  exact kk
 clear kLG
 obtain ⟨TLI, hLJ, cALK, XLL, eLM, ELN, ALO, stLP⟩ := newP (aty := .int) XLB hx hZ (tw5 hw) eLC (g := (mkF m 30 #[vr a, vr b] [(.int (0 : Int32)), (.ref a)])) rfl (hH p19_1_30) rfl (by decide) (cap := 0) (by decide) (by decide) (by decide) (by decide)
 obtain ⟨aLQ, gLR⟩ : ∃ zA : Nat, zA = hLA.size := ⟨_, rfl⟩
 rw [← gLR] at ALO stLP
 have nLS := own_lt_ne E1.lt gLR
 have nLT := own_lt_ne AJN.lt gLR
 have nwLU : h0.size ≤ aLQ := own_ge_of K0.1 gLR
 have geLV : n0 ≤ aLQ := own_ge_of Z0 gLR
 replace Z0 := Nat.le_trans Z0 ELN.1
 replace E1 := E1.ext ELN
 replace U1 := U1.ext ELN
 replace AJN := AJN.ext ELN
 replace K0 := K0.ext ELN
 have kLW : own_G p e below E0 TLI (mkF m 32 #[vr a, vr b] [(.ref aLQ), (.ref a)]) := fun tQ kk => kLH tQ (stLP _ kk)
 clear kLH stLP
 obtain ⟨voLX, FLY⟩ := fld_laid E1 (Unt.known U1) (tw116 hw) (Or.inl (tw132 hw))
 obtain ⟨TLZ, hM0, XM1, eM2, WM3, stM4⟩ := putF XLL hx hZ hown (host := "") (Or.inl (tw131 hw)) Via.refl eLM FLY E1 (Or.inl (tw132 hw)) (tw116 hw) (ty := (.array .int)) (by decide) rfl rfl (g := (mkF m 32 #[vr a, vr b] [(.ref aLQ), (.ref a)])) rfl rfl (hH p19_1_32)
 have NM5 := Fr.snoc XM1 NLF ge_a
 have kM6 : own_G p e below E0 TLZ (mkF m 35 #[vr a, vr b] []) := fun tQ kk => kLW tQ (stM4 _ kk)
 clear kLW stM4
 replace E1 := E1.wr WM3
 replace U1 := U1.wr WM3
 replace AJN := AJN.wr WM3
 replace Z0 := own_wrle WM3 Z0
 replace K0 := K0.wr WM3 (Or.inl (List.mem_of_getElem? (i := 0) rfl))
 have kM7 : own_G p e below E0 TLZ (mkF m 37 #[vr a, vr b] [(.int (0 : Int32)), (.ref a)]) := by
  intro tQ kk
  refine kM6 tQ ?_
  refine XS.aloadN XM1.here hx rfl (hH p19_1_35) rfl rfl ?_
  refine XS.iconst XM1.here hx rfl (hH p19_1_36) ?_
  exact kk
 clear kM6
 obtain ⟨TM8, hM9, cAMA, XMB, eMC, EMD, AME, stMF⟩ := newP (aty := .int) XM1 hx hZ (tw5 hw) eM2 (g := (mkF m 37 #[vr a, vr b] [(.int (0 : Int32)), (.ref a)])) rfl (hH p19_1_37) rfl (by decide) (cap := 0) (by decide) (by decide) (by decide) (by decide)
 obtain ⟨aMG, gMH⟩ : ∃ zA : Nat, zA = hM0.size := ⟨_, rfl⟩
 rw [← gMH] at AME stMF
 have nMI := own_lt_ne E1.lt gMH
 have nMJ := own_lt_ne AJN.lt gMH
 have nwMK : h0.size ≤ aMG := own_ge_of K0.1 gMH
 have geML : n0 ≤ aMG := own_ge_of Z0 gMH
 replace Z0 := Nat.le_trans Z0 EMD.1
 replace E1 := E1.ext EMD
 replace U1 := U1.ext EMD
 replace AJN := AJN.ext EMD
 replace K0 := K0.ext EMD
 have kMM : own_G p e below E0 TM8 (mkF m 39 #[vr a, vr b] [(.ref aMG), (.ref a)]) := fun tQ kk => kM7 tQ (stMF _ kk)
 clear kM7 stMF
 obtain ⟨voMN, FMO⟩ := fld_laid E1 (Unt.known U1) (tw116 hw) (Or.inl (tw134 hw))
 obtain ⟨TMP, hMQ, XMR, eMS, WMT, stMU⟩ := putF XMB hx hZ hown (host := "") (Or.inl (tw133 hw)) Via.refl eMC FMO E1 (Or.inl (tw134 hw)) (tw116 hw) (ty := (.array .int)) (by decide) rfl rfl (g := (mkF m 39 #[vr a, vr b] [(.ref aMG), (.ref a)])) rfl rfl (hH p19_1_39)
 have NMV := Fr.snoc XMR NM5 ge_a
 have kMW : own_G p e below E0 TMP (mkF m 42 #[vr a, vr b] []) := fun tQ kk => kMM tQ (stMU _ kk)
 clear kMM stMU
 replace E1 := E1.wr WMT
 replace U1 := U1.wr WMT
 replace AJN := AJN.wr WMT
 replace Z0 := own_wrle WMT Z0
 replace K0 := K0.wr WMT (Or.inl (List.mem_of_getElem? (i := 0) rfl))
 have kMX : own_G p e below E0 TMP (mkF m 44 #[vr a, vr b] [(.int (0 : Int32)), (.ref a)]) := by
  intro tQ kk
  refine kMW tQ ?_
  refine XS.aloadN XMR.here hx rfl (hH p19_1_42) rfl rfl ?_
  refine XS.iconst XMR.here hx rfl (hH p19_1_43) ?_
  exact kk
 clear kMW
 obtain ⟨TMY, hMZ, cAN0, XN1, eN2, EN3, AN4, stN5⟩ := newP (aty := .boolean) XMR hx hZ (tw135 hw) eMS (g := (mkF m 44 #[vr a, vr b] [(.int (0 : Int32)), (.ref a)])) rfl (hH p19_1_44) rfl (by decide) (cap := 0) (by decide) (by decide) (by decide) (by decide)
 obtain ⟨aN6, gN7⟩ : ∃ zA : Nat, zA = hMQ.size := ⟨_, rfl⟩
 rw [← gN7] at AN4 stN5
 have nN8 := own_lt_ne E1.lt gN7
 have nN9 := own_lt_ne AJN.lt gN7
 have nwNA : h0.size ≤ aN6 := own_ge_of K0.1 gN7
 have geNB : n0 ≤ aN6 := own_ge_of Z0 gN7
 replace Z0 := Nat.le_trans Z0 EN3.1
 replace E1 := E1.ext EN3
 replace U1 := U1.ext EN3
 replace AJN := AJN.ext EN3
 replace K0 := K0.ext EN3
 have kNC : own_G p e below E0 TMY (mkF m 46 #[vr a, vr b] [(.ref aN6), (.ref a)]) := fun tQ kk => kMX tQ (stN5 _ kk)
 clear kMX stN5
 obtain ⟨voND, FNE⟩ := fld_laid E1 (Unt.known U1) (tw116 hw) (Or.inl (tw137 hw))
 obtain ⟨TNF, hNG, XNH, eNI, WNJ, stNK⟩ := putF XN1 hx hZ hown (host := "") (Or.inl (tw136 hw)) Via.refl eN2 FNE E1 (Or.inl (tw137 hw)) (tw116 hw) (ty := (.array .boolean)) (by decide) rfl rfl (g := (mkF m 46 #[vr a, vr b] [(.ref aN6), (.ref a)])) rfl rfl (hH p19_1_46)
 have NNL := Fr.snoc XNH NMV ge_a
 have kNM : own_G p e below E0 TNF (mkF m 49 #[vr a, vr b] []) := fun tQ kk => kNC tQ (stNK _ kk)
 clear kNC stNK
 replace E1 := E1.wr WNJ
 replace U1 := U1.wr WNJ
 replace AJN := AJN.wr WNJ
 replace Z0 := own_wrle WNJ Z0
 replace K0 := K0.wr WNJ (Or.inl (List.mem_of_getElem? (i := 0) rfl))
 have kNN : own_G p e below E0 TNF (mkF m 50 #[vr a, vr b] [(.ref a)]) := by
  intro tQ kk
  refine kNM tQ ?_
  refine XS.aloadN XNH.here hx rfl (hH p19_1_49) rfl rfl ?_
  exact kk
 clear kNM
 obtain ⟨TNO, hNP, XNQ, eNR, ENS, ANT, DNU, UnNY, stNV⟩ := newO XNH hx hZ hown (tw138 hw) (tw139 hw) (tw140 hw) eNI (g := (mkF m 50 #[vr a, vr b] [(.ref a)])) rfl (hH p19_1_50) (by decide) (by decide)
 obtain ⟨aNW, gNX⟩ : ∃ zA : Nat, zA = hNG.size := ⟨_, rfl⟩
 rw [← gNX] at ANT DNU stNV UnNY
 have nNZ := own_lt_ne E1.lt gNX
 have nP0 := own_lt_ne AJN.lt gNX
 have nwP1 : h0.size ≤ aNW := own_ge_of K0.1 gNX
 have geP2 : n0 ≤ aNW := own_ge_of Z0 gNX
 replace Z0 := Nat.le_trans Z0 ENS.1
 replace E1 := E1.ext ENS
 replace U1 := U1.ext ENS
 replace AJN := AJN.ext ENS
 replace K0 := K0.ext ENS
 have UnP3 : Unt hNP aNW := UnNY
 have kP4 : own_G p e below E0 TNO (mkF m 53 #[vr a, vr b] [(.ref aNW), (.ref a)]) := fun tQ kk => kNN tQ (stNV _ kk)
 clear kNN stNV
 have kP5 : own_G p e below E0 TNO (mkF m 54 #[vr a, vr b] [(.ref aNW), (.ref aNW), (.ref a)]) := by
  intro tQ kk
  refine kP4 tQ ?_
  refine XS.dup XNQ.here hx rfl (hH p19_1_53) rfl rfl ?_
  exact kk
 clear kP4
 obtain ⟨_, _, ⟨TP6, LP7, kcP8, ncP9⟩, -, XPA, ⟨LcPB, hQPC, lPD, yPE, zPF⟩, stPG⟩ := XNQ.specialBackNest hx (y := mn5) rfl hown (own_mvNest hZ (tw141 hw)) (mvT hZ (tw142 hw)) (mvT hZ (tw143 hw)) (by decide) (backOf (W := 2) (rmCl l Z a0 hw [] aNW hNP n0 Z0 ANT UnP3 geP2) hZ (tw143 hw) (tw140 hw) (by decide) (by decide)) (g := (mkF m 54 #[vr a, vr b] [(.ref aNW), (.ref aNW), (.ref a)])) rfl (by rw [hml]; rfl) (Steps.refl _) (a := aNW) (argsL := []) (rest := [(.ref aNW), (.ref a)]) (lenOf pd_8 rfl) rfl (by show 2 * 0 + _ ≤ _; exact Nat.le_of_eq rfl) (hH p19_1_54) (fun _ _ => ⟨rfl, eNR, (by decide : 9 + 4 ≤ _), (by decide : 7 + 0 ≤ _)⟩)
 dsimp only [Pt.U, Pt.locs, Pt.cells, Pt.slots] at XPA lPD yPE zPF stPG hQPC
 subst yPE zPF
 obtain ⟨rfl, NPH, KPK⟩ := hQPC
 have NPL : Fr n0 LP7 := by rw [lPD]; exact Fr.app NNL NPH
 clear lPD NPH
 replace Z0 := Nat.le_trans Z0 KPK.1
 replace E1 := E1.keep KPK
 replace U1 := U1.keep KPK (ninS nNZ nin0)
 replace AJN := AJN.keep KPK
 replace ANT := ANT.keep KPK
 clear UnP3
 replace K0 := K0.trans KPK (allS (Or.inr nwP1) all0)
 have kPM : own_G p e below E0 TP6 (mkF m 57 #[vr a, vr b] [(.ref aNW), (.ref a)]) := fun tQ kk => kP5 tQ (stPG.trans kk)
 clear kP5 stPG
 obtain ⟨voPN, FPO⟩ := fld_laid E1 (Unt.known U1) (tw116 hw) (Or.inr (tw154 hw))
 obtain ⟨TPP, hPQ, XPR, ePS, WPT, stPU⟩ := putF XPA hx hZ hown (host := "") (Or.inl (tw153 hw)) Via.refl rfl FPO E1 (Or.inr ⟨(tw154 hw), rfl, hnm⟩) (tw116 hw) (ty := (.object "com/example/netloom/netloom/embed/BasisFactor$CountLists")) (by decide) rfl rfl (g := (mkF m 57 #[vr a, vr b] [(.ref aNW), (.ref a)])) rfl rfl (hH p19_1_57)
 have NPV := Fr.snoc XPR NPL ge_a
 have kPW : own_G p e below E0 TPP (mkF m 60 #[vr a, vr b] []) := fun tQ kk => kPM tQ (stPU _ kk)
 clear kPM stPU
 replace E1 := E1.wr WPT
 replace U1 := U1.wr WPT
 replace AJN := AJN.wr WPT
 replace ANT := ANT.wr WPT
 replace Z0 := own_wrle WPT Z0
 replace K0 := K0.wr WPT (Or.inl (List.mem_of_getElem? (i := 0) rfl))
 have kPX : own_G p e below E0 TPP (mkF m 61 #[vr a, vr b] [(.ref a)]) := by
  intro tQ kk
  refine kPW tQ ?_
  refine XS.aloadN XPR.here hx rfl (hH p19_1_60) rfl rfl ?_
  exact kk
 clear kPW
 obtain ⟨TPY, hPZ, XQ0, eQ1, EQ2, AQ3, DQ4, UnQ8, stQ5⟩ := newO XPR hx hZ hown (tw138 hw) (tw139 hw) (tw140 hw) ePS (g := (mkF m 61 #[vr a, vr b] [(.ref a)])) rfl (hH p19_1_61) (by decide) (by decide)
 obtain ⟨aQ6, gQ7⟩ : ∃ zA : Nat, zA = hPQ.size := ⟨_, rfl⟩
 rw [← gQ7] at AQ3 DQ4 stQ5 UnQ8
 have nQ9 := own_lt_ne E1.lt gQ7
 have nQA := own_lt_ne AJN.lt gQ7
 have nQB := own_lt_ne ANT.lt gQ7
 have nwQC : h0.size ≤ aQ6 := own_ge_of K0.1 gQ7
 have geQD : n0 ≤ aQ6 := own_ge_of Z0 gQ7
 replace Z0 := Nat.le_trans Z0 EQ2.1
 replace E1 := E1.ext EQ2
 replace U1 := U1.ext EQ2
 replace AJN := AJN.ext EQ2
 replace ANT := ANT.ext EQ2
 replace K0 := K0.ext EQ2
 have UnQE : Unt hPZ aQ6 := UnQ8
 have kQF : own_G p e below E0 TPY (mkF m 64 #[vr a, vr b] [(.ref aQ6), (.ref a)]) := fun tQ kk => kPX tQ (stQ5 _ kk)
 clear kPX stQ5
 have kQG : own_G p e below E0 TPY (mkF m 65 #[vr a, vr b] [(.ref aQ6), (.ref aQ6), (.ref a)]) := by
  intro tQ kk
  refine kQF tQ ?_
  refine XS.dup XQ0.here hx rfl (hH p19_1_64) rfl rfl ?_
  exact kk
 clear kQF
 obtain ⟨_, _, ⟨TQH, LQI, kcQJ, ncQK⟩, -, XQL, ⟨LcQM, hQQN, lQO, yQP, zQQ⟩, stQR⟩ := XQ0.specialBackNest hx (y := mn5) rfl hown (own_mvNest hZ (tw141 hw)) (mvT hZ (tw142 hw)) (mvT hZ (tw143 hw)) (by decide) (backOf (W := 2) (rmCl l Z a0 hw [] aQ6 hPZ n0 Z0 AQ3 UnQE geQD) hZ (tw143 hw) (tw140 hw) (by decide) (by decide)) (g := (mkF m 65 #[vr a, vr b] [(.ref aQ6), (.ref aQ6), (.ref a)])) rfl (by rw [hml]; rfl) (Steps.refl _) (a := aQ6) (argsL := []) (rest := [(.ref aQ6), (.ref a)]) (lenOf pd_8 rfl) rfl (by show 2 * 0 + _ ≤ _; exact Nat.le_of_eq rfl) (hH p19_1_65) (fun _ _ => ⟨rfl, eQ1, (by decide : 14 + 4 ≤ _), (by decide : 11 + 0 ≤ _)⟩)
 dsimp only [Pt.U, Pt.locs, Pt.cells, Pt.slots] at XQL lQO yQP zQQ stQR hQQN
 subst yQP zQQ
 obtain ⟨rfl, NQS, KQV⟩ := hQQN
 have NQW : Fr n0 LQI := by rw [lQO]; exact Fr.app NPV NQS
 clear lQO NQS
 replace Z0 := Nat.le_trans Z0 KQV.1
 replace E1 := E1.keep KQV
 replace U1 := U1.keep KQV (ninS nQ9 nin0)
 replace AJN := AJN.keep KQV
 replace ANT := ANT.keep KQV
 replace AQ3 := AQ3.keep KQV
 clear UnQE
 replace K0 := K0.trans KQV (allS (Or.inr nwQC) all0)
 have kQX : own_G p e below E0 TQH (mkF m 68 #[vr a, vr b] [(.ref aQ6), (.ref a)]) := fun tQ kk => kQG tQ (stQR.trans kk)
 clear kQG stQR
 obtain ⟨voQY, FQZ⟩ := fld_laid E1 (Unt.known U1) (tw116 hw) (Or.inr (tw156 hw))
 obtain ⟨TR0, hR1, XR2, eR3, WR4, stR5⟩ := putF XQL hx hZ hown (host := "") (Or.inl (tw155 hw)) Via.refl rfl FQZ E1 (Or.inr ⟨(tw156 hw), rfl, hnm⟩) (tw116 hw) (ty := (.object "com/example/netloom/netloom/embed/BasisFactor$CountLists")) (by decide) rfl rfl (g := (mkF m 68 #[vr a, vr b] [(.ref aQ6), (.ref a)])) rfl rfl (hH p19_1_68)
 have NR6 := Fr.snoc XR2 NQW ge_a
 have kR7 : own_G p e below E0 TR0 (mkF m 71 #[vr a, vr b] []) := fun tQ kk => kQX tQ (stR5 _ kk)
 clear kQX stR5
 replace E1 := E1.wr WR4
 replace U1 := U1.wr WR4
 replace AJN := AJN.wr WR4
 replace ANT := ANT.wr WR4
 replace AQ3 := AQ3.wr WR4
 replace Z0 := own_wrle WR4 Z0
 replace K0 := K0.wr WR4 (Or.inl (List.mem_of_getElem? (i := 0) rfl))
 have kR8 : own_G p e below E0 TR0 (mkF m 73 #[vr a, vr b] [(.int (0 : Int32)), (.ref a)]) := by
  intro tQ kk
  refine kR7 tQ ?_
  refine XS.aloadN XR2.here hx rfl (hH p19_1_71) rfl rfl ?_
  refine XS.iconst XR2.here hx rfl (hH p19_1_72) ?_
  exact kk
 clear kR7
 obtain ⟨TR9, hRA, cARB, XRC, eRD, ERE, ARF, stRG⟩ := newP (aty := .double) XR2 hx hZ (tw6 hw) eR3 (g := (mkF m 73 #[vr a, vr b] [(.int (0 : Int32)), (.ref a)])) rfl (hH p19_1_73) rfl (by decide) (cap := 0) (by decide) (by decide) (by decide) (by decide)
 obtain ⟨aRH, gRI⟩ : ∃ zA : Nat, zA = hR1.size := ⟨_, rfl⟩
 rw [← gRI] at ARF stRG
 have nRJ := own_lt_ne E1.lt gRI
 have nRK := own_lt_ne AJN.lt gRI
 have nRL := own_lt_ne ANT.lt gRI
 have nRM := own_lt_ne AQ3.lt gRI
 have nwRN : h0.size ≤ aRH := own_ge_of K0.1 gRI
 have geRO : n0 ≤ aRH := own_ge_of Z0 gRI
 replace Z0 := Nat.le_trans Z0 ERE.1
 replace E1 := E1.ext ERE
 replace U1 := U1.ext ERE
 replace AJN := AJN.ext ERE
 replace ANT := ANT.ext ERE
 replace AQ3 := AQ3.ext ERE
 replace K0 := K0.ext ERE
 have kRP : own_G p e below E0 TR9 (mkF m 75 #[vr a, vr b] [(.ref aRH), (.ref a)]) := fun tQ kk => kR8 tQ (stRG _ kk)
 clear kR8 stRG
 obtain ⟨voRQ, FRR⟩ := fld_laid E1 (Unt.known U1) (tw116 hw) (Or.inl (tw158 hw))
 obtain ⟨TRS, hRT, XRU, eRV, WRW, stRX⟩ := putF XRC hx hZ hown (host := "") (Or.inl (tw157 hw)) Via.refl eRD FRR E1 (Or.inl (tw158 hw)) (tw116 hw) (ty := (.array .double)) (by decide) rfl rfl (g := (mkF m 75 #[vr a, vr b] [(.ref aRH), (.ref a)])) rfl rfl (hH p19_1_75)
 have NRY := Fr.snoc XRU NR6 ge_a
 have kRZ : own_G p e below E0 TRS (mkF m 78 #[vr a, vr b] []) := fun tQ kk => kRP tQ (stRX _ kk)
 clear kRP stRX
 replace E1 := E1.wr WRW
 replace U1 := U1.wr WRW
 replace AJN := AJN.wr WRW
 replace ANT := ANT.wr WRW
 replace AQ3 := AQ3.wr WRW
 replace Z0 := own_wrle WRW Z0
 replace K0 := K0.wr WRW (Or.inl (List.mem_of_getElem? (i := 0) rfl))
 have kS0 : own_G p e below E0 TRS (mkF m 80 #[vr a, vr b] [(.int (0 : Int32)), (.ref a)]) := by
  intro tQ kk
  refine kRZ tQ ?_
  refine XS.aloadN XRU.here hx rfl (hH p19_1_78) rfl rfl ?_
  refine XS.iconst XRU.here hx rfl (hH p19_1_79) ?_
  exact kk
 clear kRZ
 obtain ⟨TS1, hS2, cAS3, XS4, eS5, ES6, AS7, stS8⟩ := newP (aty := .int) XRU hx hZ (tw5 hw) eRV (g := (mkF m 80 #[vr a, vr b] [(.int (0 : Int32)), (.ref a)])) rfl (hH p19_1_80) rfl (by decide) (cap := 0) (by decide) (by decide) (by decide) (by decide)
 obtain ⟨aS9, gSA⟩ : ∃ zA : Nat, zA = hRT.size := ⟨_, rfl⟩
 rw [← gSA] at AS7 stS8
 have nSB := own_lt_ne E1.lt gSA
 have nSC := own_lt_ne AJN.lt gSA
 have nSD := own_lt_ne ANT.lt gSA
 have nSE := own_lt_ne AQ3.lt gSA
 have nwSF : h0.size ≤ aS9 := own_ge_of K0.1 gSA
 have geSG : n0 ≤ aS9 := own_ge_of Z0 gSA
 replace Z0 := Nat.le_trans Z0 ES6.1
 replace E1 := E1.ext ES6
 replace U1 := U1.ext ES6
 replace AJN := AJN.ext ES6
 replace ANT := ANT.ext ES6
 replace AQ3 := AQ3.ext ES6
 replace K0 := K0.ext ES6
 have kSH : own_G p e below E0 TS1 (mkF m 82 #[vr a, vr b] [(.ref aS9), (.ref a)]) := fun tQ kk => kS0 tQ (stS8 _ kk)
 clear kS0 stS8
 obtain ⟨voSI, FSJ⟩ := fld_laid E1 (Unt.known U1) (tw116 hw) (Or.inl (tw160 hw))
 obtain ⟨TSK, hSL, XSM, eSN, WSO, stSP⟩ := putF XS4 hx hZ hown (host := "") (Or.inl (tw159 hw)) Via.refl eS5 FSJ E1 (Or.inl (tw160 hw)) (tw116 hw) (ty := (.array .int)) (by decide) rfl rfl (g := (mkF m 82 #[vr a, vr b] [(.ref aS9), (.ref a)])) rfl rfl (hH p19_1_82)
 have NSQ := Fr.snoc XSM NRY ge_a
 have kSR : own_G p e below E0 TSK (mkF m 85 #[vr a, vr b] []) := fun tQ kk => kSH tQ (stSP _ kk)
 clear kSH stSP
 replace E1 := E1.wr WSO
 replace U1 := U1.wr WSO
 replace AJN := AJN.wr WSO
 replace ANT := ANT.wr WSO
 replace AQ3 := AQ3.wr WSO
 replace Z0 := own_wrle WSO Z0
 replace K0 := K0.wr WSO (Or.inl (List.mem_of_getElem? (i := 0) rfl))
 have kSS : own_G p e below E0 TSK (mkF m 87 #[vr a, vr b] [(.int (0 : Int32)), (.ref a)]) := by
  intro tQ kk
  refine kSR tQ ?_
  refine XS.aloadN XSM.here hx rfl (hH p19_1_85) rfl rfl ?_
  refine XS.iconst XSM.here hx rfl (hH p19_1_86) ?_
  exact kk
 clear kSR
 obtain ⟨TST, hSU, cASV, XSW, eSX, ESY, ASZ, stT0⟩ := newP (aty := .int) XSM hx hZ (tw5 hw) eSN (g := (mkF m 87 #[vr a, vr b] [(.int (0 : Int32)), (.ref a)])) rfl (hH p19_1_87) rfl (by decide) (cap := 0) (by decide) (by decide) (by decide) (by decide)
 obtain ⟨aT1, gT2⟩ : ∃ zA : Nat, zA = hSL.size := ⟨_, rfl⟩
 rw [← gT2] at ASZ stT0
 have nT3 := own_lt_ne E1.lt gT2
 have nT4 := own_lt_ne AJN.lt gT2
 have nT5 := own_lt_ne ANT.lt gT2
 have nT6 := own_lt_ne AQ3.lt gT2
 have nwT7 : h0.size ≤ aT1 := own_ge_of K0.1 gT2
 have geT8 : n0 ≤ aT1 := own_ge_of Z0 gT2
 replace Z0 := Nat.le_trans Z0 ESY.1
 replace E1 := E1.ext ESY
 replace U1 := U1.ext ESY
 replace AJN := AJN.ext ESY
 replace ANT := ANT.ext ESY
 replace AQ3 := AQ3.ext ESY
 replace K0 := K0.ext ESY
 have kT9 : own_G p e below E0 TST (mkF m 89 #[vr a, vr b] [(.ref aT1), (.ref a)]) := fun tQ kk => kSS tQ (stT0 _ kk)
 clear kSS stT0
 obtain ⟨voTA, FTB⟩ := fld_laid E1 (Unt.known U1) (tw116 hw) (Or.inl (tw162 hw))
 obtain ⟨TTC, hTD, XTE, eTF, WTG, stTH⟩ := putF XSW hx hZ hown (host := "") (Or.inl (tw161 hw)) Via.refl eSX FTB E1 (Or.inl (tw162 hw)) (tw116 hw) (ty := (.array .int)) (by decide) rfl rfl (g := (mkF m 89 #[vr a, vr b] [(.ref aT1), (.ref a)])) rfl rfl (hH p19_1_89)
 have NTI := Fr.snoc XTE NSQ ge_a
 have kTJ : own_G p e below E0 TTC (mkF m 92 #[vr a, vr b] []) := fun tQ kk => kT9 tQ (stTH _ kk)
 clear kT9 stTH
 replace E1 := E1.wr WTG
 replace U1 := U1.wr WTG
 replace AJN := AJN.wr WTG
 replace ANT := ANT.wr WTG
 replace AQ3 := AQ3.wr WTG
 replace Z0 := own_wrle WTG Z0
 replace K0 := K0.wr WTG (Or.inl (List.mem_of_getElem? (i := 0) rfl))
 obtain ⟨fs, hr, hrun, hended, hW, hsame⟩ := XTE.leave (v := none) (fun _ => rfl)
 have hrun0 := kTJ _ (XTE.returnOut hx Bd.returns (hH p19_1_92) hr)
 subst hE0
 refine ⟨_, _, hrun0, hrun, hended, _, _, rfl, ?_, ⟨_, rfl⟩, hW, hsame.mono (by decide) (by decide)⟩
 show QrmEl Z a b h0 n0 _ TTC.heap _
 rw [eTF]
 exact ⟨rfl, NTI, K0⟩
abbrev fd9 (Z : State) (h : Heap) (a : Addr) (v : Value) : Prop := Fld Z h a "com/example/netloom/netloom/embed/BasisFactor" "size" "I" v
def QrmBf (Z : State) (a : Addr) (h0 : Heap) (n0 : Nat) (vQ : Option Value) (hQ : Heap) (LQ : List Loc) : Prop := vQ = none ∧ Fr n0 LQ ∧ Keep h0 hQ [a] ∧ (fd9 Z hQ a (.int (-1 : Int32)))
theorem ef_rmBf (m : MethodId) (a : Addr) : entryFrame m #[(.ref a)] 1 = mkF m 0 #[vr a] [] := by first | (simp [entryFrame, mkF, argsToLocals, Value.category]; done) | rfl
abbrev xa10 (Z : State) (h : Heap) (a : Addr) : Prop := Exa Z h a "com/example/netloom/netloom/embed/BasisFactor"
abbrev mn11 : MethodName := ⟨"com/example/netloom/netloom/embed/BasisFactor", "<init>", "()V"⟩
theorem pn_com_example_netloom_netloom_embed_BasisFactor : plainName "com/example/netloom/netloom/embed/BasisFactor" = true := by first | (simp [plainName, overriddenIn]; done) | decide +kernel
theorem p17_1_0 : decode prog_17_method_1_code 0 = .ok (.aload_n 0, 1) := by decide +kernel
theorem p17_1_1 : decode prog_17_method_1_code 1 = .ok (.invokespecial 1, 3) := by decide +kernel
def tw56 {Z a0} (hw : HW Z a0) := hw _ (List.mem_of_getElem? (i := 56) rfl)
theorem p17_1_4 : decode prog_17_method_1_code 4 = .ok (.aload_n 0, 1) := by decide +kernel
theorem p17_1_5 : decode prog_17_method_1_code 5 = .ok (.iconst (-1), 1) := by decide +kernel
theorem p17_1_6 : decode prog_17_method_1_code 6 = .ok (.putfield 7, 3) := by decide +kernel
def tw57 {Z a0} (hw : HW Z a0) := hw _ (List.mem_of_getElem? (i := 57) rfl)
def tw51 {Z a0} (hw : HW Z a0) := hw _ (List.mem_of_getElem? (i := 51) rfl)
def tw58 {Z a0} (hw : HW Z a0) := hw _ (List.mem_of_getElem? (i := 58) rfl)
theorem p17_1_9 : decode prog_17_method_1_code 9 = .ok (.aload_n 0, 1) := by decide +kernel
theorem p17_1_10 : decode prog_17_method_1_code 10 = .ok (.new 13, 3) := by decide +kernel
def tw59 {Z a0} (hw : HW Z a0) := hw _ (List.mem_of_getElem? (i := 59) rfl)
def tw61 {Z a0} (hw : HW Z a0) := hw _ (List.mem_of_getElem? (i := 61) rfl)
theorem p17_1_13 : decode prog_17_method_1_code 13 = .ok (.dup, 1) := by decide +kernel
theorem p17_1_14 : decode prog_17_method_1_code 14 = .ok (.invokespecial 15, 3) := by decide +kernel
def tw62 {Z a0} (hw : HW Z a0) := hw _ (List.mem_of_getElem? (i := 62) rfl)
def tw64 {Z a0} (hw : HW Z a0) := hw _ (List.mem_of_getElem? (i := 64) rfl)
def tw63 {Z a0} (hw : HW Z a0) := hw _ (List.mem_of_getElem? (i := 63) rfl)
theorem p17_1_17 : decode prog_17_method_1_code 17 = .ok (.putfield 16, 3) := by decide +kernel
def tw72 {Z a0} (hw : HW Z a0) := hw _ (List.mem_of_getElem? (i := 72) rfl)
def tw73 {Z a0} (hw : HW Z a0) := hw _ (List.mem_of_getElem? (i := 73) rfl)
abbrev cn13 : String := "com/example/netloom/netloom/embed/BasisFactor"
theorem sn12 {Z a0} (hw : HW Z a0) : RoadKit.slotOf Z cn13 "size" "I" ≠ RoadKit.slotOf Z cn13 "lower" "Lcom/example/netloom/netloom/embed/BasisFactor$Lines;" := (slot_ne (C := cn13) (Or.inl (tw58 hw)) (Or.inr (tw73 hw)) (by decide) (t := .int) (t' := (.object "com/example/netloom/netloom/embed/BasisFactor$Lines")) (by decide) (by decide))
theorem p17_1_20 : decode prog_17_method_1_code 20 = .ok (.aload_n 0, 1) := by decide +kernel
theorem p17_1_21 : decode prog_17_method_1_code 21 = .ok (.bipush 16, 2) := by decide +kernel
theorem p17_1_23 : decode prog_17_method_1_code 23 = .ok (.newarray .int, 2) := by decide +kernel
theorem p17_1_25 : decode prog_17_method_1_code 25 = .ok (.putfield 20, 3) := by decide +kernel
def tw74 {Z a0} (hw : HW Z a0) := hw _ (List.mem_of_getElem? (i := 74) rfl)
def tw75 {Z a0} (hw : HW Z a0) := hw _ (List.mem_of_getElem? (i := 75) rfl)
theorem sn14 {Z a0} (hw : HW Z a0) : RoadKit.slotOf Z cn13 "size" "I" ≠ RoadKit.slotOf Z cn13 "stepRow" "[I" := (slot_ne (C := cn13) (Or.inl (tw58 hw)) (Or.inl (tw75 hw)) (by decide) (t := .int) (t' := (.array .int)) (by decide) (by decide))
theorem p17_1_28 : decode prog_17_method_1_code 28 = .ok (.aload_n 0, 1) := by decide +kernel
theorem p17_1_29 : decode prog_17_method_1_code 29 = .ok (.new 13, 3) := by decide +kernel
theorem p17_1_32 : decode prog_17_method_1_code 32 = .ok (.dup, 1) := by decide +kernel
theorem p17_1_33 : decode prog_17_method_1_code 33 = .ok (.invokespecial 15, 3) := by decide +kernel
theorem p17_1_36 : decode prog_17_method_1_code 36 = .ok (.putfield 24, 3) := by decide +kernel
def tw76 {Z a0} (hw : HW Z a0) := hw _ (List.mem_of_getElem? (i := 76) rfl)
def tw77 {Z a0} (hw : HW Z a0) := hw _ (List.mem_of_getElem? (i := 77) rfl)
theorem sn15 {Z a0} (hw : HW Z a0) : RoadKit.slotOf Z cn13 "size" "I" ≠ RoadKit.slotOf Z cn13 "etas" "Lcom/example/netloom/netloom/embed/BasisFactor$Lines;" := (slot_ne (C := cn13) (Or.inl (tw58 hw)) (Or.inr (tw77 hw)) (by decide) (t := .int) (t' := (.object "com/example/netloom/netloom/embed/BasisFactor$Lines")) (by decide) (by decide))
theorem p17_1_39 : decode prog_17_method_1_code 39 = .ok (.aload_n 0, 1) := by decide +kernel
theorem p17_1_40 : decode prog_17_method_1_code 40 = .ok (.bipush 16, 2) := by decide +kernel
theorem p17_1_42 : decode prog_17_method_1_code 42 = .ok (.newarray .int, 2) := by decide +kernel
theorem p17_1_44 : decode prog_17_method_1_code 44 = .ok (.putfield 27, 3) := by decide +kernel
def tw78 {Z a0} (hw : HW Z a0) := hw _ (List.mem_of_getElem? (i := 78) rfl)
def tw79 {Z a0} (hw : HW Z a0) := hw _ (List.mem_of_getElem? (i := 79) rfl)
theorem sn16 {Z a0} (hw : HW Z a0) : RoadKit.slotOf Z cn13 "size" "I" ≠ RoadKit.slotOf Z cn13 "etaRow" "[I" := (slot_ne (C := cn13) (Or.inl (tw58 hw)) (Or.inl (tw79 hw)) (by decide) (t := .int) (t' := (.array .int)) (by decide) (by decide))
theorem p17_1_47 : decode prog_17_method_1_code 47 = .ok (.aload_n 0, 1) := by decide +kernel
theorem p17_1_48 : decode prog_17_method_1_code 48 = .ok (.new 30, 3) := by decide +kernel
def tw80 {Z a0} (hw : HW Z a0) := hw _ (List.mem_of_getElem? (i := 80) rfl)
theorem p17_1_51 : decode prog_17_method_1_code 51 = .ok (.dup, 1) := by decide +kernel
theorem p17_1_52 : decode prog_17_method_1_code 52 = .ok (.invokespecial 32, 3) := by decide +kernel
def tw83 {Z a0} (hw : HW Z a0) := hw _ (List.mem_of_getElem? (i := 83) rfl)
theorem p17_1_55 : decode prog_17_method_1_code 55 = .ok (.putfield 33, 3) := by decide +kernel
def tw97 {Z a0} (hw : HW Z a0) := hw _ (List.mem_of_getElem? (i := 97) rfl)
def tw98 {Z a0} (hw : HW Z a0) := hw _ (List.mem_of_getElem? (i := 98) rfl)
theorem sn17 {Z a0} (hw : HW Z a0) : RoadKit.slotOf Z cn13 "size" "I" ≠ RoadKit.slotOf Z cn13 "upperRows" "Lcom/example/netloom/netloom/embed/BasisFactor$Entries;" := (slot_ne (C := cn13) (Or.inl (tw58 hw)) (Or.inr (tw98 hw)) (by decide) (t := .int) (t' := (.object "com/example/netloom/netloom/embed/BasisFactor$Entries")) (by decide) (by decide))
theorem p17_1_58 : decode prog_17_method_1_code 58 = .ok (.aload_n 0, 1) := by decide +kernel
theorem p17_1_59 : decode prog_17_method_1_code 59 = .ok (.new 30, 3) := by decide +kernel
theorem p17_1_62 : decode prog_17_method_1_code 62 = .ok (.dup, 1) := by decide +kernel
theorem p17_1_63 : decode prog_17_method_1_code 63 = .ok (.invokespecial 32, 3) := by decide +kernel
theorem p17_1_66 : decode prog_17_method_1_code 66 = .ok (.putfield 37, 3) := by decide +kernel
def tw99 {Z a0} (hw : HW Z a0) := hw _ (List.mem_of_getElem? (i := 99) rfl)
def tw100 {Z a0} (hw : HW Z a0) := hw _ (List.mem_of_getElem? (i := 100) rfl)
theorem sn18 {Z a0} (hw : HW Z a0) : RoadKit.slotOf Z cn13 "size" "I" ≠ RoadKit.slotOf Z cn13 "upperColumns" "Lcom/example/netloom/netloom/embed/BasisFactor$Entries;" := (slot_ne (C := cn13) (Or.inl (tw58 hw)) (Or.inr (tw100 hw)) (by decide) (t := .int) (t' := (.object "com/example/netloom/netloom/embed/BasisFactor$Entries")) (by decide) (by decide))
theorem p17_1_69 : decode prog_17_method_1_code 69 = .ok (.aload_n 0, 1) := by decide +kernel
theorem p17_1_70 : decode prog_17_method_1_code 70 = .ok (.bipush 16, 2) := by decide +kernel
theorem p17_1_72 : decode prog_17_method_1_code 72 = .ok (.newarray .double, 2) := by decide +kernel
theorem p17_1_74 : decode prog_17_method_1_code 74 = .ok (.putfield 40, 3) := by decide +kernel
def tw101 {Z a0} (hw : HW Z a0) := hw _ (List.mem_of_getElem? (i := 101) rfl)
def tw102 {Z a0} (hw : HW Z a0) := hw _ (List.mem_of_getElem? (i := 102) rfl)
theorem sn19 {Z a0} (hw : HW Z a0) : RoadKit.slotOf Z cn13 "size" "I" ≠ RoadKit.slotOf Z cn13 "diagonal" "[D" := (slot_ne (C := cn13) (Or.inl (tw58 hw)) (Or.inl (tw102 hw)) (by decide) (t := .int) (t' := (.array .double)) (by decide) (by decide))
theorem p17_1_77 : decode prog_17_method_1_code 77 = .ok (.aload_n 0, 1) := by decide +kernel
theorem p17_1_78 : decode prog_17_method_1_code 78 = .ok (.bipush 16, 2) := by decide +kernel
theorem p17_1_80 : decode prog_17_method_1_code 80 = .ok (.newarray .int, 2) := by decide +kernel
theorem p17_1_82 : decode prog_17_method_1_code 82 = .ok (.putfield 44, 3) := by decide +kernel
def tw103 {Z a0} (hw : HW Z a0) := hw _ (List.mem_of_getElem? (i := 103) rfl)
def tw104 {Z a0} (hw : HW Z a0) := hw _ (List.mem_of_getElem? (i := 104) rfl)
theorem sn20 {Z a0} (hw : HW Z a0) : RoadKit.slotOf Z cn13 "size" "I" ≠ RoadKit.slotOf Z cn13 "positionOf" "[I" := (slot_ne (C := cn13) (Or.inl (tw58 hw)) (Or.inl (tw104 hw)) (by decide) (t := .int) (t' := (.array .int)) (by decide) (by decide))
theorem p17_1_85 : decode prog_17_method_1_code 85 = .ok (.aload_n 0, 1) := by decide +kernel
theorem p17_1_86 : decode prog_17_method_1_code 86 = .ok (.bipush 16, 2) := by decide +kernel
theorem p17_1_88 : decode prog_17_method_1_code 88 = .ok (.newarray .int, 2) := by decide +kernel
theorem p17_1_90 : decode prog_17_method_1_code 90 = .ok (.putfield 47, 3) := by decide +kernel
def tw105 {Z a0} (hw : HW Z a0) := hw _ (List.mem_of_getElem? (i := 105) rfl)
def tw106 {Z a0} (hw : HW Z a0) := hw _ (List.mem_of_getElem? (i := 106) rfl)
theorem sn21 {Z a0} (hw : HW Z a0) : RoadKit.slotOf Z cn13 "size" "I" ≠ RoadKit.slotOf Z cn13 "rowOf" "[I" := (slot_ne (C := cn13) (Or.inl (tw58 hw)) (Or.inl (tw106 hw)) (by decide) (t := .int) (t' := (.array .int)) (by decide) (by decide))
theorem p17_1_93 : decode prog_17_method_1_code 93 = .ok (.aload_n 0, 1) := by decide +kernel
theorem p17_1_94 : decode prog_17_method_1_code 94 = .ok (.bipush 16, 2) := by decide +kernel
theorem p17_1_96 : decode prog_17_method_1_code 96 = .ok (.newarray .int, 2) := by decide +kernel
theorem p17_1_98 : decode prog_17_method_1_code 98 = .ok (.putfield 50, 3) := by decide +kernel
def tw107 {Z a0} (hw : HW Z a0) := hw _ (List.mem_of_getElem? (i := 107) rfl)
def tw108 {Z a0} (hw : HW Z a0) := hw _ (List.mem_of_getElem? (i := 108) rfl)
theorem sn22 {Z a0} (hw : HW Z a0) : RoadKit.slotOf Z cn13 "size" "I" ≠ RoadKit.slotOf Z cn13 "after" "[I" := (slot_ne (C := cn13) (Or.inl (tw58 hw)) (Or.inl (tw108 hw)) (by decide) (t := .int) (t' := (.array .int)) (by decide) (by decide))
theorem p17_1_101 : decode prog_17_method_1_code 101 = .ok (.aload_n 0, 1) := by decide +kernel
theorem p17_1_102 : decode prog_17_method_1_code 102 = .ok (.bipush 16, 2) := by decide +kernel
theorem p17_1_104 : decode prog_17_method_1_code 104 = .ok (.newarray .int, 2) := by decide +kernel
theorem p17_1_106 : decode prog_17_method_1_code 106 = .ok (.putfield 53, 3) := by decide +kernel
def tw109 {Z a0} (hw : HW Z a0) := hw _ (List.mem_of_getElem? (i := 109) rfl)
def tw110 {Z a0} (hw : HW Z a0) := hw _ (List.mem_of_getElem? (i := 110) rfl)
theorem sn23 {Z a0} (hw : HW Z a0) : RoadKit.slotOf Z cn13 "size" "I" ≠ RoadKit.slotOf Z cn13 "before" "[I" := (slot_ne (C := cn13) (Or.inl (tw58 hw)) (Or.inl (tw110 hw)) (by decide) (t := .int) (t' := (.array .int)) (by decide) (by decide))
theorem p17_1_109 : decode prog_17_method_1_code 109 = .ok (.aload_n 0, 1) := by decide +kernel
theorem p17_1_110 : decode prog_17_method_1_code 110 = .ok (.bipush 16, 2) := by decide +kernel
theorem p17_1_112 : decode prog_17_method_1_code 112 = .ok (.newarray .double, 2) := by decide +kernel
theorem p17_1_114 : decode prog_17_method_1_code 114 = .ok (.putfield 56, 3) := by decide +kernel
def tw111 {Z a0} (hw : HW Z a0) := hw _ (List.mem_of_getElem? (i := 111) rfl)
def tw112 {Z a0} (hw : HW Z a0) := hw _ (List.mem_of_getElem? (i := 112) rfl)
theorem sn24 {Z a0} (hw : HW Z a0) : RoadKit.slotOf Z cn13 "size" "I" ≠ RoadKit.slotOf Z cn13 "spike" "[D" := (slot_ne (C := cn13) (Or.inl (tw58 hw)) (Or.inl (tw112 hw)) (by decide) (t := .int) (t' := (.array .double)) (by decide) (by decide))
theorem p17_1_117 : decode prog_17_method_1_code 117 = .ok (.aload_n 0, 1) := by decide +kernel
theorem p17_1_118 : decode prog_17_method_1_code 118 = .ok (.bipush 16, 2) := by decide +kernel
theorem p17_1_120 : decode prog_17_method_1_code 120 = .ok (.newarray .double, 2) := by decide +kernel
theorem p17_1_122 : decode prog_17_method_1_code 122 = .ok (.putfield 59, 3) := by decide +kernel
def tw113 {Z a0} (hw : HW Z a0) := hw _ (List.mem_of_getElem? (i := 113) rfl)
def tw114 {Z a0} (hw : HW Z a0) := hw _ (List.mem_of_getElem? (i := 114) rfl)
theorem sn25 {Z a0} (hw : HW Z a0) : RoadKit.slotOf Z cn13 "size" "I" ≠ RoadKit.slotOf Z cn13 "along" "[D" := (slot_ne (C := cn13) (Or.inl (tw58 hw)) (Or.inl (tw114 hw)) (by decide) (t := .int) (t' := (.array .double)) (by decide) (by decide))
theorem p17_1_125 : decode prog_17_method_1_code 125 = .ok (.aload_n 0, 1) := by decide +kernel
theorem p17_1_126 : decode prog_17_method_1_code 126 = .ok (.new 62, 3) := by decide +kernel
def tw115 {Z a0} (hw : HW Z a0) := hw _ (List.mem_of_getElem? (i := 115) rfl)
def tw117 {Z a0} (hw : HW Z a0) := hw _ (List.mem_of_getElem? (i := 117) rfl)
theorem p17_1_129 : decode prog_17_method_1_code 129 = .ok (.dup, 1) := by decide +kernel
theorem p17_1_130 : decode prog_17_method_1_code 130 = .ok (.aload_n 0, 1) := by decide +kernel
theorem p17_1_131 : decode prog_17_method_1_code 131 = .ok (.invokespecial 64, 3) := by decide +kernel
def tw118 {Z a0} (hw : HW Z a0) := hw _ (List.mem_of_getElem? (i := 118) rfl)
def tw120 {Z a0} (hw : HW Z a0) := hw _ (List.mem_of_getElem? (i := 120) rfl)
theorem pd_26 : parseMethodDescriptor "(Lcom/example/netloom/netloom/embed/BasisFactor;)V" = some ⟨[(.object "com/example/netloom/netloom/embed/BasisFactor")], none⟩ := by decide +kernel
def tw119 {Z a0} (hw : HW Z a0) := hw _ (List.mem_of_getElem? (i := 119) rfl)
theorem p17_1_134 : decode prog_17_method_1_code 134 = .ok (.putfield 67, 3) := by decide +kernel
def tw163 {Z a0} (hw : HW Z a0) := hw _ (List.mem_of_getElem? (i := 163) rfl)
def tw164 {Z a0} (hw : HW Z a0) := hw _ (List.mem_of_getElem? (i := 164) rfl)
theorem sn27 {Z a0} (hw : HW Z a0) : RoadKit.slotOf Z cn13 "size" "I" ≠ RoadKit.slotOf Z cn13 "elimination" "Lcom/example/netloom/netloom/embed/BasisFactor$Elimination;" := (slot_ne (C := cn13) (Or.inl (tw58 hw)) (Or.inr (tw164 hw)) (by decide) (t := .int) (t' := (.object "com/example/netloom/netloom/embed/BasisFactor$Elimination")) (by decide) (by decide))
theorem p17_1_137 : decode prog_17_method_1_code 137 = .ok (.return_, 1) := by decide +kernel
set_option maxRecDepth 65536 in
set_option maxHeartbeats 40000000 in
theorem rmBf (l : Launch) (Z : State) (a0 : Array Value) (hw : ∀ d ∈ tables_1, d.before a0 Z = true) (ws : List Jvm.Cond) (a : Addr) (h0 : Heap) (n0 : Nat) (Z0 : n0 ≤ h0.size) (E1 : xa10 Z h0 a) (U1 : Unt h0 a) (ge_a : n0 ≤ a) :
  MetFree l mn11 (head1 (Jvm.Cond.code mn11 prog_17_method_1_code 1 none :: ws) ({ frames := 3, cells := 47, slots := 476, locals := 48 } : Room)) (fun aA U => aA = #[(.ref a)] ∧ Z.Warmed39 U.vm ∧ U.heap = h0) (fun _ _ _ _ _ => True) (fun _ U o U' => ∃ vR LR, o = .returned vR ∧ QrmBf Z a h0 n0 vR U'.heap LR ∧ FrameEnd U o U' LR ({ frames := 3, cells := 47, slots := 476, locals := 48 } : Room).cells ({ frames := 3, cells := 47, slots := 476, locals := 48 } : Room).slots) := by
 refine MetFree.of_bodySF (plainFor_of_name pn_com_example_netloom_netloom_embed_BasisFactor) hisR ?_
 intro p e s m args below meth c s₁ Bd hml0 hPre hKk
 obtain ⟨rfl, hZ, hh⟩ := hPre
 have hx := Bd.exec
 have hby := Bd.bytes
 have hH : ∀ {pc r}, decode prog_17_method_1_code pc = r → decode c.code pc = r := fun q => hb hby q
 have hml : c.maxLocals = 1 := hml0
 have hown : s.vm.findClass "com/example/netloom/netloom/embed/BasisFactor" = some m.cls := findClass_of_methodNamed Bd.named
 have hnm := (name_of_methodNamed Bd.named Bd.method).1
 have X0 : Stand p l e ({ frames := 3, cells := 47, slots := 476, locals := 48 } : Room) s m #[(.ref a)] below meth c s₁ [] 0 0 := Stand.of_body Bd
 have e0 : s₁.heap = h0 := by rw [← hh, Bd.state]; rfl
 have N0 := Fr.nil n0
 obtain ⟨E0, hE0⟩ : ∃ zE : State, zE = s₁.setTop (entryFrame m #[(.ref a)] 1) := ⟨_, rfl⟩
 have k0 : own_G p e below E0 s₁ (mkF m 0 #[vr a] []) := fun tz kz => hE0 ▸ castTop (ef_rmBf m a) kz
 have K0 : Keep h0 h0 [a] := Keep.refl _ _
 have kJ0 : own_G p e below E0 s₁ (mkF m 1 #[vr a] [(.ref a)]) := by
  intro tQ kk
  refine k0 tQ ?_
  refine XS.aloadN X0.here hx rfl (hH p17_1_0) rfl rfl ?_
  exact kk
 clear k0
 obtain ⟨TJ1, XJ2, eJ3, stJ4⟩ := initO X0 hx hZ hown (tw56 hw) (tw14 hw) (tw15 hw) e0 (g := (mkF m 1 #[vr a] [(.ref a)])) rfl (by rw [hml]; rfl) rfl (hH p17_1_1) (by decide) (W := 0) (by show 2 * 0 + _ ≤ _; exact Nat.le_of_eq rfl) (by decide)
 have kJ5 : own_G p e below E0 TJ1 (mkF m 4 #[vr a] []) := fun tQ kk => kJ0 tQ (stJ4 _ kk)
 clear kJ0 stJ4
 have kJ6 : own_G p e below E0 TJ1 (mkF m 6 #[vr a] [(.int (-1 : Int32)), (.ref a)]) := by
  intro tQ kk
  refine kJ5 tQ ?_
  refine XS.aloadN XJ2.here hx rfl (hH p17_1_4) rfl rfl ?_
  refine XS.iconst XJ2.here hx rfl (hH p17_1_5) ?_
  exact kk
 clear kJ5
 obtain ⟨voJ7, FJ8⟩ := fld_laid E1 (Unt.known U1) (tw51 hw) (Or.inl (tw58 hw))
 obtain ⟨TJ9, hJA, XJB, eJC, WJD, stJE⟩ := putF XJ2 hx hZ hown (host := "") (Or.inl (tw57 hw)) Via.refl eJ3 FJ8 E1 (Or.inl (tw58 hw)) (tw51 hw) (ty := .int) (by decide) rfl rfl (g := (mkF m 6 #[vr a] [(.int (-1 : Int32)), (.ref a)])) rfl rfl (hH p17_1_6)
 have NJF := Fr.snoc XJB N0 ge_a
 have kJG : own_G p e below E0 TJ9 (mkF m 9 #[vr a] []) := fun tQ kk => kJ6 tQ (stJE _ kk)
 clear kJ6 stJE
 replace E1 := E1.wr WJD
 replace U1 := U1.wr WJD
 replace FJ8 := FJ8.same WJD
 replace Z0 := own_wrle WJD Z0
 replace K0 := K0.wr WJD (Or.inl (List.mem_of_getElem? (i := 0) rfl))
 have kJH : own_G p e below E0 TJ9 (mkF m 10 #[vr a] [(.ref a)]) := by
  intro tQ kk
  refine kJG tQ ?_
  refine XS.aloadN XJB.here hx rfl (hH p17_1_9) rfl rfl ?_
  exact kk
 clear kJG
 obtain ⟨TJI, hJJ, XJK, eJL, EJM, AJN, DJO, UnJS, stJP⟩ := newO XJB hx hZ hown (tw59 hw) (tw60 hw) (tw61 hw) eJC (g := (mkF m 10 #[vr a] [(.ref a)])) rfl (hH p17_1_10) (by decide) (by decide)
 obtain ⟨aJQ, gJR⟩ : ∃ zA : Nat, zA = hJA.size := ⟨_, rfl⟩
 rw [← gJR] at AJN DJO stJP UnJS
 have nJT := own_lt_ne E1.lt gJR
 have nwJU : h0.size ≤ aJQ := own_ge_of K0.1 gJR
 have geJV : n0 ≤ aJQ := own_ge_of Z0 gJR
 replace Z0 := Nat.le_trans Z0 EJM.1
 replace E1 := E1.ext EJM
 replace U1 := U1.ext EJM
 replace FJ8 := FJ8.ext EJM
 replace K0 := K0.ext EJM
 have UnJW : Unt hJJ aJQ := UnJS
 have kJX : own_G p e below E0 TJI (mkF m 13 #[vr a] [(.ref aJQ), (.ref a)]) := fun tQ kk => kJH tQ (stJP _ kk)
 clear kJH stJP
 have kJY : own_G p e below E0 TJI (mkF m 14 #[vr a] [(.ref aJQ), (.ref aJQ), (.ref a)]) := by
  intro tQ kk
  refine kJX tQ ?_
  refine XS.dup XJK.here hx rfl (hH p17_1_13) rfl rfl ?_
  exact kk
 clear kJX
 obtain ⟨_, _, ⟨TJZ, LK0, kcK1, ncK2⟩, -, XK3, ⟨LcK4, hQK5, lK6, yK7, zK8⟩, stK9⟩ := own_specialRef XJK hx (y := mn1) rfl hown (own_mvRef hZ (by decide) (tw63 hw) (tw62 hw)) (mvT hZ (tw63 hw)) (mvT hZ (tw64 hw)) (by decide) (backOf (W := 2) (rmLi l Z a0 hw [] aJQ hJJ n0 Z0 AJN UnJW geJV) hZ (tw64 hw) (tw61 hw) (by decide) (by decide)) (g := (mkF m 14 #[vr a] [(.ref aJQ), (.ref aJQ), (.ref a)])) rfl (by rw [hml]; rfl) (Steps.refl _) (a := aJQ) (argsL := []) (rest := [(.ref aJQ), (.ref a)]) (lenOf pd_8 rfl) rfl (by show 2 * 0 + _ ≤ _; exact Nat.le_of_eq rfl) (hH p17_1_14) (fun _ _ => ⟨rfl, eJL, (by decide : 1 + 3 ≤ _), (by decide : 5 + 145 ≤ _)⟩)
 dsimp only [Pt.U, Pt.locs, Pt.cells, Pt.slots] at XK3 lK6 yK7 zK8 stK9 hQK5
 subst yK7 zK8
 obtain ⟨rfl, NKA, KKD⟩ := hQK5
 have NKE : Fr n0 LK0 := by rw [lK6]; exact Fr.app NJF NKA
 clear lK6 NKA
 replace Z0 := Nat.le_trans Z0 KKD.1
 replace E1 := E1.keep KKD
 replace U1 := U1.keep KKD (ninS nJT nin0)
 replace FJ8 := FJ8.keep KKD (ninS nJT nin0)
 replace AJN := AJN.keep KKD
 clear UnJW
 replace K0 := K0.trans KKD (allS (Or.inr nwJU) all0)
 have kKF : own_G p e below E0 TJZ (mkF m 17 #[vr a] [(.ref aJQ), (.ref a)]) := fun tQ kk => kJY tQ (stK9.trans kk)
 clear kJY stK9
 obtain ⟨voKG, FKH⟩ := fld_laid E1 (Unt.known U1) (tw51 hw) (Or.inr (tw73 hw))
 obtain ⟨TKI, hKJ, XKK, eKL, WKM, stKN⟩ := putF XK3 hx hZ hown (host := "") (Or.inl (tw72 hw)) Via.refl rfl FKH E1 (Or.inr ⟨(tw73 hw), rfl, hnm⟩) (tw51 hw) (ty := (.object "com/example/netloom/netloom/embed/BasisFactor$Lines")) (by decide) rfl rfl (g := (mkF m 17 #[vr a] [(.ref aJQ), (.ref a)])) rfl rfl (hH p17_1_17)
 have NKO := Fr.snoc XKK NKE ge_a
 have kKP : own_G p e below E0 TKI (mkF m 20 #[vr a] []) := fun tQ kk => kKF tQ (stKN _ kk)
 clear kKF stKN
 replace E1 := E1.wr WKM
 replace U1 := U1.wr WKM
 replace FJ8 := FJ8.other WKM (Or.inr (sn12 hw))
 replace AJN := AJN.wr WKM
 replace Z0 := own_wrle WKM Z0
 replace K0 := K0.wr WKM (Or.inl (List.mem_of_getElem? (i := 0) rfl))
 have kKQ : own_G p e below E0 TKI (mkF m 23 #[vr a] [(.int (16 : Int32)), (.ref a)]) := by
  intro tQ kk
  refine kKP tQ ?_
  refine XS.aloadN XKK.here hx rfl (hH p17_1_20) rfl rfl ?_
  refine XS.bipush XKK.here hx rfl (hH p17_1_21) ?_
  exact kk
 clear kKP
 obtain ⟨TKR, hKS, cAKT, XKU, eKV, EKW, AKX, stKY⟩ := newP (aty := .int) XKK hx hZ (tw5 hw) eKL (g := (mkF m 23 #[vr a] [(.int (16 : Int32)), (.ref a)])) rfl (hH p17_1_23) rfl (by decide) (cap := 16) (by decide) (by decide) (by decide) (by decide)
 obtain ⟨aKZ, gL0⟩ : ∃ zA : Nat, zA = hKJ.size := ⟨_, rfl⟩
 rw [← gL0] at AKX stKY
 have nL1 := own_lt_ne E1.lt gL0
 have nL2 := own_lt_ne AJN.lt gL0
 have nwL3 : h0.size ≤ aKZ := own_ge_of K0.1 gL0
 have geL4 : n0 ≤ aKZ := own_ge_of Z0 gL0
 replace Z0 := Nat.le_trans Z0 EKW.1
 replace E1 := E1.ext EKW
 replace U1 := U1.ext EKW
 replace FJ8 := FJ8.ext EKW
 replace AJN := AJN.ext EKW
 replace K0 := K0.ext EKW
 have kL5 : own_G p e below E0 TKR (mkF m 25 #[vr a] [(.ref aKZ), (.ref a)]) := fun tQ kk => kKQ tQ (stKY _ kk)
 clear kKQ stKY
 obtain ⟨voL6, FL7⟩ := fld_laid E1 (Unt.known U1) (tw51 hw) (Or.inl (tw75 hw))
 obtain ⟨TL8, hL9, XLA, eLB, WLC, stLD⟩ := putF XKU hx hZ hown (host := "") (Or.inl (tw74 hw)) Via.refl eKV FL7 E1 (Or.inl (tw75 hw)) (tw51 hw) (ty := (.array .int)) (by decide) rfl rfl (g := (mkF m 25 #[vr a] [(.ref aKZ), (.ref a)])) rfl rfl (hH p17_1_25)
 have NLE := Fr.snoc XLA NKO ge_a
 have kLF : own_G p e below E0 TL8 (mkF m 28 #[vr a] []) := fun tQ kk => kL5 tQ (stLD _ kk)
 clear kL5 stLD
 replace E1 := E1.wr WLC
 replace U1 := U1.wr WLC
 replace FJ8 := FJ8.other WLC (Or.inr (sn14 hw))
 replace AJN := AJN.wr WLC
 replace Z0 := own_wrle WLC Z0
 replace K0 := K0.wr WLC (Or.inl (List.mem_of_getElem? (i := 0) rfl))
 have kLG : own_G p e below E0 TL8 (mkF m 29 #[vr a] [(.ref a)]) := by
  intro tQ kk
  refine kLF tQ ?_
  refine XS.aloadN XLA.here hx rfl (hH p17_1_28) rfl rfl ?_
  exact kk
 clear kLF
 obtain ⟨TLH, hLI, XLJ, eLK, ELL, ALM, DLN, UnLR, stLO⟩ := newO XLA hx hZ hown (tw59 hw) (tw60 hw) (tw61 hw) eLB (g := (mkF m 29 #[vr a] [(.ref a)])) rfl (hH p17_1_29) (by decide) (by decide)
 obtain ⟨aLP, gLQ⟩ : ∃ zA : Nat, zA = hL9.size := ⟨_, rfl⟩
 rw [← gLQ] at ALM DLN stLO UnLR
 have nLS := own_lt_ne E1.lt gLQ
 have nLT := own_lt_ne AJN.lt gLQ
 have nwLU : h0.size ≤ aLP := own_ge_of K0.1 gLQ
 have geLV : n0 ≤ aLP := own_ge_of Z0 gLQ
 replace Z0 := Nat.le_trans Z0 ELL.1
 replace E1 := E1.ext ELL
 replace U1 := U1.ext ELL
 replace FJ8 := FJ8.ext ELL
 replace AJN := AJN.ext ELL
 replace K0 := K0.ext ELL
 have UnLW : Unt hLI aLP := UnLR
 have kLX : own_G p e below E0 TLH (mkF m 32 #[vr a] [(.ref aLP), (.ref a)]) := fun tQ kk => kLG tQ (stLO _ kk)
 clear kLG stLO
 have kLY : own_G p e below E0 TLH (mkF m 33 #[vr a] [(.ref aLP), (.ref aLP), (.ref a)]) := by
  intro tQ kk
  refine kLX tQ ?_
  refine XS.dup XLJ.here hx rfl (hH p17_1_32) rfl rfl ?_
  exact kk
 clear kLX
 obtain ⟨_, _, ⟨TLZ, LM0, kcM1, ncM2⟩, -, XM3, ⟨LcM4, hQM5, lM6, yM7, zM8⟩, stM9⟩ := own_specialRef XLJ hx (y := mn1) rfl hown (own_mvRef hZ (by decide) (tw63 hw) (tw62 hw)) (mvT hZ (tw63 hw)) (mvT hZ (tw64 hw)) (by decide) (backOf (W := 2) (rmLi l Z a0 hw [] aLP hLI n0 Z0 ALM UnLW geLV) hZ (tw64 hw) (tw61 hw) (by decide) (by decide)) (g := (mkF m 33 #[vr a] [(.ref aLP), (.ref aLP), (.ref a)])) rfl (by rw [hml]; rfl) (Steps.refl _) (a := aLP) (argsL := []) (rest := [(.ref aLP), (.ref a)]) (lenOf pd_8 rfl) rfl (by show 2 * 0 + _ ≤ _; exact Nat.le_of_eq rfl) (hH p17_1_33) (fun _ _ => ⟨rfl, eLK, (by decide : 6 + 3 ≤ _), (by decide : 171 + 145 ≤ _)⟩)
 dsimp only [Pt.U, Pt.locs, Pt.cells, Pt.slots] at XM3 lM6 yM7 zM8 stM9 hQM5
 subst yM7 zM8
 obtain ⟨rfl, NMA, KMD⟩ := hQM5
 have NME : Fr n0 LM0 := by rw [lM6]; exact Fr.app NLE NMA
 clear lM6 NMA
 replace Z0 := Nat.le_trans Z0 KMD.1
 replace E1 := E1.keep KMD
 replace U1 := U1.keep KMD (ninS nLS nin0)
 replace FJ8 := FJ8.keep KMD (ninS nLS nin0)
 replace AJN := AJN.keep KMD
 replace ALM := ALM.keep KMD
 clear UnLW
 replace K0 := K0.trans KMD (allS (Or.inr nwLU) all0)
 have kMF : own_G p e below E0 TLZ (mkF m 36 #[vr a] [(.ref aLP), (.ref a)]) := fun tQ kk => kLY tQ (stM9.trans kk)
 clear kLY stM9
 obtain ⟨voMG, FMH⟩ := fld_laid E1 (Unt.known U1) (tw51 hw) (Or.inr (tw77 hw))
 obtain ⟨TMI, hMJ, XMK, eML, WMM, stMN⟩ := putF XM3 hx hZ hown (host := "") (Or.inl (tw76 hw)) Via.refl rfl FMH E1 (Or.inr ⟨(tw77 hw), rfl, hnm⟩) (tw51 hw) (ty := (.object "com/example/netloom/netloom/embed/BasisFactor$Lines")) (by decide) rfl rfl (g := (mkF m 36 #[vr a] [(.ref aLP), (.ref a)])) rfl rfl (hH p17_1_36)
 have NMO := Fr.snoc XMK NME ge_a
 have kMP : own_G p e below E0 TMI (mkF m 39 #[vr a] []) := fun tQ kk => kMF tQ (stMN _ kk)
 clear kMF stMN
 replace E1 := E1.wr WMM
 replace U1 := U1.wr WMM
 replace FJ8 := FJ8.other WMM (Or.inr (sn15 hw))
 replace AJN := AJN.wr WMM
 replace ALM := ALM.wr WMM
 replace Z0 := own_wrle WMM Z0
 replace K0 := K0.wr WMM (Or.inl (List.mem_of_getElem? (i := 0) rfl))
 have kMQ : own_G p e below E0 TMI (mkF m 42 #[vr a] [(.int (16 : Int32)), (.ref a)]) := by
  intro tQ kk
  refine kMP tQ ?_
  refine XS.aloadN XMK.here hx rfl (hH p17_1_39) rfl rfl ?_
  refine XS.bipush XMK.here hx rfl (hH p17_1_40) ?_
  exact kk
 clear kMP
 obtain ⟨TMR, hMS, cAMT, XMU, eMV, EMW, AMX, stMY⟩ := newP (aty := .int) XMK hx hZ (tw5 hw) eML (g := (mkF m 42 #[vr a] [(.int (16 : Int32)), (.ref a)])) rfl (hH p17_1_42) rfl (by decide) (cap := 16) (by decide) (by decide) (by decide) (by decide)
 obtain ⟨aMZ, gN0⟩ : ∃ zA : Nat, zA = hMJ.size := ⟨_, rfl⟩
 rw [← gN0] at AMX stMY
 have nN1 := own_lt_ne E1.lt gN0
 have nN2 := own_lt_ne AJN.lt gN0
 have nN3 := own_lt_ne ALM.lt gN0
 have nwN4 : h0.size ≤ aMZ := own_ge_of K0.1 gN0
 have geN5 : n0 ≤ aMZ := own_ge_of Z0 gN0
 replace Z0 := Nat.le_trans Z0 EMW.1
 replace E1 := E1.ext EMW
 replace U1 := U1.ext EMW
 replace FJ8 := FJ8.ext EMW
 replace AJN := AJN.ext EMW
 replace ALM := ALM.ext EMW
 replace K0 := K0.ext EMW
 have kN6 : own_G p e below E0 TMR (mkF m 44 #[vr a] [(.ref aMZ), (.ref a)]) := fun tQ kk => kMQ tQ (stMY _ kk)
 clear kMQ stMY
 obtain ⟨voN7, FN8⟩ := fld_laid E1 (Unt.known U1) (tw51 hw) (Or.inl (tw79 hw))
 obtain ⟨TN9, hNA, XNB, eNC, WND, stNE⟩ := putF XMU hx hZ hown (host := "") (Or.inl (tw78 hw)) Via.refl eMV FN8 E1 (Or.inl (tw79 hw)) (tw51 hw) (ty := (.array .int)) (by decide) rfl rfl (g := (mkF m 44 #[vr a] [(.ref aMZ), (.ref a)])) rfl rfl (hH p17_1_44)
 have NNF := Fr.snoc XNB NMO ge_a
 have kNG : own_G p e below E0 TN9 (mkF m 47 #[vr a] []) := fun tQ kk => kN6 tQ (stNE _ kk)
 clear kN6 stNE
 replace E1 := E1.wr WND
 replace U1 := U1.wr WND
 replace FJ8 := FJ8.other WND (Or.inr (sn16 hw))
 replace AJN := AJN.wr WND
 replace ALM := ALM.wr WND
 replace Z0 := own_wrle WND Z0
 replace K0 := K0.wr WND (Or.inl (List.mem_of_getElem? (i := 0) rfl))
 have kNH : own_G p e below E0 TN9 (mkF m 48 #[vr a] [(.ref a)]) := by
  intro tQ kk
  refine kNG tQ ?_
  refine XS.aloadN XNB.here hx rfl (hH p17_1_47) rfl rfl ?_
  exact kk
 clear kNG
 obtain ⟨TNI, hNJ, XNK, eNL, ENM, ANN, DNO, UnNS, stNP⟩ := newO XNB hx hZ hown (tw80 hw) (tw81 hw) (tw82 hw) eNC (g := (mkF m 48 #[vr a] [(.ref a)])) rfl (hH p17_1_48) (by decide) (by decide)
 obtain ⟨aNQ, gNR⟩ : ∃ zA : Nat, zA = hNA.size := ⟨_, rfl⟩
 rw [← gNR] at ANN DNO stNP UnNS
 have nNT := own_lt_ne E1.lt gNR
 have nNU := own_lt_ne AJN.lt gNR
 have nNV := own_lt_ne ALM.lt gNR
 have nwNW : h0.size ≤ aNQ := own_ge_of K0.1 gNR
 have geNX : n0 ≤ aNQ := own_ge_of Z0 gNR
 replace Z0 := Nat.le_trans Z0 ENM.1
 replace E1 := E1.ext ENM
 replace U1 := U1.ext ENM
 replace FJ8 := FJ8.ext ENM
 replace AJN := AJN.ext ENM
 replace ALM := ALM.ext ENM
 replace K0 := K0.ext ENM
 have UnNY : Unt hNJ aNQ := UnNS
 have kNZ : own_G p e below E0 TNI (mkF m 51 #[vr a] [(.ref aNQ), (.ref a)]) := fun tQ kk => kNH tQ (stNP _ kk)
 clear kNH stNP
 have kP0 : own_G p e below E0 TNI (mkF m 52 #[vr a] [(.ref aNQ), (.ref aNQ), (.ref a)]) := by
  intro tQ kk
  refine kNZ tQ ?_
  refine XS.dup XNK.here hx rfl (hH p17_1_51) rfl rfl ?_
  exact kk
 clear kNZ
 obtain ⟨_, _, ⟨TP1, LP2, kcP3, ncP4⟩, -, XP5, ⟨LcP6, hQP7, lP8, yP9, zPA⟩, stPB⟩ := own_specialRef XNK hx (y := mn3) rfl hown (own_mvRef hZ (by decide) (tw84 hw) (tw83 hw)) (mvT hZ (tw84 hw)) (mvT hZ (tw85 hw)) (by decide) (backOf (W := 2) (rmEn l Z a0 hw [] aNQ hNJ n0 Z0 ANN UnNY geNX) hZ (tw85 hw) (tw82 hw) (by decide) (by decide)) (g := (mkF m 52 #[vr a] [(.ref aNQ), (.ref aNQ), (.ref a)])) rfl (by rw [hml]; rfl) (Steps.refl _) (a := aNQ) (argsL := []) (rest := [(.ref aNQ), (.ref a)]) (lenOf pd_8 rfl) rfl (by show 2 * 0 + _ ≤ _; exact Nat.le_of_eq rfl) (hH p17_1_52) (fun _ _ => ⟨rfl, eNL, (by decide : 11 + 3 ≤ _), (by decide : 335 + 0 ≤ _)⟩)
 dsimp only [Pt.U, Pt.locs, Pt.cells, Pt.slots] at XP5 lP8 yP9 zPA stPB hQP7
 subst yP9 zPA
 obtain ⟨rfl, NPC, KPF⟩ := hQP7
 have NPG : Fr n0 LP2 := by rw [lP8]; exact Fr.app NNF NPC
 clear lP8 NPC
 replace Z0 := Nat.le_trans Z0 KPF.1
 replace E1 := E1.keep KPF
 replace U1 := U1.keep KPF (ninS nNT nin0)
 replace FJ8 := FJ8.keep KPF (ninS nNT nin0)
 replace AJN := AJN.keep KPF
 replace ALM := ALM.keep KPF
 replace ANN := ANN.keep KPF
 clear UnNY
 replace K0 := K0.trans KPF (allS (Or.inr nwNW) all0)
 have kPH : own_G p e below E0 TP1 (mkF m 55 #[vr a] [(.ref aNQ), (.ref a)]) := fun tQ kk => kP0 tQ (stPB.trans kk)
 clear kP0 stPB
 obtain ⟨voPI, FPJ⟩ := fld_laid E1 (Unt.known U1) (tw51 hw) (Or.inr (tw98 hw))
 obtain ⟨TPK, hPL, XPM, ePN, WPO, stPP⟩ := putF XP5 hx hZ hown (host := "") (Or.inl (tw97 hw)) Via.refl rfl FPJ E1 (Or.inr ⟨(tw98 hw), rfl, hnm⟩) (tw51 hw) (ty := (.object "com/example/netloom/netloom/embed/BasisFactor$Entries")) (by decide) rfl rfl (g := (mkF m 55 #[vr a] [(.ref aNQ), (.ref a)])) rfl rfl (hH p17_1_55)
 have NPQ := Fr.snoc XPM NPG ge_a
 have kPR : own_G p e below E0 TPK (mkF m 58 #[vr a] []) := fun tQ kk => kPH tQ (stPP _ kk)
 clear kPH stPP
 replace E1 := E1.wr WPO
 replace U1 := U1.wr WPO
 replace FJ8 := FJ8.other WPO (Or.inr (sn17 hw))
 replace AJN := AJN.wr WPO
 replace ALM := ALM.wr WPO
 replace ANN := ANN.wr WPO
 replace Z0 := own_wrle WPO Z0
 replace K0 := K0.wr WPO (Or.inl (List.mem_of_getElem? (i := 0) rfl))
 have kPS : own_G p e below E0 TPK (mkF m 59 #[vr a] [(.ref a)]) := by
  intro tQ kk
  refine kPR tQ ?_
  refine XS.aloadN XPM.here hx rfl (hH p17_1_58) rfl rfl ?_
  exact kk
 clear kPR
 obtain ⟨TPT, hPU, XPV, ePW, EPX, APY, DPZ, UnQ3, stQ0⟩ := newO XPM hx hZ hown (tw80 hw) (tw81 hw) (tw82 hw) ePN (g := (mkF m 59 #[vr a] [(.ref a)])) rfl (hH p17_1_59) (by decide) (by decide)
 obtain ⟨aQ1, gQ2⟩ : ∃ zA : Nat, zA = hPL.size := ⟨_, rfl⟩
 rw [← gQ2] at APY DPZ stQ0 UnQ3
 have nQ4 := own_lt_ne E1.lt gQ2
 have nQ5 := own_lt_ne AJN.lt gQ2
 have nQ6 := own_lt_ne ALM.lt gQ2
 have nQ7 := own_lt_ne ANN.lt gQ2
 have nwQ8 : h0.size ≤ aQ1 := own_ge_of K0.1 gQ2
 have geQ9 : n0 ≤ aQ1 := own_ge_of Z0 gQ2
 replace Z0 := Nat.le_trans Z0 EPX.1
 replace E1 := E1.ext EPX
 replace U1 := U1.ext EPX
 replace FJ8 := FJ8.ext EPX
 replace AJN := AJN.ext EPX
 replace ALM := ALM.ext EPX
 replace ANN := ANN.ext EPX
 replace K0 := K0.ext EPX
 have UnQA : Unt hPU aQ1 := UnQ3
 have kQB : own_G p e below E0 TPT (mkF m 62 #[vr a] [(.ref aQ1), (.ref a)]) := fun tQ kk => kPS tQ (stQ0 _ kk)
 clear kPS stQ0
 have kQC : own_G p e below E0 TPT (mkF m 63 #[vr a] [(.ref aQ1), (.ref aQ1), (.ref a)]) := by
  intro tQ kk
  refine kQB tQ ?_
  refine XS.dup XPV.here hx rfl (hH p17_1_62) rfl rfl ?_
  exact kk
 clear kQB
 obtain ⟨_, _, ⟨TQD, LQE, kcQF, ncQG⟩, -, XQH, ⟨LcQI, hQQJ, lQK, yQL, zQM⟩, stQN⟩ := own_specialRef XPV hx (y := mn3) rfl hown (own_mvRef hZ (by decide) (tw84 hw) (tw83 hw)) (mvT hZ (tw84 hw)) (mvT hZ (tw85 hw)) (by decide) (backOf (W := 2) (rmEn l Z a0 hw [] aQ1 hPU n0 Z0 APY UnQA geQ9) hZ (tw85 hw) (tw82 hw) (by decide) (by decide)) (g := (mkF m 63 #[vr a] [(.ref aQ1), (.ref aQ1), (.ref a)])) rfl (by rw [hml]; rfl) (Steps.refl _) (a := aQ1) (argsL := []) (rest := [(.ref aQ1), (.ref a)]) (lenOf pd_8 rfl) rfl (by show 2 * 0 + _ ≤ _; exact Nat.le_of_eq rfl) (hH p17_1_63) (fun _ _ => ⟨rfl, ePW, (by decide : 15 + 3 ≤ _), (by decide : 338 + 0 ≤ _)⟩)
 dsimp only [Pt.U, Pt.locs, Pt.cells, Pt.slots] at XQH lQK yQL zQM stQN hQQJ
 subst yQL zQM
 obtain ⟨rfl, NQO, KQR⟩ := hQQJ
 have NQS : Fr n0 LQE := by rw [lQK]; exact Fr.app NPQ NQO
 clear lQK NQO
 replace Z0 := Nat.le_trans Z0 KQR.1
 replace E1 := E1.keep KQR
 replace U1 := U1.keep KQR (ninS nQ4 nin0)
 replace FJ8 := FJ8.keep KQR (ninS nQ4 nin0)
 replace AJN := AJN.keep KQR
 replace ALM := ALM.keep KQR
 replace ANN := ANN.keep KQR
 replace APY := APY.keep KQR
 clear UnQA
 replace K0 := K0.trans KQR (allS (Or.inr nwQ8) all0)
 have kQT : own_G p e below E0 TQD (mkF m 66 #[vr a] [(.ref aQ1), (.ref a)]) := fun tQ kk => kQC tQ (stQN.trans kk)
 clear kQC stQN
 obtain ⟨voQU, FQV⟩ := fld_laid E1 (Unt.known U1) (tw51 hw) (Or.inr (tw100 hw))
 obtain ⟨TQW, hQX, XQY, eQZ, WR0, stR1⟩ := putF XQH hx hZ hown (host := "") (Or.inl (tw99 hw)) Via.refl rfl FQV E1 (Or.inr ⟨(tw100 hw), rfl, hnm⟩) (tw51 hw) (ty := (.object "com/example/netloom/netloom/embed/BasisFactor$Entries")) (by decide) rfl rfl (g := (mkF m 66 #[vr a] [(.ref aQ1), (.ref a)])) rfl rfl (hH p17_1_66)
 have NR2 := Fr.snoc XQY NQS ge_a
 have kR3 : own_G p e below E0 TQW (mkF m 69 #[vr a] []) := fun tQ kk => kQT tQ (stR1 _ kk)
 clear kQT stR1
 replace E1 := E1.wr WR0
 replace U1 := U1.wr WR0
 replace FJ8 := FJ8.other WR0 (Or.inr (sn18 hw))
 replace AJN := AJN.wr WR0
 replace ALM := ALM.wr WR0
 replace ANN := ANN.wr WR0
 replace APY := APY.wr WR0
 replace Z0 := own_wrle WR0 Z0
 replace K0 := K0.wr WR0 (Or.inl (List.mem_of_getElem? (i := 0) rfl))
 have kR4 : own_G p e below E0 TQW (mkF m 72 #[vr a] [(.int (16 : Int32)), (.ref a)]) := by
  intro tQ kk
  refine kR3 tQ ?_
  refine XS.aloadN XQY.here hx rfl (hH p17_1_69) rfl rfl ?_
  refine XS.bipush XQY.here hx rfl (hH p17_1_70) ?_
  exact kk
 clear kR3
 obtain ⟨TR5, hR6, cAR7, XR8, eR9, ERA, ARB, stRC⟩ := newP (aty := .double) XQY hx hZ (tw6 hw) eQZ (g := (mkF m 72 #[vr a] [(.int (16 : Int32)), (.ref a)])) rfl (hH p17_1_72) rfl (by decide) (cap := 16) (by decide) (by decide) (by decide) (by decide)
 obtain ⟨aRD, gRE⟩ : ∃ zA : Nat, zA = hQX.size := ⟨_, rfl⟩
 rw [← gRE] at ARB stRC
 have nRF := own_lt_ne E1.lt gRE
 have nRG := own_lt_ne AJN.lt gRE
 have nRH := own_lt_ne ALM.lt gRE
 have nRI := own_lt_ne ANN.lt gRE
 have nRJ := own_lt_ne APY.lt gRE
 have nwRK : h0.size ≤ aRD := own_ge_of K0.1 gRE
 have geRL : n0 ≤ aRD := own_ge_of Z0 gRE
 replace Z0 := Nat.le_trans Z0 ERA.1
 replace E1 := E1.ext ERA
 replace U1 := U1.ext ERA
 replace FJ8 := FJ8.ext ERA
 replace AJN := AJN.ext ERA
 replace ALM := ALM.ext ERA
 replace ANN := ANN.ext ERA
 replace APY := APY.ext ERA
 replace K0 := K0.ext ERA
 have kRM : own_G p e below E0 TR5 (mkF m 74 #[vr a] [(.ref aRD), (.ref a)]) := fun tQ kk => kR4 tQ (stRC _ kk)
 clear kR4 stRC
 obtain ⟨voRN, FRO⟩ := fld_laid E1 (Unt.known U1) (tw51 hw) (Or.inl (tw102 hw))
 obtain ⟨TRP, hRQ, XRR, eRS, WRT, stRU⟩ := putF XR8 hx hZ hown (host := "") (Or.inl (tw101 hw)) Via.refl eR9 FRO E1 (Or.inl (tw102 hw)) (tw51 hw) (ty := (.array .double)) (by decide) rfl rfl (g := (mkF m 74 #[vr a] [(.ref aRD), (.ref a)])) rfl rfl (hH p17_1_74)
 have NRV := Fr.snoc XRR NR2 ge_a
 have kRW : own_G p e below E0 TRP (mkF m 77 #[vr a] []) := fun tQ kk => kRM tQ (stRU _ kk)
 clear kRM stRU
 replace E1 := E1.wr WRT
 replace U1 := U1.wr WRT
 replace FJ8 := FJ8.other WRT (Or.inr (sn19 hw))
 replace AJN := AJN.wr WRT
 replace ALM := ALM.wr WRT
 replace ANN := ANN.wr WRT
 replace APY := APY.wr WRT
 replace Z0 := own_wrle WRT Z0
 replace K0 := K0.wr WRT (Or.inl (List.mem_of_getElem? (i := 0) rfl))
 have kRX : own_G p e below E0 TRP (mkF m 80 #[vr a] [(.int (16 : Int32)), (.ref a)]) := by
  intro tQ kk
  refine kRW tQ ?_
  refine XS.aloadN XRR.here hx rfl (hH p17_1_77) rfl rfl ?_
  refine XS.bipush XRR.here hx rfl (hH p17_1_78) ?_
  exact kk
 clear kRW
 obtain ⟨TRY, hRZ, cAS0, XS1, eS2, ES3, AS4, stS5⟩ := newP (aty := .int) XRR hx hZ (tw5 hw) eRS (g := (mkF m 80 #[vr a] [(.int (16 : Int32)), (.ref a)])) rfl (hH p17_1_80) rfl (by decide) (cap := 16) (by decide) (by decide) (by decide) (by decide)
 obtain ⟨aS6, gS7⟩ : ∃ zA : Nat, zA = hRQ.size := ⟨_, rfl⟩
 rw [← gS7] at AS4 stS5
 have nS8 := own_lt_ne E1.lt gS7
 have nS9 := own_lt_ne AJN.lt gS7
 have nSA := own_lt_ne ALM.lt gS7
 have nSB := own_lt_ne ANN.lt gS7
 have nSC := own_lt_ne APY.lt gS7
 have nwSD : h0.size ≤ aS6 := own_ge_of K0.1 gS7
 have geSE : n0 ≤ aS6 := own_ge_of Z0 gS7
 replace Z0 := Nat.le_trans Z0 ES3.1
 replace E1 := E1.ext ES3
 replace U1 := U1.ext ES3
 replace FJ8 := FJ8.ext ES3
 replace AJN := AJN.ext ES3
 replace ALM := ALM.ext ES3
 replace ANN := ANN.ext ES3
 replace APY := APY.ext ES3
 replace K0 := K0.ext ES3
 have kSF : own_G p e below E0 TRY (mkF m 82 #[vr a] [(.ref aS6), (.ref a)]) := fun tQ kk => kRX tQ (stS5 _ kk)
 clear kRX stS5
 obtain ⟨voSG, FSH⟩ := fld_laid E1 (Unt.known U1) (tw51 hw) (Or.inl (tw104 hw))
 obtain ⟨TSI, hSJ, XSK, eSL, WSM, stSN⟩ := putF XS1 hx hZ hown (host := "") (Or.inl (tw103 hw)) Via.refl eS2 FSH E1 (Or.inl (tw104 hw)) (tw51 hw) (ty := (.array .int)) (by decide) rfl rfl (g := (mkF m 82 #[vr a] [(.ref aS6), (.ref a)])) rfl rfl (hH p17_1_82)
 have NSO := Fr.snoc XSK NRV ge_a
 have kSP : own_G p e below E0 TSI (mkF m 85 #[vr a] []) := fun tQ kk => kSF tQ (stSN _ kk)
 clear kSF stSN
 replace E1 := E1.wr WSM
 replace U1 := U1.wr WSM
 replace FJ8 := FJ8.other WSM (Or.inr (sn20 hw))
 replace AJN := AJN.wr WSM
 replace ALM := ALM.wr WSM
 replace ANN := ANN.wr WSM
 replace APY := APY.wr WSM
 replace Z0 := own_wrle WSM Z0
 replace K0 := K0.wr WSM (Or.inl (List.mem_of_getElem? (i := 0) rfl))
 have kSQ : own_G p e below E0 TSI (mkF m 88 #[vr a] [(.int (16 : Int32)), (.ref a)]) := by
  intro tQ kk
  refine kSP tQ ?_
  refine XS.aloadN XSK.here hx rfl (hH p17_1_85) rfl rfl ?_
  refine XS.bipush XSK.here hx rfl (hH p17_1_86) ?_
  exact kk
 clear kSP
 obtain ⟨TSR, hSS, cAST, XSU, eSV, ESW, ASX, stSY⟩ := newP (aty := .int) XSK hx hZ (tw5 hw) eSL (g := (mkF m 88 #[vr a] [(.int (16 : Int32)), (.ref a)])) rfl (hH p17_1_88) rfl (by decide) (cap := 16) (by decide) (by decide) (by decide) (by decide)
 obtain ⟨aSZ, gT0⟩ : ∃ zA : Nat, zA = hSJ.size := ⟨_, rfl⟩
 rw [← gT0] at ASX stSY
 have nT1 := own_lt_ne E1.lt gT0
 have nT2 := own_lt_ne AJN.lt gT0
 have nT3 := own_lt_ne ALM.lt gT0
 have nT4 := own_lt_ne ANN.lt gT0
 have nT5 := own_lt_ne APY.lt gT0
 have nwT6 : h0.size ≤ aSZ := own_ge_of K0.1 gT0
 have geT7 : n0 ≤ aSZ := own_ge_of Z0 gT0
 replace Z0 := Nat.le_trans Z0 ESW.1
 replace E1 := E1.ext ESW
 replace U1 := U1.ext ESW
 replace FJ8 := FJ8.ext ESW
 replace AJN := AJN.ext ESW
 replace ALM := ALM.ext ESW
 replace ANN := ANN.ext ESW
 replace APY := APY.ext ESW
 replace K0 := K0.ext ESW
 have kT8 : own_G p e below E0 TSR (mkF m 90 #[vr a] [(.ref aSZ), (.ref a)]) := fun tQ kk => kSQ tQ (stSY _ kk)
 clear kSQ stSY
 obtain ⟨voT9, FTA⟩ := fld_laid E1 (Unt.known U1) (tw51 hw) (Or.inl (tw106 hw))
 obtain ⟨TTB, hTC, XTD, eTE, WTF, stTG⟩ := putF XSU hx hZ hown (host := "") (Or.inl (tw105 hw)) Via.refl eSV FTA E1 (Or.inl (tw106 hw)) (tw51 hw) (ty := (.array .int)) (by decide) rfl rfl (g := (mkF m 90 #[vr a] [(.ref aSZ), (.ref a)])) rfl rfl (hH p17_1_90)
 have NTH := Fr.snoc XTD NSO ge_a
 have kTI : own_G p e below E0 TTB (mkF m 93 #[vr a] []) := fun tQ kk => kT8 tQ (stTG _ kk)
 clear kT8 stTG
 replace E1 := E1.wr WTF
 replace U1 := U1.wr WTF
 replace FJ8 := FJ8.other WTF (Or.inr (sn21 hw))
 replace AJN := AJN.wr WTF
 replace ALM := ALM.wr WTF
 replace ANN := ANN.wr WTF
 replace APY := APY.wr WTF
 replace Z0 := own_wrle WTF Z0
 replace K0 := K0.wr WTF (Or.inl (List.mem_of_getElem? (i := 0) rfl))
 have kTJ : own_G p e below E0 TTB (mkF m 96 #[vr a] [(.int (16 : Int32)), (.ref a)]) := by
  intro tQ kk
  refine kTI tQ ?_
  refine XS.aloadN XTD.here hx rfl (hH p17_1_93) rfl rfl ?_
  refine XS.bipush XTD.here hx rfl (hH p17_1_94) ?_
  exact kk
 clear kTI
 obtain ⟨TTK, hTL, cATM, XTN, eTO, ETP, ATQ, stTR⟩ := newP (aty := .int) XTD hx hZ (tw5 hw) eTE (g := (mkF m 96 #[vr a] [(.int (16 : Int32)), (.ref a)])) rfl (hH p17_1_96) rfl (by decide) (cap := 16) (by decide) (by decide) (by decide) (by decide)
 obtain ⟨aTS, gTT⟩ : ∃ zA : Nat, zA = hTC.size := ⟨_, rfl⟩
 rw [← gTT] at ATQ stTR
 have nTU := own_lt_ne E1.lt gTT
 have nTV := own_lt_ne AJN.lt gTT
 have nTW := own_lt_ne ALM.lt gTT
 have nTX := own_lt_ne ANN.lt gTT
 have nTY := own_lt_ne APY.lt gTT
 have nwTZ : h0.size ≤ aTS := own_ge_of K0.1 gTT
 have geU0 : n0 ≤ aTS := own_ge_of Z0 gTT
 replace Z0 := Nat.le_trans Z0 ETP.1
 replace E1 := E1.ext ETP
 replace U1 := U1.ext ETP
 replace FJ8 := FJ8.ext ETP
 replace AJN := AJN.ext ETP
 replace ALM := ALM.ext ETP
 replace ANN := ANN.ext ETP
 replace APY := APY.ext ETP
 replace K0 := K0.ext ETP
 have kU1 : own_G p e below E0 TTK (mkF m 98 #[vr a] [(.ref aTS), (.ref a)]) := fun tQ kk => kTJ tQ (stTR _ kk)
 clear kTJ stTR
 obtain ⟨voU2, FU3⟩ := fld_laid E1 (Unt.known U1) (tw51 hw) (Or.inl (tw108 hw))
 obtain ⟨TU4, hU5, XU6, eU7, WU8, stU9⟩ := putF XTN hx hZ hown (host := "") (Or.inl (tw107 hw)) Via.refl eTO FU3 E1 (Or.inl (tw108 hw)) (tw51 hw) (ty := (.array .int)) (by decide) rfl rfl (g := (mkF m 98 #[vr a] [(.ref aTS), (.ref a)])) rfl rfl (hH p17_1_98)
 have NUA := Fr.snoc XU6 NTH ge_a
 have kUB : own_G p e below E0 TU4 (mkF m 101 #[vr a] []) := fun tQ kk => kU1 tQ (stU9 _ kk)
 clear kU1 stU9
 replace E1 := E1.wr WU8
 replace U1 := U1.wr WU8
 replace FJ8 := FJ8.other WU8 (Or.inr (sn22 hw))
 replace AJN := AJN.wr WU8
 replace ALM := ALM.wr WU8
 replace ANN := ANN.wr WU8
 replace APY := APY.wr WU8
 replace Z0 := own_wrle WU8 Z0
 replace K0 := K0.wr WU8 (Or.inl (List.mem_of_getElem? (i := 0) rfl))
 have kUC : own_G p e below E0 TU4 (mkF m 104 #[vr a] [(.int (16 : Int32)), (.ref a)]) := by
  intro tQ kk
  refine kUB tQ ?_
  refine XS.aloadN XU6.here hx rfl (hH p17_1_101) rfl rfl ?_
  refine XS.bipush XU6.here hx rfl (hH p17_1_102) ?_
  exact kk
 clear kUB
 obtain ⟨TUD, hUE, cAUF, XUG, eUH, EUI, AUJ, stUK⟩ := newP (aty := .int) XU6 hx hZ (tw5 hw) eU7 (g := (mkF m 104 #[vr a] [(.int (16 : Int32)), (.ref a)])) rfl (hH p17_1_104) rfl (by decide) (cap := 16) (by decide) (by decide) (by decide) (by decide)
 obtain ⟨aUL, gUM⟩ : ∃ zA : Nat, zA = hU5.size := ⟨_, rfl⟩
 rw [← gUM] at AUJ stUK
 have nUN := own_lt_ne E1.lt gUM
 have nUO := own_lt_ne AJN.lt gUM
 have nUP := own_lt_ne ALM.lt gUM
 have nUQ := own_lt_ne ANN.lt gUM
 have nUR := own_lt_ne APY.lt gUM
 have nwUS : h0.size ≤ aUL := own_ge_of K0.1 gUM
 have geUT : n0 ≤ aUL := own_ge_of Z0 gUM
 replace Z0 := Nat.le_trans Z0 EUI.1
 replace E1 := E1.ext EUI
 replace U1 := U1.ext EUI
 replace FJ8 := FJ8.ext EUI
 replace AJN := AJN.ext EUI
 replace ALM := ALM.ext EUI
 replace ANN := ANN.ext EUI
 replace APY := APY.ext EUI
 replace K0 := K0.ext EUI
 have kUU : own_G p e below E0 TUD (mkF m 106 #[vr a] [(.ref aUL), (.ref a)]) := fun tQ kk => kUC tQ (stUK _ kk)
 clear kUC stUK
 obtain ⟨voUV, FUW⟩ := fld_laid E1 (Unt.known U1) (tw51 hw) (Or.inl (tw110 hw))
 obtain ⟨TUX, hUY, XUZ, eV0, WV1, stV2⟩ := putF XUG hx hZ hown (host := "") (Or.inl (tw109 hw)) Via.refl eUH FUW E1 (Or.inl (tw110 hw)) (tw51 hw) (ty := (.array .int)) (by decide) rfl rfl (g := (mkF m 106 #[vr a] [(.ref aUL), (.ref a)])) rfl rfl (hH p17_1_106)
 have NV3 := Fr.snoc XUZ NUA ge_a
 have kV4 : own_G p e below E0 TUX (mkF m 109 #[vr a] []) := fun tQ kk => kUU tQ (stV2 _ kk)
 clear kUU stV2
 replace E1 := E1.wr WV1
 replace U1 := U1.wr WV1
 replace FJ8 := FJ8.other WV1 (Or.inr (sn23 hw))
 replace AJN := AJN.wr WV1
 replace ALM := ALM.wr WV1
 replace ANN := ANN.wr WV1
 replace APY := APY.wr WV1
 replace Z0 := own_wrle WV1 Z0
 replace K0 := K0.wr WV1 (Or.inl (List.mem_of_getElem? (i := 0) rfl))
 have kV5 : own_G p e below E0 TUX (mkF m 112 #[vr a] [(.int (16 : Int32)), (.ref a)]) := by
  intro tQ kk
  refine kV4 tQ ?_
  refine XS.aloadN XUZ.here hx rfl (hH p17_1_109) rfl rfl ?_
  refine XS.bipush XUZ.here hx rfl (hH p17_1_110) ?_
  exact kk
 clear kV4
 obtain ⟨TV6, hV7, cAV8, XV9, eVA, EVB, AVC, stVD⟩ := newP (aty := .double) XUZ hx hZ (tw6 hw) eV0 (g := (mkF m 112 #[vr a] [(.int (16 : Int32)), (.ref a)])) rfl (hH p17_1_112) rfl (by decide) (cap := 16) (by decide) (by decide) (by decide) (by decide)
 obtain ⟨aVE, gVF⟩ : ∃ zA : Nat, zA = hUY.size := ⟨_, rfl⟩
 rw [← gVF] at AVC stVD
 have nVG := own_lt_ne E1.lt gVF
 have nVH := own_lt_ne AJN.lt gVF
 have nVI := own_lt_ne ALM.lt gVF
 have nVJ := own_lt_ne ANN.lt gVF
 have nVK := own_lt_ne APY.lt gVF
 have nwVL : h0.size ≤ aVE := own_ge_of K0.1 gVF
 have geVM : n0 ≤ aVE := own_ge_of Z0 gVF
 replace Z0 := Nat.le_trans Z0 EVB.1
 replace E1 := E1.ext EVB
 replace U1 := U1.ext EVB
 replace FJ8 := FJ8.ext EVB
 replace AJN := AJN.ext EVB
 replace ALM := ALM.ext EVB
 replace ANN := ANN.ext EVB
 replace APY := APY.ext EVB
 replace K0 := K0.ext EVB
 have kVN : own_G p e below E0 TV6 (mkF m 114 #[vr a] [(.ref aVE), (.ref a)]) := fun tQ kk => kV5 tQ (stVD _ kk)
 clear kV5 stVD
 obtain ⟨voVO, FVP⟩ := fld_laid E1 (Unt.known U1) (tw51 hw) (Or.inl (tw112 hw))
 obtain ⟨TVQ, hVR, XVS, eVT, WVU, stVV⟩ := putF XV9 hx hZ hown (host := "") (Or.inl (tw111 hw)) Via.refl eVA FVP E1 (Or.inl (tw112 hw)) (tw51 hw) (ty := (.array .double)) (by decide) rfl rfl (g := (mkF m 114 #[vr a] [(.ref aVE), (.ref a)])) rfl rfl (hH p17_1_114)
 have NVW := Fr.snoc XVS NV3 ge_a
 have kVX : own_G p e below E0 TVQ (mkF m 117 #[vr a] []) := fun tQ kk => kVN tQ (stVV _ kk)
 clear kVN stVV
 replace E1 := E1.wr WVU
 replace U1 := U1.wr WVU
 replace FJ8 := FJ8.other WVU (Or.inr (sn24 hw))
 replace AJN := AJN.wr WVU
 replace ALM := ALM.wr WVU
 replace ANN := ANN.wr WVU
 replace APY := APY.wr WVU
 replace Z0 := own_wrle WVU Z0
 replace K0 := K0.wr WVU (Or.inl (List.mem_of_getElem? (i := 0) rfl))
 have kVY : own_G p e below E0 TVQ (mkF m 120 #[vr a] [(.int (16 : Int32)), (.ref a)]) := by
  intro tQ kk
  refine kVX tQ ?_
  refine XS.aloadN XVS.here hx rfl (hH p17_1_117) rfl rfl ?_
  refine XS.bipush XVS.here hx rfl (hH p17_1_118) ?_
  exact kk
 clear kVX
 obtain ⟨TVZ, hW0, cAW1, XW2, eW3, EW4, AW5, stW6⟩ := newP (aty := .double) XVS hx hZ (tw6 hw) eVT (g := (mkF m 120 #[vr a] [(.int (16 : Int32)), (.ref a)])) rfl (hH p17_1_120) rfl (by decide) (cap := 16) (by decide) (by decide) (by decide) (by decide)
 obtain ⟨aW7, gW8⟩ : ∃ zA : Nat, zA = hVR.size := ⟨_, rfl⟩
 rw [← gW8] at AW5 stW6
 have nW9 := own_lt_ne E1.lt gW8
 have nWA := own_lt_ne AJN.lt gW8
 have nWB := own_lt_ne ALM.lt gW8
 have nWC := own_lt_ne ANN.lt gW8
 have nWD := own_lt_ne APY.lt gW8
 have nwWE : h0.size ≤ aW7 := own_ge_of K0.1 gW8
 have geWF : n0 ≤ aW7 := own_ge_of Z0 gW8
 replace Z0 := Nat.le_trans Z0 EW4.1
 replace E1 := E1.ext EW4
 replace U1 := U1.ext EW4
 replace FJ8 := FJ8.ext EW4
 replace AJN := AJN.ext EW4
 replace ALM := ALM.ext EW4
 replace ANN := ANN.ext EW4
 replace APY := APY.ext EW4
 replace K0 := K0.ext EW4
 have kWG : own_G p e below E0 TVZ (mkF m 122 #[vr a] [(.ref aW7), (.ref a)]) := fun tQ kk => kVY tQ (stW6 _ kk)
 clear kVY stW6
 obtain ⟨voWH, FWI⟩ := fld_laid E1 (Unt.known U1) (tw51 hw) (Or.inl (tw114 hw))
 obtain ⟨TWJ, hWK, XWL, eWM, WWN, stWO⟩ := putF XW2 hx hZ hown (host := "") (Or.inl (tw113 hw)) Via.refl eW3 FWI E1 (Or.inl (tw114 hw)) (tw51 hw) (ty := (.array .double)) (by decide) rfl rfl (g := (mkF m 122 #[vr a] [(.ref aW7), (.ref a)])) rfl rfl (hH p17_1_122)
 have NWP := Fr.snoc XWL NVW ge_a
 have kWQ : own_G p e below E0 TWJ (mkF m 125 #[vr a] []) := fun tQ kk => kWG tQ (stWO _ kk)
 clear kWG stWO
 replace E1 := E1.wr WWN
 replace U1 := U1.wr WWN
 replace FJ8 := FJ8.other WWN (Or.inr (sn25 hw))
 replace AJN := AJN.wr WWN
 replace ALM := ALM.wr WWN
 replace ANN := ANN.wr WWN
 replace APY := APY.wr WWN
 replace Z0 := own_wrle WWN Z0
 replace K0 := K0.wr WWN (Or.inl (List.mem_of_getElem? (i := 0) rfl))
 have kWR : own_G p e below E0 TWJ (mkF m 126 #[vr a] [(.ref a)]) := by
  intro tQ kk
  refine kWQ tQ ?_
  refine XS.aloadN XWL.here hx rfl (hH p17_1_125) rfl rfl ?_
  exact kk
 clear kWQ
 obtain ⟨TWS, hWT, XWU, eWV, EWW, AWX, DWY, UnX2, stWZ⟩ := newO XWL hx hZ hown (tw115 hw) (tw116 hw) (tw117 hw) eWM (g := (mkF m 126 #[vr a] [(.ref a)])) rfl (hH p17_1_126) (by decide) (by decide)
 obtain ⟨aX0, gX1⟩ : ∃ zA : Nat, zA = hWK.size := ⟨_, rfl⟩
 rw [← gX1] at AWX DWY stWZ UnX2
 have nX3 := own_lt_ne E1.lt gX1
 have nX4 := own_lt_ne AJN.lt gX1
 have nX5 := own_lt_ne ALM.lt gX1
 have nX6 := own_lt_ne ANN.lt gX1
 have nX7 := own_lt_ne APY.lt gX1
 have nwX8 : h0.size ≤ aX0 := own_ge_of K0.1 gX1
 have geX9 : n0 ≤ aX0 := own_ge_of Z0 gX1
 replace Z0 := Nat.le_trans Z0 EWW.1
 replace E1 := E1.ext EWW
 replace U1 := U1.ext EWW
 replace FJ8 := FJ8.ext EWW
 replace AJN := AJN.ext EWW
 replace ALM := ALM.ext EWW
 replace ANN := ANN.ext EWW
 replace APY := APY.ext EWW
 replace K0 := K0.ext EWW
 have UnXA : Unt hWT aX0 := UnX2
 have kXB : own_G p e below E0 TWS (mkF m 129 #[vr a] [(.ref aX0), (.ref a)]) := fun tQ kk => kWR tQ (stWZ _ kk)
 clear kWR stWZ
 have kXC : own_G p e below E0 TWS (mkF m 131 #[vr a] [(.ref a), (.ref aX0), (.ref aX0), (.ref a)]) := by
  intro tQ kk
  refine kXB tQ ?_
  refine XS.dup XWU.here hx rfl (hH p17_1_129) rfl rfl ?_
  refine XS.aloadN XWU.here hx rfl (hH p17_1_130) rfl rfl ?_
  exact kk
 clear kXB
 obtain ⟨_, _, ⟨TXD, LXE, kcXF, ncXG⟩, -, XXH, ⟨LcXI, hQXJ, lXK, yXL, zXM⟩, stXN⟩ := own_specialRef XWU hx (y := mn7) rfl hown (own_mvRef hZ (by decide) (tw119 hw) (tw118 hw)) (mvT hZ (tw119 hw)) (mvT hZ (tw120 hw)) (by decide) (backOf (W := 2) (rmEl l Z a0 hw [] aX0 a hWT n0 Z0 AWX UnXA geX9) hZ (tw120 hw) (tw117 hw) (by decide) (by decide)) (g := (mkF m 131 #[vr a] [(.ref a), (.ref aX0), (.ref aX0), (.ref a)])) rfl (by rw [hml]; rfl) (Steps.refl _) (a := aX0) (argsL := [(.ref a)]) (rest := [(.ref aX0), (.ref a)]) (lenOf pd_26 rfl) rfl (by show 2 * 0 + _ ≤ _; exact Nat.le_of_eq rfl) (hH p17_1_131) (fun _ _ => ⟨rfl, eWV, (by decide : 26 + 21 ≤ _), (by decide : 465 + 11 ≤ _)⟩)
 dsimp only [Pt.U, Pt.locs, Pt.cells, Pt.slots] at XXH lXK yXL zXM stXN hQXJ
 subst yXL zXM
 obtain ⟨rfl, NXO, KXR⟩ := hQXJ
 have NXS : Fr n0 LXE := by rw [lXK]; exact Fr.app NWP NXO
 clear lXK NXO
 replace Z0 := Nat.le_trans Z0 KXR.1
 replace E1 := E1.keep KXR
 replace U1 := U1.keep KXR (ninS nX3 nin0)
 replace FJ8 := FJ8.keep KXR (ninS nX3 nin0)
 replace AJN := AJN.keep KXR
 replace ALM := ALM.keep KXR
 replace ANN := ANN.keep KXR
 replace APY := APY.keep KXR
 replace AWX := AWX.keep KXR
 clear UnXA
 replace K0 := K0.trans KXR (allS (Or.inr nwX8) all0)
 have kXT : own_G p e below E0 TXD (mkF m 134 #[vr a] [(.ref aX0), (.ref a)]) := fun tQ kk => kXC tQ (stXN.trans kk)
 clear kXC stXN
 obtain ⟨voXU, FXV⟩ := fld_laid E1 (Unt.known U1) (tw51 hw) (Or.inr (tw164 hw))
 obtain ⟨TXW, hXX, XXY, eXZ, WY0, stY1⟩ := putF XXH hx hZ hown (host := "") (Or.inl (tw163 hw)) Via.refl rfl FXV E1 (Or.inr ⟨(tw164 hw), rfl, hnm⟩) (tw51 hw) (ty := (.object "com/example/netloom/netloom/embed/BasisFactor$Elimination")) (by decide) rfl rfl (g := (mkF m 134 #[vr a] [(.ref aX0), (.ref a)])) rfl rfl (hH p17_1_134)
 have NY2 := Fr.snoc XXY NXS ge_a
 have kY3 : own_G p e below E0 TXW (mkF m 137 #[vr a] []) := fun tQ kk => kXT tQ (stY1 _ kk)
 clear kXT stY1
 replace E1 := E1.wr WY0
 replace U1 := U1.wr WY0
 replace FJ8 := FJ8.other WY0 (Or.inr (sn27 hw))
 replace AJN := AJN.wr WY0
 replace ALM := ALM.wr WY0
 replace ANN := ANN.wr WY0
 replace APY := APY.wr WY0
 replace AWX := AWX.wr WY0
 replace Z0 := own_wrle WY0 Z0
 replace K0 := K0.wr WY0 (Or.inl (List.mem_of_getElem? (i := 0) rfl))
 obtain ⟨fs, hr, hrun, hended, hW, hsame⟩ := XXY.leave (v := none) (fun _ => rfl)
 have hrun0 := kY3 _ (XXY.returnOut hx Bd.returns (hH p17_1_137) hr)
 subst hE0
 refine ⟨_, _, hrun0, hrun, hended, _, _, rfl, ?_, ⟨_, rfl⟩, hW, hsame.mono (by decide) (by decide)⟩
 show QrmBf Z a h0 n0 _ TXW.heap _
 rw [eXZ]
 exact ⟨rfl, NY2, K0, FJ8⟩
def QrmAc (Z : State) (a : Addr) (h0 : Heap) (n0 : Nat) (vQ : Option Value) (hQ : Heap) (LQ : List Loc) : Prop := vQ = none ∧ Fr n0 LQ ∧ hQ = h0
theorem ef_rmAc (m : MethodId) (a : Addr) : entryFrame m #[(.ref a)] 1 = mkF m 0 #[vr a] [] := by first | (simp [entryFrame, mkF, argsToLocals, Value.category]; done) | rfl
abbrev mn28 : MethodName := ⟨"java/util/AbstractCollection", "<init>", "()V"⟩
theorem pn_java_util_AbstractCollection : plainName "java/util/AbstractCollection" = true := by first | (simp [plainName, overriddenIn]; done) | decide +kernel
theorem j22_1_0 : decode jdk_22_method_1_code 0 = .ok (.aload_n 0, 1) := by decide +kernel
theorem j22_1_1 : decode jdk_22_method_1_code 1 = .ok (.invokespecial 1, 3) := by decide +kernel
def tw34 {Z a0} (hw : HW Z a0) := hw _ (List.mem_of_getElem? (i := 34) rfl)
theorem j22_1_4 : decode jdk_22_method_1_code 4 = .ok (.return_, 1) := by decide +kernel
set_option maxRecDepth 65536 in
set_option maxHeartbeats 40000000 in
theorem rmAc (l : Launch) (Z : State) (a0 : Array Value) (hw : ∀ d ∈ tables_1, d.before a0 Z = true) (ws : List Jvm.Cond) (a : Addr) (h0 : Heap) (n0 : Nat) (Z0 : n0 ≤ h0.size)  :
  MetFree l mn28 (head1 (Jvm.Cond.code mn28 jdk_22_method_1_code 1 none :: ws) ({ frames := 1, cells := 0, slots := 0, locals := 12 } : Room)) (fun aA U => aA = #[(.ref a)] ∧ Z.Warmed39 U.vm ∧ U.heap = h0) (fun _ _ _ _ _ => True) (fun _ U o U' => ∃ vR LR, o = .returned vR ∧ QrmAc Z a h0 n0 vR U'.heap LR ∧ FrameEnd U o U' LR ({ frames := 1, cells := 0, slots := 0, locals := 12 } : Room).cells ({ frames := 1, cells := 0, slots := 0, locals := 12 } : Room).slots) := by
 refine MetFree.of_bodySF (plainFor_of_name pn_java_util_AbstractCollection) hisR ?_
 intro p e s m args below meth c s₁ Bd hml0 hPre hKk
 obtain ⟨rfl, hZ, hh⟩ := hPre
 have hx := Bd.exec
 have hby := Bd.bytes
 have hH : ∀ {pc r}, decode jdk_22_method_1_code pc = r → decode c.code pc = r := fun q => hb hby q
 have hml : c.maxLocals = 1 := hml0
 have hown : s.vm.findClass "java/util/AbstractCollection" = some m.cls := findClass_of_methodNamed Bd.named
 have hnm := (name_of_methodNamed Bd.named Bd.method).1
 have X0 : Stand p l e ({ frames := 1, cells := 0, slots := 0, locals := 12 } : Room) s m #[(.ref a)] below meth c s₁ [] 0 0 := Stand.of_body Bd
 have e0 : s₁.heap = h0 := by rw [← hh, Bd.state]; rfl
 have N0 := Fr.nil n0
 obtain ⟨E0, hE0⟩ : ∃ zE : State, zE = s₁.setTop (entryFrame m #[(.ref a)] 1) := ⟨_, rfl⟩
 have k0 : own_G p e below E0 s₁ (mkF m 0 #[vr a] []) := fun tz kz => hE0 ▸ castTop (ef_rmAc m a) kz
 have kJ0 : own_G p e below E0 s₁ (mkF m 1 #[vr a] [(.ref a)]) := by
  intro tQ kk
  refine k0 tQ ?_
  refine XS.aloadN X0.here hx rfl (hH j22_1_0) rfl rfl ?_
  exact kk
 clear k0
 obtain ⟨TJ1, XJ2, eJ3, stJ4⟩ := initO X0 hx hZ hown (tw34 hw) (tw14 hw) (tw15 hw) e0 (g := (mkF m 1 #[vr a] [(.ref a)])) rfl (by rw [hml]; rfl) rfl (hH j22_1_1) (by decide) (W := 0) (by show 2 * 0 + _ ≤ _; exact Nat.le_of_eq rfl) (by decide)
 have kJ5 : own_G p e below E0 TJ1 (mkF m 4 #[vr a] []) := fun tQ kk => kJ0 tQ (stJ4 _ kk)
 clear kJ0 stJ4
 obtain ⟨fs, hr, hrun, hended, hW, hsame⟩ := XJ2.leave (v := none) (fun _ => rfl)
 have hrun0 := kJ5 _ (XJ2.returnOut hx Bd.returns (hH j22_1_4) hr)
 subst hE0
 refine ⟨_, _, hrun0, hrun, hended, _, _, rfl, ?_, ⟨_, rfl⟩, hW, hsame.mono (by decide) (by decide)⟩
 show QrmAc Z a h0 n0 _ TJ1.heap _
 rw [eJ3]
 exact ⟨rfl, N0, rfl⟩
abbrev fd29 (Z : State) (h : Heap) (a : Addr) (v : Value) : Prop := Fld Z h a "java/util/AbstractList" "modCount" "I" v
abbrev fd30 (Z : State) (h : Heap) (a : Addr) (v : Value) : Prop := Fld Z h a "java/util/ArrayList" "elementData" "[Ljava/lang/Object;" v
abbrev fd31 (Z : State) (h : Heap) (a : Addr) (v : Value) : Prop := Fld Z h a "java/util/ArrayList" "size" "I" v
def QrmAb (Z : State) (a : Addr) (h0 : Heap) (n0 : Nat) (vQ : Option Value) (hQ : Heap) (LQ : List Loc) : Prop := vQ = none ∧ Fr n0 LQ ∧ Keep h0 hQ [a] ∧ (fd29 Z hQ a (.int (0 : Int32))) ∧ (fd30 Z hQ a .null) ∧ (fd31 Z hQ a (.int (0 : Int32)))
theorem ef_rmAb (m : MethodId) (a : Addr) : entryFrame m #[(.ref a)] 1 = mkF m 0 #[vr a] [] := by first | (simp [entryFrame, mkF, argsToLocals, Value.category]; done) | rfl
abbrev xa32 (Z : State) (h : Heap) (a : Addr) : Prop := Exa Z h a "java/util/ArrayList"
abbrev mn33 : MethodName := ⟨"java/util/AbstractList", "<init>", "()V"⟩
theorem pn_java_util_AbstractList : plainName "java/util/AbstractList" = true := by first | (simp [plainName, overriddenIn]; done) | decide +kernel
theorem j39_1_0 : decode jdk_39_method_1_code 0 = .ok (.aload_n 0, 1) := by decide +kernel
theorem j39_1_1 : decode jdk_39_method_1_code 1 = .ok (.invokespecial 1, 3) := by decide +kernel
def tw28 {Z a0} (hw : HW Z a0) := hw _ (List.mem_of_getElem? (i := 28) rfl)
def tw33 {Z a0} (hw : HW Z a0) := hw _ (List.mem_of_getElem? (i := 33) rfl)
def tw32 {Z a0} (hw : HW Z a0) := hw _ (List.mem_of_getElem? (i := 32) rfl)
def tw29 {Z a0} (hw : HW Z a0) := hw _ (List.mem_of_getElem? (i := 29) rfl)
theorem j39_1_4 : decode jdk_39_method_1_code 4 = .ok (.aload_n 0, 1) := by decide +kernel
theorem j39_1_5 : decode jdk_39_method_1_code 5 = .ok (.iconst 0, 1) := by decide +kernel
theorem j39_1_6 : decode jdk_39_method_1_code 6 = .ok (.putfield 7, 3) := by decide +kernel
def tw35 {Z a0} (hw : HW Z a0) := hw _ (List.mem_of_getElem? (i := 35) rfl)
def tw17 {Z a0} (hw : HW Z a0) := hw _ (List.mem_of_getElem? (i := 17) rfl)
def tw36 {Z a0} (hw : HW Z a0) := hw _ (List.mem_of_getElem? (i := 36) rfl)
def tw39 {Z a0} (hw : HW Z a0) := hw _ (List.mem_of_getElem? (i := 39) rfl)
abbrev cn35 : String := "java/util/ArrayList"
abbrev cn36 : String := "java/util/AbstractList"
theorem sn34 {Z a0} (hw : HW Z a0) : RoadKit.slotOf Z cn35 "elementData" "[Ljava/lang/Object;" ≠ RoadKit.slotOf Z cn36 "modCount" "I" := (slot_ne (C := cn35) (Or.inl (tw39 hw)) (Or.inl (tw36 hw)) (by decide) (t := (.array (.object "java/lang/Object"))) (t' := .int) (by decide) (by decide))
def tw186 {Z a0} (hw : HW Z a0) := hw _ (List.mem_of_getElem? (i := 186) rfl)
theorem sn37 {Z a0} (hw : HW Z a0) : RoadKit.slotOf Z cn35 "size" "I" ≠ RoadKit.slotOf Z cn36 "modCount" "I" := (slot_ne (C := cn35) (Or.inl (tw186 hw)) (Or.inl (tw36 hw)) (by decide) (t := .int) (t' := .int) (by decide) (by decide))
theorem j39_1_9 : decode jdk_39_method_1_code 9 = .ok (.return_, 1) := by decide +kernel
set_option maxRecDepth 65536 in
set_option maxHeartbeats 40000000 in
theorem rmAb (l : Launch) (Z : State) (a0 : Array Value) (hw : ∀ d ∈ tables_1, d.before a0 Z = true) (ws : List Jvm.Cond) (a : Addr) (h0 : Heap) (n0 : Nat) (Z0 : n0 ≤ h0.size) (E1 : xa32 Z h0 a) (F0 : fd29 Z h0 a (.int (0 : Int32))) (F1 : fd30 Z h0 a .null) (F2 : fd31 Z h0 a (.int (0 : Int32))) (ge_a : n0 ≤ a) :
  MetFree l mn33 (head1 (Jvm.Cond.code mn33 jdk_39_method_1_code 1 none :: ws) ({ frames := 2, cells := 0, slots := 0, locals := 26 } : Room)) (fun aA U => aA = #[(.ref a)] ∧ Z.Warmed39 U.vm ∧ U.heap = h0) (fun _ _ _ _ _ => True) (fun _ U o U' => ∃ vR LR, o = .returned vR ∧ QrmAb Z a h0 n0 vR U'.heap LR ∧ FrameEnd U o U' LR ({ frames := 2, cells := 0, slots := 0, locals := 26 } : Room).cells ({ frames := 2, cells := 0, slots := 0, locals := 26 } : Room).slots) := by
 refine MetFree.of_bodySF (plainFor_of_name pn_java_util_AbstractList) hisR ?_
 intro p e s m args below meth c s₁ Bd hml0 hPre hKk
 obtain ⟨rfl, hZ, hh⟩ := hPre
 have hx := Bd.exec
 have hby := Bd.bytes
 have hH : ∀ {pc r}, decode jdk_39_method_1_code pc = r → decode c.code pc = r := fun q => hb hby q
 have hml : c.maxLocals = 1 := hml0
 have hown : s.vm.findClass "java/util/AbstractList" = some m.cls := findClass_of_methodNamed Bd.named
 have hnm := (name_of_methodNamed Bd.named Bd.method).1
 have X0 : Stand p l e ({ frames := 2, cells := 0, slots := 0, locals := 26 } : Room) s m #[(.ref a)] below meth c s₁ [] 0 0 := Stand.of_body Bd
 have e0 : s₁.heap = h0 := by rw [← hh, Bd.state]; rfl
 have N0 := Fr.nil n0
 obtain ⟨E0, hE0⟩ : ∃ zE : State, zE = s₁.setTop (entryFrame m #[(.ref a)] 1) := ⟨_, rfl⟩
 have k0 : own_G p e below E0 s₁ (mkF m 0 #[vr a] []) := fun tz kz => hE0 ▸ castTop (ef_rmAb m a) kz
 have K0 : Keep h0 h0 [a] := Keep.refl _ _
 have kJ0 : own_G p e below E0 s₁ (mkF m 1 #[vr a] [(.ref a)]) := by
  intro tQ kk
  refine k0 tQ ?_
  refine XS.aloadN X0.here hx rfl (hH j39_1_0) rfl rfl ?_
  exact kk
 clear k0
 obtain ⟨_, _, ⟨TJ1, LJ2, kcJ3, ncJ4⟩, -, XJ5, ⟨LcJ6, hQJ7, lJ8, yJ9, zJA⟩, stJB⟩ := X0.specialBack hx (y := mn28) rfl hown (mvT hZ (tw28 hw)) (mvT hZ (tw29 hw)) (mvT hZ (tw33 hw)) (by decide) (backOf (W := 0) (rmAc l Z a0 hw [] a h0 n0 Z0 ) hZ (tw33 hw) (tw32 hw) (by decide) (by decide)) (g := (mkF m 1 #[vr a] [(.ref a)])) rfl (by rw [hml]; rfl) (Steps.refl _) (a := a) (argsL := []) (rest := []) (lenOf pd_8 rfl) rfl (by show 2 * 0 + _ ≤ _; exact Nat.le_of_eq rfl) (hH j39_1_1) (fun _ _ => ⟨rfl, e0, (by decide : 0 + 0 ≤ _), (by decide : 0 + 0 ≤ _)⟩)
 dsimp only [Pt.U, Pt.locs, Pt.cells, Pt.slots] at XJ5 lJ8 yJ9 zJA stJB hQJ7
 subst yJ9 zJA
 obtain ⟨rfl, NJC, eJD⟩ := hQJ7
 have NJF : Fr n0 LJ2 := by rw [lJ8]; exact Fr.app N0 NJC
 clear lJ8 NJC
 have kJG : own_G p e below E0 TJ1 (mkF m 4 #[vr a] []) := fun tQ kk => kJ0 tQ (stJB.trans kk)
 clear kJ0 stJB
 have kJH : own_G p e below E0 TJ1 (mkF m 6 #[vr a] [(.int (0 : Int32)), (.ref a)]) := by
  intro tQ kk
  refine kJG tQ ?_
  refine XS.aloadN XJ5.here hx rfl (hH j39_1_4) rfl rfl ?_
  refine XS.iconst XJ5.here hx rfl (hH j39_1_5) ?_
  exact kk
 clear kJG
 obtain ⟨TJI, hJJ, XJK, eJL, WJM, stJN⟩ := putF XJ5 hx hZ hown (host := "") (Or.inl (tw35 hw)) Via.refl eJD F0 E1 (Or.inl (tw36 hw)) (tw17 hw) (ty := .int) (by decide) rfl rfl (g := (mkF m 6 #[vr a] [(.int (0 : Int32)), (.ref a)])) rfl rfl (hH j39_1_6)
 have NJO := Fr.snoc XJK NJF ge_a
 have kJP : own_G p e below E0 TJI (mkF m 9 #[vr a] []) := fun tQ kk => kJH tQ (stJN _ kk)
 clear kJH stJN
 replace E1 := E1.wr WJM
 replace F0 := F0.same WJM
 replace F1 := F1.other WJM (Or.inr (sn34 hw))
 replace F2 := F2.other WJM (Or.inr (sn37 hw))
 replace Z0 := own_wrle WJM Z0
 replace K0 := K0.wr WJM (Or.inl (List.mem_of_getElem? (i := 0) rfl))
 obtain ⟨fs, hr, hrun, hended, hW, hsame⟩ := XJK.leave (v := none) (fun _ => rfl)
 have hrun0 := kJP _ (XJK.returnOut hx Bd.returns (hH j39_1_9) hr)
 subst hE0
 refine ⟨_, _, hrun0, hrun, hended, _, _, rfl, ?_, ⟨_, rfl⟩, hW, hsame.mono (by decide) (by decide)⟩
 show QrmAb Z a h0 n0 _ TJI.heap _
 rw [eJL]
 exact ⟨rfl, NJO, K0, F0, F1, F2⟩
def QrmAl (Z : State) (a : Addr) (dE : Addr) (h0 : Heap) (n0 : Nat) (vQ : Option Value) (hQ : Heap) (LQ : List Loc) : Prop := vQ = none ∧ Fr n0 LQ ∧ Keep h0 hQ [a] ∧ (fd29 Z hQ a (.int (0 : Int32))) ∧ (fd30 Z hQ a (.ref dE)) ∧ (fd31 Z hQ a (.int (0 : Int32)))
theorem ef_rmAl (m : MethodId) (a : Addr) (dE : Addr) : entryFrame m #[(.ref a)] 1 = mkF m 0 #[vr a] [] := by first | (simp [entryFrame, mkF, argsToLocals, Value.category]; done) | rfl
abbrev mn38 : MethodName := ⟨"java/util/ArrayList", "<init>", "()V"⟩
theorem pn_java_util_ArrayList : plainName "java/util/ArrayList" = true := by first | (simp [plainName, overriddenIn]; done) | decide +kernel
theorem j38_2_0 : decode jdk_38_method_2_code 0 = .ok (.aload_n 0, 1) := by decide +kernel
theorem j38_2_1 : decode jdk_38_method_2_code 1 = .ok (.invokespecial 1, 3) := by decide +kernel
def tw22 {Z a0} (hw : HW Z a0) := hw _ (List.mem_of_getElem? (i := 22) rfl)
def tw27 {Z a0} (hw : HW Z a0) := hw _ (List.mem_of_getElem? (i := 27) rfl)
def tw26 {Z a0} (hw : HW Z a0) := hw _ (List.mem_of_getElem? (i := 26) rfl)
def tw23 {Z a0} (hw : HW Z a0) := hw _ (List.mem_of_getElem? (i := 23) rfl)
theorem j38_2_4 : decode jdk_38_method_2_code 4 = .ok (.aload_n 0, 1) := by decide +kernel
theorem j38_2_5 : decode jdk_38_method_2_code 5 = .ok (.getstatic 39, 3) := by decide +kernel
def tw37 {Z a0} (hw : HW Z a0) := hw _ (List.mem_of_getElem? (i := 37) rfl)
theorem j38_2_8 : decode jdk_38_method_2_code 8 = .ok (.putfield 9, 3) := by decide +kernel
def tw38 {Z a0} (hw : HW Z a0) := hw _ (List.mem_of_getElem? (i := 38) rfl)
theorem sn39 {Z a0} (hw : HW Z a0) : RoadKit.slotOf Z cn36 "modCount" "I" ≠ RoadKit.slotOf Z cn35 "elementData" "[Ljava/lang/Object;" := (slot_ne (C := cn35) (Or.inl (tw36 hw)) (Or.inl (tw39 hw)) (by decide) (t := .int) (t' := (.array (.object "java/lang/Object"))) (by decide) (by decide))
theorem sn40 {Z a0} (hw : HW Z a0) : RoadKit.slotOf Z cn35 "size" "I" ≠ RoadKit.slotOf Z cn35 "elementData" "[Ljava/lang/Object;" := (slot_ne (C := cn35) (Or.inl (tw186 hw)) (Or.inl (tw39 hw)) (by decide) (t := .int) (t' := (.array (.object "java/lang/Object"))) (by decide) (by decide))
theorem j38_2_11 : decode jdk_38_method_2_code 11 = .ok (.return_, 1) := by decide +kernel
set_option maxRecDepth 65536 in
set_option maxHeartbeats 40000000 in
theorem rmAl (l : Launch) (Z : State) (a0 : Array Value) (hw : ∀ d ∈ tables_1, d.before a0 Z = true) (ws : List Jvm.Cond) (a : Addr) (dE : Addr) (h0 : Heap) (n0 : Nat) (Z0 : n0 ≤ h0.size) (O1 : Old Z n0 h0) (E1 : xa32 Z h0 a) (F0 : fd29 Z h0 a (.int (0 : Int32))) (F1 : fd30 Z h0 a .null) (F2 : fd31 Z h0 a (.int (0 : Int32))) (ge_a : n0 ≤ a) (oD : Sta Z Z.heap "java/util/ArrayList" "DEFAULTCAPACITY_EMPTY_ELEMENTDATA" "[Ljava/lang/Object;" (.ref dE)) :
  MetFree l mn38 (head1 (Jvm.Cond.code mn38 jdk_38_method_2_code 1 none :: ws) ({ frames := 3, cells := 0, slots := 0, locals := 40 } : Room)) (fun aA U => aA = #[(.ref a)] ∧ Z.Warmed39 U.vm ∧ U.heap = h0) (fun _ _ _ _ _ => True) (fun _ U o U' => ∃ vR LR, o = .returned vR ∧ QrmAl Z a dE h0 n0 vR U'.heap LR ∧ FrameEnd U o U' LR ({ frames := 3, cells := 0, slots := 0, locals := 40 } : Room).cells ({ frames := 3, cells := 0, slots := 0, locals := 40 } : Room).slots) := by
 refine MetFree.of_bodySF (plainFor_of_name pn_java_util_ArrayList) hisR ?_
 intro p e s m args below meth c s₁ Bd hml0 hPre hKk
 obtain ⟨rfl, hZ, hh⟩ := hPre
 have hx := Bd.exec
 have hby := Bd.bytes
 have hH : ∀ {pc r}, decode jdk_38_method_2_code pc = r → decode c.code pc = r := fun q => hb hby q
 have hml : c.maxLocals = 1 := hml0
 have hown : s.vm.findClass "java/util/ArrayList" = some m.cls := findClass_of_methodNamed Bd.named
 have hnm := (name_of_methodNamed Bd.named Bd.method).1
 have X0 : Stand p l e ({ frames := 3, cells := 0, slots := 0, locals := 40 } : Room) s m #[(.ref a)] below meth c s₁ [] 0 0 := Stand.of_body Bd
 have e0 : s₁.heap = h0 := by rw [← hh, Bd.state]; rfl
 have N0 := Fr.nil n0
 obtain ⟨E0, hE0⟩ : ∃ zE : State, zE = s₁.setTop (entryFrame m #[(.ref a)] 1) := ⟨_, rfl⟩
 have k0 : own_G p e below E0 s₁ (mkF m 0 #[vr a] []) := fun tz kz => hE0 ▸ castTop (ef_rmAl m a dE) kz
 have K0 : Keep h0 h0 [a] := Keep.refl _ _
 have kJ0 : own_G p e below E0 s₁ (mkF m 1 #[vr a] [(.ref a)]) := by
  intro tQ kk
  refine k0 tQ ?_
  refine XS.aloadN X0.here hx rfl (hH j38_2_0) rfl rfl ?_
  exact kk
 clear k0
 obtain ⟨_, _, ⟨TJ1, LJ2, kcJ3, ncJ4⟩, -, XJ5, ⟨LcJ6, hQJ7, lJ8, yJ9, zJA⟩, stJB⟩ := X0.specialBack hx (y := mn33) rfl hown (mvT hZ (tw22 hw)) (mvT hZ (tw23 hw)) (mvT hZ (tw27 hw)) (by decide) (backOf (W := 0) (rmAb l Z a0 hw [] a h0 n0 Z0 E1 F0 F1 F2 ge_a) hZ (tw27 hw) (tw26 hw) (by decide) (by decide)) (g := (mkF m 1 #[vr a] [(.ref a)])) rfl (by rw [hml]; rfl) (Steps.refl _) (a := a) (argsL := []) (rest := []) (lenOf pd_8 rfl) rfl (by show 2 * 0 + _ ≤ _; exact Nat.le_of_eq rfl) (hH j38_2_1) (fun _ _ => ⟨rfl, e0, (by decide : 0 + 0 ≤ _), (by decide : 0 + 0 ≤ _)⟩)
 dsimp only [Pt.U, Pt.locs, Pt.cells, Pt.slots] at XJ5 lJ8 yJ9 zJA stJB hQJ7
 subst yJ9 zJA
 obtain ⟨rfl, NJC, KJF, gJG, gJH, gJI⟩ := hQJ7
 have NJJ : Fr n0 LJ2 := by rw [lJ8]; exact Fr.app N0 NJC
 clear lJ8 NJC
 replace Z0 := Nat.le_trans Z0 KJF.1
 replace O1 := O1.keep KJF (allS ge_a all0)
 replace E1 := E1.keep KJF
 clear F0
 clear F1
 clear F2
 replace K0 := K0.trans KJF (allS (Or.inl (List.mem_of_getElem? (i := 0) rfl)) all0)
 have kJK : own_G p e below E0 TJ1 (mkF m 4 #[vr a] []) := fun tQ kk => kJ0 tQ (stJB.trans kk)
 clear kJ0 stJB
 have FJL : Sta Z TJ1.heap "java/util/ArrayList" "DEFAULTCAPACITY_EMPTY_ELEMENTDATA" "[Ljava/lang/Object;" (.ref dE) := oD.ext O1.2
 have kJM : own_G p e below E0 TJ1 (mkF m 5 #[vr a] [(.ref a)]) := by
  intro tQ kk
  refine kJK tQ ?_
  refine XS.aloadN XJ5.here hx rfl (hH j38_2_4) rfl rfl ?_
  exact kk
 clear kJK
 obtain ⟨TJN, XJO, eJP, stJQ⟩ := getS XJ5 hx hZ hown (host := "") (tw37 hw) Via.refl rfl FJL (g := (mkF m 5 #[vr a] [(.ref a)])) rfl (hH j38_2_5)
 have kJR : own_G p e below E0 TJN (mkF m 8 #[vr a] [(.ref dE), (.ref a)]) := fun tQ kk => kJM tQ (stJQ _ kk)
 clear kJM stJQ
 obtain ⟨TJS, hJT, XJU, eJV, WJW, stJX⟩ := putF XJO hx hZ hown (host := "") (Or.inl (tw38 hw)) Via.refl eJP gJH E1 (Or.inl (tw39 hw)) (tw17 hw) (ty := (.array (.object "java/lang/Object"))) (by decide) rfl rfl (g := (mkF m 8 #[vr a] [(.ref dE), (.ref a)])) rfl rfl (hH j38_2_8)
 have NJY := Fr.snoc XJU NJJ ge_a
 have kJZ : own_G p e below E0 TJS (mkF m 11 #[vr a] []) := fun tQ kk => kJR tQ (stJX _ kk)
 clear kJR stJX
 replace O1 := O1.wr WJW ge_a
 replace E1 := E1.wr WJW
 replace gJG := gJG.other WJW (Or.inr (sn39 hw))
 replace gJH := gJH.same WJW
 replace gJI := gJI.other WJW (Or.inr (sn40 hw))
 replace FJL := FJL.wr WJW
 replace Z0 := own_wrle WJW Z0
 replace K0 := K0.wr WJW (Or.inl (List.mem_of_getElem? (i := 0) rfl))
 obtain ⟨fs, hr, hrun, hended, hW, hsame⟩ := XJU.leave (v := none) (fun _ => rfl)
 have hrun0 := kJZ _ (XJU.returnOut hx Bd.returns (hH j38_2_11) hr)
 subst hE0
 refine ⟨_, _, hrun0, hrun, hended, _, _, rfl, ?_, ⟨_, rfl⟩, hW, hsame.mono (by decide) (by decide)⟩
 show QrmAl Z a dE h0 n0 _ TJS.heap _
 rw [eJV]
 exact ⟨rfl, NJY, K0, gJG, gJH, gJI⟩
abbrev fd41 (Z : State) (h : Heap) (a : Addr) (v : Value) : Prop := Fld Z h a "com/example/netloom/netloom/embed/Simplex" "columns" "Ljava/util/List;" v
abbrev fd42 (Z : State) (h : Heap) (a : Addr) (v : Value) : Prop := Fld Z h a "com/example/netloom/netloom/embed/Simplex" "cost" "[D" v
abbrev fd43 (Z : State) (h : Heap) (a : Addr) (v : Value) : Prop := Fld Z h a "com/example/netloom/netloom/embed/Simplex" "rhs" "[D" v
abbrev fd44 (Z : State) (h : Heap) (a : Addr) (v : Value) : Prop := Fld Z h a "com/example/netloom/netloom/embed/Simplex" "basic" "[I" v
abbrev fd45 (Z : State) (h : Heap) (a : Addr) (v : Value) : Prop := Fld Z h a "com/example/netloom/netloom/embed/Simplex" "positionOf" "[I" v
abbrev fd46 (Z : State) (h : Heap) (a : Addr) (v : Value) : Prop := Fld Z h a "com/example/netloom/netloom/embed/Simplex" "factor" "Lcom/example/netloom/netloom/embed/BasisFactor;" v
abbrev fd47 (Z : State) (h : Heap) (a : Addr) (v : Value) : Prop := Fld Z h a "com/example/netloom/netloom/embed/Simplex" "value" "[D" v
abbrev fd48 (Z : State) (h : Heap) (a : Addr) (v : Value) : Prop := Fld Z h a "com/example/netloom/netloom/embed/Simplex" "rowCount" "I" v
def QrmSx (Z : State) (a : Addr) (dE : Addr) (h0 : Heap) (n0 : Nat) (vQ : Option Value) (hQ : Heap) (LQ : List Loc) : Prop := ∃ (al : Addr), ∃ (cA : Addr), ∃ (ro : Addr), ∃ (ba : Addr), ∃ (pA : Addr), ∃ (fa : Addr), ∃ (va : Addr), vQ = none ∧ Fr n0 LQ ∧ Keep h0 hQ [a] ∧ (fd41 Z hQ a (.ref al)) ∧ (fd42 Z hQ a (.ref cA)) ∧ (fd43 Z hQ a (.ref ro)) ∧ (fd44 Z hQ a (.ref ba)) ∧ (fd45 Z hQ a (.ref pA)) ∧ (fd46 Z hQ a (.ref fa)) ∧ (fd47 Z hQ a (.ref va)) ∧ (fd48 Z hQ a (.int (0 : Int32))) ∧ (xa32 Z hQ al) ∧ (fd29 Z hQ al (.int (0 : Int32))) ∧ (fd30 Z hQ al (.ref dE)) ∧ (fd31 Z hQ al (.int (0 : Int32))) ∧ (xa10 Z hQ fa) ∧ (fd9 Z hQ fa (.int (-1 : Int32))) ∧ (own_A Z hQ cA .double own_d16) ∧ (own_A Z hQ ro .double own_d16) ∧ (own_A Z hQ ba .int own_i16) ∧ (own_A Z hQ pA .int own_i16) ∧ (own_A Z hQ va .double own_d16) ∧ (h0.size ≤ al) ∧ (h0.size ≤ cA) ∧ (h0.size ≤ ro) ∧ (h0.size ≤ ba) ∧ (h0.size ≤ pA) ∧ (h0.size ≤ fa) ∧ (h0.size ≤ va) ∧ (al ≠ cA) ∧ (al ≠ ro) ∧ (al ≠ ba) ∧ (al ≠ pA) ∧ (al ≠ fa) ∧ (al ≠ va) ∧ (cA ≠ ro) ∧ (cA ≠ ba) ∧ (cA ≠ pA) ∧ (cA ≠ fa) ∧ (cA ≠ va) ∧ (ro ≠ ba) ∧ (ro ≠ pA) ∧ (ro ≠ fa) ∧ (ro ≠ va) ∧ (ba ≠ pA) ∧ (ba ≠ fa) ∧ (ba ≠ va) ∧ (pA ≠ fa) ∧ (pA ≠ va) ∧ (fa ≠ va)
theorem ef_rmSx (m : MethodId) (a : Addr) (dE : Addr) : entryFrame m #[(.ref a)] 1 = mkF m 0 #[vr a] [] := by first | (simp [entryFrame, mkF, argsToLocals, Value.category]; done) | rfl
abbrev xa49 (Z : State) (h : Heap) (a : Addr) : Prop := Exa Z h a "com/example/netloom/netloom/embed/Simplex"
abbrev fd50 (Z : State) (h : Heap) (a : Addr) (v : Value) : Prop := Fld Z h a "com/example/netloom/netloom/embed/Simplex" "dual" "[D" v
abbrev mn51 : MethodName := ⟨"com/example/netloom/netloom/embed/Simplex", "<init>", "()V"⟩
theorem pn_com_example_netloom_netloom_embed_Simplex : plainName "com/example/netloom/netloom/embed/Simplex" = true := by first | (simp [plainName, overriddenIn]; done) | decide +kernel
theorem p49_1_0 : decode prog_49_method_1_code 0 = .ok (.aload_n 0, 1) := by decide +kernel
theorem p49_1_1 : decode prog_49_method_1_code 1 = .ok (.invokespecial 1, 3) := by decide +kernel
def tw13 {Z a0} (hw : HW Z a0) := hw _ (List.mem_of_getElem? (i := 13) rfl)
theorem p49_1_4 : decode prog_49_method_1_code 4 = .ok (.aload_n 0, 1) := by decide +kernel
theorem p49_1_5 : decode prog_49_method_1_code 5 = .ok (.new 7, 3) := by decide +kernel
def tw16 {Z a0} (hw : HW Z a0) := hw _ (List.mem_of_getElem? (i := 16) rfl)
def tw18 {Z a0} (hw : HW Z a0) := hw _ (List.mem_of_getElem? (i := 18) rfl)
theorem p49_1_8 : decode prog_49_method_1_code 8 = .ok (.dup, 1) := by decide +kernel
theorem p49_1_9 : decode prog_49_method_1_code 9 = .ok (.invokespecial 9, 3) := by decide +kernel
def tw19 {Z a0} (hw : HW Z a0) := hw _ (List.mem_of_getElem? (i := 19) rfl)
def tw21 {Z a0} (hw : HW Z a0) := hw _ (List.mem_of_getElem? (i := 21) rfl)
def tw20 {Z a0} (hw : HW Z a0) := hw _ (List.mem_of_getElem? (i := 20) rfl)
theorem p49_1_12 : decode prog_49_method_1_code 12 = .ok (.putfield 10, 3) := by decide +kernel
def tw40 {Z a0} (hw : HW Z a0) := hw _ (List.mem_of_getElem? (i := 40) rfl)
def tw8 {Z a0} (hw : HW Z a0) := hw _ (List.mem_of_getElem? (i := 8) rfl)
def tw41 {Z a0} (hw : HW Z a0) := hw _ (List.mem_of_getElem? (i := 41) rfl)
def tw43 {Z a0} (hw : HW Z a0) := hw _ (List.mem_of_getElem? (i := 43) rfl)
abbrev cn53 : String := "com/example/netloom/netloom/embed/Simplex"
theorem sn52 {Z a0} (hw : HW Z a0) : RoadKit.slotOf Z cn53 "cost" "[D" ≠ RoadKit.slotOf Z cn53 "columns" "Ljava/util/List;" := (slot_ne (C := cn53) (Or.inl (tw43 hw)) (Or.inr (tw41 hw)) (by decide) (t := (.array .double)) (t' := (.object "java/util/List")) (by decide) (by decide))
def tw45 {Z a0} (hw : HW Z a0) := hw _ (List.mem_of_getElem? (i := 45) rfl)
theorem sn54 {Z a0} (hw : HW Z a0) : RoadKit.slotOf Z cn53 "rhs" "[D" ≠ RoadKit.slotOf Z cn53 "columns" "Ljava/util/List;" := (slot_ne (C := cn53) (Or.inl (tw45 hw)) (Or.inr (tw41 hw)) (by decide) (t := (.array .double)) (t' := (.object "java/util/List")) (by decide) (by decide))
def tw47 {Z a0} (hw : HW Z a0) := hw _ (List.mem_of_getElem? (i := 47) rfl)
theorem sn55 {Z a0} (hw : HW Z a0) : RoadKit.slotOf Z cn53 "basic" "[I" ≠ RoadKit.slotOf Z cn53 "columns" "Ljava/util/List;" := (slot_ne (C := cn53) (Or.inl (tw47 hw)) (Or.inr (tw41 hw)) (by decide) (t := (.array .int)) (t' := (.object "java/util/List")) (by decide) (by decide))
def tw49 {Z a0} (hw : HW Z a0) := hw _ (List.mem_of_getElem? (i := 49) rfl)
theorem sn56 {Z a0} (hw : HW Z a0) : RoadKit.slotOf Z cn53 "positionOf" "[I" ≠ RoadKit.slotOf Z cn53 "columns" "Ljava/util/List;" := (slot_ne (C := cn53) (Or.inl (tw49 hw)) (Or.inr (tw41 hw)) (by decide) (t := (.array .int)) (t' := (.object "java/util/List")) (by decide) (by decide))
def tw166 {Z a0} (hw : HW Z a0) := hw _ (List.mem_of_getElem? (i := 166) rfl)
theorem sn57 {Z a0} (hw : HW Z a0) : RoadKit.slotOf Z cn53 "factor" "Lcom/example/netloom/netloom/embed/BasisFactor;" ≠ RoadKit.slotOf Z cn53 "columns" "Ljava/util/List;" := (slot_ne (C := cn53) (Or.inr (tw166 hw)) (Or.inr (tw41 hw)) (by decide) (t := (.object "com/example/netloom/netloom/embed/BasisFactor")) (t' := (.object "java/util/List")) (by decide) (by decide))
def tw168 {Z a0} (hw : HW Z a0) := hw _ (List.mem_of_getElem? (i := 168) rfl)
theorem sn58 {Z a0} (hw : HW Z a0) : RoadKit.slotOf Z cn53 "value" "[D" ≠ RoadKit.slotOf Z cn53 "columns" "Ljava/util/List;" := (slot_ne (C := cn53) (Or.inl (tw168 hw)) (Or.inr (tw41 hw)) (by decide) (t := (.array .double)) (t' := (.object "java/util/List")) (by decide) (by decide))
def tw170 {Z a0} (hw : HW Z a0) := hw _ (List.mem_of_getElem? (i := 170) rfl)
theorem sn59 {Z a0} (hw : HW Z a0) : RoadKit.slotOf Z cn53 "dual" "[D" ≠ RoadKit.slotOf Z cn53 "columns" "Ljava/util/List;" := (slot_ne (C := cn53) (Or.inl (tw170 hw)) (Or.inr (tw41 hw)) (by decide) (t := (.array .double)) (t' := (.object "java/util/List")) (by decide) (by decide))
def tw248 {Z a0} (hw : HW Z a0) := hw _ (List.mem_of_getElem? (i := 248) rfl)
theorem sn60 {Z a0} (hw : HW Z a0) : RoadKit.slotOf Z cn53 "rowCount" "I" ≠ RoadKit.slotOf Z cn53 "columns" "Ljava/util/List;" := (slot_ne (C := cn53) (Or.inl (tw248 hw)) (Or.inr (tw41 hw)) (by decide) (t := .int) (t' := (.object "java/util/List")) (by decide) (by decide))
theorem p49_1_15 : decode prog_49_method_1_code 15 = .ok (.aload_n 0, 1) := by decide +kernel
theorem p49_1_16 : decode prog_49_method_1_code 16 = .ok (.bipush 16, 2) := by decide +kernel
theorem p49_1_18 : decode prog_49_method_1_code 18 = .ok (.newarray .double, 2) := by decide +kernel
theorem p49_1_20 : decode prog_49_method_1_code 20 = .ok (.putfield 16, 3) := by decide +kernel
def tw42 {Z a0} (hw : HW Z a0) := hw _ (List.mem_of_getElem? (i := 42) rfl)
theorem sn61 {Z a0} (hw : HW Z a0) : RoadKit.slotOf Z cn53 "columns" "Ljava/util/List;" ≠ RoadKit.slotOf Z cn53 "cost" "[D" := (slot_ne (C := cn53) (Or.inr (tw41 hw)) (Or.inl (tw43 hw)) (by decide) (t := (.object "java/util/List")) (t' := (.array .double)) (by decide) (by decide))
theorem sn62 {Z a0} (hw : HW Z a0) : RoadKit.slotOf Z cn53 "rhs" "[D" ≠ RoadKit.slotOf Z cn53 "cost" "[D" := (slot_ne (C := cn53) (Or.inl (tw45 hw)) (Or.inl (tw43 hw)) (by decide) (t := (.array .double)) (t' := (.array .double)) (by decide) (by decide))
theorem sn63 {Z a0} (hw : HW Z a0) : RoadKit.slotOf Z cn53 "basic" "[I" ≠ RoadKit.slotOf Z cn53 "cost" "[D" := (slot_ne (C := cn53) (Or.inl (tw47 hw)) (Or.inl (tw43 hw)) (by decide) (t := (.array .int)) (t' := (.array .double)) (by decide) (by decide))
theorem sn64 {Z a0} (hw : HW Z a0) : RoadKit.slotOf Z cn53 "positionOf" "[I" ≠ RoadKit.slotOf Z cn53 "cost" "[D" := (slot_ne (C := cn53) (Or.inl (tw49 hw)) (Or.inl (tw43 hw)) (by decide) (t := (.array .int)) (t' := (.array .double)) (by decide) (by decide))
theorem sn65 {Z a0} (hw : HW Z a0) : RoadKit.slotOf Z cn53 "factor" "Lcom/example/netloom/netloom/embed/BasisFactor;" ≠ RoadKit.slotOf Z cn53 "cost" "[D" := (slot_ne (C := cn53) (Or.inr (tw166 hw)) (Or.inl (tw43 hw)) (by decide) (t := (.object "com/example/netloom/netloom/embed/BasisFactor")) (t' := (.array .double)) (by decide) (by decide))
theorem sn66 {Z a0} (hw : HW Z a0) : RoadKit.slotOf Z cn53 "value" "[D" ≠ RoadKit.slotOf Z cn53 "cost" "[D" := (slot_ne (C := cn53) (Or.inl (tw168 hw)) (Or.inl (tw43 hw)) (by decide) (t := (.array .double)) (t' := (.array .double)) (by decide) (by decide))
theorem sn67 {Z a0} (hw : HW Z a0) : RoadKit.slotOf Z cn53 "dual" "[D" ≠ RoadKit.slotOf Z cn53 "cost" "[D" := (slot_ne (C := cn53) (Or.inl (tw170 hw)) (Or.inl (tw43 hw)) (by decide) (t := (.array .double)) (t' := (.array .double)) (by decide) (by decide))
theorem sn68 {Z a0} (hw : HW Z a0) : RoadKit.slotOf Z cn53 "rowCount" "I" ≠ RoadKit.slotOf Z cn53 "cost" "[D" := (slot_ne (C := cn53) (Or.inl (tw248 hw)) (Or.inl (tw43 hw)) (by decide) (t := .int) (t' := (.array .double)) (by decide) (by decide))
theorem p49_1_23 : decode prog_49_method_1_code 23 = .ok (.aload_n 0, 1) := by decide +kernel
theorem p49_1_24 : decode prog_49_method_1_code 24 = .ok (.bipush 16, 2) := by decide +kernel
theorem p49_1_26 : decode prog_49_method_1_code 26 = .ok (.newarray .double, 2) := by decide +kernel
theorem p49_1_28 : decode prog_49_method_1_code 28 = .ok (.putfield 20, 3) := by decide +kernel
def tw44 {Z a0} (hw : HW Z a0) := hw _ (List.mem_of_getElem? (i := 44) rfl)
theorem sn69 {Z a0} (hw : HW Z a0) : RoadKit.slotOf Z cn53 "columns" "Ljava/util/List;" ≠ RoadKit.slotOf Z cn53 "rhs" "[D" := (slot_ne (C := cn53) (Or.inr (tw41 hw)) (Or.inl (tw45 hw)) (by decide) (t := (.object "java/util/List")) (t' := (.array .double)) (by decide) (by decide))
theorem sn70 {Z a0} (hw : HW Z a0) : RoadKit.slotOf Z cn53 "cost" "[D" ≠ RoadKit.slotOf Z cn53 "rhs" "[D" := (slot_ne (C := cn53) (Or.inl (tw43 hw)) (Or.inl (tw45 hw)) (by decide) (t := (.array .double)) (t' := (.array .double)) (by decide) (by decide))
theorem sn71 {Z a0} (hw : HW Z a0) : RoadKit.slotOf Z cn53 "basic" "[I" ≠ RoadKit.slotOf Z cn53 "rhs" "[D" := (slot_ne (C := cn53) (Or.inl (tw47 hw)) (Or.inl (tw45 hw)) (by decide) (t := (.array .int)) (t' := (.array .double)) (by decide) (by decide))
theorem sn72 {Z a0} (hw : HW Z a0) : RoadKit.slotOf Z cn53 "positionOf" "[I" ≠ RoadKit.slotOf Z cn53 "rhs" "[D" := (slot_ne (C := cn53) (Or.inl (tw49 hw)) (Or.inl (tw45 hw)) (by decide) (t := (.array .int)) (t' := (.array .double)) (by decide) (by decide))
theorem sn73 {Z a0} (hw : HW Z a0) : RoadKit.slotOf Z cn53 "factor" "Lcom/example/netloom/netloom/embed/BasisFactor;" ≠ RoadKit.slotOf Z cn53 "rhs" "[D" := (slot_ne (C := cn53) (Or.inr (tw166 hw)) (Or.inl (tw45 hw)) (by decide) (t := (.object "com/example/netloom/netloom/embed/BasisFactor")) (t' := (.array .double)) (by decide) (by decide))
theorem sn74 {Z a0} (hw : HW Z a0) : RoadKit.slotOf Z cn53 "value" "[D" ≠ RoadKit.slotOf Z cn53 "rhs" "[D" := (slot_ne (C := cn53) (Or.inl (tw168 hw)) (Or.inl (tw45 hw)) (by decide) (t := (.array .double)) (t' := (.array .double)) (by decide) (by decide))
theorem sn75 {Z a0} (hw : HW Z a0) : RoadKit.slotOf Z cn53 "dual" "[D" ≠ RoadKit.slotOf Z cn53 "rhs" "[D" := (slot_ne (C := cn53) (Or.inl (tw170 hw)) (Or.inl (tw45 hw)) (by decide) (t := (.array .double)) (t' := (.array .double)) (by decide) (by decide))
theorem sn76 {Z a0} (hw : HW Z a0) : RoadKit.slotOf Z cn53 "rowCount" "I" ≠ RoadKit.slotOf Z cn53 "rhs" "[D" := (slot_ne (C := cn53) (Or.inl (tw248 hw)) (Or.inl (tw45 hw)) (by decide) (t := .int) (t' := (.array .double)) (by decide) (by decide))
theorem p49_1_31 : decode prog_49_method_1_code 31 = .ok (.aload_n 0, 1) := by decide +kernel
theorem p49_1_32 : decode prog_49_method_1_code 32 = .ok (.bipush 16, 2) := by decide +kernel
theorem p49_1_34 : decode prog_49_method_1_code 34 = .ok (.newarray .int, 2) := by decide +kernel
theorem p49_1_36 : decode prog_49_method_1_code 36 = .ok (.putfield 23, 3) := by decide +kernel
def tw46 {Z a0} (hw : HW Z a0) := hw _ (List.mem_of_getElem? (i := 46) rfl)
theorem sn77 {Z a0} (hw : HW Z a0) : RoadKit.slotOf Z cn53 "columns" "Ljava/util/List;" ≠ RoadKit.slotOf Z cn53 "basic" "[I" := (slot_ne (C := cn53) (Or.inr (tw41 hw)) (Or.inl (tw47 hw)) (by decide) (t := (.object "java/util/List")) (t' := (.array .int)) (by decide) (by decide))
theorem sn78 {Z a0} (hw : HW Z a0) : RoadKit.slotOf Z cn53 "cost" "[D" ≠ RoadKit.slotOf Z cn53 "basic" "[I" := (slot_ne (C := cn53) (Or.inl (tw43 hw)) (Or.inl (tw47 hw)) (by decide) (t := (.array .double)) (t' := (.array .int)) (by decide) (by decide))
theorem sn79 {Z a0} (hw : HW Z a0) : RoadKit.slotOf Z cn53 "rhs" "[D" ≠ RoadKit.slotOf Z cn53 "basic" "[I" := (slot_ne (C := cn53) (Or.inl (tw45 hw)) (Or.inl (tw47 hw)) (by decide) (t := (.array .double)) (t' := (.array .int)) (by decide) (by decide))
theorem sn80 {Z a0} (hw : HW Z a0) : RoadKit.slotOf Z cn53 "positionOf" "[I" ≠ RoadKit.slotOf Z cn53 "basic" "[I" := (slot_ne (C := cn53) (Or.inl (tw49 hw)) (Or.inl (tw47 hw)) (by decide) (t := (.array .int)) (t' := (.array .int)) (by decide) (by decide))
theorem sn81 {Z a0} (hw : HW Z a0) : RoadKit.slotOf Z cn53 "factor" "Lcom/example/netloom/netloom/embed/BasisFactor;" ≠ RoadKit.slotOf Z cn53 "basic" "[I" := (slot_ne (C := cn53) (Or.inr (tw166 hw)) (Or.inl (tw47 hw)) (by decide) (t := (.object "com/example/netloom/netloom/embed/BasisFactor")) (t' := (.array .int)) (by decide) (by decide))
theorem sn82 {Z a0} (hw : HW Z a0) : RoadKit.slotOf Z cn53 "value" "[D" ≠ RoadKit.slotOf Z cn53 "basic" "[I" := (slot_ne (C := cn53) (Or.inl (tw168 hw)) (Or.inl (tw47 hw)) (by decide) (t := (.array .double)) (t' := (.array .int)) (by decide) (by decide))
theorem sn83 {Z a0} (hw : HW Z a0) : RoadKit.slotOf Z cn53 "dual" "[D" ≠ RoadKit.slotOf Z cn53 "basic" "[I" := (slot_ne (C := cn53) (Or.inl (tw170 hw)) (Or.inl (tw47 hw)) (by decide) (t := (.array .double)) (t' := (.array .int)) (by decide) (by decide))
theorem sn84 {Z a0} (hw : HW Z a0) : RoadKit.slotOf Z cn53 "rowCount" "I" ≠ RoadKit.slotOf Z cn53 "basic" "[I" := (slot_ne (C := cn53) (Or.inl (tw248 hw)) (Or.inl (tw47 hw)) (by decide) (t := .int) (t' := (.array .int)) (by decide) (by decide))
theorem p49_1_39 : decode prog_49_method_1_code 39 = .ok (.aload_n 0, 1) := by decide +kernel
theorem p49_1_40 : decode prog_49_method_1_code 40 = .ok (.bipush 16, 2) := by decide +kernel
theorem p49_1_42 : decode prog_49_method_1_code 42 = .ok (.newarray .int, 2) := by decide +kernel
theorem p49_1_44 : decode prog_49_method_1_code 44 = .ok (.putfield 27, 3) := by decide +kernel
def tw48 {Z a0} (hw : HW Z a0) := hw _ (List.mem_of_getElem? (i := 48) rfl)
theorem sn85 {Z a0} (hw : HW Z a0) : RoadKit.slotOf Z cn53 "columns" "Ljava/util/List;" ≠ RoadKit.slotOf Z cn53 "positionOf" "[I" := (slot_ne (C := cn53) (Or.inr (tw41 hw)) (Or.inl (tw49 hw)) (by decide) (t := (.object "java/util/List")) (t' := (.array .int)) (by decide) (by decide))
theorem sn86 {Z a0} (hw : HW Z a0) : RoadKit.slotOf Z cn53 "cost" "[D" ≠ RoadKit.slotOf Z cn53 "positionOf" "[I" := (slot_ne (C := cn53) (Or.inl (tw43 hw)) (Or.inl (tw49 hw)) (by decide) (t := (.array .double)) (t' := (.array .int)) (by decide) (by decide))
theorem sn87 {Z a0} (hw : HW Z a0) : RoadKit.slotOf Z cn53 "rhs" "[D" ≠ RoadKit.slotOf Z cn53 "positionOf" "[I" := (slot_ne (C := cn53) (Or.inl (tw45 hw)) (Or.inl (tw49 hw)) (by decide) (t := (.array .double)) (t' := (.array .int)) (by decide) (by decide))
theorem sn88 {Z a0} (hw : HW Z a0) : RoadKit.slotOf Z cn53 "basic" "[I" ≠ RoadKit.slotOf Z cn53 "positionOf" "[I" := (slot_ne (C := cn53) (Or.inl (tw47 hw)) (Or.inl (tw49 hw)) (by decide) (t := (.array .int)) (t' := (.array .int)) (by decide) (by decide))
theorem sn89 {Z a0} (hw : HW Z a0) : RoadKit.slotOf Z cn53 "factor" "Lcom/example/netloom/netloom/embed/BasisFactor;" ≠ RoadKit.slotOf Z cn53 "positionOf" "[I" := (slot_ne (C := cn53) (Or.inr (tw166 hw)) (Or.inl (tw49 hw)) (by decide) (t := (.object "com/example/netloom/netloom/embed/BasisFactor")) (t' := (.array .int)) (by decide) (by decide))
theorem sn90 {Z a0} (hw : HW Z a0) : RoadKit.slotOf Z cn53 "value" "[D" ≠ RoadKit.slotOf Z cn53 "positionOf" "[I" := (slot_ne (C := cn53) (Or.inl (tw168 hw)) (Or.inl (tw49 hw)) (by decide) (t := (.array .double)) (t' := (.array .int)) (by decide) (by decide))
theorem sn91 {Z a0} (hw : HW Z a0) : RoadKit.slotOf Z cn53 "dual" "[D" ≠ RoadKit.slotOf Z cn53 "positionOf" "[I" := (slot_ne (C := cn53) (Or.inl (tw170 hw)) (Or.inl (tw49 hw)) (by decide) (t := (.array .double)) (t' := (.array .int)) (by decide) (by decide))
theorem sn92 {Z a0} (hw : HW Z a0) : RoadKit.slotOf Z cn53 "rowCount" "I" ≠ RoadKit.slotOf Z cn53 "positionOf" "[I" := (slot_ne (C := cn53) (Or.inl (tw248 hw)) (Or.inl (tw49 hw)) (by decide) (t := .int) (t' := (.array .int)) (by decide) (by decide))
theorem p49_1_47 : decode prog_49_method_1_code 47 = .ok (.aload_n 0, 1) := by decide +kernel
theorem p49_1_48 : decode prog_49_method_1_code 48 = .ok (.new 30, 3) := by decide +kernel
def tw50 {Z a0} (hw : HW Z a0) := hw _ (List.mem_of_getElem? (i := 50) rfl)
def tw52 {Z a0} (hw : HW Z a0) := hw _ (List.mem_of_getElem? (i := 52) rfl)
theorem p49_1_51 : decode prog_49_method_1_code 51 = .ok (.dup, 1) := by decide +kernel
theorem p49_1_52 : decode prog_49_method_1_code 52 = .ok (.invokespecial 32, 3) := by decide +kernel
def tw53 {Z a0} (hw : HW Z a0) := hw _ (List.mem_of_getElem? (i := 53) rfl)
def tw55 {Z a0} (hw : HW Z a0) := hw _ (List.mem_of_getElem? (i := 55) rfl)
def tw54 {Z a0} (hw : HW Z a0) := hw _ (List.mem_of_getElem? (i := 54) rfl)
theorem p49_1_55 : decode prog_49_method_1_code 55 = .ok (.putfield 33, 3) := by decide +kernel
def tw165 {Z a0} (hw : HW Z a0) := hw _ (List.mem_of_getElem? (i := 165) rfl)
theorem sn93 {Z a0} (hw : HW Z a0) : RoadKit.slotOf Z cn53 "columns" "Ljava/util/List;" ≠ RoadKit.slotOf Z cn53 "factor" "Lcom/example/netloom/netloom/embed/BasisFactor;" := (slot_ne (C := cn53) (Or.inr (tw41 hw)) (Or.inr (tw166 hw)) (by decide) (t := (.object "java/util/List")) (t' := (.object "com/example/netloom/netloom/embed/BasisFactor")) (by decide) (by decide))
theorem sn94 {Z a0} (hw : HW Z a0) : RoadKit.slotOf Z cn53 "cost" "[D" ≠ RoadKit.slotOf Z cn53 "factor" "Lcom/example/netloom/netloom/embed/BasisFactor;" := (slot_ne (C := cn53) (Or.inl (tw43 hw)) (Or.inr (tw166 hw)) (by decide) (t := (.array .double)) (t' := (.object "com/example/netloom/netloom/embed/BasisFactor")) (by decide) (by decide))
theorem sn95 {Z a0} (hw : HW Z a0) : RoadKit.slotOf Z cn53 "rhs" "[D" ≠ RoadKit.slotOf Z cn53 "factor" "Lcom/example/netloom/netloom/embed/BasisFactor;" := (slot_ne (C := cn53) (Or.inl (tw45 hw)) (Or.inr (tw166 hw)) (by decide) (t := (.array .double)) (t' := (.object "com/example/netloom/netloom/embed/BasisFactor")) (by decide) (by decide))
theorem sn96 {Z a0} (hw : HW Z a0) : RoadKit.slotOf Z cn53 "basic" "[I" ≠ RoadKit.slotOf Z cn53 "factor" "Lcom/example/netloom/netloom/embed/BasisFactor;" := (slot_ne (C := cn53) (Or.inl (tw47 hw)) (Or.inr (tw166 hw)) (by decide) (t := (.array .int)) (t' := (.object "com/example/netloom/netloom/embed/BasisFactor")) (by decide) (by decide))
theorem sn97 {Z a0} (hw : HW Z a0) : RoadKit.slotOf Z cn53 "positionOf" "[I" ≠ RoadKit.slotOf Z cn53 "factor" "Lcom/example/netloom/netloom/embed/BasisFactor;" := (slot_ne (C := cn53) (Or.inl (tw49 hw)) (Or.inr (tw166 hw)) (by decide) (t := (.array .int)) (t' := (.object "com/example/netloom/netloom/embed/BasisFactor")) (by decide) (by decide))
theorem sn98 {Z a0} (hw : HW Z a0) : RoadKit.slotOf Z cn53 "value" "[D" ≠ RoadKit.slotOf Z cn53 "factor" "Lcom/example/netloom/netloom/embed/BasisFactor;" := (slot_ne (C := cn53) (Or.inl (tw168 hw)) (Or.inr (tw166 hw)) (by decide) (t := (.array .double)) (t' := (.object "com/example/netloom/netloom/embed/BasisFactor")) (by decide) (by decide))
theorem sn99 {Z a0} (hw : HW Z a0) : RoadKit.slotOf Z cn53 "dual" "[D" ≠ RoadKit.slotOf Z cn53 "factor" "Lcom/example/netloom/netloom/embed/BasisFactor;" := (slot_ne (C := cn53) (Or.inl (tw170 hw)) (Or.inr (tw166 hw)) (by decide) (t := (.array .double)) (t' := (.object "com/example/netloom/netloom/embed/BasisFactor")) (by decide) (by decide))
theorem sn100 {Z a0} (hw : HW Z a0) : RoadKit.slotOf Z cn53 "rowCount" "I" ≠ RoadKit.slotOf Z cn53 "factor" "Lcom/example/netloom/netloom/embed/BasisFactor;" := (slot_ne (C := cn53) (Or.inl (tw248 hw)) (Or.inr (tw166 hw)) (by decide) (t := .int) (t' := (.object "com/example/netloom/netloom/embed/BasisFactor")) (by decide) (by decide))
theorem p49_1_58 : decode prog_49_method_1_code 58 = .ok (.aload_n 0, 1) := by decide +kernel
theorem p49_1_59 : decode prog_49_method_1_code 59 = .ok (.bipush 16, 2) := by decide +kernel
theorem p49_1_61 : decode prog_49_method_1_code 61 = .ok (.newarray .double, 2) := by decide +kernel
theorem p49_1_63 : decode prog_49_method_1_code 63 = .ok (.putfield 37, 3) := by decide +kernel
def tw167 {Z a0} (hw : HW Z a0) := hw _ (List.mem_of_getElem? (i := 167) rfl)
theorem sn101 {Z a0} (hw : HW Z a0) : RoadKit.slotOf Z cn53 "columns" "Ljava/util/List;" ≠ RoadKit.slotOf Z cn53 "value" "[D" := (slot_ne (C := cn53) (Or.inr (tw41 hw)) (Or.inl (tw168 hw)) (by decide) (t := (.object "java/util/List")) (t' := (.array .double)) (by decide) (by decide))
theorem sn102 {Z a0} (hw : HW Z a0) : RoadKit.slotOf Z cn53 "cost" "[D" ≠ RoadKit.slotOf Z cn53 "value" "[D" := (slot_ne (C := cn53) (Or.inl (tw43 hw)) (Or.inl (tw168 hw)) (by decide) (t := (.array .double)) (t' := (.array .double)) (by decide) (by decide))
theorem sn103 {Z a0} (hw : HW Z a0) : RoadKit.slotOf Z cn53 "rhs" "[D" ≠ RoadKit.slotOf Z cn53 "value" "[D" := (slot_ne (C := cn53) (Or.inl (tw45 hw)) (Or.inl (tw168 hw)) (by decide) (t := (.array .double)) (t' := (.array .double)) (by decide) (by decide))
theorem sn104 {Z a0} (hw : HW Z a0) : RoadKit.slotOf Z cn53 "basic" "[I" ≠ RoadKit.slotOf Z cn53 "value" "[D" := (slot_ne (C := cn53) (Or.inl (tw47 hw)) (Or.inl (tw168 hw)) (by decide) (t := (.array .int)) (t' := (.array .double)) (by decide) (by decide))
theorem sn105 {Z a0} (hw : HW Z a0) : RoadKit.slotOf Z cn53 "positionOf" "[I" ≠ RoadKit.slotOf Z cn53 "value" "[D" := (slot_ne (C := cn53) (Or.inl (tw49 hw)) (Or.inl (tw168 hw)) (by decide) (t := (.array .int)) (t' := (.array .double)) (by decide) (by decide))
theorem sn106 {Z a0} (hw : HW Z a0) : RoadKit.slotOf Z cn53 "factor" "Lcom/example/netloom/netloom/embed/BasisFactor;" ≠ RoadKit.slotOf Z cn53 "value" "[D" := (slot_ne (C := cn53) (Or.inr (tw166 hw)) (Or.inl (tw168 hw)) (by decide) (t := (.object "com/example/netloom/netloom/embed/BasisFactor")) (t' := (.array .double)) (by decide) (by decide))
theorem sn107 {Z a0} (hw : HW Z a0) : RoadKit.slotOf Z cn53 "dual" "[D" ≠ RoadKit.slotOf Z cn53 "value" "[D" := (slot_ne (C := cn53) (Or.inl (tw170 hw)) (Or.inl (tw168 hw)) (by decide) (t := (.array .double)) (t' := (.array .double)) (by decide) (by decide))
theorem sn108 {Z a0} (hw : HW Z a0) : RoadKit.slotOf Z cn53 "rowCount" "I" ≠ RoadKit.slotOf Z cn53 "value" "[D" := (slot_ne (C := cn53) (Or.inl (tw248 hw)) (Or.inl (tw168 hw)) (by decide) (t := .int) (t' := (.array .double)) (by decide) (by decide))
theorem p49_1_66 : decode prog_49_method_1_code 66 = .ok (.aload_n 0, 1) := by decide +kernel
theorem p49_1_67 : decode prog_49_method_1_code 67 = .ok (.iconst 0, 1) := by decide +kernel
theorem p49_1_68 : decode prog_49_method_1_code 68 = .ok (.newarray .double, 2) := by decide +kernel
theorem p49_1_70 : decode prog_49_method_1_code 70 = .ok (.putfield 40, 3) := by decide +kernel
def tw169 {Z a0} (hw : HW Z a0) := hw _ (List.mem_of_getElem? (i := 169) rfl)
theorem sn109 {Z a0} (hw : HW Z a0) : RoadKit.slotOf Z cn53 "columns" "Ljava/util/List;" ≠ RoadKit.slotOf Z cn53 "dual" "[D" := (slot_ne (C := cn53) (Or.inr (tw41 hw)) (Or.inl (tw170 hw)) (by decide) (t := (.object "java/util/List")) (t' := (.array .double)) (by decide) (by decide))
theorem sn110 {Z a0} (hw : HW Z a0) : RoadKit.slotOf Z cn53 "cost" "[D" ≠ RoadKit.slotOf Z cn53 "dual" "[D" := (slot_ne (C := cn53) (Or.inl (tw43 hw)) (Or.inl (tw170 hw)) (by decide) (t := (.array .double)) (t' := (.array .double)) (by decide) (by decide))
theorem sn111 {Z a0} (hw : HW Z a0) : RoadKit.slotOf Z cn53 "rhs" "[D" ≠ RoadKit.slotOf Z cn53 "dual" "[D" := (slot_ne (C := cn53) (Or.inl (tw45 hw)) (Or.inl (tw170 hw)) (by decide) (t := (.array .double)) (t' := (.array .double)) (by decide) (by decide))
theorem sn112 {Z a0} (hw : HW Z a0) : RoadKit.slotOf Z cn53 "basic" "[I" ≠ RoadKit.slotOf Z cn53 "dual" "[D" := (slot_ne (C := cn53) (Or.inl (tw47 hw)) (Or.inl (tw170 hw)) (by decide) (t := (.array .int)) (t' := (.array .double)) (by decide) (by decide))
theorem sn113 {Z a0} (hw : HW Z a0) : RoadKit.slotOf Z cn53 "positionOf" "[I" ≠ RoadKit.slotOf Z cn53 "dual" "[D" := (slot_ne (C := cn53) (Or.inl (tw49 hw)) (Or.inl (tw170 hw)) (by decide) (t := (.array .int)) (t' := (.array .double)) (by decide) (by decide))
theorem sn114 {Z a0} (hw : HW Z a0) : RoadKit.slotOf Z cn53 "factor" "Lcom/example/netloom/netloom/embed/BasisFactor;" ≠ RoadKit.slotOf Z cn53 "dual" "[D" := (slot_ne (C := cn53) (Or.inr (tw166 hw)) (Or.inl (tw170 hw)) (by decide) (t := (.object "com/example/netloom/netloom/embed/BasisFactor")) (t' := (.array .double)) (by decide) (by decide))
theorem sn115 {Z a0} (hw : HW Z a0) : RoadKit.slotOf Z cn53 "value" "[D" ≠ RoadKit.slotOf Z cn53 "dual" "[D" := (slot_ne (C := cn53) (Or.inl (tw168 hw)) (Or.inl (tw170 hw)) (by decide) (t := (.array .double)) (t' := (.array .double)) (by decide) (by decide))
theorem sn116 {Z a0} (hw : HW Z a0) : RoadKit.slotOf Z cn53 "rowCount" "I" ≠ RoadKit.slotOf Z cn53 "dual" "[D" := (slot_ne (C := cn53) (Or.inl (tw248 hw)) (Or.inl (tw170 hw)) (by decide) (t := .int) (t' := (.array .double)) (by decide) (by decide))
theorem p49_1_73 : decode prog_49_method_1_code 73 = .ok (.return_, 1) := by decide +kernel
set_option maxRecDepth 65536 in
set_option maxHeartbeats 40000000 in
theorem rmSx (l : Launch) (Z : State) (a0 : Array Value) (hw : ∀ d ∈ tables_1, d.before a0 Z = true) (ws : List Jvm.Cond) (a : Addr) (dE : Addr) (h0 : Heap) (n0 : Nat) (Z0 : n0 ≤ h0.size) (O1 : Old Z n0 h0) (E1 : xa49 Z h0 a) (F0 : fd41 Z h0 a .null) (F1 : fd42 Z h0 a .null) (F2 : fd43 Z h0 a .null) (F3 : fd44 Z h0 a .null) (F4 : fd45 Z h0 a .null) (F5 : fd46 Z h0 a .null) (F6 : fd47 Z h0 a .null) (F7 : fd50 Z h0 a .null) (F8 : fd48 Z h0 a (.int (0 : Int32))) (ge_a : n0 ≤ a) (oD : Sta Z Z.heap "java/util/ArrayList" "DEFAULTCAPACITY_EMPTY_ELEMENTDATA" "[Ljava/lang/Object;" (.ref dE)) :
  MetFree l mn51 (head1 (Jvm.Cond.code mn51 prog_49_method_1_code 1 none :: ws) ({ frames := 4, cells := 55, slots := 576, locals := 64 } : Room)) (fun aA U => aA = #[(.ref a)] ∧ Z.Warmed39 U.vm ∧ U.heap = h0) (fun _ _ _ _ _ => True) (fun _ U o U' => ∃ vR LR, o = .returned vR ∧ QrmSx Z a dE h0 n0 vR U'.heap LR ∧ FrameEnd U o U' LR ({ frames := 4, cells := 55, slots := 576, locals := 64 } : Room).cells ({ frames := 4, cells := 55, slots := 576, locals := 64 } : Room).slots) := by
 refine MetFree.of_bodySF (plainFor_of_name pn_com_example_netloom_netloom_embed_Simplex) hisR ?_
 intro p e s m args below meth c s₁ Bd hml0 hPre hKk
 obtain ⟨rfl, hZ, hh⟩ := hPre
 have hx := Bd.exec
 have hby := Bd.bytes
 have hH : ∀ {pc r}, decode prog_49_method_1_code pc = r → decode c.code pc = r := fun q => hb hby q
 have hml : c.maxLocals = 1 := hml0
 have hown : s.vm.findClass "com/example/netloom/netloom/embed/Simplex" = some m.cls := findClass_of_methodNamed Bd.named
 have hnm := (name_of_methodNamed Bd.named Bd.method).1
 have X0 : Stand p l e ({ frames := 4, cells := 55, slots := 576, locals := 64 } : Room) s m #[(.ref a)] below meth c s₁ [] 0 0 := Stand.of_body Bd
 have e0 : s₁.heap = h0 := by rw [← hh, Bd.state]; rfl
 have N0 := Fr.nil n0
 obtain ⟨E0, hE0⟩ : ∃ zE : State, zE = s₁.setTop (entryFrame m #[(.ref a)] 1) := ⟨_, rfl⟩
 have k0 : own_G p e below E0 s₁ (mkF m 0 #[vr a] []) := fun tz kz => hE0 ▸ castTop (ef_rmSx m a dE) kz
 have K0 : Keep h0 h0 [a] := Keep.refl _ _
 have kJ0 : own_G p e below E0 s₁ (mkF m 1 #[vr a] [(.ref a)]) := by
  intro tQ kk
  refine k0 tQ ?_
  refine XS.aloadN X0.here hx rfl (hH p49_1_0) rfl rfl ?_
  exact kk
 clear k0
 obtain ⟨TJ1, XJ2, eJ3, stJ4⟩ := initO X0 hx hZ hown (tw13 hw) (tw14 hw) (tw15 hw) e0 (g := (mkF m 1 #[vr a] [(.ref a)])) rfl (by rw [hml]; rfl) rfl (hH p49_1_1) (by decide) (W := 0) (by show 2 * 0 + _ ≤ _; exact Nat.le_of_eq rfl) (by decide)
 have kJ5 : own_G p e below E0 TJ1 (mkF m 4 #[vr a] []) := fun tQ kk => kJ0 tQ (stJ4 _ kk)
 clear kJ0 stJ4
 have kJ6 : own_G p e below E0 TJ1 (mkF m 5 #[vr a] [(.ref a)]) := by
  intro tQ kk
  refine kJ5 tQ ?_
  refine XS.aloadN XJ2.here hx rfl (hH p49_1_4) rfl rfl ?_
  exact kk
 clear kJ5
 obtain ⟨TJ7, hJ8, XJ9, eJA, EJB, AJC, DJD, UnJH, stJE⟩ := newO XJ2 hx hZ hown (tw16 hw) (tw17 hw) (tw18 hw) eJ3 (g := (mkF m 5 #[vr a] [(.ref a)])) rfl (hH p49_1_5) (by decide) (by decide)
 obtain ⟨aJF, gJG⟩ : ∃ zA : Nat, zA = h0.size := ⟨_, rfl⟩
 rw [← gJG] at AJC DJD stJE UnJH
 have nJI := own_lt_ne E1.lt gJG
 have nwJJ : h0.size ≤ aJF := own_ge_of K0.1 gJG
 have geJK : n0 ≤ aJF := own_ge_of Z0 gJG
 replace Z0 := Nat.le_trans Z0 EJB.1
 replace O1 := O1.ext EJB
 replace E1 := E1.ext EJB
 replace F0 := F0.ext EJB
 replace F1 := F1.ext EJB
 replace F2 := F2.ext EJB
 replace F3 := F3.ext EJB
 replace F4 := F4.ext EJB
 replace F5 := F5.ext EJB
 replace F6 := F6.ext EJB
 replace F7 := F7.ext EJB
 replace F8 := F8.ext EJB
 replace K0 := K0.ext EJB
 have UnJL : Unt hJ8 aJF := UnJH
 have FJM : Fld Z hJ8 aJF "java/util/AbstractList" "modCount" "I" (.int (0 : Int32)) := (DJD (Or.inl (tw36 hw)) (ty := .int) (by decide))
 have FJN : Fld Z hJ8 aJF "java/util/ArrayList" "elementData" "[Ljava/lang/Object;" .null := (DJD (Or.inl (tw39 hw)) (ty := (.array (.object "java/lang/Object"))) (by decide))
 have FJO : Fld Z hJ8 aJF "java/util/ArrayList" "size" "I" (.int (0 : Int32)) := (DJD (Or.inl (tw186 hw)) (ty := .int) (by decide))
 have kJP : own_G p e below E0 TJ7 (mkF m 8 #[vr a] [(.ref aJF), (.ref a)]) := fun tQ kk => kJ6 tQ (stJE _ kk)
 clear kJ6 stJE
 have kJQ : own_G p e below E0 TJ7 (mkF m 9 #[vr a] [(.ref aJF), (.ref aJF), (.ref a)]) := by
  intro tQ kk
  refine kJP tQ ?_
  refine XS.dup XJ9.here hx rfl (hH p49_1_8) rfl rfl ?_
  exact kk
 clear kJP
 obtain ⟨_, _, ⟨TJR, LJS, kcJT, ncJU⟩, -, XJV, ⟨LcJW, hQJX, lJY, yJZ, zK0⟩, stK1⟩ := XJ9.specialBack hx (y := mn38) rfl hown (mvT hZ (tw19 hw)) (mvT hZ (tw20 hw)) (mvT hZ (tw21 hw)) (by decide) (backOf (W := 2) (rmAl l Z a0 hw [] aJF dE hJ8 n0 Z0 O1 AJC FJM FJN FJO geJK oD) hZ (tw21 hw) (tw18 hw) (by decide) (by decide)) (g := (mkF m 9 #[vr a] [(.ref aJF), (.ref aJF), (.ref a)])) rfl (by rw [hml]; rfl) (Steps.refl _) (a := aJF) (argsL := []) (rest := [(.ref aJF), (.ref a)]) (lenOf pd_8 rfl) rfl (by show 2 * 0 + _ ≤ _; exact Nat.le_of_eq rfl) (hH p49_1_9) (fun _ _ => ⟨rfl, eJA, (by decide : 1 + 0 ≤ _), (by decide : 3 + 0 ≤ _)⟩)
 dsimp only [Pt.U, Pt.locs, Pt.cells, Pt.slots] at XJV lJY yJZ zK0 stK1 hQJX
 subst yJZ zK0
 obtain ⟨rfl, NK2, KK5, gK6, gK7, gK8⟩ := hQJX
 have NK9 : Fr n0 LJS := by rw [lJY]; exact Fr.app N0 NK2
 clear lJY NK2
 replace Z0 := Nat.le_trans Z0 KK5.1
 replace O1 := O1.keep KK5 (allS geJK all0)
 replace E1 := E1.keep KK5
 replace F0 := F0.keep KK5 (ninS nJI nin0)
 replace F1 := F1.keep KK5 (ninS nJI nin0)
 replace F2 := F2.keep KK5 (ninS nJI nin0)
 replace F3 := F3.keep KK5 (ninS nJI nin0)
 replace F4 := F4.keep KK5 (ninS nJI nin0)
 replace F5 := F5.keep KK5 (ninS nJI nin0)
 replace F6 := F6.keep KK5 (ninS nJI nin0)
 replace F7 := F7.keep KK5 (ninS nJI nin0)
 replace F8 := F8.keep KK5 (ninS nJI nin0)
 replace AJC := AJC.keep KK5
 clear UnJL
 clear FJM
 clear FJN
 clear FJO
 replace K0 := K0.trans KK5 (allS (Or.inr nwJJ) all0)
 have kKA : own_G p e below E0 TJR (mkF m 12 #[vr a] [(.ref aJF), (.ref a)]) := fun tQ kk => kJQ tQ (stK1.trans kk)
 clear kJQ stK1
 obtain ⟨TKB, hKC, XKD, eKE, WKF, stKG⟩ := putF XJV hx hZ hown (host := "") (Or.inl (tw40 hw)) Via.refl rfl F0 E1 (Or.inr ⟨(tw41 hw), rfl, hnm⟩) (tw8 hw) (ty := (.object "java/util/List")) (by decide) rfl rfl (g := (mkF m 12 #[vr a] [(.ref aJF), (.ref a)])) rfl rfl (hH p49_1_12)
 have NKH := Fr.snoc XKD NK9 ge_a
 have kKI : own_G p e below E0 TKB (mkF m 15 #[vr a] []) := fun tQ kk => kKA tQ (stKG _ kk)
 clear kKA stKG
 replace O1 := O1.wr WKF ge_a
 replace E1 := E1.wr WKF
 replace F0 := F0.same WKF
 replace F1 := F1.other WKF (Or.inr (sn52 hw))
 replace F2 := F2.other WKF (Or.inr (sn54 hw))
 replace F3 := F3.other WKF (Or.inr (sn55 hw))
 replace F4 := F4.other WKF (Or.inr (sn56 hw))
 replace F5 := F5.other WKF (Or.inr (sn57 hw))
 replace F6 := F6.other WKF (Or.inr (sn58 hw))
 replace F7 := F7.other WKF (Or.inr (sn59 hw))
 replace F8 := F8.other WKF (Or.inr (sn60 hw))
 replace AJC := AJC.wr WKF
 replace gK6 := gK6.other WKF (Or.inl (Ne.symm nJI))
 replace gK7 := gK7.other WKF (Or.inl (Ne.symm nJI))
 replace gK8 := gK8.other WKF (Or.inl (Ne.symm nJI))
 replace Z0 := own_wrle WKF Z0
 replace K0 := K0.wr WKF (Or.inl (List.mem_of_getElem? (i := 0) rfl))
 have kKJ : own_G p e below E0 TKB (mkF m 18 #[vr a] [(.int (16 : Int32)), (.ref a)]) := by
  intro tQ kk
  refine kKI tQ ?_
  refine XS.aloadN XKD.here hx rfl (hH p49_1_15) rfl rfl ?_
  refine XS.bipush XKD.here hx rfl (hH p49_1_16) ?_
  exact kk
 clear kKI
 obtain ⟨TKK, hKL, cAKM, XKN, eKO, EKP, AKQ, stKR⟩ := newP (aty := .double) XKD hx hZ (tw6 hw) eKE (g := (mkF m 18 #[vr a] [(.int (16 : Int32)), (.ref a)])) rfl (hH p49_1_18) rfl (by decide) (cap := 16) (by decide) (by decide) (by decide) (by decide)
 obtain ⟨aKS, gKT⟩ : ∃ zA : Nat, zA = hKC.size := ⟨_, rfl⟩
 rw [← gKT] at AKQ stKR
 have nKU := own_lt_ne E1.lt gKT
 have nKV := own_lt_ne AJC.lt gKT
 have nwKW : h0.size ≤ aKS := own_ge_of K0.1 gKT
 have geKX : n0 ≤ aKS := own_ge_of Z0 gKT
 replace Z0 := Nat.le_trans Z0 EKP.1
 replace O1 := O1.ext EKP
 replace E1 := E1.ext EKP
 replace F0 := F0.ext EKP
 replace F1 := F1.ext EKP
 replace F2 := F2.ext EKP
 replace F3 := F3.ext EKP
 replace F4 := F4.ext EKP
 replace F5 := F5.ext EKP
 replace F6 := F6.ext EKP
 replace F7 := F7.ext EKP
 replace F8 := F8.ext EKP
 replace AJC := AJC.ext EKP
 replace gK6 := gK6.ext EKP
 replace gK7 := gK7.ext EKP
 replace gK8 := gK8.ext EKP
 replace K0 := K0.ext EKP
 have FKY : own_A Z hKL aKS .double own_d16 := own_A.new AKQ
 have kKZ : own_G p e below E0 TKK (mkF m 20 #[vr a] [(.ref aKS), (.ref a)]) := fun tQ kk => kKJ tQ (stKR _ kk)
 clear kKJ stKR
 obtain ⟨TL0, hL1, XL2, eL3, WL4, stL5⟩ := putF XKN hx hZ hown (host := "") (Or.inl (tw42 hw)) Via.refl eKO F1 E1 (Or.inl (tw43 hw)) (tw8 hw) (ty := (.array .double)) (by decide) rfl rfl (g := (mkF m 20 #[vr a] [(.ref aKS), (.ref a)])) rfl rfl (hH p49_1_20)
 have NL6 := Fr.snoc XL2 NKH ge_a
 have kL7 : own_G p e below E0 TL0 (mkF m 23 #[vr a] []) := fun tQ kk => kKZ tQ (stL5 _ kk)
 clear kKZ stL5
 replace O1 := O1.wr WL4 ge_a
 replace E1 := E1.wr WL4
 replace F0 := F0.other WL4 (Or.inr (sn61 hw))
 replace F1 := F1.same WL4
 replace F2 := F2.other WL4 (Or.inr (sn62 hw))
 replace F3 := F3.other WL4 (Or.inr (sn63 hw))
 replace F4 := F4.other WL4 (Or.inr (sn64 hw))
 replace F5 := F5.other WL4 (Or.inr (sn65 hw))
 replace F6 := F6.other WL4 (Or.inr (sn66 hw))
 replace F7 := F7.other WL4 (Or.inr (sn67 hw))
 replace F8 := F8.other WL4 (Or.inr (sn68 hw))
 replace AJC := AJC.wr WL4
 replace gK6 := gK6.other WL4 (Or.inl (Ne.symm nJI))
 replace gK7 := gK7.other WL4 (Or.inl (Ne.symm nJI))
 replace gK8 := gK8.other WL4 (Or.inl (Ne.symm nJI))
 replace FKY := FKY.other WL4 (Ne.symm nKU)
 replace Z0 := own_wrle WL4 Z0
 replace K0 := K0.wr WL4 (Or.inl (List.mem_of_getElem? (i := 0) rfl))
 have kL8 : own_G p e below E0 TL0 (mkF m 26 #[vr a] [(.int (16 : Int32)), (.ref a)]) := by
  intro tQ kk
  refine kL7 tQ ?_
  refine XS.aloadN XL2.here hx rfl (hH p49_1_23) rfl rfl ?_
  refine XS.bipush XL2.here hx rfl (hH p49_1_24) ?_
  exact kk
 clear kL7
 obtain ⟨TL9, hLA, cALB, XLC, eLD, ELE, ALF, stLG⟩ := newP (aty := .double) XL2 hx hZ (tw6 hw) eL3 (g := (mkF m 26 #[vr a] [(.int (16 : Int32)), (.ref a)])) rfl (hH p49_1_26) rfl (by decide) (cap := 16) (by decide) (by decide) (by decide) (by decide)
 obtain ⟨aLH, gLI⟩ : ∃ zA : Nat, zA = hL1.size := ⟨_, rfl⟩
 rw [← gLI] at ALF stLG
 have nLJ := own_lt_ne E1.lt gLI
 have nLK := own_lt_ne AJC.lt gLI
 have nLL := own_lt_ne FKY.lt gLI
 have nwLM : h0.size ≤ aLH := own_ge_of K0.1 gLI
 have geLN : n0 ≤ aLH := own_ge_of Z0 gLI
 replace Z0 := Nat.le_trans Z0 ELE.1
 replace O1 := O1.ext ELE
 replace E1 := E1.ext ELE
 replace F0 := F0.ext ELE
 replace F1 := F1.ext ELE
 replace F2 := F2.ext ELE
 replace F3 := F3.ext ELE
 replace F4 := F4.ext ELE
 replace F5 := F5.ext ELE
 replace F6 := F6.ext ELE
 replace F7 := F7.ext ELE
 replace F8 := F8.ext ELE
 replace AJC := AJC.ext ELE
 replace gK6 := gK6.ext ELE
 replace gK7 := gK7.ext ELE
 replace gK8 := gK8.ext ELE
 replace FKY := FKY.ext ELE
 replace K0 := K0.ext ELE
 have FLO : own_A Z hLA aLH .double own_d16 := own_A.new ALF
 have kLP : own_G p e below E0 TL9 (mkF m 28 #[vr a] [(.ref aLH), (.ref a)]) := fun tQ kk => kL8 tQ (stLG _ kk)
 clear kL8 stLG
 obtain ⟨TLQ, hLR, XLS, eLT, WLU, stLV⟩ := putF XLC hx hZ hown (host := "") (Or.inl (tw44 hw)) Via.refl eLD F2 E1 (Or.inl (tw45 hw)) (tw8 hw) (ty := (.array .double)) (by decide) rfl rfl (g := (mkF m 28 #[vr a] [(.ref aLH), (.ref a)])) rfl rfl (hH p49_1_28)
 have NLW := Fr.snoc XLS NL6 ge_a
 have kLX : own_G p e below E0 TLQ (mkF m 31 #[vr a] []) := fun tQ kk => kLP tQ (stLV _ kk)
 clear kLP stLV
 replace O1 := O1.wr WLU ge_a
 replace E1 := E1.wr WLU
 replace F0 := F0.other WLU (Or.inr (sn69 hw))
 replace F1 := F1.other WLU (Or.inr (sn70 hw))
 replace F2 := F2.same WLU
 replace F3 := F3.other WLU (Or.inr (sn71 hw))
 replace F4 := F4.other WLU (Or.inr (sn72 hw))
 replace F5 := F5.other WLU (Or.inr (sn73 hw))
 replace F6 := F6.other WLU (Or.inr (sn74 hw))
 replace F7 := F7.other WLU (Or.inr (sn75 hw))
 replace F8 := F8.other WLU (Or.inr (sn76 hw))
 replace AJC := AJC.wr WLU
 replace gK6 := gK6.other WLU (Or.inl (Ne.symm nJI))
 replace gK7 := gK7.other WLU (Or.inl (Ne.symm nJI))
 replace gK8 := gK8.other WLU (Or.inl (Ne.symm nJI))
 replace FKY := FKY.other WLU (Ne.symm nKU)
 replace FLO := FLO.other WLU (Ne.symm nLJ)
 replace Z0 := own_wrle WLU Z0
 replace K0 := K0.wr WLU (Or.inl (List.mem_of_getElem? (i := 0) rfl))
 have kLY : own_G p e below E0 TLQ (mkF m 34 #[vr a] [(.int (16 : Int32)), (.ref a)]) := by
  intro tQ kk
  refine kLX tQ ?_
  refine XS.aloadN XLS.here hx rfl (hH p49_1_31) rfl rfl ?_
  refine XS.bipush XLS.here hx rfl (hH p49_1_32) ?_
  exact kk
 clear kLX
 obtain ⟨TLZ, hM0, cAM1, XM2, eM3, EM4, AM5, stM6⟩ := newP (aty := .int) XLS hx hZ (tw5 hw) eLT (g := (mkF m 34 #[vr a] [(.int (16 : Int32)), (.ref a)])) rfl (hH p49_1_34) rfl (by decide) (cap := 16) (by decide) (by decide) (by decide) (by decide)
 obtain ⟨aM7, gM8⟩ : ∃ zA : Nat, zA = hLR.size := ⟨_, rfl⟩
 rw [← gM8] at AM5 stM6
 have nM9 := own_lt_ne E1.lt gM8
 have nMA := own_lt_ne AJC.lt gM8
 have nMB := own_lt_ne FKY.lt gM8
 have nMC := own_lt_ne FLO.lt gM8
 have nwMD : h0.size ≤ aM7 := own_ge_of K0.1 gM8
 have geME : n0 ≤ aM7 := own_ge_of Z0 gM8
 replace Z0 := Nat.le_trans Z0 EM4.1
 replace O1 := O1.ext EM4
 replace E1 := E1.ext EM4
 replace F0 := F0.ext EM4
 replace F1 := F1.ext EM4
 replace F2 := F2.ext EM4
 replace F3 := F3.ext EM4
 replace F4 := F4.ext EM4
 replace F5 := F5.ext EM4
 replace F6 := F6.ext EM4
 replace F7 := F7.ext EM4
 replace F8 := F8.ext EM4
 replace AJC := AJC.ext EM4
 replace gK6 := gK6.ext EM4
 replace gK7 := gK7.ext EM4
 replace gK8 := gK8.ext EM4
 replace FKY := FKY.ext EM4
 replace FLO := FLO.ext EM4
 replace K0 := K0.ext EM4
 have FMF : own_A Z hM0 aM7 .int own_i16 := own_A.new AM5
 have kMG : own_G p e below E0 TLZ (mkF m 36 #[vr a] [(.ref aM7), (.ref a)]) := fun tQ kk => kLY tQ (stM6 _ kk)
 clear kLY stM6
 obtain ⟨TMH, hMI, XMJ, eMK, WML, stMM⟩ := putF XM2 hx hZ hown (host := "") (Or.inl (tw46 hw)) Via.refl eM3 F3 E1 (Or.inl (tw47 hw)) (tw8 hw) (ty := (.array .int)) (by decide) rfl rfl (g := (mkF m 36 #[vr a] [(.ref aM7), (.ref a)])) rfl rfl (hH p49_1_36)
 have NMN := Fr.snoc XMJ NLW ge_a
 have kMO : own_G p e below E0 TMH (mkF m 39 #[vr a] []) := fun tQ kk => kMG tQ (stMM _ kk)
 clear kMG stMM
 replace O1 := O1.wr WML ge_a
 replace E1 := E1.wr WML
 replace F0 := F0.other WML (Or.inr (sn77 hw))
 replace F1 := F1.other WML (Or.inr (sn78 hw))
 replace F2 := F2.other WML (Or.inr (sn79 hw))
 replace F3 := F3.same WML
 replace F4 := F4.other WML (Or.inr (sn80 hw))
 replace F5 := F5.other WML (Or.inr (sn81 hw))
 replace F6 := F6.other WML (Or.inr (sn82 hw))
 replace F7 := F7.other WML (Or.inr (sn83 hw))
 replace F8 := F8.other WML (Or.inr (sn84 hw))
 replace AJC := AJC.wr WML
 replace gK6 := gK6.other WML (Or.inl (Ne.symm nJI))
 replace gK7 := gK7.other WML (Or.inl (Ne.symm nJI))
 replace gK8 := gK8.other WML (Or.inl (Ne.symm nJI))
 replace FKY := FKY.other WML (Ne.symm nKU)
 replace FLO := FLO.other WML (Ne.symm nLJ)
 replace FMF := FMF.other WML (Ne.symm nM9)
 replace Z0 := own_wrle WML Z0
 replace K0 := K0.wr WML (Or.inl (List.mem_of_getElem? (i := 0) rfl))
 have kMP : own_G p e below E0 TMH (mkF m 42 #[vr a] [(.int (16 : Int32)), (.ref a)]) := by
  intro tQ kk
  refine kMO tQ ?_
  refine XS.aloadN XMJ.here hx rfl (hH p49_1_39) rfl rfl ?_
  refine XS.bipush XMJ.here hx rfl (hH p49_1_40) ?_
  exact kk
 clear kMO
 obtain ⟨TMQ, hMR, cAMS, XMT, eMU, EMV, AMW, stMX⟩ := newP (aty := .int) XMJ hx hZ (tw5 hw) eMK (g := (mkF m 42 #[vr a] [(.int (16 : Int32)), (.ref a)])) rfl (hH p49_1_42) rfl (by decide) (cap := 16) (by decide) (by decide) (by decide) (by decide)
 obtain ⟨aMY, gMZ⟩ : ∃ zA : Nat, zA = hMI.size := ⟨_, rfl⟩
 rw [← gMZ] at AMW stMX
 have nN0 := own_lt_ne E1.lt gMZ
 have nN1 := own_lt_ne AJC.lt gMZ
 have nN2 := own_lt_ne FKY.lt gMZ
 have nN3 := own_lt_ne FLO.lt gMZ
 have nN4 := own_lt_ne FMF.lt gMZ
 have nwN5 : h0.size ≤ aMY := own_ge_of K0.1 gMZ
 have geN6 : n0 ≤ aMY := own_ge_of Z0 gMZ
 replace Z0 := Nat.le_trans Z0 EMV.1
 replace O1 := O1.ext EMV
 replace E1 := E1.ext EMV
 replace F0 := F0.ext EMV
 replace F1 := F1.ext EMV
 replace F2 := F2.ext EMV
 replace F3 := F3.ext EMV
 replace F4 := F4.ext EMV
 replace F5 := F5.ext EMV
 replace F6 := F6.ext EMV
 replace F7 := F7.ext EMV
 replace F8 := F8.ext EMV
 replace AJC := AJC.ext EMV
 replace gK6 := gK6.ext EMV
 replace gK7 := gK7.ext EMV
 replace gK8 := gK8.ext EMV
 replace FKY := FKY.ext EMV
 replace FLO := FLO.ext EMV
 replace FMF := FMF.ext EMV
 replace K0 := K0.ext EMV
 have FN7 : own_A Z hMR aMY .int own_i16 := own_A.new AMW
 have kN8 : own_G p e below E0 TMQ (mkF m 44 #[vr a] [(.ref aMY), (.ref a)]) := fun tQ kk => kMP tQ (stMX _ kk)
 clear kMP stMX
 obtain ⟨TN9, hNA, XNB, eNC, WND, stNE⟩ := putF XMT hx hZ hown (host := "") (Or.inl (tw48 hw)) Via.refl eMU F4 E1 (Or.inl (tw49 hw)) (tw8 hw) (ty := (.array .int)) (by decide) rfl rfl (g := (mkF m 44 #[vr a] [(.ref aMY), (.ref a)])) rfl rfl (hH p49_1_44)
 have NNF := Fr.snoc XNB NMN ge_a
 have kNG : own_G p e below E0 TN9 (mkF m 47 #[vr a] []) := fun tQ kk => kN8 tQ (stNE _ kk)
 clear kN8 stNE
 replace O1 := O1.wr WND ge_a
 replace E1 := E1.wr WND
 replace F0 := F0.other WND (Or.inr (sn85 hw))
 replace F1 := F1.other WND (Or.inr (sn86 hw))
 replace F2 := F2.other WND (Or.inr (sn87 hw))
 replace F3 := F3.other WND (Or.inr (sn88 hw))
 replace F4 := F4.same WND
 replace F5 := F5.other WND (Or.inr (sn89 hw))
 replace F6 := F6.other WND (Or.inr (sn90 hw))
 replace F7 := F7.other WND (Or.inr (sn91 hw))
 replace F8 := F8.other WND (Or.inr (sn92 hw))
 replace AJC := AJC.wr WND
 replace gK6 := gK6.other WND (Or.inl (Ne.symm nJI))
 replace gK7 := gK7.other WND (Or.inl (Ne.symm nJI))
 replace gK8 := gK8.other WND (Or.inl (Ne.symm nJI))
 replace FKY := FKY.other WND (Ne.symm nKU)
 replace FLO := FLO.other WND (Ne.symm nLJ)
 replace FMF := FMF.other WND (Ne.symm nM9)
 replace FN7 := FN7.other WND (Ne.symm nN0)
 replace Z0 := own_wrle WND Z0
 replace K0 := K0.wr WND (Or.inl (List.mem_of_getElem? (i := 0) rfl))
 have kNH : own_G p e below E0 TN9 (mkF m 48 #[vr a] [(.ref a)]) := by
  intro tQ kk
  refine kNG tQ ?_
  refine XS.aloadN XNB.here hx rfl (hH p49_1_47) rfl rfl ?_
  exact kk
 clear kNG
 obtain ⟨TNI, hNJ, XNK, eNL, ENM, ANN, DNO, UnNS, stNP⟩ := newO XNB hx hZ hown (tw50 hw) (tw51 hw) (tw52 hw) eNC (g := (mkF m 48 #[vr a] [(.ref a)])) rfl (hH p49_1_48) (by decide) (by decide)
 obtain ⟨aNQ, gNR⟩ : ∃ zA : Nat, zA = hNA.size := ⟨_, rfl⟩
 rw [← gNR] at ANN DNO stNP UnNS
 have nNT := own_lt_ne E1.lt gNR
 have nNU := own_lt_ne AJC.lt gNR
 have nNV := own_lt_ne FKY.lt gNR
 have nNW := own_lt_ne FLO.lt gNR
 have nNX := own_lt_ne FMF.lt gNR
 have nNY := own_lt_ne FN7.lt gNR
 have nwNZ : h0.size ≤ aNQ := own_ge_of K0.1 gNR
 have geP0 : n0 ≤ aNQ := own_ge_of Z0 gNR
 replace Z0 := Nat.le_trans Z0 ENM.1
 replace O1 := O1.ext ENM
 replace E1 := E1.ext ENM
 replace F0 := F0.ext ENM
 replace F1 := F1.ext ENM
 replace F2 := F2.ext ENM
 replace F3 := F3.ext ENM
 replace F4 := F4.ext ENM
 replace F5 := F5.ext ENM
 replace F6 := F6.ext ENM
 replace F7 := F7.ext ENM
 replace F8 := F8.ext ENM
 replace AJC := AJC.ext ENM
 replace gK6 := gK6.ext ENM
 replace gK7 := gK7.ext ENM
 replace gK8 := gK8.ext ENM
 replace FKY := FKY.ext ENM
 replace FLO := FLO.ext ENM
 replace FMF := FMF.ext ENM
 replace FN7 := FN7.ext ENM
 replace K0 := K0.ext ENM
 have UnP1 : Unt hNJ aNQ := UnNS
 have kP2 : own_G p e below E0 TNI (mkF m 51 #[vr a] [(.ref aNQ), (.ref a)]) := fun tQ kk => kNH tQ (stNP _ kk)
 clear kNH stNP
 have kP3 : own_G p e below E0 TNI (mkF m 52 #[vr a] [(.ref aNQ), (.ref aNQ), (.ref a)]) := by
  intro tQ kk
  refine kP2 tQ ?_
  refine XS.dup XNK.here hx rfl (hH p49_1_51) rfl rfl ?_
  exact kk
 clear kP2
 obtain ⟨_, _, ⟨TP4, LP5, kcP6, ncP7⟩, -, XP8, ⟨LcP9, hQPA, lPB, yPC, zPD⟩, stPE⟩ := XNK.specialBack hx (y := mn11) rfl hown (mvT hZ (tw53 hw)) (mvT hZ (tw54 hw)) (mvT hZ (tw55 hw)) (by decide) (backOf (W := 2) (rmBf l Z a0 hw [] aNQ hNJ n0 Z0 ANN UnP1 geP0) hZ (tw55 hw) (tw52 hw) (by decide) (by decide)) (g := (mkF m 52 #[vr a] [(.ref aNQ), (.ref aNQ), (.ref a)])) rfl (by rw [hml]; rfl) (Steps.refl _) (a := aNQ) (argsL := []) (rest := [(.ref aNQ), (.ref a)]) (lenOf pd_8 rfl) rfl (by show 2 * 0 + _ ≤ _; exact Nat.le_of_eq rfl) (hH p49_1_52) (fun _ _ => ⟨rfl, eNL, (by decide : 6 + 47 ≤ _), (by decide : 84 + 476 ≤ _)⟩)
 dsimp only [Pt.U, Pt.locs, Pt.cells, Pt.slots] at XP8 lPB yPC zPD stPE hQPA
 subst yPC zPD
 obtain ⟨rfl, NPF, KPI, gPJ⟩ := hQPA
 have NPK : Fr n0 LP5 := by rw [lPB]; exact Fr.app NNF NPF
 clear lPB NPF
 replace Z0 := Nat.le_trans Z0 KPI.1
 replace O1 := O1.keep KPI (allS geP0 all0)
 replace E1 := E1.keep KPI
 replace F0 := F0.keep KPI (ninS nNT nin0)
 replace F1 := F1.keep KPI (ninS nNT nin0)
 replace F2 := F2.keep KPI (ninS nNT nin0)
 replace F3 := F3.keep KPI (ninS nNT nin0)
 replace F4 := F4.keep KPI (ninS nNT nin0)
 replace F5 := F5.keep KPI (ninS nNT nin0)
 replace F6 := F6.keep KPI (ninS nNT nin0)
 replace F7 := F7.keep KPI (ninS nNT nin0)
 replace F8 := F8.keep KPI (ninS nNT nin0)
 replace AJC := AJC.keep KPI
 replace gK6 := gK6.keep KPI (ninS nNU nin0)
 replace gK7 := gK7.keep KPI (ninS nNU nin0)
 replace gK8 := gK8.keep KPI (ninS nNU nin0)
 replace FKY := FKY.keep KPI (ninS nNV nin0)
 replace FLO := FLO.keep KPI (ninS nNW nin0)
 replace FMF := FMF.keep KPI (ninS nNX nin0)
 replace FN7 := FN7.keep KPI (ninS nNY nin0)
 replace ANN := ANN.keep KPI
 clear UnP1
 replace K0 := K0.trans KPI (allS (Or.inr nwNZ) all0)
 have kPL : own_G p e below E0 TP4 (mkF m 55 #[vr a] [(.ref aNQ), (.ref a)]) := fun tQ kk => kP3 tQ (stPE.trans kk)
 clear kP3 stPE
 obtain ⟨TPM, hPN, XPO, ePP, WPQ, stPR⟩ := putF XP8 hx hZ hown (host := "") (Or.inl (tw165 hw)) Via.refl rfl F5 E1 (Or.inr ⟨(tw166 hw), rfl, hnm⟩) (tw8 hw) (ty := (.object "com/example/netloom/netloom/embed/BasisFactor")) (by decide) rfl rfl (g := (mkF m 55 #[vr a] [(.ref aNQ), (.ref a)])) rfl rfl (hH p49_1_55)
 have NPS := Fr.snoc XPO NPK ge_a
 have kPT : own_G p e below E0 TPM (mkF m 58 #[vr a] []) := fun tQ kk => kPL tQ (stPR _ kk)
 clear kPL stPR
 replace O1 := O1.wr WPQ ge_a
 replace E1 := E1.wr WPQ
 replace F0 := F0.other WPQ (Or.inr (sn93 hw))
 replace F1 := F1.other WPQ (Or.inr (sn94 hw))
 replace F2 := F2.other WPQ (Or.inr (sn95 hw))
 replace F3 := F3.other WPQ (Or.inr (sn96 hw))
 replace F4 := F4.other WPQ (Or.inr (sn97 hw))
 replace F5 := F5.same WPQ
 replace F6 := F6.other WPQ (Or.inr (sn98 hw))
 replace F7 := F7.other WPQ (Or.inr (sn99 hw))
 replace F8 := F8.other WPQ (Or.inr (sn100 hw))
 replace AJC := AJC.wr WPQ
 replace gK6 := gK6.other WPQ (Or.inl (Ne.symm nJI))
 replace gK7 := gK7.other WPQ (Or.inl (Ne.symm nJI))
 replace gK8 := gK8.other WPQ (Or.inl (Ne.symm nJI))
 replace FKY := FKY.other WPQ (Ne.symm nKU)
 replace FLO := FLO.other WPQ (Ne.symm nLJ)
 replace FMF := FMF.other WPQ (Ne.symm nM9)
 replace FN7 := FN7.other WPQ (Ne.symm nN0)
 replace ANN := ANN.wr WPQ
 replace gPJ := gPJ.other WPQ (Or.inl (Ne.symm nNT))
 replace Z0 := own_wrle WPQ Z0
 replace K0 := K0.wr WPQ (Or.inl (List.mem_of_getElem? (i := 0) rfl))
 have kPU : own_G p e below E0 TPM (mkF m 61 #[vr a] [(.int (16 : Int32)), (.ref a)]) := by
  intro tQ kk
  refine kPT tQ ?_
  refine XS.aloadN XPO.here hx rfl (hH p49_1_58) rfl rfl ?_
  refine XS.bipush XPO.here hx rfl (hH p49_1_59) ?_
  exact kk
 clear kPT
 obtain ⟨TPV, hPW, cAPX, XPY, ePZ, EQ0, AQ1, stQ2⟩ := newP (aty := .double) XPO hx hZ (tw6 hw) ePP (g := (mkF m 61 #[vr a] [(.int (16 : Int32)), (.ref a)])) rfl (hH p49_1_61) rfl (by decide) (cap := 16) (by decide) (by decide) (by decide) (by decide)
 obtain ⟨aQ3, gQ4⟩ : ∃ zA : Nat, zA = hPN.size := ⟨_, rfl⟩
 rw [← gQ4] at AQ1 stQ2
 have nQ5 := own_lt_ne E1.lt gQ4
 have nQ6 := own_lt_ne AJC.lt gQ4
 have nQ7 := own_lt_ne FKY.lt gQ4
 have nQ8 := own_lt_ne FLO.lt gQ4
 have nQ9 := own_lt_ne FMF.lt gQ4
 have nQA := own_lt_ne FN7.lt gQ4
 have nQB := own_lt_ne ANN.lt gQ4
 have nwQC : h0.size ≤ aQ3 := own_ge_of K0.1 gQ4
 have geQD : n0 ≤ aQ3 := own_ge_of Z0 gQ4
 replace Z0 := Nat.le_trans Z0 EQ0.1
 replace O1 := O1.ext EQ0
 replace E1 := E1.ext EQ0
 replace F0 := F0.ext EQ0
 replace F1 := F1.ext EQ0
 replace F2 := F2.ext EQ0
 replace F3 := F3.ext EQ0
 replace F4 := F4.ext EQ0
 replace F5 := F5.ext EQ0
 replace F6 := F6.ext EQ0
 replace F7 := F7.ext EQ0
 replace F8 := F8.ext EQ0
 replace AJC := AJC.ext EQ0
 replace gK6 := gK6.ext EQ0
 replace gK7 := gK7.ext EQ0
 replace gK8 := gK8.ext EQ0
 replace FKY := FKY.ext EQ0
 replace FLO := FLO.ext EQ0
 replace FMF := FMF.ext EQ0
 replace FN7 := FN7.ext EQ0
 replace ANN := ANN.ext EQ0
 replace gPJ := gPJ.ext EQ0
 replace K0 := K0.ext EQ0
 have FQE : own_A Z hPW aQ3 .double own_d16 := own_A.new AQ1
 have kQF : own_G p e below E0 TPV (mkF m 63 #[vr a] [(.ref aQ3), (.ref a)]) := fun tQ kk => kPU tQ (stQ2 _ kk)
 clear kPU stQ2
 obtain ⟨TQG, hQH, XQI, eQJ, WQK, stQL⟩ := putF XPY hx hZ hown (host := "") (Or.inl (tw167 hw)) Via.refl ePZ F6 E1 (Or.inl (tw168 hw)) (tw8 hw) (ty := (.array .double)) (by decide) rfl rfl (g := (mkF m 63 #[vr a] [(.ref aQ3), (.ref a)])) rfl rfl (hH p49_1_63)
 have NQM := Fr.snoc XQI NPS ge_a
 have kQN : own_G p e below E0 TQG (mkF m 66 #[vr a] []) := fun tQ kk => kQF tQ (stQL _ kk)
 clear kQF stQL
 replace O1 := O1.wr WQK ge_a
 replace E1 := E1.wr WQK
 replace F0 := F0.other WQK (Or.inr (sn101 hw))
 replace F1 := F1.other WQK (Or.inr (sn102 hw))
 replace F2 := F2.other WQK (Or.inr (sn103 hw))
 replace F3 := F3.other WQK (Or.inr (sn104 hw))
 replace F4 := F4.other WQK (Or.inr (sn105 hw))
 replace F5 := F5.other WQK (Or.inr (sn106 hw))
 replace F6 := F6.same WQK
 replace F7 := F7.other WQK (Or.inr (sn107 hw))
 replace F8 := F8.other WQK (Or.inr (sn108 hw))
 replace AJC := AJC.wr WQK
 replace gK6 := gK6.other WQK (Or.inl (Ne.symm nJI))
 replace gK7 := gK7.other WQK (Or.inl (Ne.symm nJI))
 replace gK8 := gK8.other WQK (Or.inl (Ne.symm nJI))
 replace FKY := FKY.other WQK (Ne.symm nKU)
 replace FLO := FLO.other WQK (Ne.symm nLJ)
 replace FMF := FMF.other WQK (Ne.symm nM9)
 replace FN7 := FN7.other WQK (Ne.symm nN0)
 replace ANN := ANN.wr WQK
 replace gPJ := gPJ.other WQK (Or.inl (Ne.symm nNT))
 replace FQE := FQE.other WQK (Ne.symm nQ5)
 replace Z0 := own_wrle WQK Z0
 replace K0 := K0.wr WQK (Or.inl (List.mem_of_getElem? (i := 0) rfl))
 have kQO : own_G p e below E0 TQG (mkF m 68 #[vr a] [(.int (0 : Int32)), (.ref a)]) := by
  intro tQ kk
  refine kQN tQ ?_
  refine XS.aloadN XQI.here hx rfl (hH p49_1_66) rfl rfl ?_
  refine XS.iconst XQI.here hx rfl (hH p49_1_67) ?_
  exact kk
 clear kQN
 obtain ⟨TQP, hQQ, cAQR, XQS, eQT, EQU, AQV, stQW⟩ := newP (aty := .double) XQI hx hZ (tw6 hw) eQJ (g := (mkF m 68 #[vr a] [(.int (0 : Int32)), (.ref a)])) rfl (hH p49_1_68) rfl (by decide) (cap := 0) (by decide) (by decide) (by decide) (by decide)
 obtain ⟨aQX, gQY⟩ : ∃ zA : Nat, zA = hQH.size := ⟨_, rfl⟩
 rw [← gQY] at AQV stQW
 have nQZ := own_lt_ne E1.lt gQY
 have nR0 := own_lt_ne AJC.lt gQY
 have nR1 := own_lt_ne FKY.lt gQY
 have nR2 := own_lt_ne FLO.lt gQY
 have nR3 := own_lt_ne FMF.lt gQY
 have nR4 := own_lt_ne FN7.lt gQY
 have nR5 := own_lt_ne ANN.lt gQY
 have nR6 := own_lt_ne FQE.lt gQY
 have nwR7 : h0.size ≤ aQX := own_ge_of K0.1 gQY
 have geR8 : n0 ≤ aQX := own_ge_of Z0 gQY
 replace Z0 := Nat.le_trans Z0 EQU.1
 replace O1 := O1.ext EQU
 replace E1 := E1.ext EQU
 replace F0 := F0.ext EQU
 replace F1 := F1.ext EQU
 replace F2 := F2.ext EQU
 replace F3 := F3.ext EQU
 replace F4 := F4.ext EQU
 replace F5 := F5.ext EQU
 replace F6 := F6.ext EQU
 replace F7 := F7.ext EQU
 replace F8 := F8.ext EQU
 replace AJC := AJC.ext EQU
 replace gK6 := gK6.ext EQU
 replace gK7 := gK7.ext EQU
 replace gK8 := gK8.ext EQU
 replace FKY := FKY.ext EQU
 replace FLO := FLO.ext EQU
 replace FMF := FMF.ext EQU
 replace FN7 := FN7.ext EQU
 replace ANN := ANN.ext EQU
 replace gPJ := gPJ.ext EQU
 replace FQE := FQE.ext EQU
 replace K0 := K0.ext EQU
 have kR9 : own_G p e below E0 TQP (mkF m 70 #[vr a] [(.ref aQX), (.ref a)]) := fun tQ kk => kQO tQ (stQW _ kk)
 clear kQO stQW
 obtain ⟨TRA, hRB, XRC, eRD, WRE, stRF⟩ := putF XQS hx hZ hown (host := "") (Or.inl (tw169 hw)) Via.refl eQT F7 E1 (Or.inl (tw170 hw)) (tw8 hw) (ty := (.array .double)) (by decide) rfl rfl (g := (mkF m 70 #[vr a] [(.ref aQX), (.ref a)])) rfl rfl (hH p49_1_70)
 have NRG := Fr.snoc XRC NQM ge_a
 have kRH : own_G p e below E0 TRA (mkF m 73 #[vr a] []) := fun tQ kk => kR9 tQ (stRF _ kk)
 clear kR9 stRF
 replace O1 := O1.wr WRE ge_a
 replace E1 := E1.wr WRE
 replace F0 := F0.other WRE (Or.inr (sn109 hw))
 replace F1 := F1.other WRE (Or.inr (sn110 hw))
 replace F2 := F2.other WRE (Or.inr (sn111 hw))
 replace F3 := F3.other WRE (Or.inr (sn112 hw))
 replace F4 := F4.other WRE (Or.inr (sn113 hw))
 replace F5 := F5.other WRE (Or.inr (sn114 hw))
 replace F6 := F6.other WRE (Or.inr (sn115 hw))
 replace F7 := F7.same WRE
 replace F8 := F8.other WRE (Or.inr (sn116 hw))
 replace AJC := AJC.wr WRE
 replace gK6 := gK6.other WRE (Or.inl (Ne.symm nJI))
 replace gK7 := gK7.other WRE (Or.inl (Ne.symm nJI))
 replace gK8 := gK8.other WRE (Or.inl (Ne.symm nJI))
 replace FKY := FKY.other WRE (Ne.symm nKU)
 replace FLO := FLO.other WRE (Ne.symm nLJ)
 replace FMF := FMF.other WRE (Ne.symm nM9)
 replace FN7 := FN7.other WRE (Ne.symm nN0)
 replace ANN := ANN.wr WRE
 replace gPJ := gPJ.other WRE (Or.inl (Ne.symm nNT))
 replace FQE := FQE.other WRE (Ne.symm nQ5)
 replace Z0 := own_wrle WRE Z0
 replace K0 := K0.wr WRE (Or.inl (List.mem_of_getElem? (i := 0) rfl))
 obtain ⟨fs, hr, hrun, hended, hW, hsame⟩ := XRC.leave (v := none) (fun _ => rfl)
 have hrun0 := kRH _ (XRC.returnOut hx Bd.returns (hH p49_1_73) hr)
 subst hE0
 refine ⟨_, _, hrun0, hrun, hended, _, _, rfl, ?_, ⟨_, rfl⟩, hW, hsame.mono (by decide) (by decide)⟩
 show QrmSx Z a dE h0 n0 _ TRA.heap _
 rw [eRD]
 exact ⟨aJF, aKS, aLH, aM7, aMY, aNQ, aQ3, rfl, NRG, K0, F0, F1, F2, F3, F4, F5, F6, F8, AJC, gK6, gK7, gK8, ANN, gPJ, FKY, FLO, FMF, FN7, FQE, nwJJ, nwKW, nwLM, nwMD, nwN5, nwNZ, nwQC, nKV, nLK, nMA, nN1, nNU, nQ6, nLL, nMB, nN2, nNV, nQ7, nMC, nN3, nNW, nQ8, nN4, nNX, nQ9, nNY, nQA, nQB⟩
def QrmMx (Z : State) (j : Int32) (k : Int32) (h0 : Heap) (n0 : Nat) (vQ : Option Value) (hQ : Heap) (LQ : List Loc) : Prop := vQ = some (.int j) ∧ Fr n0 LQ ∧ hQ = h0
theorem ef_rmMx (m : MethodId) (j : Int32) (k : Int32) : entryFrame m #[(.int j), (.int k)] 2 = mkF m 0 #[vi j, vi k] [] := by first | (simp [entryFrame, mkF, argsToLocals, Value.category]; done) | rfl
abbrev mn117 : MethodName := ⟨"java/lang/Math", "max", "(II)I"⟩
theorem j29_65_0 : decode jdk_29_method_65_code 0 = .ok (.iload_n 0, 1) := by decide +kernel
theorem j29_65_1 : decode jdk_29_method_65_code 1 = .ok (.iload_n 1, 1) := by decide +kernel
theorem j29_65_2 : decode jdk_29_method_65_code 2 = .ok (.if_icmp .lt 7, 3) := by decide +kernel
theorem j29_65_5 : decode jdk_29_method_65_code 5 = .ok (.iload_n 0, 1) := by decide +kernel
theorem j29_65_6 : decode jdk_29_method_65_code 6 = .ok (.goto 4, 3) := by decide +kernel
theorem j29_65_10 : decode jdk_29_method_65_code 10 = .ok (.ireturn, 1) := by decide +kernel
set_option maxRecDepth 65536 in
set_option maxHeartbeats 40000000 in
theorem rmMx (l : Launch) (Z : State) (a0 : Array Value) (hw : ∀ d ∈ tables_1, d.before a0 Z = true) (ws : List Jvm.Cond) (j : Int32) (k : Int32) (h0 : Heap) (n0 : Nat) (Z0 : n0 ≤ h0.size) (hjk : ¬ j < k) :
  MetFree l mn117 (head1 (Jvm.Cond.code mn117 jdk_29_method_65_code 2 (some .int) :: ws) ({ frames := 0, cells := 0, slots := 0, locals := 0 } : Room)) (fun aA U => aA = #[(.int j), (.int k)] ∧ Z.Warmed39 U.vm ∧ U.heap = h0) (fun _ _ _ _ _ => True) (fun _ U o U' => ∃ vR LR, o = .returned vR ∧ QrmMx Z j k h0 n0 vR U'.heap LR ∧ FrameEnd U o U' LR ({ frames := 0, cells := 0, slots := 0, locals := 0 } : Room).cells ({ frames := 0, cells := 0, slots := 0, locals := 0 } : Room).slots) := by
 refine MetFree.of_bodySF (Jvm.Free.JP.mathPlain rfl (by decide +kernel)) hisR ?_
 intro p e s m args below meth c s₁ Bd hml0 hPre hKk
 obtain ⟨rfl, hZ, hh⟩ := hPre
 have hx := Bd.exec
 have hby := Bd.bytes
 have hH : ∀ {pc r}, decode jdk_29_method_65_code pc = r → decode c.code pc = r := fun q => hb hby q
 have hml : c.maxLocals = 2 := hml0
 have hown : s.vm.findClass "java/lang/Math" = some m.cls := findClass_of_methodNamed Bd.named
 have hnm := (name_of_methodNamed Bd.named Bd.method).1
 have X0 : Stand p l e ({ frames := 0, cells := 0, slots := 0, locals := 0 } : Room) s m #[(.int j), (.int k)] below meth c s₁ [] 0 0 := Stand.of_body Bd
 have e0 : s₁.heap = h0 := by rw [← hh, Bd.state]; rfl
 have N0 := Fr.nil n0
 obtain ⟨E0, hE0⟩ : ∃ zE : State, zE = s₁.setTop (entryFrame m #[(.int j), (.int k)] 2) := ⟨_, rfl⟩
 have k0 : own_G p e below E0 s₁ (mkF m 0 #[vi j, vi k] []) := fun tz kz => hE0 ▸ castTop (ef_rmMx m j k) kz
 have kJ0 : own_G p e below E0 s₁ (mkF m 10 #[vi j, vi k] [(.int j)]) := by
  intro tQ kk
  refine k0 tQ ?_
  refine XS.iloadN X0.here hx rfl (hH j29_65_0) rfl ?_
  refine XS.iloadN X0.here hx rfl (hH j29_65_1) rfl ?_
  refine XS.icmpNo X0.here hx rfl (hH j29_65_2) rfl (own_ic_ltN hjk) ?_
  refine XS.iloadN X0.here hx rfl (hH j29_65_5) rfl ?_
  refine XS.goto X0.here hx rfl (pc0 := 6) (pc' := 10) rfl (hH j29_65_6) (by decide) (by decide) ?_
  exact kk
 clear k0
 obtain ⟨fs, hr, hrun, hended, hW, hsame⟩ := X0.leave (v := some (.int j)) (fun h => by rw [Bd.returns] at h; cases h)
 have hrun0 := kJ0 _ (retOut X0 hx Bd.returns (t := .int) rfl (Or.inl ⟨rfl, Or.inl rfl, _, rfl⟩) (hH j29_65_10) hr)
 subst hE0
 refine ⟨_, _, hrun0, hrun, hended, _, _, rfl, ?_, ⟨_, rfl⟩, hW, hsame.mono (by decide) (by decide)⟩
 show QrmMx Z j k h0 n0 _ s₁.heap _
 rw [e0]
 exact ⟨rfl, N0, rfl⟩
def QrmGd (Z : State) (b : Addr) (k : Int32) (cv : List Value) (h0 : Heap) (n0 : Nat) (vQ : Option Value) (hQ : Heap) (LQ : List Loc) : Prop := vQ = some (.ref b) ∧ Fr n0 LQ ∧ hQ = h0
theorem ef_rmGd (m : MethodId) (b : Addr) (k : Int32) (cv : List Value) : entryFrame m #[(.ref b), (.int k)] 2 = mkF m 0 #[vr b, vi k] [] := by first | (simp [entryFrame, mkF, argsToLocals, Value.category]; done) | rfl
abbrev mn118 : MethodName := ⟨"com/example/netloom/netloom/embed/GrowingArrays", "grown", "([DI)[D"⟩
theorem pn_com_example_netloom_netloom_embed_GrowingArrays : plainName "com/example/netloom/netloom/embed/GrowingArrays" = true := by first | (simp [plainName, overriddenIn]; done) | decide +kernel
theorem p37_3_0 : decode prog_37_method_3_code 0 = .ok (.iload_n 1, 1) := by decide +kernel
theorem p37_3_1 : decode prog_37_method_3_code 1 = .ok (.aload_n 0, 1) := by decide +kernel
theorem p37_3_2 : decode prog_37_method_3_code 2 = .ok (.arraylength, 1) := by decide +kernel
theorem p37_3_3 : decode prog_37_method_3_code 3 = .ok (.if_icmp .gt 7, 3) := by decide +kernel
theorem p37_3_6 : decode prog_37_method_3_code 6 = .ok (.aload_n 0, 1) := by decide +kernel
theorem p37_3_7 : decode prog_37_method_3_code 7 = .ok (.goto 15, 3) := by decide +kernel
theorem p37_3_22 : decode prog_37_method_3_code 22 = .ok (.areturn, 1) := by decide +kernel
set_option maxRecDepth 65536 in
set_option maxHeartbeats 40000000 in
theorem rmGd (l : Launch) (Z : State) (a0 : Array Value) (hw : ∀ d ∈ tables_1, d.before a0 Z = true) (ws : List Jvm.Cond) (b : Addr) (k : Int32) (cv : List Value) (h0 : Heap) (n0 : Nat) (Z0 : n0 ≤ h0.size) (A1 : own_A Z h0 b .double cv) (hk : ¬ (cv).length.toInt32 < k) :
  MetFree l mn118 (head1 (Jvm.Cond.code mn118 prog_37_method_3_code 2 (some (.array .double)) :: ws) ({ frames := 0, cells := 0, slots := 0, locals := 0 } : Room)) (fun aA U => aA = #[(.ref b), (.int k)] ∧ Z.Warmed39 U.vm ∧ U.heap = h0) (fun _ _ _ _ _ => True) (fun _ U o U' => ∃ vR LR, o = .returned vR ∧ QrmGd Z b k cv h0 n0 vR U'.heap LR ∧ FrameEnd U o U' LR ({ frames := 0, cells := 0, slots := 0, locals := 0 } : Room).cells ({ frames := 0, cells := 0, slots := 0, locals := 0 } : Room).slots) := by
 refine MetFree.of_bodySF (plainFor_of_name pn_com_example_netloom_netloom_embed_GrowingArrays) hisR ?_
 intro p e s m args below meth c s₁ Bd hml0 hPre hKk
 obtain ⟨rfl, hZ, hh⟩ := hPre
 have hx := Bd.exec
 have hby := Bd.bytes
 have hH : ∀ {pc r}, decode prog_37_method_3_code pc = r → decode c.code pc = r := fun q => hb hby q
 have hml : c.maxLocals = 2 := hml0
 have hown : s.vm.findClass "com/example/netloom/netloom/embed/GrowingArrays" = some m.cls := findClass_of_methodNamed Bd.named
 have hnm := (name_of_methodNamed Bd.named Bd.method).1
 have X0 : Stand p l e ({ frames := 0, cells := 0, slots := 0, locals := 0 } : Room) s m #[(.ref b), (.int k)] below meth c s₁ [] 0 0 := Stand.of_body Bd
 have e0 : s₁.heap = h0 := by rw [← hh, Bd.state]; rfl
 have N0 := Fr.nil n0
 obtain ⟨E0, hE0⟩ : ∃ zE : State, zE = s₁.setTop (entryFrame m #[(.ref b), (.int k)] 2) := ⟨_, rfl⟩
 have k0 : own_G p e below E0 s₁ (mkF m 0 #[vr b, vi k] []) := fun tz kz => hE0 ▸ castTop (ef_rmGd m b k cv) kz
 have kJ0 : own_G p e below E0 s₁ (mkF m 2 #[vr b, vi k] [(.ref b), (.int k)]) := by
  intro tQ kk
  refine k0 tQ ?_
  refine XS.iloadN X0.here hx rfl (hH p37_3_0) rfl ?_
  refine XS.aloadN X0.here hx rfl (hH p37_3_1) rfl rfl ?_
  exact kk
 clear k0
 have stJ1 := fun tQ => own_A.len X0 hx hZ e0 A1 (g := (mkF m 2 #[vr b, vi k] [(.ref b), (.int k)])) rfl rfl (hH p37_3_2) tQ
 have kJ2 : own_G p e below E0 s₁ (mkF m 3 #[vr b, vi k] [(.int (cv).length.toInt32), (.int k)]) := fun tQ kk => kJ0 tQ (stJ1 _ kk)
 clear kJ0 stJ1
 have kJ3 : own_G p e below E0 s₁ (mkF m 22 #[vr b, vi k] [(.ref b)]) := by
  intro tQ kk
  refine kJ2 tQ ?_
  refine XS.icmpNo X0.here hx rfl (hH p37_3_3) rfl (own_ic_gtN hk) ?_
  refine XS.aloadN X0.here hx rfl (hH p37_3_6) rfl rfl ?_
  refine XS.goto X0.here hx rfl (pc0 := 7) (pc' := 22) rfl (hH p37_3_7) (by decide) (by decide) ?_
  exact kk
 clear kJ2
 obtain ⟨fs, hr, hrun, hended, hW, hsame⟩ := X0.leave (v := some (.ref b)) (fun h => by rw [Bd.returns] at h; cases h)
 have hrun0 := kJ3 _ (retOut X0 hx Bd.returns (t := (.array .double)) rfl (Or.inr (Or.inr (Or.inr (Or.inr ⟨rfl, rfl, rfl⟩)))) (hH p37_3_22) hr)
 subst hE0
 refine ⟨_, _, hrun0, hrun, hended, _, _, rfl, ?_, ⟨_, rfl⟩, hW, hsame.mono (by decide) (by decide)⟩
 show QrmGd Z b k cv h0 n0 _ s₁.heap _
 rw [e0]
 exact ⟨rfl, N0, rfl⟩
def QrmGi (Z : State) (b : Addr) (k : Int32) (cv : List Value) (h0 : Heap) (n0 : Nat) (vQ : Option Value) (hQ : Heap) (LQ : List Loc) : Prop := vQ = some (.ref b) ∧ Fr n0 LQ ∧ hQ = h0
theorem ef_rmGi (m : MethodId) (b : Addr) (k : Int32) (cv : List Value) : entryFrame m #[(.ref b), (.int k)] 2 = mkF m 0 #[vr b, vi k] [] := by first | (simp [entryFrame, mkF, argsToLocals, Value.category]; done) | rfl
abbrev mn119 : MethodName := ⟨"com/example/netloom/netloom/embed/GrowingArrays", "grown", "([II)[I"⟩
theorem p37_2_0 : decode prog_37_method_2_code 0 = .ok (.iload_n 1, 1) := by decide +kernel
theorem p37_2_1 : decode prog_37_method_2_code 1 = .ok (.aload_n 0, 1) := by decide +kernel
theorem p37_2_2 : decode prog_37_method_2_code 2 = .ok (.arraylength, 1) := by decide +kernel
theorem p37_2_3 : decode prog_37_method_2_code 3 = .ok (.if_icmp .gt 7, 3) := by decide +kernel
theorem p37_2_6 : decode prog_37_method_2_code 6 = .ok (.aload_n 0, 1) := by decide +kernel
theorem p37_2_7 : decode prog_37_method_2_code 7 = .ok (.goto 15, 3) := by decide +kernel
theorem p37_2_22 : decode prog_37_method_2_code 22 = .ok (.areturn, 1) := by decide +kernel
set_option maxRecDepth 65536 in
set_option maxHeartbeats 40000000 in
theorem rmGi (l : Launch) (Z : State) (a0 : Array Value) (hw : ∀ d ∈ tables_1, d.before a0 Z = true) (ws : List Jvm.Cond) (b : Addr) (k : Int32) (cv : List Value) (h0 : Heap) (n0 : Nat) (Z0 : n0 ≤ h0.size) (A1 : own_A Z h0 b .int cv) (hk : ¬ (cv).length.toInt32 < k) :
  MetFree l mn119 (head1 (Jvm.Cond.code mn119 prog_37_method_2_code 2 (some (.array .int)) :: ws) ({ frames := 0, cells := 0, slots := 0, locals := 0 } : Room)) (fun aA U => aA = #[(.ref b), (.int k)] ∧ Z.Warmed39 U.vm ∧ U.heap = h0) (fun _ _ _ _ _ => True) (fun _ U o U' => ∃ vR LR, o = .returned vR ∧ QrmGi Z b k cv h0 n0 vR U'.heap LR ∧ FrameEnd U o U' LR ({ frames := 0, cells := 0, slots := 0, locals := 0 } : Room).cells ({ frames := 0, cells := 0, slots := 0, locals := 0 } : Room).slots) := by
 refine MetFree.of_bodySF (plainFor_of_name pn_com_example_netloom_netloom_embed_GrowingArrays) hisR ?_
 intro p e s m args below meth c s₁ Bd hml0 hPre hKk
 obtain ⟨rfl, hZ, hh⟩ := hPre
 have hx := Bd.exec
 have hby := Bd.bytes
 have hH : ∀ {pc r}, decode prog_37_method_2_code pc = r → decode c.code pc = r := fun q => hb hby q
 have hml : c.maxLocals = 2 := hml0
 have hown : s.vm.findClass "com/example/netloom/netloom/embed/GrowingArrays" = some m.cls := findClass_of_methodNamed Bd.named
 have hnm := (name_of_methodNamed Bd.named Bd.method).1
 have X0 : Stand p l e ({ frames := 0, cells := 0, slots := 0, locals := 0 } : Room) s m #[(.ref b), (.int k)] below meth c s₁ [] 0 0 := Stand.of_body Bd
 have e0 : s₁.heap = h0 := by rw [← hh, Bd.state]; rfl
 have N0 := Fr.nil n0
 obtain ⟨E0, hE0⟩ : ∃ zE : State, zE = s₁.setTop (entryFrame m #[(.ref b), (.int k)] 2) := ⟨_, rfl⟩
 have k0 : own_G p e below E0 s₁ (mkF m 0 #[vr b, vi k] []) := fun tz kz => hE0 ▸ castTop (ef_rmGi m b k cv) kz
 have kJ0 : own_G p e below E0 s₁ (mkF m 2 #[vr b, vi k] [(.ref b), (.int k)]) := by
  intro tQ kk
  refine k0 tQ ?_
  refine XS.iloadN X0.here hx rfl (hH p37_2_0) rfl ?_
  refine XS.aloadN X0.here hx rfl (hH p37_2_1) rfl rfl ?_
  exact kk
 clear k0
 have stJ1 := fun tQ => own_A.len X0 hx hZ e0 A1 (g := (mkF m 2 #[vr b, vi k] [(.ref b), (.int k)])) rfl rfl (hH p37_2_2) tQ
 have kJ2 : own_G p e below E0 s₁ (mkF m 3 #[vr b, vi k] [(.int (cv).length.toInt32), (.int k)]) := fun tQ kk => kJ0 tQ (stJ1 _ kk)
 clear kJ0 stJ1
 have kJ3 : own_G p e below E0 s₁ (mkF m 22 #[vr b, vi k] [(.ref b)]) := by
  intro tQ kk
  refine kJ2 tQ ?_
  refine XS.icmpNo X0.here hx rfl (hH p37_2_3) rfl (own_ic_gtN hk) ?_
  refine XS.aloadN X0.here hx rfl (hH p37_2_6) rfl rfl ?_
  refine XS.goto X0.here hx rfl (pc0 := 7) (pc' := 22) rfl (hH p37_2_7) (by decide) (by decide) ?_
  exact kk
 clear kJ2
 obtain ⟨fs, hr, hrun, hended, hW, hsame⟩ := X0.leave (v := some (.ref b)) (fun h => by rw [Bd.returns] at h; cases h)
 have hrun0 := kJ3 _ (retOut X0 hx Bd.returns (t := (.array .int)) rfl (Or.inr (Or.inr (Or.inr (Or.inr ⟨rfl, rfl, rfl⟩)))) (hH p37_2_22) hr)
 subst hE0
 refine ⟨_, _, hrun0, hrun, hended, _, _, rfl, ?_, ⟨_, rfl⟩, hW, hsame.mono (by decide) (by decide)⟩
 show QrmGi Z b k cv h0 n0 _ s₁.heap _
 rw [e0]
 exact ⟨rfl, N0, rfl⟩
abbrev fd120 (Z : State) (h : Heap) (a : Addr) (v : Value) : Prop := Fld Z h a "com/example/netloom/netloom/embed/SparseColumn" "rows" "[I" v
abbrev fd121 (Z : State) (h : Heap) (a : Addr) (v : Value) : Prop := Fld Z h a "com/example/netloom/netloom/embed/SparseColumn" "values" "[D" v
abbrev fd122 (Z : State) (h : Heap) (a : Addr) (v : Value) : Prop := Fld Z h a "com/example/netloom/netloom/embed/SparseColumn" "size" "I" v
def QrmSc (Z : State) (a : Addr) (h0 : Heap) (n0 : Nat) (vQ : Option Value) (hQ : Heap) (LQ : List Loc) : Prop := ∃ (r1 : Addr), ∃ (r2 : Addr), vQ = none ∧ Fr n0 LQ ∧ Keep h0 hQ [a] ∧ (fd120 Z hQ a (.ref r1)) ∧ (fd121 Z hQ a (.ref r2)) ∧ (fd122 Z hQ a (.int (0 : Int32))) ∧ (own_A Z hQ r1 .int own_i4) ∧ (own_A Z hQ r2 .double own_d4) ∧ (h0.size ≤ r1) ∧ (h0.size ≤ r2) ∧ (r1 ≠ r2)
theorem ef_rmSc (m : MethodId) (a : Addr) : entryFrame m #[(.ref a)] 1 = mkF m 0 #[vr a] [] := by first | (simp [entryFrame, mkF, argsToLocals, Value.category]; done) | rfl
abbrev xa123 (Z : State) (h : Heap) (a : Addr) : Prop := Exa Z h a "com/example/netloom/netloom/embed/SparseColumn"
abbrev mn124 : MethodName := ⟨"com/example/netloom/netloom/embed/SparseColumn", "<init>", "()V"⟩
theorem pn_com_example_netloom_netloom_embed_SparseColumn : plainName "com/example/netloom/netloom/embed/SparseColumn" = true := by first | (simp [plainName, overriddenIn]; done) | decide +kernel
theorem p51_1_0 : decode prog_51_method_1_code 0 = .ok (.aload_n 0, 1) := by decide +kernel
theorem p51_1_1 : decode prog_51_method_1_code 1 = .ok (.invokespecial 1, 3) := by decide +kernel
def tw193 {Z a0} (hw : HW Z a0) := hw _ (List.mem_of_getElem? (i := 193) rfl)
theorem p51_1_4 : decode prog_51_method_1_code 4 = .ok (.aload_n 0, 1) := by decide +kernel
theorem p51_1_5 : decode prog_51_method_1_code 5 = .ok (.iconst 4, 1) := by decide +kernel
theorem p51_1_6 : decode prog_51_method_1_code 6 = .ok (.newarray .int, 2) := by decide +kernel
theorem p51_1_8 : decode prog_51_method_1_code 8 = .ok (.putfield 7, 3) := by decide +kernel
def tw194 {Z a0} (hw : HW Z a0) := hw _ (List.mem_of_getElem? (i := 194) rfl)
def tw188 {Z a0} (hw : HW Z a0) := hw _ (List.mem_of_getElem? (i := 188) rfl)
def tw195 {Z a0} (hw : HW Z a0) := hw _ (List.mem_of_getElem? (i := 195) rfl)
def tw197 {Z a0} (hw : HW Z a0) := hw _ (List.mem_of_getElem? (i := 197) rfl)
abbrev cn126 : String := "com/example/netloom/netloom/embed/SparseColumn"
theorem sn125 {Z a0} (hw : HW Z a0) : RoadKit.slotOf Z cn126 "values" "[D" ≠ RoadKit.slotOf Z cn126 "rows" "[I" := (slot_ne (C := cn126) (Or.inl (tw197 hw)) (Or.inl (tw195 hw)) (by decide) (t := (.array .double)) (t' := (.array .int)) (by decide) (by decide))
def tw284 {Z a0} (hw : HW Z a0) := hw _ (List.mem_of_getElem? (i := 284) rfl)
theorem sn127 {Z a0} (hw : HW Z a0) : RoadKit.slotOf Z cn126 "size" "I" ≠ RoadKit.slotOf Z cn126 "rows" "[I" := (slot_ne (C := cn126) (Or.inl (tw284 hw)) (Or.inl (tw195 hw)) (by decide) (t := .int) (t' := (.array .int)) (by decide) (by decide))
theorem p51_1_11 : decode prog_51_method_1_code 11 = .ok (.aload_n 0, 1) := by decide +kernel
theorem p51_1_12 : decode prog_51_method_1_code 12 = .ok (.iconst 4, 1) := by decide +kernel
theorem p51_1_13 : decode prog_51_method_1_code 13 = .ok (.newarray .double, 2) := by decide +kernel
theorem p51_1_15 : decode prog_51_method_1_code 15 = .ok (.putfield 13, 3) := by decide +kernel
def tw196 {Z a0} (hw : HW Z a0) := hw _ (List.mem_of_getElem? (i := 196) rfl)
theorem sn128 {Z a0} (hw : HW Z a0) : RoadKit.slotOf Z cn126 "rows" "[I" ≠ RoadKit.slotOf Z cn126 "values" "[D" := (slot_ne (C := cn126) (Or.inl (tw195 hw)) (Or.inl (tw197 hw)) (by decide) (t := (.array .int)) (t' := (.array .double)) (by decide) (by decide))
theorem sn129 {Z a0} (hw : HW Z a0) : RoadKit.slotOf Z cn126 "size" "I" ≠ RoadKit.slotOf Z cn126 "values" "[D" := (slot_ne (C := cn126) (Or.inl (tw284 hw)) (Or.inl (tw197 hw)) (by decide) (t := .int) (t' := (.array .double)) (by decide) (by decide))
theorem p51_1_18 : decode prog_51_method_1_code 18 = .ok (.return_, 1) := by decide +kernel
set_option maxRecDepth 65536 in
set_option maxHeartbeats 40000000 in
theorem rmSc (l : Launch) (Z : State) (a0 : Array Value) (hw : ∀ d ∈ tables_1, d.before a0 Z = true) (ws : List Jvm.Cond) (a : Addr) (h0 : Heap) (n0 : Nat) (Z0 : n0 ≤ h0.size) (E1 : xa123 Z h0 a) (F0 : fd120 Z h0 a .null) (F1 : fd121 Z h0 a .null) (F2 : fd122 Z h0 a (.int (0 : Int32))) (ge_a : n0 ≤ a) :
  MetFree l mn124 (head1 (Jvm.Cond.code mn124 prog_51_method_1_code 1 none :: ws) ({ frames := 1, cells := 2, slots := 8, locals := 12 } : Room)) (fun aA U => aA = #[(.ref a)] ∧ Z.Warmed39 U.vm ∧ U.heap = h0) (fun _ _ _ _ _ => True) (fun _ U o U' => ∃ vR LR, o = .returned vR ∧ QrmSc Z a h0 n0 vR U'.heap LR ∧ FrameEnd U o U' LR ({ frames := 1, cells := 2, slots := 8, locals := 12 } : Room).cells ({ frames := 1, cells := 2, slots := 8, locals := 12 } : Room).slots) := by
 refine MetFree.of_bodySF (plainFor_of_name pn_com_example_netloom_netloom_embed_SparseColumn) hisR ?_
 intro p e s m args below meth c s₁ Bd hml0 hPre hKk
 obtain ⟨rfl, hZ, hh⟩ := hPre
 have hx := Bd.exec
 have hby := Bd.bytes
 have hH : ∀ {pc r}, decode prog_51_method_1_code pc = r → decode c.code pc = r := fun q => hb hby q
 have hml : c.maxLocals = 1 := hml0
 have hown : s.vm.findClass "com/example/netloom/netloom/embed/SparseColumn" = some m.cls := findClass_of_methodNamed Bd.named
 have hnm := (name_of_methodNamed Bd.named Bd.method).1
 have X0 : Stand p l e ({ frames := 1, cells := 2, slots := 8, locals := 12 } : Room) s m #[(.ref a)] below meth c s₁ [] 0 0 := Stand.of_body Bd
 have e0 : s₁.heap = h0 := by rw [← hh, Bd.state]; rfl
 have N0 := Fr.nil n0
 obtain ⟨E0, hE0⟩ : ∃ zE : State, zE = s₁.setTop (entryFrame m #[(.ref a)] 1) := ⟨_, rfl⟩
 have k0 : own_G p e below E0 s₁ (mkF m 0 #[vr a] []) := fun tz kz => hE0 ▸ castTop (ef_rmSc m a) kz
 have K0 : Keep h0 h0 [a] := Keep.refl _ _
 have kJ0 : own_G p e below E0 s₁ (mkF m 1 #[vr a] [(.ref a)]) := by
  intro tQ kk
  refine k0 tQ ?_
  refine XS.aloadN X0.here hx rfl (hH p51_1_0) rfl rfl ?_
  exact kk
 clear k0
 obtain ⟨TJ1, XJ2, eJ3, stJ4⟩ := initO X0 hx hZ hown (tw193 hw) (tw14 hw) (tw15 hw) e0 (g := (mkF m 1 #[vr a] [(.ref a)])) rfl (by rw [hml]; rfl) rfl (hH p51_1_1) (by decide) (W := 0) (by show 2 * 0 + _ ≤ _; exact Nat.le_of_eq rfl) (by decide)
 have kJ5 : own_G p e below E0 TJ1 (mkF m 4 #[vr a] []) := fun tQ kk => kJ0 tQ (stJ4 _ kk)
 clear kJ0 stJ4
 have kJ6 : own_G p e below E0 TJ1 (mkF m 6 #[vr a] [(.int (4 : Int32)), (.ref a)]) := by
  intro tQ kk
  refine kJ5 tQ ?_
  refine XS.aloadN XJ2.here hx rfl (hH p51_1_4) rfl rfl ?_
  refine XS.iconst XJ2.here hx rfl (hH p51_1_5) ?_
  exact kk
 clear kJ5
 obtain ⟨TJ7, hJ8, cAJ9, XJA, eJB, EJC, AJD, stJE⟩ := newP (aty := .int) XJ2 hx hZ (tw5 hw) eJ3 (g := (mkF m 6 #[vr a] [(.int (4 : Int32)), (.ref a)])) rfl (hH p51_1_6) rfl (by decide) (cap := 4) (by decide) (by decide) (by decide) (by decide)
 obtain ⟨aJF, gJG⟩ : ∃ zA : Nat, zA = h0.size := ⟨_, rfl⟩
 rw [← gJG] at AJD stJE
 have nJH := own_lt_ne E1.lt gJG
 have nwJI : h0.size ≤ aJF := own_ge_of K0.1 gJG
 have geJJ : n0 ≤ aJF := own_ge_of Z0 gJG
 replace Z0 := Nat.le_trans Z0 EJC.1
 replace E1 := E1.ext EJC
 replace F0 := F0.ext EJC
 replace F1 := F1.ext EJC
 replace F2 := F2.ext EJC
 replace K0 := K0.ext EJC
 have FJK : own_A Z hJ8 aJF .int own_i4 := own_A.new AJD
 have kJL : own_G p e below E0 TJ7 (mkF m 8 #[vr a] [(.ref aJF), (.ref a)]) := fun tQ kk => kJ6 tQ (stJE _ kk)
 clear kJ6 stJE
 obtain ⟨TJM, hJN, XJO, eJP, WJQ, stJR⟩ := putF XJA hx hZ hown (host := "") (Or.inl (tw194 hw)) Via.refl eJB F0 E1 (Or.inl (tw195 hw)) (tw188 hw) (ty := (.array .int)) (by decide) rfl rfl (g := (mkF m 8 #[vr a] [(.ref aJF), (.ref a)])) rfl rfl (hH p51_1_8)
 have NJS := Fr.snoc XJO N0 ge_a
 have kJT : own_G p e below E0 TJM (mkF m 11 #[vr a] []) := fun tQ kk => kJL tQ (stJR _ kk)
 clear kJL stJR
 replace E1 := E1.wr WJQ
 replace F0 := F0.same WJQ
 replace F1 := F1.other WJQ (Or.inr (sn125 hw))
 replace F2 := F2.other WJQ (Or.inr (sn127 hw))
 replace FJK := FJK.other WJQ (Ne.symm nJH)
 replace Z0 := own_wrle WJQ Z0
 replace K0 := K0.wr WJQ (Or.inl (List.mem_of_getElem? (i := 0) rfl))
 have kJU : own_G p e below E0 TJM (mkF m 13 #[vr a] [(.int (4 : Int32)), (.ref a)]) := by
  intro tQ kk
  refine kJT tQ ?_
  refine XS.aloadN XJO.here hx rfl (hH p51_1_11) rfl rfl ?_
  refine XS.iconst XJO.here hx rfl (hH p51_1_12) ?_
  exact kk
 clear kJT
 obtain ⟨TJV, hJW, cAJX, XJY, eJZ, EK0, AK1, stK2⟩ := newP (aty := .double) XJO hx hZ (tw6 hw) eJP (g := (mkF m 13 #[vr a] [(.int (4 : Int32)), (.ref a)])) rfl (hH p51_1_13) rfl (by decide) (cap := 4) (by decide) (by decide) (by decide) (by decide)
 obtain ⟨aK3, gK4⟩ : ∃ zA : Nat, zA = hJN.size := ⟨_, rfl⟩
 rw [← gK4] at AK1 stK2
 have nK5 := own_lt_ne E1.lt gK4
 have nK6 := own_lt_ne FJK.lt gK4
 have nwK7 : h0.size ≤ aK3 := own_ge_of K0.1 gK4
 have geK8 : n0 ≤ aK3 := own_ge_of Z0 gK4
 replace Z0 := Nat.le_trans Z0 EK0.1
 replace E1 := E1.ext EK0
 replace F0 := F0.ext EK0
 replace F1 := F1.ext EK0
 replace F2 := F2.ext EK0
 replace FJK := FJK.ext EK0
 replace K0 := K0.ext EK0
 have FK9 : own_A Z hJW aK3 .double own_d4 := own_A.new AK1
 have kKA : own_G p e below E0 TJV (mkF m 15 #[vr a] [(.ref aK3), (.ref a)]) := fun tQ kk => kJU tQ (stK2 _ kk)
 clear kJU stK2
 obtain ⟨TKB, hKC, XKD, eKE, WKF, stKG⟩ := putF XJY hx hZ hown (host := "") (Or.inl (tw196 hw)) Via.refl eJZ F1 E1 (Or.inl (tw197 hw)) (tw188 hw) (ty := (.array .double)) (by decide) rfl rfl (g := (mkF m 15 #[vr a] [(.ref aK3), (.ref a)])) rfl rfl (hH p51_1_15)
 have NKH := Fr.snoc XKD NJS ge_a
 have kKI : own_G p e below E0 TKB (mkF m 18 #[vr a] []) := fun tQ kk => kKA tQ (stKG _ kk)
 clear kKA stKG
 replace E1 := E1.wr WKF
 replace F0 := F0.other WKF (Or.inr (sn128 hw))
 replace F1 := F1.same WKF
 replace F2 := F2.other WKF (Or.inr (sn129 hw))
 replace FJK := FJK.other WKF (Ne.symm nJH)
 replace FK9 := FK9.other WKF (Ne.symm nK5)
 replace Z0 := own_wrle WKF Z0
 replace K0 := K0.wr WKF (Or.inl (List.mem_of_getElem? (i := 0) rfl))
 obtain ⟨fs, hr, hrun, hended, hW, hsame⟩ := XKD.leave (v := none) (fun _ => rfl)
 have hrun0 := kKI _ (XKD.returnOut hx Bd.returns (hH p51_1_18) hr)
 subst hE0
 refine ⟨_, _, hrun0, hrun, hended, _, _, rfl, ?_, ⟨_, rfl⟩, hW, hsame.mono (by decide) (by decide)⟩
 show QrmSc Z a h0 n0 _ TKB.heap _
 rw [eKE]
 exact ⟨aJF, aK3, rfl, NKH, K0, F0, F1, F2, FJK, FK9, nwJI, nwK7, nK6⟩
def QrmSa (Z : State) (a : Addr) (r1 : Addr) (r2 : Addr) (n : Int32) (k : Int32) (x : UInt64) (rl : List Value) (vl : List Value) (h0 : Heap) (n0 : Nat) (vQ : Option Value) (hQ : Heap) (LQ : List Loc) : Prop := vQ = none ∧ Fr n0 LQ ∧ Keep h0 hQ [a, r1, r2] ∧ (fd120 Z hQ a (.ref r1)) ∧ (fd121 Z hQ a (.ref r2)) ∧ (fd122 Z hQ a (.int (n + (1 : Int32)))) ∧ (own_A Z hQ r1 .int (rl.set n.toNatClampNeg (.int k))) ∧ (own_A Z hQ r2 .double (vl.set n.toNatClampNeg (.double x)))
theorem ef_rmSa (m : MethodId) (a : Addr) (r1 : Addr) (r2 : Addr) (n : Int32) (k : Int32) (x : UInt64) (rl : List Value) (vl : List Value) : entryFrame m #[(.ref a), (.int k), (.double x)] 4 = mkF m 0 #[vr a, vi k, vd x, ss] [] := by first | (simp [entryFrame, mkF, argsToLocals, Value.category]; done) | rfl
abbrev mn130 : MethodName := ⟨"com/example/netloom/netloom/embed/SparseColumn", "add", "(ID)V"⟩
theorem p51_2_0 : decode prog_51_method_2_code 0 = .ok (.aload_n 0, 1) := by decide +kernel
theorem p51_2_1 : decode prog_51_method_2_code 1 = .ok (.getfield 17, 3) := by decide +kernel
def tw283 {Z a0} (hw : HW Z a0) := hw _ (List.mem_of_getElem? (i := 283) rfl)
theorem p51_2_4 : decode prog_51_method_2_code 4 = .ok (.aload_n 0, 1) := by decide +kernel
theorem p51_2_5 : decode prog_51_method_2_code 5 = .ok (.getfield 7, 3) := by decide +kernel
theorem p51_2_8 : decode prog_51_method_2_code 8 = .ok (.arraylength, 1) := by decide +kernel
theorem p51_2_9 : decode prog_51_method_2_code 9 = .ok (.if_icmp .ne 37, 3) := by decide +kernel
theorem p51_2_46 : decode prog_51_method_2_code 46 = .ok (.aload_n 0, 1) := by decide +kernel
theorem p51_2_47 : decode prog_51_method_2_code 47 = .ok (.getfield 7, 3) := by decide +kernel
theorem p51_2_50 : decode prog_51_method_2_code 50 = .ok (.aload_n 0, 1) := by decide +kernel
theorem p51_2_51 : decode prog_51_method_2_code 51 = .ok (.getfield 17, 3) := by decide +kernel
theorem p51_2_54 : decode prog_51_method_2_code 54 = .ok (.iload_n 1, 1) := by decide +kernel
theorem p51_2_55 : decode prog_51_method_2_code 55 = .ok (.iastore, 1) := by decide +kernel
theorem p51_2_56 : decode prog_51_method_2_code 56 = .ok (.aload_n 0, 1) := by decide +kernel
theorem p51_2_57 : decode prog_51_method_2_code 57 = .ok (.getfield 13, 3) := by decide +kernel
theorem p51_2_60 : decode prog_51_method_2_code 60 = .ok (.aload_n 0, 1) := by decide +kernel
theorem p51_2_61 : decode prog_51_method_2_code 61 = .ok (.getfield 17, 3) := by decide +kernel
theorem p51_2_64 : decode prog_51_method_2_code 64 = .ok (.dload_n 2, 1) := by decide +kernel
theorem p51_2_65 : decode prog_51_method_2_code 65 = .ok (.dastore, 1) := by decide +kernel
theorem p51_2_66 : decode prog_51_method_2_code 66 = .ok (.aload_n 0, 1) := by decide +kernel
theorem p51_2_67 : decode prog_51_method_2_code 67 = .ok (.dup, 1) := by decide +kernel
theorem p51_2_68 : decode prog_51_method_2_code 68 = .ok (.getfield 17, 3) := by decide +kernel
theorem p51_2_71 : decode prog_51_method_2_code 71 = .ok (.iconst 1, 1) := by decide +kernel
theorem p51_2_72 : decode prog_51_method_2_code 72 = .ok (.iadd, 1) := by decide +kernel
theorem p51_2_73 : decode prog_51_method_2_code 73 = .ok (.putfield 17, 3) := by decide +kernel
theorem sn131 {Z a0} (hw : HW Z a0) : RoadKit.slotOf Z cn126 "rows" "[I" ≠ RoadKit.slotOf Z cn126 "size" "I" := (slot_ne (C := cn126) (Or.inl (tw195 hw)) (Or.inl (tw284 hw)) (by decide) (t := (.array .int)) (t' := .int) (by decide) (by decide))
theorem sn132 {Z a0} (hw : HW Z a0) : RoadKit.slotOf Z cn126 "values" "[D" ≠ RoadKit.slotOf Z cn126 "size" "I" := (slot_ne (C := cn126) (Or.inl (tw197 hw)) (Or.inl (tw284 hw)) (by decide) (t := (.array .double)) (t' := .int) (by decide) (by decide))
theorem p51_2_76 : decode prog_51_method_2_code 76 = .ok (.return_, 1) := by decide +kernel
set_option maxRecDepth 65536 in
set_option maxHeartbeats 40000000 in
theorem rmSa (l : Launch) (Z : State) (a0 : Array Value) (hw : ∀ d ∈ tables_1, d.before a0 Z = true) (ws : List Jvm.Cond) (a : Addr) (r1 : Addr) (r2 : Addr) (n : Int32) (k : Int32) (x : UInt64) (rl : List Value) (vl : List Value) (h0 : Heap) (n0 : Nat) (Z0 : n0 ≤ h0.size) (E1 : xa123 Z h0 a) (F1 : fd120 Z h0 a (.ref r1)) (F2 : fd121 Z h0 a (.ref r2)) (F3 : fd122 Z h0 a (.int n)) (A1 : own_A Z h0 r1 .int rl) (A2 : own_A Z h0 r2 .double vl) (n1 : a ≠ r1) (n2 : a ≠ r2) (n3 : r1 ≠ r2) (ge_a : n0 ≤ a) (ge_r1 : n0 ≤ r1) (ge_r2 : n0 ≤ r2) (hn : ¬ n = (rl).length.toInt32) (hj0 : ¬ n < 0) (h1 : n.toNatClampNeg < rl.length) (h2 : n.toNatClampNeg < vl.length) :
  MetFree l mn130 (head1 (Jvm.Cond.code mn130 prog_51_method_2_code 4 none :: ws) ({ frames := 0, cells := 0, slots := 0, locals := 0 } : Room)) (fun aA U => aA = #[(.ref a), (.int k), (.double x)] ∧ Z.Warmed39 U.vm ∧ U.heap = h0) (fun _ _ _ _ _ => True) (fun _ U o U' => ∃ vR LR, o = .returned vR ∧ QrmSa Z a r1 r2 n k x rl vl h0 n0 vR U'.heap LR ∧ FrameEnd U o U' LR ({ frames := 0, cells := 0, slots := 0, locals := 0 } : Room).cells ({ frames := 0, cells := 0, slots := 0, locals := 0 } : Room).slots) := by
 refine MetFree.of_bodySF (plainFor_of_name pn_com_example_netloom_netloom_embed_SparseColumn) hisR ?_
 intro p e s m args below meth c s₁ Bd hml0 hPre hKk
 obtain ⟨rfl, hZ, hh⟩ := hPre
 have hx := Bd.exec
 have hby := Bd.bytes
 have hH : ∀ {pc r}, decode prog_51_method_2_code pc = r → decode c.code pc = r := fun q => hb hby q
 have hml : c.maxLocals = 4 := hml0
 have hown : s.vm.findClass "com/example/netloom/netloom/embed/SparseColumn" = some m.cls := findClass_of_methodNamed Bd.named
 have hnm := (name_of_methodNamed Bd.named Bd.method).1
 have X0 : Stand p l e ({ frames := 0, cells := 0, slots := 0, locals := 0 } : Room) s m #[(.ref a), (.int k), (.double x)] below meth c s₁ [] 0 0 := Stand.of_body Bd
 have e0 : s₁.heap = h0 := by rw [← hh, Bd.state]; rfl
 have N0 := Fr.nil n0
 obtain ⟨E0, hE0⟩ : ∃ zE : State, zE = s₁.setTop (entryFrame m #[(.ref a), (.int k), (.double x)] 4) := ⟨_, rfl⟩
 have k0 : own_G p e below E0 s₁ (mkF m 0 #[vr a, vi k, vd x, ss] []) := fun tz kz => hE0 ▸ castTop (ef_rmSa m a r1 r2 n k x rl vl) kz
 have K0 : Keep h0 h0 [a, r1, r2] := Keep.refl _ _
 have kJ0 : own_G p e below E0 s₁ (mkF m 1 #[vr a, vi k, vd x, ss] [(.ref a)]) := by
  intro tQ kk
  refine k0 tQ ?_
  refine XS.aloadN X0.here hx rfl (hH p51_2_0) rfl rfl ?_
  exact kk
 clear k0
 obtain ⟨TJ1, XJ2, eJ3, stJ4⟩ := getF X0 hx hZ hown (host := "") (Or.inl (tw283 hw)) Via.refl e0 F3 (g := (mkF m 1 #[vr a, vi k, vd x, ss] [(.ref a)])) rfl rfl (hH p51_2_1)
 have kJ5 : own_G p e below E0 TJ1 (mkF m 4 #[vr a, vi k, vd x, ss] [(.int n)]) := fun tQ kk => kJ0 tQ (stJ4 _ kk)
 clear kJ0 stJ4
 have kJ6 : own_G p e below E0 TJ1 (mkF m 5 #[vr a, vi k, vd x, ss] [(.ref a), (.int n)]) := by
  intro tQ kk
  refine kJ5 tQ ?_
  refine XS.aloadN XJ2.here hx rfl (hH p51_2_4) rfl rfl ?_
  exact kk
 clear kJ5
 obtain ⟨TJ7, XJ8, eJ9, stJA⟩ := getF XJ2 hx hZ hown (host := "") (Or.inl (tw194 hw)) Via.refl eJ3 F1 (g := (mkF m 5 #[vr a, vi k, vd x, ss] [(.ref a), (.int n)])) rfl rfl (hH p51_2_5)
 have kJB : own_G p e below E0 TJ7 (mkF m 8 #[vr a, vi k, vd x, ss] [(.ref r1), (.int n)]) := fun tQ kk => kJ6 tQ (stJA _ kk)
 clear kJ6 stJA
 have stJC := fun tQ => own_A.len XJ8 hx hZ eJ9 A1 (g := (mkF m 8 #[vr a, vi k, vd x, ss] [(.ref r1), (.int n)])) rfl rfl (hH p51_2_8) tQ
 have kJD : own_G p e below E0 TJ7 (mkF m 9 #[vr a, vi k, vd x, ss] [(.int (rl).length.toInt32), (.int n)]) := fun tQ kk => kJB tQ (stJC _ kk)
 clear kJB stJC
 have kJE : own_G p e below E0 TJ7 (mkF m 47 #[vr a, vi k, vd x, ss] [(.ref a)]) := by
  intro tQ kk
  refine kJD tQ ?_
  refine XS.icmpYes XJ8.here hx rfl (pc0 := 9) (pc' := 46) rfl (hH p51_2_9) rfl (own_ic_neY hn) (by decide) (by decide) ?_
  refine XS.aloadN XJ8.here hx rfl (hH p51_2_46) rfl rfl ?_
  exact kk
 clear kJD
 obtain ⟨TJF, XJG, eJH, stJI⟩ := getF XJ8 hx hZ hown (host := "") (Or.inl (tw194 hw)) Via.refl eJ9 F1 (g := (mkF m 47 #[vr a, vi k, vd x, ss] [(.ref a)])) rfl rfl (hH p51_2_47)
 have kJJ : own_G p e below E0 TJF (mkF m 50 #[vr a, vi k, vd x, ss] [(.ref r1)]) := fun tQ kk => kJE tQ (stJI _ kk)
 clear kJE stJI
 have kJK : own_G p e below E0 TJF (mkF m 51 #[vr a, vi k, vd x, ss] [(.ref a), (.ref r1)]) := by
  intro tQ kk
  refine kJJ tQ ?_
  refine XS.aloadN XJG.here hx rfl (hH p51_2_50) rfl rfl ?_
  exact kk
 clear kJJ
 obtain ⟨TJL, XJM, eJN, stJO⟩ := getF XJG hx hZ hown (host := "") (Or.inl (tw283 hw)) Via.refl eJH F3 (g := (mkF m 51 #[vr a, vi k, vd x, ss] [(.ref a), (.ref r1)])) rfl rfl (hH p51_2_51)
 have kJP : own_G p e below E0 TJL (mkF m 54 #[vr a, vi k, vd x, ss] [(.int n), (.ref r1)]) := fun tQ kk => kJK tQ (stJO _ kk)
 clear kJK stJO
 have kJQ : own_G p e below E0 TJL (mkF m 55 #[vr a, vi k, vd x, ss] [(.int k), (.int n), (.ref r1)]) := by
  intro tQ kk
  refine kJP tQ ?_
  refine XS.iloadN XJM.here hx rfl (hH p51_2_54) rfl ?_
  exact kk
 clear kJP
 obtain ⟨TJR, hJS, XJT, eJU, WJV, FJW, stJX⟩ := own_A.ist XJM hx hZ eJN A1 (j := n) hj0 (List.getElem?_eq_getElem h1) (g := (mkF m 55 #[vr a, vi k, vd x, ss] [(.int k), (.int n), (.ref r1)])) rfl rfl (hH p51_2_55)
 have NJY := Fr.snoc XJT N0 ge_r1
 have kJZ : own_G p e below E0 TJR (mkF m 56 #[vr a, vi k, vd x, ss] []) := fun tQ kk => kJQ tQ (stJX _ kk)
 clear kJQ stJX
 replace E1 := E1.wr WJV
 replace F1 := F1.other WJV (Or.inl n1)
 replace F2 := F2.other WJV (Or.inl n1)
 replace F3 := F3.other WJV (Or.inl n1)
 replace A2 := A2.other WJV (fun q => n3 q.symm)
 replace Z0 := own_wrle WJV Z0
 replace K0 := K0.wr WJV (Or.inl (List.mem_of_getElem? (i := 1) rfl))
 have FK0 : own_A Z hJS r1 .int (rl.set n.toNatClampNeg (.int k)) := FJW
 have kK1 : own_G p e below E0 TJR (mkF m 57 #[vr a, vi k, vd x, ss] [(.ref a)]) := by
  intro tQ kk
  refine kJZ tQ ?_
  refine XS.aloadN XJT.here hx rfl (hH p51_2_56) rfl rfl ?_
  exact kk
 clear kJZ
 obtain ⟨TK2, XK3, eK4, stK5⟩ := getF XJT hx hZ hown (host := "") (Or.inl (tw196 hw)) Via.refl eJU F2 (g := (mkF m 57 #[vr a, vi k, vd x, ss] [(.ref a)])) rfl rfl (hH p51_2_57)
 have kK6 : own_G p e below E0 TK2 (mkF m 60 #[vr a, vi k, vd x, ss] [(.ref r2)]) := fun tQ kk => kK1 tQ (stK5 _ kk)
 clear kK1 stK5
 have kK7 : own_G p e below E0 TK2 (mkF m 61 #[vr a, vi k, vd x, ss] [(.ref a), (.ref r2)]) := by
  intro tQ kk
  refine kK6 tQ ?_
  refine XS.aloadN XK3.here hx rfl (hH p51_2_60) rfl rfl ?_
  exact kk
 clear kK6
 obtain ⟨TK8, XK9, eKA, stKB⟩ := getF XK3 hx hZ hown (host := "") (Or.inl (tw283 hw)) Via.refl eK4 F3 (g := (mkF m 61 #[vr a, vi k, vd x, ss] [(.ref a), (.ref r2)])) rfl rfl (hH p51_2_61)
 have kKC : own_G p e below E0 TK8 (mkF m 64 #[vr a, vi k, vd x, ss] [(.int n), (.ref r2)]) := fun tQ kk => kK7 tQ (stKB _ kk)
 clear kK7 stKB
 have kKD : own_G p e below E0 TK8 (mkF m 65 #[vr a, vi k, vd x, ss] [(.double x), (.int n), (.ref r2)]) := by
  intro tQ kk
  refine kKC tQ ?_
  refine XS.dloadN XK9.here hx rfl (hH p51_2_64) rfl ?_
  exact kk
 clear kKC
 obtain ⟨TKE, hKF, XKG, eKH, WKI, FKJ, stKK⟩ := own_A.dst XK9 hx hZ eKA A2 (j := n) hj0 (List.getElem?_eq_getElem h2) (g := (mkF m 65 #[vr a, vi k, vd x, ss] [(.double x), (.int n), (.ref r2)])) rfl rfl (hH p51_2_65)
 have NKL := Fr.snoc XKG NJY ge_r2
 have kKM : own_G p e below E0 TKE (mkF m 66 #[vr a, vi k, vd x, ss] []) := fun tQ kk => kKD tQ (stKK _ kk)
 clear kKD stKK
 replace E1 := E1.wr WKI
 replace F1 := F1.other WKI (Or.inl n2)
 replace F2 := F2.other WKI (Or.inl n2)
 replace F3 := F3.other WKI (Or.inl n2)
 replace FK0 := FK0.other WKI n3
 replace Z0 := own_wrle WKI Z0
 replace K0 := K0.wr WKI (Or.inl (List.mem_of_getElem? (i := 2) rfl))
 have FKN : own_A Z hKF r2 .double (vl.set n.toNatClampNeg (.double x)) := FKJ
 have kKO : own_G p e below E0 TKE (mkF m 68 #[vr a, vi k, vd x, ss] [(.ref a), (.ref a)]) := by
  intro tQ kk
  refine kKM tQ ?_
  refine XS.aloadN XKG.here hx rfl (hH p51_2_66) rfl rfl ?_
  refine XS.dup XKG.here hx rfl (hH p51_2_67) rfl rfl ?_
  exact kk
 clear kKM
 obtain ⟨TKP, XKQ, eKR, stKS⟩ := getF XKG hx hZ hown (host := "") (Or.inl (tw283 hw)) Via.refl eKH F3 (g := (mkF m 68 #[vr a, vi k, vd x, ss] [(.ref a), (.ref a)])) rfl rfl (hH p51_2_68)
 have kKT : own_G p e below E0 TKP (mkF m 71 #[vr a, vi k, vd x, ss] [(.int n), (.ref a)]) := fun tQ kk => kKO tQ (stKS _ kk)
 clear kKO stKS
 have kKU : own_G p e below E0 TKP (mkF m 73 #[vr a, vi k, vd x, ss] [(.int (n + (1 : Int32))), (.ref a)]) := by
  intro tQ kk
  refine kKT tQ ?_
  refine XS.iconst XKQ.here hx rfl (hH p51_2_71) ?_
  refine XS.iadd XKQ.here hx rfl (hH p51_2_72) rfl ?_
  exact kk
 clear kKT
 obtain ⟨TKV, hKW, XKX, eKY, WKZ, stL0⟩ := putF XKQ hx hZ hown (host := "") (Or.inl (tw283 hw)) Via.refl eKR F3 E1 (Or.inl (tw284 hw)) (tw188 hw) (ty := .int) (by decide) rfl rfl (g := (mkF m 73 #[vr a, vi k, vd x, ss] [(.int (n + (1 : Int32))), (.ref a)])) rfl rfl (hH p51_2_73)
 have NL1 := Fr.snoc XKX NKL ge_a
 have kL2 : own_G p e below E0 TKV (mkF m 76 #[vr a, vi k, vd x, ss] []) := fun tQ kk => kKU tQ (stL0 _ kk)
 clear kKU stL0
 replace E1 := E1.wr WKZ
 replace F1 := F1.other WKZ (Or.inr (sn131 hw))
 replace F2 := F2.other WKZ (Or.inr (sn132 hw))
 replace F3 := F3.same WKZ
 replace FK0 := FK0.other WKZ (fun q => n1 q.symm)
 replace FKN := FKN.other WKZ (fun q => n2 q.symm)
 replace Z0 := own_wrle WKZ Z0
 replace K0 := K0.wr WKZ (Or.inl (List.mem_of_getElem? (i := 0) rfl))
 obtain ⟨fs, hr, hrun, hended, hW, hsame⟩ := XKX.leave (v := none) (fun _ => rfl)
 have hrun0 := kL2 _ (XKX.returnOut hx Bd.returns (hH p51_2_76) hr)
 subst hE0
 refine ⟨_, _, hrun0, hrun, hended, _, _, rfl, ?_, ⟨_, rfl⟩, hW, hsame.mono (by decide) (by decide)⟩
 show QrmSa Z a r1 r2 n k x rl vl h0 n0 _ TKV.heap _
 rw [eKY]
 exact ⟨rfl, NL1, K0, F1, F2, F3, FK0, FKN⟩
def QrmSs (Z : State) (a : Addr) (n : Int32) (h0 : Heap) (n0 : Nat) (vQ : Option Value) (hQ : Heap) (LQ : List Loc) : Prop := vQ = some (.int n) ∧ Fr n0 LQ ∧ hQ = h0
theorem ef_rmSs (m : MethodId) (a : Addr) (n : Int32) : entryFrame m #[(.ref a)] 1 = mkF m 0 #[vr a] [] := by first | (simp [entryFrame, mkF, argsToLocals, Value.category]; done) | rfl
abbrev mn133 : MethodName := ⟨"com/example/netloom/netloom/embed/SparseColumn", "size", "()I"⟩
theorem p51_3_0 : decode prog_51_method_3_code 0 = .ok (.aload_n 0, 1) := by decide +kernel
theorem p51_3_1 : decode prog_51_method_3_code 1 = .ok (.getfield 17, 3) := by decide +kernel
theorem p51_3_4 : decode prog_51_method_3_code 4 = .ok (.ireturn, 1) := by decide +kernel
set_option maxRecDepth 65536 in
set_option maxHeartbeats 40000000 in
theorem rmSs (l : Launch) (Z : State) (a0 : Array Value) (hw : ∀ d ∈ tables_1, d.before a0 Z = true) (ws : List Jvm.Cond) (a : Addr) (n : Int32) (h0 : Heap) (n0 : Nat) (Z0 : n0 ≤ h0.size) (F1 : fd122 Z h0 a (.int n)) :
  MetFree l mn133 (head1 (Jvm.Cond.code mn133 prog_51_method_3_code 1 (some .int) :: ws) ({ frames := 0, cells := 0, slots := 0, locals := 0 } : Room)) (fun aA U => aA = #[(.ref a)] ∧ Z.Warmed39 U.vm ∧ U.heap = h0) (fun _ _ _ _ _ => True) (fun _ U o U' => ∃ vR LR, o = .returned vR ∧ QrmSs Z a n h0 n0 vR U'.heap LR ∧ FrameEnd U o U' LR ({ frames := 0, cells := 0, slots := 0, locals := 0 } : Room).cells ({ frames := 0, cells := 0, slots := 0, locals := 0 } : Room).slots) := by
 refine MetFree.of_bodySF (plainFor_of_name pn_com_example_netloom_netloom_embed_SparseColumn) hisR ?_
 intro p e s m args below meth c s₁ Bd hml0 hPre hKk
 obtain ⟨rfl, hZ, hh⟩ := hPre
 have hx := Bd.exec
 have hby := Bd.bytes
 have hH : ∀ {pc r}, decode prog_51_method_3_code pc = r → decode c.code pc = r := fun q => hb hby q
 have hml : c.maxLocals = 1 := hml0
 have hown : s.vm.findClass "com/example/netloom/netloom/embed/SparseColumn" = some m.cls := findClass_of_methodNamed Bd.named
 have hnm := (name_of_methodNamed Bd.named Bd.method).1
 have X0 : Stand p l e ({ frames := 0, cells := 0, slots := 0, locals := 0 } : Room) s m #[(.ref a)] below meth c s₁ [] 0 0 := Stand.of_body Bd
 have e0 : s₁.heap = h0 := by rw [← hh, Bd.state]; rfl
 have N0 := Fr.nil n0
 obtain ⟨E0, hE0⟩ : ∃ zE : State, zE = s₁.setTop (entryFrame m #[(.ref a)] 1) := ⟨_, rfl⟩
 have k0 : own_G p e below E0 s₁ (mkF m 0 #[vr a] []) := fun tz kz => hE0 ▸ castTop (ef_rmSs m a n) kz
 have kJ0 : own_G p e below E0 s₁ (mkF m 1 #[vr a] [(.ref a)]) := by
  intro tQ kk
  refine k0 tQ ?_
  refine XS.aloadN X0.here hx rfl (hH p51_3_0) rfl rfl ?_
  exact kk
 clear k0
 obtain ⟨TJ1, XJ2, eJ3, stJ4⟩ := getF X0 hx hZ hown (host := "") (Or.inl (tw283 hw)) Via.refl e0 F1 (g := (mkF m 1 #[vr a] [(.ref a)])) rfl rfl (hH p51_3_1)
 have kJ5 : own_G p e below E0 TJ1 (mkF m 4 #[vr a] [(.int n)]) := fun tQ kk => kJ0 tQ (stJ4 _ kk)
 clear kJ0 stJ4
 obtain ⟨fs, hr, hrun, hended, hW, hsame⟩ := XJ2.leave (v := some (.int n)) (fun h => by rw [Bd.returns] at h; cases h)
 have hrun0 := kJ5 _ (retOut XJ2 hx Bd.returns (t := .int) rfl (Or.inl ⟨rfl, Or.inl rfl, _, rfl⟩) (hH p51_3_4) hr)
 subst hE0
 refine ⟨_, _, hrun0, hrun, hended, _, _, rfl, ?_, ⟨_, rfl⟩, hW, hsame.mono (by decide) (by decide)⟩
 show QrmSs Z a n h0 n0 _ TJ1.heap _
 rw [eJ3]
 exact ⟨rfl, N0, rfl⟩
def QrmBs (Z : State) (a : Addr) (h0 : Heap) (n0 : Nat) (vQ : Option Value) (hQ : Heap) (LQ : List Loc) : Prop := vQ = some (.int (-1 : Int32)) ∧ Fr n0 LQ ∧ hQ = h0
theorem ef_rmBs (m : MethodId) (a : Addr) : entryFrame m #[(.ref a)] 1 = mkF m 0 #[vr a] [] := by first | (simp [entryFrame, mkF, argsToLocals, Value.category]; done) | rfl
abbrev mn134 : MethodName := ⟨"com/example/netloom/netloom/embed/BasisFactor", "size", "()I"⟩
theorem p17_2_0 : decode prog_17_method_2_code 0 = .ok (.aload_n 0, 1) := by decide +kernel
theorem p17_2_1 : decode prog_17_method_2_code 1 = .ok (.getfield 7, 3) := by decide +kernel
theorem p17_2_4 : decode prog_17_method_2_code 4 = .ok (.ireturn, 1) := by decide +kernel
set_option maxRecDepth 65536 in
set_option maxHeartbeats 40000000 in
theorem rmBs (l : Launch) (Z : State) (a0 : Array Value) (hw : ∀ d ∈ tables_1, d.before a0 Z = true) (ws : List Jvm.Cond) (a : Addr) (h0 : Heap) (n0 : Nat) (Z0 : n0 ≤ h0.size) (F1 : fd9 Z h0 a (.int (-1 : Int32))) :
  MetFree l mn134 (head1 (Jvm.Cond.code mn134 prog_17_method_2_code 1 (some .int) :: ws) ({ frames := 0, cells := 0, slots := 0, locals := 0 } : Room)) (fun aA U => aA = #[(.ref a)] ∧ Z.Warmed39 U.vm ∧ U.heap = h0) (fun _ _ _ _ _ => True) (fun _ U o U' => ∃ vR LR, o = .returned vR ∧ QrmBs Z a h0 n0 vR U'.heap LR ∧ FrameEnd U o U' LR ({ frames := 0, cells := 0, slots := 0, locals := 0 } : Room).cells ({ frames := 0, cells := 0, slots := 0, locals := 0 } : Room).slots) := by
 refine MetFree.of_bodySF (plainFor_of_name pn_com_example_netloom_netloom_embed_BasisFactor) hisR ?_
 intro p e s m args below meth c s₁ Bd hml0 hPre hKk
 obtain ⟨rfl, hZ, hh⟩ := hPre
 have hx := Bd.exec
 have hby := Bd.bytes
 have hH : ∀ {pc r}, decode prog_17_method_2_code pc = r → decode c.code pc = r := fun q => hb hby q
 have hml : c.maxLocals = 1 := hml0
 have hown : s.vm.findClass "com/example/netloom/netloom/embed/BasisFactor" = some m.cls := findClass_of_methodNamed Bd.named
 have hnm := (name_of_methodNamed Bd.named Bd.method).1
 have X0 : Stand p l e ({ frames := 0, cells := 0, slots := 0, locals := 0 } : Room) s m #[(.ref a)] below meth c s₁ [] 0 0 := Stand.of_body Bd
 have e0 : s₁.heap = h0 := by rw [← hh, Bd.state]; rfl
 have N0 := Fr.nil n0
 obtain ⟨E0, hE0⟩ : ∃ zE : State, zE = s₁.setTop (entryFrame m #[(.ref a)] 1) := ⟨_, rfl⟩
 have k0 : own_G p e below E0 s₁ (mkF m 0 #[vr a] []) := fun tz kz => hE0 ▸ castTop (ef_rmBs m a) kz
 have kJ0 : own_G p e below E0 s₁ (mkF m 1 #[vr a] [(.ref a)]) := by
  intro tQ kk
  refine k0 tQ ?_
  refine XS.aloadN X0.here hx rfl (hH p17_2_0) rfl rfl ?_
  exact kk
 clear k0
 obtain ⟨TJ1, XJ2, eJ3, stJ4⟩ := getF X0 hx hZ hown (host := "") (Or.inl (tw57 hw)) Via.refl e0 F1 (g := (mkF m 1 #[vr a] [(.ref a)])) rfl rfl (hH p17_2_1)
 have kJ5 : own_G p e below E0 TJ1 (mkF m 4 #[vr a] [(.int (-1 : Int32))]) := fun tQ kk => kJ0 tQ (stJ4 _ kk)
 clear kJ0 stJ4
 obtain ⟨fs, hr, hrun, hended, hW, hsame⟩ := XJ2.leave (v := some (.int (-1 : Int32))) (fun h => by rw [Bd.returns] at h; cases h)
 have hrun0 := kJ5 _ (retOut XJ2 hx Bd.returns (t := .int) rfl (Or.inl ⟨rfl, Or.inl rfl, _, rfl⟩) (hH p17_2_4) hr)
 subst hE0
 refine ⟨_, _, hrun0, hrun, hended, _, _, rfl, ?_, ⟨_, rfl⟩, hW, hsame.mono (by decide) (by decide)⟩
 show QrmBs Z a h0 n0 _ TJ1.heap _
 rw [eJ3]
 exact ⟨rfl, N0, rfl⟩
def QrmGrI (Z : State) (a : Addr) (dE : Addr) (h0 : Heap) (n0 : Nat) (vQ : Option Value) (hQ : Heap) (LQ : List Loc) : Prop := ∃ (r : Addr), vQ = some (.ref r) ∧ Fr n0 LQ ∧ Keep h0 hQ [a] ∧ (fd30 Z hQ a (.ref r)) ∧ (fd31 Z hQ a (.int (0 : Int32))) ∧ (fd29 Z hQ a (.int (1 : Int32))) ∧ (own_O Z hQ r "java/lang/Object" [.null, .null, .null, .null, .null, .null, .null, .null, .null, .null]) ∧ (h0.size ≤ r)
theorem ef_rmGrI (m : MethodId) (a : Addr) (dE : Addr) : entryFrame m #[(.ref a), (.int (1 : Int32))] 4 = mkF m 0 #[vr a, vi (1 : Int32), uu, uu] [] := by first | (simp [entryFrame, mkF, argsToLocals, Value.category]; done) | rfl
abbrev mn135 : MethodName := ⟨"java/util/ArrayList", "grow", "(I)[Ljava/lang/Object;"⟩
theorem j38_6_0 : decode jdk_38_method_6_code 0 = .ok (.aload_n 0, 1) := by decide +kernel
theorem j38_6_1 : decode jdk_38_method_6_code 1 = .ok (.getfield 9, 3) := by decide +kernel
theorem j38_6_4 : decode jdk_38_method_6_code 4 = .ok (.arraylength, 1) := by decide +kernel
theorem j38_6_5 : decode jdk_38_method_6_code 5 = .ok (.istore_n 2, 1) := by decide +kernel
theorem j38_6_6 : decode jdk_38_method_6_code 6 = .ok (.iload_n 2, 1) := by decide +kernel
theorem j38_6_7 : decode jdk_38_method_6_code 7 = .ok (.ifCond .gt 13, 3) := by decide +kernel
theorem j38_6_10 : decode jdk_38_method_6_code 10 = .ok (.aload_n 0, 1) := by decide +kernel
theorem j38_6_11 : decode jdk_38_method_6_code 11 = .ok (.getfield 9, 3) := by decide +kernel
theorem j38_6_14 : decode jdk_38_method_6_code 14 = .ok (.getstatic 39, 3) := by decide +kernel
theorem j38_6_17 : decode jdk_38_method_6_code 17 = .ok (.if_acmp .eq 28, 3) := by decide +kernel
theorem j38_6_45 : decode jdk_38_method_6_code 45 = .ok (.aload_n 0, 1) := by decide +kernel
theorem j38_6_46 : decode jdk_38_method_6_code 46 = .ok (.bipush 10, 2) := by decide +kernel
theorem j38_6_48 : decode jdk_38_method_6_code 48 = .ok (.iload_n 1, 1) := by decide +kernel
theorem j38_6_49 : decode jdk_38_method_6_code 49 = .ok (.invokestatic 79, 3) := by decide +kernel
def tw223 {Z a0} (hw : HW Z a0) := hw _ (List.mem_of_getElem? (i := 223) rfl)
def tw226 {Z a0} (hw : HW Z a0) := hw _ (List.mem_of_getElem? (i := 226) rfl)
def tw225 {Z a0} (hw : HW Z a0) := hw _ (List.mem_of_getElem? (i := 225) rfl)
theorem pd_136 : parseMethodDescriptor "(II)I" = some ⟨[.int, .int], some .int⟩ := by decide +kernel
def tw224 {Z a0} (hw : HW Z a0) := hw _ (List.mem_of_getElem? (i := 224) rfl)
theorem j38_6_52 : decode jdk_38_method_6_code 52 = .ok (.anewarray 7, 3) := by decide +kernel
def tw227 {Z a0} (hw : HW Z a0) := hw _ (List.mem_of_getElem? (i := 227) rfl)
def tw228 {Z a0} (hw : HW Z a0) := hw _ (List.mem_of_getElem? (i := 228) rfl)
theorem j38_6_55 : decode jdk_38_method_6_code 55 = .ok (.dup_x1, 1) := by decide +kernel
theorem j38_6_56 : decode jdk_38_method_6_code 56 = .ok (.putfield 9, 3) := by decide +kernel
theorem j38_6_59 : decode jdk_38_method_6_code 59 = .ok (.areturn, 1) := by decide +kernel
set_option maxRecDepth 65536 in
set_option maxHeartbeats 40000000 in
theorem rmGrI (l : Launch) (Z : State) (a0 : Array Value) (hw : ∀ d ∈ tables_1, d.before a0 Z = true) (ws : List Jvm.Cond) (a : Addr) (dE : Addr) (h0 : Heap) (n0 : Nat) (Z0 : n0 ≤ h0.size) (O1 : Old Z n0 h0) (E1 : xa32 Z h0 a) (F1 : fd30 Z h0 a (.ref dE)) (F2 : fd31 Z h0 a (.int (0 : Int32))) (F3 : fd29 Z h0 a (.int (1 : Int32))) (A1 : own_A Z h0 dE (.object "java/lang/Object") []) (nd : a ≠ dE) (ge_a : n0 ≤ a) (oD : Sta Z Z.heap "java/util/ArrayList" "DEFAULTCAPACITY_EMPTY_ELEMENTDATA" "[Ljava/lang/Object;" (.ref dE)) :
  MetFree l mn135 (head1 (Jvm.Cond.code mn135 jdk_38_method_6_code 4 (some (.array (.object "java/lang/Object"))) :: ws) ({ frames := 1, cells := 1, slots := 10, locals := 18 } : Room)) (fun aA U => aA = #[(.ref a), (.int (1 : Int32))] ∧ Z.Warmed39 U.vm ∧ U.heap = h0) (fun _ _ _ _ _ => True) (fun _ U o U' => ∃ vR LR, o = .returned vR ∧ QrmGrI Z a dE h0 n0 vR U'.heap LR ∧ FrameEnd U o U' LR ({ frames := 1, cells := 1, slots := 10, locals := 18 } : Room).cells ({ frames := 1, cells := 1, slots := 10, locals := 18 } : Room).slots) := by
 refine MetFree.of_bodySF (plainFor_of_name pn_java_util_ArrayList) hisR ?_
 intro p e s m args below meth c s₁ Bd hml0 hPre hKk
 obtain ⟨rfl, hZ, hh⟩ := hPre
 have hx := Bd.exec
 have hby := Bd.bytes
 have hH : ∀ {pc r}, decode jdk_38_method_6_code pc = r → decode c.code pc = r := fun q => hb hby q
 have hml : c.maxLocals = 4 := hml0
 have hown : s.vm.findClass "java/util/ArrayList" = some m.cls := findClass_of_methodNamed Bd.named
 have hnm := (name_of_methodNamed Bd.named Bd.method).1
 have X0 : Stand p l e ({ frames := 1, cells := 1, slots := 10, locals := 18 } : Room) s m #[(.ref a), (.int (1 : Int32))] below meth c s₁ [] 0 0 := Stand.of_body Bd
 have e0 : s₁.heap = h0 := by rw [← hh, Bd.state]; rfl
 have N0 := Fr.nil n0
 obtain ⟨E0, hE0⟩ : ∃ zE : State, zE = s₁.setTop (entryFrame m #[(.ref a), (.int (1 : Int32))] 4) := ⟨_, rfl⟩
 have k0 : own_G p e below E0 s₁ (mkF m 0 #[vr a, vi (1 : Int32), uu, uu] []) := fun tz kz => hE0 ▸ castTop (ef_rmGrI m a dE) kz
 have K0 : Keep h0 h0 [a] := Keep.refl _ _
 have kJ0 : own_G p e below E0 s₁ (mkF m 1 #[vr a, vi (1 : Int32), uu, uu] [(.ref a)]) := by
  intro tQ kk
  refine k0 tQ ?_
  refine XS.aloadN X0.here hx rfl (hH j38_6_0) rfl rfl ?_
  exact kk
 clear k0
 obtain ⟨TJ1, XJ2, eJ3, stJ4⟩ := getF X0 hx hZ hown (host := "") (Or.inl (tw38 hw)) Via.refl e0 F1 (g := (mkF m 1 #[vr a, vi (1 : Int32), uu, uu] [(.ref a)])) rfl rfl (hH j38_6_1)
 have kJ5 : own_G p e below E0 TJ1 (mkF m 4 #[vr a, vi (1 : Int32), uu, uu] [(.ref dE)]) := fun tQ kk => kJ0 tQ (stJ4 _ kk)
 clear kJ0 stJ4
 have stJ6 := fun tQ => own_A.len XJ2 hx hZ eJ3 A1 (g := (mkF m 4 #[vr a, vi (1 : Int32), uu, uu] [(.ref dE)])) rfl rfl (hH j38_6_4) tQ
 have kJ7 : own_G p e below E0 TJ1 (mkF m 5 #[vr a, vi (1 : Int32), uu, uu] [(.int (0 : Int32))]) := fun tQ kk => kJ5 tQ (stJ6 _ kk)
 clear kJ5 stJ6
 have kJ8 : own_G p e below E0 TJ1 (mkF m 11 #[vr a, vi (1 : Int32), vi (0 : Int32), uu] [(.ref a)]) := by
  intro tQ kk
  refine kJ7 tQ ?_
  refine XS.istoreN XJ2.here hx rfl (hH j38_6_5) rfl (l' := #[vr a, vi (1 : Int32), vi (0 : Int32), uu]) rfl ?_
  refine XS.iloadN XJ2.here hx rfl (hH j38_6_6) rfl ?_
  refine XS.ifNo XJ2.here hx rfl (hH j38_6_7) rfl (own_if_gtN (by decide)) ?_
  refine XS.aloadN XJ2.here hx rfl (hH j38_6_10) rfl rfl ?_
  exact kk
 clear kJ7
 obtain ⟨TJ9, XJA, eJB, stJC⟩ := getF XJ2 hx hZ hown (host := "") (Or.inl (tw38 hw)) Via.refl eJ3 F1 (g := (mkF m 11 #[vr a, vi (1 : Int32), vi (0 : Int32), uu] [(.ref a)])) rfl rfl (hH j38_6_11)
 have kJD : own_G p e below E0 TJ9 (mkF m 14 #[vr a, vi (1 : Int32), vi (0 : Int32), uu] [(.ref dE)]) := fun tQ kk => kJ8 tQ (stJC _ kk)
 clear kJ8 stJC
 have FJE : Sta Z h0 "java/util/ArrayList" "DEFAULTCAPACITY_EMPTY_ELEMENTDATA" "[Ljava/lang/Object;" (.ref dE) := oD.ext O1.2
 obtain ⟨TJF, XJG, eJH, stJI⟩ := getS XJA hx hZ hown (host := "") (tw37 hw) Via.refl eJB FJE (g := (mkF m 14 #[vr a, vi (1 : Int32), vi (0 : Int32), uu] [(.ref dE)])) rfl (hH j38_6_14)
 have kJJ : own_G p e below E0 TJF (mkF m 17 #[vr a, vi (1 : Int32), vi (0 : Int32), uu] [(.ref dE), (.ref dE)]) := fun tQ kk => kJD tQ (stJI _ kk)
 clear kJD stJI
 have kJK : own_G p e below E0 TJF (mkF m 49 #[vr a, vi (1 : Int32), vi (0 : Int32), uu] [(.int (1 : Int32)), (.int (10 : Int32)), (.ref a)]) := by
  intro tQ kk
  refine kJJ tQ ?_
  refine XT.acmpYes XJG.here hx rfl (pc0 := 17) (pc' := 45) rfl (hH j38_6_17) rfl rfl rfl (own_ar_eq_Y rfl) (by decide) (by decide) ?_
  refine XS.aloadN XJG.here hx rfl (hH j38_6_45) rfl rfl ?_
  refine XS.bipush XJG.here hx rfl (hH j38_6_46) ?_
  refine XS.iloadN XJG.here hx rfl (hH j38_6_48) rfl ?_
  exact kk
 clear kJJ
 obtain ⟨_, _, ⟨TJL, LJM, kcJN, ncJO⟩, -, XJP, ⟨LcJQ, hQJR, lJS, yJT, zJU⟩, stJV⟩ := Jvm.LawKit.callS XJG hx (y := mn117) hown (mvT hZ (tw223 hw)) (mvT hZ (tw224 hw)) (mvT hZ (tw225 hw)) (mvT hZ (tw226 hw)) (by decide) (backOf (W := 1) (rmMx l Z a0 hw [] (10 : Int32) (1 : Int32) h0 n0 Z0 (by decide)) hZ (tw226 hw) (tw225 hw) (by decide) (by decide)) (g := (mkF m 49 #[vr a, vi (1 : Int32), vi (0 : Int32), uu] [(.int (1 : Int32)), (.int (10 : Int32)), (.ref a)])) rfl (by rw [hml]; rfl) (argsL := [(.int (10 : Int32)), (.int (1 : Int32))]) (rest := [(.ref a)]) (lenOf pd_136 rfl) rfl (by show 2 * 0 + _ ≤ _; exact Nat.le_of_eq rfl) (hH j38_6_49) (fun _ _ => ⟨rfl, eJH, (by decide : 0 + 0 ≤ _), (by decide : 0 + 0 ≤ _)⟩)
 dsimp only [Pt.U, Pt.locs, Pt.cells, Pt.slots] at XJP lJS yJT zJU stJV hQJR
 subst yJT zJU
 obtain ⟨rfl, NJW, eJX⟩ := hQJR
 have NJZ : Fr n0 LJM := by rw [lJS]; exact Fr.app N0 NJW
 clear lJS NJW
 have kK0 : own_G p e below E0 TJL (mkF m 52 #[vr a, vi (1 : Int32), vi (0 : Int32), uu] [(.int (10 : Int32)), (.ref a)]) := fun tQ kk => kJK tQ (stJV _ kk)
 clear kJK stJV
 have eqK1 : (10 : Int32) = (10 : Int32) := rfl
 rw [eqK1] at kK0
 obtain ⟨TK2, hK3, cAK4, XK5, eK6, EK7, AK8, OK9, stKA⟩ := newR XJP hx hZ hown (tw227 hw) (tw228 hw) eJX (g := (mkF m 52 #[vr a, vi (1 : Int32), vi (0 : Int32), uu] [(.int (10 : Int32)), (.ref a)])) rfl (hH j38_6_52) rfl (by decide) (cap := 10) (by decide) (by decide) (by decide) (by decide)
 obtain ⟨aKB, gKC⟩ : ∃ zA : Nat, zA = h0.size := ⟨_, rfl⟩
 rw [← gKC] at AK8 stKA
 have nKD := own_lt_ne E1.lt gKC
 have nKE := own_lt_ne A1.lt gKC
 have nwKF : h0.size ≤ aKB := own_ge_of K0.1 gKC
 have geKG : n0 ≤ aKB := own_ge_of Z0 gKC
 replace Z0 := Nat.le_trans Z0 EK7.1
 replace O1 := O1.ext EK7
 replace E1 := E1.ext EK7
 replace F1 := F1.ext EK7
 replace F2 := F2.ext EK7
 replace F3 := F3.ext EK7
 replace A1 := A1.ext EK7
 replace FJE := FJE.ext EK7
 replace K0 := K0.ext EK7
 have FKH : own_O Z hK3 aKB "java/lang/Object" [.null, .null, .null, .null, .null, .null, .null, .null, .null, .null] := own_O.new AK8 OK9
 have kKI : own_G p e below E0 TK2 (mkF m 55 #[vr a, vi (1 : Int32), vi (0 : Int32), uu] [(.ref aKB), (.ref a)]) := fun tQ kk => kK0 tQ (stKA _ kk)
 clear kK0 stKA
 have kKJ : own_G p e below E0 TK2 (mkF m 56 #[vr a, vi (1 : Int32), vi (0 : Int32), uu] [(.ref aKB), (.ref a), (.ref aKB)]) := by
  intro tQ kk
  refine kKI tQ ?_
  refine XT.dupX1 XK5.here hx rfl (hH j38_6_55) rfl rfl rfl ?_
  exact kk
 clear kKI
 obtain ⟨TKK, hKL, XKM, eKN, WKO, stKP⟩ := putF XK5 hx hZ hown (host := "") (Or.inl (tw38 hw)) Via.refl eK6 F1 E1 (Or.inl (tw39 hw)) (tw17 hw) (ty := (.array (.object "java/lang/Object"))) (by decide) rfl rfl (g := (mkF m 56 #[vr a, vi (1 : Int32), vi (0 : Int32), uu] [(.ref aKB), (.ref a), (.ref aKB)])) rfl rfl (hH j38_6_56)
 have NKQ := Fr.snoc XKM NJZ ge_a
 have kKR : own_G p e below E0 TKK (mkF m 59 #[vr a, vi (1 : Int32), vi (0 : Int32), uu] [(.ref aKB)]) := fun tQ kk => kKJ tQ (stKP _ kk)
 clear kKJ stKP
 replace O1 := O1.wr WKO ge_a
 replace E1 := E1.wr WKO
 replace F1 := F1.same WKO
 replace F2 := F2.other WKO (Or.inr (sn40 hw))
 replace F3 := F3.other WKO (Or.inr (sn39 hw))
 replace A1 := A1.other WKO (fun q => nd q.symm)
 replace FJE := FJE.wr WKO
 replace FKH := FKH.other WKO (Ne.symm nKD)
 replace Z0 := own_wrle WKO Z0
 replace K0 := K0.wr WKO (Or.inl (List.mem_of_getElem? (i := 0) rfl))
 obtain ⟨fs, hr, hrun, hended, hW, hsame⟩ := XKM.leave (v := some (.ref aKB)) (fun h => by rw [Bd.returns] at h; cases h)
 have hrun0 := kKR _ (retOut XKM hx Bd.returns (t := (.array (.object "java/lang/Object"))) rfl (Or.inr (Or.inr (Or.inr (Or.inr ⟨rfl, rfl, rfl⟩)))) (hH j38_6_59) hr)
 subst hE0
 refine ⟨_, _, hrun0, hrun, hended, _, _, rfl, ?_, ⟨_, rfl⟩, hW, hsame.mono (by decide) (by decide)⟩
 show QrmGrI Z a dE h0 n0 _ TKK.heap _
 rw [eKN]
 exact ⟨aKB, rfl, NKQ, K0, F1, F2, F3, FKH, nwKF⟩
def QrmGr0 (Z : State) (a : Addr) (dE : Addr) (h0 : Heap) (n0 : Nat) (vQ : Option Value) (hQ : Heap) (LQ : List Loc) : Prop := ∃ (r : Addr), vQ = some (.ref r) ∧ Fr n0 LQ ∧ Keep h0 hQ [a] ∧ (fd30 Z hQ a (.ref r)) ∧ (fd31 Z hQ a (.int (0 : Int32))) ∧ (fd29 Z hQ a (.int (1 : Int32))) ∧ (own_O Z hQ r "java/lang/Object" [.null, .null, .null, .null, .null, .null, .null, .null, .null, .null]) ∧ (h0.size ≤ r)
theorem ef_rmGr0 (m : MethodId) (a : Addr) (dE : Addr) : entryFrame m #[(.ref a)] 1 = mkF m 0 #[vr a] [] := by first | (simp [entryFrame, mkF, argsToLocals, Value.category]; done) | rfl
abbrev mn137 : MethodName := ⟨"java/util/ArrayList", "grow", "()[Ljava/lang/Object;"⟩
theorem j38_7_0 : decode jdk_38_method_7_code 0 = .ok (.aload_n 0, 1) := by decide +kernel
theorem j38_7_1 : decode jdk_38_method_7_code 1 = .ok (.aload_n 0, 1) := by decide +kernel
theorem j38_7_2 : decode jdk_38_method_7_code 2 = .ok (.getfield 48, 3) := by decide +kernel
def tw185 {Z a0} (hw : HW Z a0) := hw _ (List.mem_of_getElem? (i := 185) rfl)
theorem j38_7_5 : decode jdk_38_method_7_code 5 = .ok (.iconst 1, 1) := by decide +kernel
theorem j38_7_6 : decode jdk_38_method_7_code 6 = .ok (.iadd, 1) := by decide +kernel
theorem j38_7_7 : decode jdk_38_method_7_code 7 = .ok (.invokevirtual 69, 3) := by decide +kernel
def tw218 {Z a0} (hw : HW Z a0) := hw _ (List.mem_of_getElem? (i := 218) rfl)
def tw221 {Z a0} (hw : HW Z a0) := hw _ (List.mem_of_getElem? (i := 221) rfl)
def tw222 {Z a0} (hw : HW Z a0) := hw _ (List.mem_of_getElem? (i := 222) rfl)
theorem pd_138 : parseMethodDescriptor "(I)[Ljava/lang/Object;" = some ⟨[.int], some (.array (.object "java/lang/Object"))⟩ := by decide +kernel
def tw219 {Z a0} (hw : HW Z a0) := hw _ (List.mem_of_getElem? (i := 219) rfl)
def tw220 {Z a0} (hw : HW Z a0) := hw _ (List.mem_of_getElem? (i := 220) rfl)
theorem j38_7_10 : decode jdk_38_method_7_code 10 = .ok (.areturn, 1) := by decide +kernel
set_option maxRecDepth 65536 in
set_option maxHeartbeats 40000000 in
theorem rmGr0 (l : Launch) (Z : State) (a0 : Array Value) (hw : ∀ d ∈ tables_1, d.before a0 Z = true) (ws : List Jvm.Cond) (a : Addr) (dE : Addr) (h0 : Heap) (n0 : Nat) (Z0 : n0 ≤ h0.size) (O1 : Old Z n0 h0) (E1 : xa32 Z h0 a) (F1 : fd30 Z h0 a (.ref dE)) (F2 : fd31 Z h0 a (.int (0 : Int32))) (F3 : fd29 Z h0 a (.int (1 : Int32))) (A1 : own_A Z h0 dE (.object "java/lang/Object") []) (nd : a ≠ dE) (ge_a : n0 ≤ a) (oD : Sta Z Z.heap "java/util/ArrayList" "DEFAULTCAPACITY_EMPTY_ELEMENTDATA" "[Ljava/lang/Object;" (.ref dE)) :
  MetFree l mn137 (head1 (Jvm.Cond.code mn137 jdk_38_method_7_code 1 (some (.array (.object "java/lang/Object"))) :: ws) ({ frames := 2, cells := 1, slots := 10, locals := 36 } : Room)) (fun aA U => aA = #[(.ref a)] ∧ Z.Warmed39 U.vm ∧ U.heap = h0) (fun _ _ _ _ _ => True) (fun _ U o U' => ∃ vR LR, o = .returned vR ∧ QrmGr0 Z a dE h0 n0 vR U'.heap LR ∧ FrameEnd U o U' LR ({ frames := 2, cells := 1, slots := 10, locals := 36 } : Room).cells ({ frames := 2, cells := 1, slots := 10, locals := 36 } : Room).slots) := by
 refine MetFree.of_bodySF (plainFor_of_name pn_java_util_ArrayList) hisR ?_
 intro p e s m args below meth c s₁ Bd hml0 hPre hKk
 obtain ⟨rfl, hZ, hh⟩ := hPre
 have hx := Bd.exec
 have hby := Bd.bytes
 have hH : ∀ {pc r}, decode jdk_38_method_7_code pc = r → decode c.code pc = r := fun q => hb hby q
 have hml : c.maxLocals = 1 := hml0
 have hown : s.vm.findClass "java/util/ArrayList" = some m.cls := findClass_of_methodNamed Bd.named
 have hnm := (name_of_methodNamed Bd.named Bd.method).1
 have X0 : Stand p l e ({ frames := 2, cells := 1, slots := 10, locals := 36 } : Room) s m #[(.ref a)] below meth c s₁ [] 0 0 := Stand.of_body Bd
 have e0 : s₁.heap = h0 := by rw [← hh, Bd.state]; rfl
 have N0 := Fr.nil n0
 obtain ⟨E0, hE0⟩ : ∃ zE : State, zE = s₁.setTop (entryFrame m #[(.ref a)] 1) := ⟨_, rfl⟩
 have k0 : own_G p e below E0 s₁ (mkF m 0 #[vr a] []) := fun tz kz => hE0 ▸ castTop (ef_rmGr0 m a dE) kz
 have K0 : Keep h0 h0 [a] := Keep.refl _ _
 have kJ0 : own_G p e below E0 s₁ (mkF m 2 #[vr a] [(.ref a), (.ref a)]) := by
  intro tQ kk
  refine k0 tQ ?_
  refine XS.aloadN X0.here hx rfl (hH j38_7_0) rfl rfl ?_
  refine XS.aloadN X0.here hx rfl (hH j38_7_1) rfl rfl ?_
  exact kk
 clear k0
 obtain ⟨TJ1, XJ2, eJ3, stJ4⟩ := getF X0 hx hZ hown (host := "") (Or.inl (tw185 hw)) Via.refl e0 F2 (g := (mkF m 2 #[vr a] [(.ref a), (.ref a)])) rfl rfl (hH j38_7_2)
 have kJ5 : own_G p e below E0 TJ1 (mkF m 5 #[vr a] [(.int (0 : Int32)), (.ref a)]) := fun tQ kk => kJ0 tQ (stJ4 _ kk)
 clear kJ0 stJ4
 have kJ6 : own_G p e below E0 TJ1 (mkF m 7 #[vr a] [(.int (1 : Int32)), (.ref a)]) := by
  intro tQ kk
  refine kJ5 tQ ?_
  refine XS.iconst XJ2.here hx rfl (hH j38_7_5) ?_
  refine XS.iadd XJ2.here hx rfl (hH j38_7_6) rfl ?_
  exact kk
 clear kJ5
 obtain ⟨cqJI, qaJJ, qbJK⟩ := (Ins.self E1).cell
 obtain ⟨_, _, ⟨TJ7, LJ8, kcJ9, ncJA⟩, -, XJB, ⟨LcJC, hQJD, lJE, yJF, zJG⟩, stJH⟩ := XJ2.privateBack hx (y := mn135) hown (mvT hZ (tw218 hw)) (mvT hZ (tw219 hw)) (mvT hZ (tw221 hw)) (Cond.privateMethod_at (mvP hZ (tw220 hw) (args := #[]))) (mvT hZ (tw222 hw)) (by decide) (backOf (W := 0) (rmGrI l Z a0 hw [] a dE h0 n0 Z0 O1 E1 F1 F2 F3 A1 nd ge_a oD) hZ (tw222 hw) (tw18 hw) (by decide) (by decide)) (g := (mkF m 7 #[vr a] [(.int (1 : Int32)), (.ref a)])) rfl (by rw [hml]; rfl) (Steps.refl _) (a := a) (by rw [eJ3]; exact qaJJ) qbJK (argsL := [(.int (1 : Int32))]) (rest := []) (lenOf pd_138 rfl) rfl (by show 2 * 0 + _ ≤ _; exact Nat.le_of_eq rfl) (hH j38_7_7) (fun _ _ => ⟨rfl, eJ3, (by decide : 0 + 1 ≤ _), (by decide : 0 + 10 ≤ _)⟩)
 dsimp only [Pt.U, Pt.locs, Pt.cells, Pt.slots] at XJB lJE yJF zJG stJH hQJD
 subst yJF zJG
 obtain ⟨rJO, rfl, NJL, KJP, gJQ, gJR, gJS, gJT, nwJU⟩ := hQJD
 have NJV : Fr n0 LJ8 := by rw [lJE]; exact Fr.app N0 NJL
 clear lJE NJL
 have geJW : n0 ≤ rJO := Nat.le_trans Z0 nwJU
 have nwJX : h0.size ≤ rJO := Nat.le_trans K0.1 nwJU
 have nJY : a ≠ rJO := own_lt_ne2 E1.lt nwJU
 have nJZ : dE ≠ rJO := own_lt_ne2 A1.lt nwJU
 replace Z0 := Nat.le_trans Z0 KJP.1
 replace O1 := O1.keep KJP (allS ge_a all0)
 replace E1 := E1.keep KJP
 clear F1
 clear F2
 clear F3
 replace A1 := A1.keep KJP (ninS (fun q => nd q.symm) nin0)
 replace K0 := K0.trans KJP (allS (Or.inl (List.mem_of_getElem? (i := 0) rfl)) all0)
 have kK0 : own_G p e below E0 TJ7 (mkF m 10 #[vr a] [(.ref rJO)]) := fun tQ kk => kJ6 tQ (stJH.trans kk)
 clear kJ6 stJH
 obtain ⟨fs, hr, hrun, hended, hW, hsame⟩ := XJB.leave (v := some (.ref rJO)) (fun h => by rw [Bd.returns] at h; cases h)
 have hrun0 := kK0 _ (retOut XJB hx Bd.returns (t := (.array (.object "java/lang/Object"))) rfl (Or.inr (Or.inr (Or.inr (Or.inr ⟨rfl, rfl, rfl⟩)))) (hH j38_7_10) hr)
 subst hE0
 refine ⟨_, _, hrun0, hrun, hended, _, _, rfl, ?_, ⟨_, rfl⟩, hW, hsame.mono (by decide) (by decide)⟩
 show QrmGr0 Z a dE h0 n0 _ TJ7.heap _
 exact ⟨rJO, rfl, NJV, K0, gJQ, gJR, gJS, gJT, nwJX⟩
def QrmA30 (Z : State) (a : Addr) (b : Addr) (dE : Addr) (h0 : Heap) (n0 : Nat) (vQ : Option Value) (hQ : Heap) (LQ : List Loc) : Prop := ∃ (r : Addr), vQ = none ∧ Fr n0 LQ ∧ Keep h0 hQ [a] ∧ (fd30 Z hQ a (.ref r)) ∧ (fd31 Z hQ a (.int (1 : Int32))) ∧ (fd29 Z hQ a (.int (1 : Int32))) ∧ (own_O Z hQ r "java/lang/Object" [(.ref b), .null, .null, .null, .null, .null, .null, .null, .null, .null]) ∧ (h0.size ≤ r)
theorem ef_rmA30 (m : MethodId) (a : Addr) (b : Addr) (dE : Addr) : entryFrame m #[(.ref a), (.ref b), (.ref dE), (.int (0 : Int32))] 4 = mkF m 0 #[vr a, vr b, vr dE, vi (0 : Int32)] [] := by first | (simp [entryFrame, mkF, argsToLocals, Value.category]; done) | rfl
abbrev mn139 : MethodName := ⟨"java/util/ArrayList", "add", "(Ljava/lang/Object;[Ljava/lang/Object;I)V"⟩
theorem j38_24_0 : decode jdk_38_method_24_code 0 = .ok (.iload_n 3, 1) := by decide +kernel
theorem j38_24_1 : decode jdk_38_method_24_code 1 = .ok (.aload_n 2, 1) := by decide +kernel
theorem j38_24_2 : decode jdk_38_method_24_code 2 = .ok (.arraylength, 1) := by decide +kernel
theorem j38_24_3 : decode jdk_38_method_24_code 3 = .ok (.if_icmp .ne 8, 3) := by decide +kernel
theorem j38_24_6 : decode jdk_38_method_24_code 6 = .ok (.aload_n 0, 1) := by decide +kernel
theorem j38_24_7 : decode jdk_38_method_24_code 7 = .ok (.invokevirtual 129, 3) := by decide +kernel
def tw213 {Z a0} (hw : HW Z a0) := hw _ (List.mem_of_getElem? (i := 213) rfl)
def tw216 {Z a0} (hw : HW Z a0) := hw _ (List.mem_of_getElem? (i := 216) rfl)
def tw217 {Z a0} (hw : HW Z a0) := hw _ (List.mem_of_getElem? (i := 217) rfl)
theorem pd_140 : parseMethodDescriptor "()[Ljava/lang/Object;" = some ⟨[], some (.array (.object "java/lang/Object"))⟩ := by decide +kernel
def tw214 {Z a0} (hw : HW Z a0) := hw _ (List.mem_of_getElem? (i := 214) rfl)
def tw215 {Z a0} (hw : HW Z a0) := hw _ (List.mem_of_getElem? (i := 215) rfl)
theorem j38_24_10 : decode jdk_38_method_24_code 10 = .ok (.astore_n 2, 1) := by decide +kernel
theorem j38_24_11 : decode jdk_38_method_24_code 11 = .ok (.aload_n 2, 1) := by decide +kernel
theorem j38_24_12 : decode jdk_38_method_24_code 12 = .ok (.iload_n 3, 1) := by decide +kernel
theorem j38_24_13 : decode jdk_38_method_24_code 13 = .ok (.aload_n 1, 1) := by decide +kernel
theorem j38_24_14 : decode jdk_38_method_24_code 14 = .ok (.aastore, 1) := by decide +kernel
def tw229 {Z a0} (hw : HW Z a0) := hw _ (List.mem_of_getElem? (i := 229) rfl)
theorem j38_24_15 : decode jdk_38_method_24_code 15 = .ok (.aload_n 0, 1) := by decide +kernel
theorem j38_24_16 : decode jdk_38_method_24_code 16 = .ok (.iload_n 3, 1) := by decide +kernel
theorem j38_24_17 : decode jdk_38_method_24_code 17 = .ok (.iconst 1, 1) := by decide +kernel
theorem j38_24_18 : decode jdk_38_method_24_code 18 = .ok (.iadd, 1) := by decide +kernel
theorem j38_24_19 : decode jdk_38_method_24_code 19 = .ok (.putfield 48, 3) := by decide +kernel
theorem sn141 {Z a0} (hw : HW Z a0) : RoadKit.slotOf Z cn35 "elementData" "[Ljava/lang/Object;" ≠ RoadKit.slotOf Z cn35 "size" "I" := (slot_ne (C := cn35) (Or.inl (tw39 hw)) (Or.inl (tw186 hw)) (by decide) (t := (.array (.object "java/lang/Object"))) (t' := .int) (by decide) (by decide))
theorem sn142 {Z a0} (hw : HW Z a0) : RoadKit.slotOf Z cn36 "modCount" "I" ≠ RoadKit.slotOf Z cn35 "size" "I" := (slot_ne (C := cn35) (Or.inl (tw36 hw)) (Or.inl (tw186 hw)) (by decide) (t := .int) (t' := .int) (by decide) (by decide))
theorem j38_24_22 : decode jdk_38_method_24_code 22 = .ok (.return_, 1) := by decide +kernel
set_option maxRecDepth 65536 in
set_option maxHeartbeats 40000000 in
theorem rmA30 (l : Launch) (Z : State) (a0 : Array Value) (hw : ∀ d ∈ tables_1, d.before a0 Z = true) (ws : List Jvm.Cond) (a : Addr) (b : Addr) (dE : Addr) (h0 : Heap) (n0 : Nat) (Z0 : n0 ≤ h0.size) (O1 : Old Z n0 h0) (E1 : xa32 Z h0 a) (F1 : fd30 Z h0 a (.ref dE)) (F2 : fd31 Z h0 a (.int (0 : Int32))) (F3 : fd29 Z h0 a (.int (1 : Int32))) (A1 : own_A Z h0 dE (.object "java/lang/Object") []) (E2 : xa123 Z h0 b) (nd : a ≠ dE) (nb : a ≠ b) (ge_a : n0 ≤ a) (oD : Sta Z Z.heap "java/util/ArrayList" "DEFAULTCAPACITY_EMPTY_ELEMENTDATA" "[Ljava/lang/Object;" (.ref dE)) :
  MetFree l mn139 (head1 (Jvm.Cond.code mn139 jdk_38_method_24_code 4 none :: ws) ({ frames := 3, cells := 1, slots := 10, locals := 50 } : Room)) (fun aA U => aA = #[(.ref a), (.ref b), (.ref dE), (.int (0 : Int32))] ∧ Z.Warmed39 U.vm ∧ U.heap = h0) (fun _ _ _ _ _ => True) (fun _ U o U' => ∃ vR LR, o = .returned vR ∧ QrmA30 Z a b dE h0 n0 vR U'.heap LR ∧ FrameEnd U o U' LR ({ frames := 3, cells := 1, slots := 10, locals := 50 } : Room).cells ({ frames := 3, cells := 1, slots := 10, locals := 50 } : Room).slots) := by
 refine MetFree.of_bodySF (plainFor_of_name pn_java_util_ArrayList) hisR ?_
 intro p e s m args below meth c s₁ Bd hml0 hPre hKk
 obtain ⟨rfl, hZ, hh⟩ := hPre
 have hx := Bd.exec
 have hby := Bd.bytes
 have hH : ∀ {pc r}, decode jdk_38_method_24_code pc = r → decode c.code pc = r := fun q => hb hby q
 have hml : c.maxLocals = 4 := hml0
 have hown : s.vm.findClass "java/util/ArrayList" = some m.cls := findClass_of_methodNamed Bd.named
 have hnm := (name_of_methodNamed Bd.named Bd.method).1
 have X0 : Stand p l e ({ frames := 3, cells := 1, slots := 10, locals := 50 } : Room) s m #[(.ref a), (.ref b), (.ref dE), (.int (0 : Int32))] below meth c s₁ [] 0 0 := Stand.of_body Bd
 have e0 : s₁.heap = h0 := by rw [← hh, Bd.state]; rfl
 have N0 := Fr.nil n0
 obtain ⟨E0, hE0⟩ : ∃ zE : State, zE = s₁.setTop (entryFrame m #[(.ref a), (.ref b), (.ref dE), (.int (0 : Int32))] 4) := ⟨_, rfl⟩
 have k0 : own_G p e below E0 s₁ (mkF m 0 #[vr a, vr b, vr dE, vi (0 : Int32)] []) := fun tz kz => hE0 ▸ castTop (ef_rmA30 m a b dE) kz
 have K0 : Keep h0 h0 [a] := Keep.refl _ _
 have kJ0 : own_G p e below E0 s₁ (mkF m 2 #[vr a, vr b, vr dE, vi (0 : Int32)] [(.ref dE), (.int (0 : Int32))]) := by
  intro tQ kk
  refine k0 tQ ?_
  refine XS.iloadN X0.here hx rfl (hH j38_24_0) rfl ?_
  refine XS.aloadN X0.here hx rfl (hH j38_24_1) rfl rfl ?_
  exact kk
 clear k0
 have stJ1 := fun tQ => own_A.len X0 hx hZ e0 A1 (g := (mkF m 2 #[vr a, vr b, vr dE, vi (0 : Int32)] [(.ref dE), (.int (0 : Int32))])) rfl rfl (hH j38_24_2) tQ
 have kJ2 : own_G p e below E0 s₁ (mkF m 3 #[vr a, vr b, vr dE, vi (0 : Int32)] [(.int (0 : Int32)), (.int (0 : Int32))]) := fun tQ kk => kJ0 tQ (stJ1 _ kk)
 clear kJ0 stJ1
 have kJ3 : own_G p e below E0 s₁ (mkF m 7 #[vr a, vr b, vr dE, vi (0 : Int32)] [(.ref a)]) := by
  intro tQ kk
  refine kJ2 tQ ?_
  refine XS.icmpNo X0.here hx rfl (hH j38_24_3) rfl (own_ic_neN (by decide)) ?_
  refine XS.aloadN X0.here hx rfl (hH j38_24_6) rfl rfl ?_
  exact kk
 clear kJ2
 obtain ⟨cqJF, qaJG, qbJH⟩ := (Ins.self E1).cell
 obtain ⟨_, _, ⟨TJ4, LJ5, kcJ6, ncJ7⟩, -, XJ8, ⟨LcJ9, hQJA, lJB, yJC, zJD⟩, stJE⟩ := X0.privateBack hx (y := mn137) hown (mvT hZ (tw213 hw)) (mvT hZ (tw214 hw)) (mvT hZ (tw216 hw)) (Cond.privateMethod_at (mvP hZ (tw215 hw) (args := #[]))) (mvT hZ (tw217 hw)) (by decide) (backOf (W := 0) (rmGr0 l Z a0 hw [] a dE h0 n0 Z0 O1 E1 F1 F2 F3 A1 nd ge_a oD) hZ (tw217 hw) (tw18 hw) (by decide) (by decide)) (g := (mkF m 7 #[vr a, vr b, vr dE, vi (0 : Int32)] [(.ref a)])) rfl (by rw [hml]; rfl) (Steps.refl _) (a := a) (by rw [e0]; exact qaJG) qbJH (argsL := []) (rest := []) (lenOf pd_140 rfl) rfl (by show 2 * 0 + _ ≤ _; exact Nat.le_of_eq rfl) (hH j38_24_7) (fun _ _ => ⟨rfl, e0, (by decide : 0 + 1 ≤ _), (by decide : 0 + 10 ≤ _)⟩)
 dsimp only [Pt.U, Pt.locs, Pt.cells, Pt.slots] at XJ8 lJB yJC zJD stJE hQJA
 subst yJC zJD
 obtain ⟨rJL, rfl, NJI, KJM, gJN, gJO, gJP, gJQ, nwJR⟩ := hQJA
 have NJS : Fr n0 LJ5 := by rw [lJB]; exact Fr.app N0 NJI
 clear lJB NJI
 have geJT : n0 ≤ rJL := Nat.le_trans Z0 nwJR
 have nwJU : h0.size ≤ rJL := Nat.le_trans K0.1 nwJR
 have nJV : a ≠ rJL := own_lt_ne2 E1.lt nwJR
 have nJW : dE ≠ rJL := own_lt_ne2 A1.lt nwJR
 have nJX : b ≠ rJL := own_lt_ne2 E2.lt nwJR
 replace Z0 := Nat.le_trans Z0 KJM.1
 replace O1 := O1.keep KJM (allS ge_a all0)
 replace E1 := E1.keep KJM
 clear F1
 clear F2
 clear F3
 replace A1 := A1.keep KJM (ninS (fun q => nd q.symm) nin0)
 replace E2 := E2.keep KJM
 replace K0 := K0.trans KJM (allS (Or.inl (List.mem_of_getElem? (i := 0) rfl)) all0)
 have kJY : own_G p e below E0 TJ4 (mkF m 10 #[vr a, vr b, vr dE, vi (0 : Int32)] [(.ref rJL)]) := fun tQ kk => kJ3 tQ (stJE.trans kk)
 clear kJ3 stJE
 have kJZ : own_G p e below E0 TJ4 (mkF m 14 #[vr a, vr b, vr rJL, vi (0 : Int32)] [(.ref b), (.int (0 : Int32)), (.ref rJL)]) := by
  intro tQ kk
  refine kJY tQ ?_
  refine XS.astoreN XJ8.here hx rfl (hH j38_24_10) rfl rfl (l' := #[vr a, vr b, vr rJL, vi (0 : Int32)]) rfl ?_
  refine XS.aloadN XJ8.here hx rfl (hH j38_24_11) rfl rfl ?_
  refine XS.iloadN XJ8.here hx rfl (hH j38_24_12) rfl ?_
  refine XS.aloadN XJ8.here hx rfl (hH j38_24_13) rfl rfl ?_
  exact kk
 clear kJY
 obtain ⟨TK0, hK1, XK2, eK3, WK4, FK5, stK6⟩ := own_O.ast XJ8 hx hZ rfl gJQ (j := (0 : Int32)) (by decide) rfl (Ins.of_exa E2 (tw229 hw)) (g := (mkF m 14 #[vr a, vr b, vr rJL, vi (0 : Int32)] [(.ref b), (.int (0 : Int32)), (.ref rJL)])) rfl rfl (hH j38_24_14)
 have NK7 := Fr.snoc XK2 NJS geJT
 have kK8 : own_G p e below E0 TK0 (mkF m 15 #[vr a, vr b, vr rJL, vi (0 : Int32)] []) := fun tQ kk => kJZ tQ (stK6 _ kk)
 clear kJZ stK6
 replace O1 := O1.wr WK4 geJT
 replace E1 := E1.wr WK4
 replace A1 := A1.other WK4 nJW
 replace E2 := E2.wr WK4
 replace gJN := gJN.other WK4 (Or.inl nJV)
 replace gJO := gJO.other WK4 (Or.inl nJV)
 replace gJP := gJP.other WK4 (Or.inl nJV)
 replace Z0 := own_wrle WK4 Z0
 replace K0 := K0.wr WK4 (Or.inr nwJU)
 have FK9 : own_O Z hK1 rJL "java/lang/Object" [(.ref b), .null, .null, .null, .null, .null, .null, .null, .null, .null] := FK5
 have kKA : own_G p e below E0 TK0 (mkF m 19 #[vr a, vr b, vr rJL, vi (0 : Int32)] [(.int (1 : Int32)), (.ref a)]) := by
  intro tQ kk
  refine kK8 tQ ?_
  refine XS.aloadN XK2.here hx rfl (hH j38_24_15) rfl rfl ?_
  refine XS.iloadN XK2.here hx rfl (hH j38_24_16) rfl ?_
  refine XS.iconst XK2.here hx rfl (hH j38_24_17) ?_
  refine XS.iadd XK2.here hx rfl (hH j38_24_18) rfl ?_
  exact kk
 clear kK8
 obtain ⟨TKB, hKC, XKD, eKE, WKF, stKG⟩ := putF XK2 hx hZ hown (host := "") (Or.inl (tw185 hw)) Via.refl eK3 gJO E1 (Or.inl (tw186 hw)) (tw17 hw) (ty := .int) (by decide) rfl rfl (g := (mkF m 19 #[vr a, vr b, vr rJL, vi (0 : Int32)] [(.int (1 : Int32)), (.ref a)])) rfl rfl (hH j38_24_19)
 have NKH := Fr.snoc XKD NK7 ge_a
 have kKI : own_G p e below E0 TKB (mkF m 22 #[vr a, vr b, vr rJL, vi (0 : Int32)] []) := fun tQ kk => kKA tQ (stKG _ kk)
 clear kKA stKG
 replace O1 := O1.wr WKF ge_a
 replace E1 := E1.wr WKF
 replace A1 := A1.other WKF (fun q => nd q.symm)
 replace E2 := E2.wr WKF
 replace gJN := gJN.other WKF (Or.inr (sn141 hw))
 replace gJO := gJO.same WKF
 replace gJP := gJP.other WKF (Or.inr (sn142 hw))
 replace FK9 := FK9.other WKF (Ne.symm nJV)
 replace Z0 := own_wrle WKF Z0
 replace K0 := K0.wr WKF (Or.inl (List.mem_of_getElem? (i := 0) rfl))
 obtain ⟨fs, hr, hrun, hended, hW, hsame⟩ := XKD.leave (v := none) (fun _ => rfl)
 have hrun0 := kKI _ (XKD.returnOut hx Bd.returns (hH j38_24_22) hr)
 subst hE0
 refine ⟨_, _, hrun0, hrun, hended, _, _, rfl, ?_, ⟨_, rfl⟩, hW, hsame.mono (by decide) (by decide)⟩
 show QrmA30 Z a b dE h0 n0 _ TKB.heap _
 rw [eKE]
 exact ⟨rJL, rfl, NKH, K0, gJN, gJO, gJP, FK9, nwJU⟩
def QrmAd0 (Z : State) (a : Addr) (b : Addr) (dE : Addr) (h0 : Heap) (n0 : Nat) (vQ : Option Value) (hQ : Heap) (LQ : List Loc) : Prop := ∃ (r : Addr), vQ = some (.int (1 : Int32)) ∧ Fr n0 LQ ∧ Keep h0 hQ [a] ∧ (fd30 Z hQ a (.ref r)) ∧ (fd31 Z hQ a (.int (1 : Int32))) ∧ (fd29 Z hQ a (.int (1 : Int32))) ∧ (own_O Z hQ r "java/lang/Object" [(.ref b), .null, .null, .null, .null, .null, .null, .null, .null, .null]) ∧ (h0.size ≤ r)
theorem ef_rmAd0 (m : MethodId) (a : Addr) (b : Addr) (dE : Addr) : entryFrame m #[(.ref a), (.ref b)] 2 = mkF m 0 #[vr a, vr b] [] := by first | (simp [entryFrame, mkF, argsToLocals, Value.category]; done) | rfl
abbrev mn143 : MethodName := ⟨"java/util/ArrayList", "add", "(Ljava/lang/Object;)Z"⟩
theorem j38_25_0 : decode jdk_38_method_25_code 0 = .ok (.aload_n 0, 1) := by decide +kernel
theorem j38_25_1 : decode jdk_38_method_25_code 1 = .ok (.dup, 1) := by decide +kernel
theorem j38_25_2 : decode jdk_38_method_25_code 2 = .ok (.getfield 63, 3) := by decide +kernel
def tw206 {Z a0} (hw : HW Z a0) := hw _ (List.mem_of_getElem? (i := 206) rfl)
def tw207 {Z a0} (hw : HW Z a0) := hw _ (List.mem_of_getElem? (i := 207) rfl)
theorem j38_25_5 : decode jdk_38_method_25_code 5 = .ok (.iconst 1, 1) := by decide +kernel
theorem j38_25_6 : decode jdk_38_method_25_code 6 = .ok (.iadd, 1) := by decide +kernel
theorem j38_25_7 : decode jdk_38_method_25_code 7 = .ok (.putfield 63, 3) := by decide +kernel
theorem j38_25_10 : decode jdk_38_method_25_code 10 = .ok (.aload_n 0, 1) := by decide +kernel
theorem j38_25_11 : decode jdk_38_method_25_code 11 = .ok (.aload_n 1, 1) := by decide +kernel
theorem j38_25_12 : decode jdk_38_method_25_code 12 = .ok (.aload_n 0, 1) := by decide +kernel
theorem j38_25_13 : decode jdk_38_method_25_code 13 = .ok (.getfield 9, 3) := by decide +kernel
theorem j38_25_16 : decode jdk_38_method_25_code 16 = .ok (.aload_n 0, 1) := by decide +kernel
theorem j38_25_17 : decode jdk_38_method_25_code 17 = .ok (.getfield 48, 3) := by decide +kernel
theorem j38_25_20 : decode jdk_38_method_25_code 20 = .ok (.invokevirtual 131, 3) := by decide +kernel
def tw208 {Z a0} (hw : HW Z a0) := hw _ (List.mem_of_getElem? (i := 208) rfl)
def tw211 {Z a0} (hw : HW Z a0) := hw _ (List.mem_of_getElem? (i := 211) rfl)
def tw212 {Z a0} (hw : HW Z a0) := hw _ (List.mem_of_getElem? (i := 212) rfl)
theorem pd_144 : parseMethodDescriptor "(Ljava/lang/Object;[Ljava/lang/Object;I)V" = some ⟨[(.object "java/lang/Object"), (.array (.object "java/lang/Object")), .int], none⟩ := by decide +kernel
def tw209 {Z a0} (hw : HW Z a0) := hw _ (List.mem_of_getElem? (i := 209) rfl)
def tw210 {Z a0} (hw : HW Z a0) := hw _ (List.mem_of_getElem? (i := 210) rfl)
theorem j38_25_23 : decode jdk_38_method_25_code 23 = .ok (.iconst 1, 1) := by decide +kernel
theorem j38_25_24 : decode jdk_38_method_25_code 24 = .ok (.ireturn, 1) := by decide +kernel
set_option maxRecDepth 65536 in
set_option maxHeartbeats 40000000 in
theorem rmAd0 (l : Launch) (Z : State) (a0 : Array Value) (hw : ∀ d ∈ tables_1, d.before a0 Z = true) (ws : List Jvm.Cond) (a : Addr) (b : Addr) (dE : Addr) (h0 : Heap) (n0 : Nat) (Z0 : n0 ≤ h0.size) (O1 : Old Z n0 h0) (E1 : xa32 Z h0 a) (F1 : fd30 Z h0 a (.ref dE)) (F2 : fd31 Z h0 a (.int (0 : Int32))) (F3 : fd29 Z h0 a (.int (0 : Int32))) (A1 : own_A Z h0 dE (.object "java/lang/Object") []) (E2 : xa123 Z h0 b) (nd : a ≠ dE) (nb : a ≠ b) (ge_a : n0 ≤ a) (oD : Sta Z Z.heap "java/util/ArrayList" "DEFAULTCAPACITY_EMPTY_ELEMENTDATA" "[Ljava/lang/Object;" (.ref dE)) :
  MetFree l mn143 (head1 (Jvm.Cond.code mn143 jdk_38_method_25_code 2 (some .boolean) :: ws) ({ frames := 4, cells := 1, slots := 10, locals := 68 } : Room)) (fun aA U => aA = #[(.ref a), (.ref b)] ∧ Z.Warmed39 U.vm ∧ U.heap = h0) (fun _ _ _ _ _ => True) (fun _ U o U' => ∃ vR LR, o = .returned vR ∧ QrmAd0 Z a b dE h0 n0 vR U'.heap LR ∧ FrameEnd U o U' LR ({ frames := 4, cells := 1, slots := 10, locals := 68 } : Room).cells ({ frames := 4, cells := 1, slots := 10, locals := 68 } : Room).slots) := by
 refine MetFree.of_bodySF (plainFor_of_name pn_java_util_ArrayList) hisR ?_
 intro p e s m args below meth c s₁ Bd hml0 hPre hKk
 obtain ⟨rfl, hZ, hh⟩ := hPre
 have hx := Bd.exec
 have hby := Bd.bytes
 have hH : ∀ {pc r}, decode jdk_38_method_25_code pc = r → decode c.code pc = r := fun q => hb hby q
 have hml : c.maxLocals = 2 := hml0
 have hown : s.vm.findClass "java/util/ArrayList" = some m.cls := findClass_of_methodNamed Bd.named
 have hnm := (name_of_methodNamed Bd.named Bd.method).1
 have X0 : Stand p l e ({ frames := 4, cells := 1, slots := 10, locals := 68 } : Room) s m #[(.ref a), (.ref b)] below meth c s₁ [] 0 0 := Stand.of_body Bd
 have e0 : s₁.heap = h0 := by rw [← hh, Bd.state]; rfl
 have N0 := Fr.nil n0
 obtain ⟨E0, hE0⟩ : ∃ zE : State, zE = s₁.setTop (entryFrame m #[(.ref a), (.ref b)] 2) := ⟨_, rfl⟩
 have k0 : own_G p e below E0 s₁ (mkF m 0 #[vr a, vr b] []) := fun tz kz => hE0 ▸ castTop (ef_rmAd0 m a b dE) kz
 have K0 : Keep h0 h0 [a] := Keep.refl _ _
 have kJ0 : own_G p e below E0 s₁ (mkF m 2 #[vr a, vr b] [(.ref a), (.ref a)]) := by
  intro tQ kk
  refine k0 tQ ?_
  refine XS.aloadN X0.here hx rfl (hH j38_25_0) rfl rfl ?_
  refine XS.dup X0.here hx rfl (hH j38_25_1) rfl rfl ?_
  exact kk
 clear k0
 obtain ⟨TJ1, XJ2, eJ3, stJ4⟩ := getF X0 hx hZ hown (host := "") (Or.inl (tw206 hw)) (Via.of (tw207 hw)) e0 F3 (g := (mkF m 2 #[vr a, vr b] [(.ref a), (.ref a)])) rfl rfl (hH j38_25_2)
 have kJ5 : own_G p e below E0 TJ1 (mkF m 5 #[vr a, vr b] [(.int (0 : Int32)), (.ref a)]) := fun tQ kk => kJ0 tQ (stJ4 _ kk)
 clear kJ0 stJ4
 have kJ6 : own_G p e below E0 TJ1 (mkF m 7 #[vr a, vr b] [(.int (1 : Int32)), (.ref a)]) := by
  intro tQ kk
  refine kJ5 tQ ?_
  refine XS.iconst XJ2.here hx rfl (hH j38_25_5) ?_
  refine XS.iadd XJ2.here hx rfl (hH j38_25_6) rfl ?_
  exact kk
 clear kJ5
 obtain ⟨TJ7, hJ8, XJ9, eJA, WJB, stJC⟩ := putF XJ2 hx hZ hown (host := "") (Or.inl (tw206 hw)) (Via.of (tw207 hw)) eJ3 F3 E1 (Or.inl (tw36 hw)) (tw17 hw) (ty := .int) (by decide) rfl rfl (g := (mkF m 7 #[vr a, vr b] [(.int (1 : Int32)), (.ref a)])) rfl rfl (hH j38_25_7)
 have NJD := Fr.snoc XJ9 N0 ge_a
 have kJE : own_G p e below E0 TJ7 (mkF m 10 #[vr a, vr b] []) := fun tQ kk => kJ6 tQ (stJC _ kk)
 clear kJ6 stJC
 replace O1 := O1.wr WJB ge_a
 replace E1 := E1.wr WJB
 replace F1 := F1.other WJB (Or.inr (sn34 hw))
 replace F2 := F2.other WJB (Or.inr (sn37 hw))
 replace F3 := F3.same WJB
 replace A1 := A1.other WJB (fun q => nd q.symm)
 replace E2 := E2.wr WJB
 replace Z0 := own_wrle WJB Z0
 replace K0 := K0.wr WJB (Or.inl (List.mem_of_getElem? (i := 0) rfl))
 have kJF : own_G p e below E0 TJ7 (mkF m 13 #[vr a, vr b] [(.ref a), (.ref b), (.ref a)]) := by
  intro tQ kk
  refine kJE tQ ?_
  refine XS.aloadN XJ9.here hx rfl (hH j38_25_10) rfl rfl ?_
  refine XS.aloadN XJ9.here hx rfl (hH j38_25_11) rfl rfl ?_
  refine XS.aloadN XJ9.here hx rfl (hH j38_25_12) rfl rfl ?_
  exact kk
 clear kJE
 obtain ⟨TJG, XJH, eJI, stJJ⟩ := getF XJ9 hx hZ hown (host := "") (Or.inl (tw38 hw)) Via.refl eJA F1 (g := (mkF m 13 #[vr a, vr b] [(.ref a), (.ref b), (.ref a)])) rfl rfl (hH j38_25_13)
 have kJK : own_G p e below E0 TJG (mkF m 16 #[vr a, vr b] [(.ref dE), (.ref b), (.ref a)]) := fun tQ kk => kJF tQ (stJJ _ kk)
 clear kJF stJJ
 have kJL : own_G p e below E0 TJG (mkF m 17 #[vr a, vr b] [(.ref a), (.ref dE), (.ref b), (.ref a)]) := by
  intro tQ kk
  refine kJK tQ ?_
  refine XS.aloadN XJH.here hx rfl (hH j38_25_16) rfl rfl ?_
  exact kk
 clear kJK
 obtain ⟨TJM, XJN, eJO, stJP⟩ := getF XJH hx hZ hown (host := "") (Or.inl (tw185 hw)) Via.refl eJI F2 (g := (mkF m 17 #[vr a, vr b] [(.ref a), (.ref dE), (.ref b), (.ref a)])) rfl rfl (hH j38_25_17)
 have kJQ : own_G p e below E0 TJM (mkF m 20 #[vr a, vr b] [(.int (0 : Int32)), (.ref dE), (.ref b), (.ref a)]) := fun tQ kk => kJL tQ (stJP _ kk)
 clear kJL stJP
 obtain ⟨cqK2, qaK3, qbK4⟩ := (Ins.self E1).cell
 obtain ⟨_, _, ⟨TJR, LJS, kcJT, ncJU⟩, -, XJV, ⟨LcJW, hQJX, lJY, yJZ, zK0⟩, stK1⟩ := XJN.privateBack hx (y := mn139) hown (mvT hZ (tw208 hw)) (mvT hZ (tw209 hw)) (mvT hZ (tw211 hw)) (Cond.privateMethod_at (mvP hZ (tw210 hw) (args := #[]))) (mvT hZ (tw212 hw)) (by decide) (backOf (W := 0) (rmA30 l Z a0 hw [] a b dE hJ8 n0 Z0 O1 E1 F1 F2 F3 A1 E2 nd nb ge_a oD) hZ (tw212 hw) (tw18 hw) (by decide) (by decide)) (g := (mkF m 20 #[vr a, vr b] [(.int (0 : Int32)), (.ref dE), (.ref b), (.ref a)])) rfl (by rw [hml]; rfl) (Steps.refl _) (a := a) (by rw [eJO]; exact qaK3) qbK4 (argsL := [(.ref b), (.ref dE), (.int (0 : Int32))]) (rest := []) (lenOf pd_144 rfl) rfl (by show 2 * 0 + _ ≤ _; exact Nat.le_of_eq rfl) (hH j38_25_20) (fun _ _ => ⟨rfl, eJO, (by decide : 0 + 1 ≤ _), (by decide : 0 + 10 ≤ _)⟩)
 dsimp only [Pt.U, Pt.locs, Pt.cells, Pt.slots] at XJV lJY yJZ zK0 stK1 hQJX
 subst yJZ zK0
 obtain ⟨rK8, rfl, NK5, KK9, gKA, gKB, gKC, gKD, nwKE⟩ := hQJX
 have NKF : Fr n0 LJS := by rw [lJY]; exact Fr.app NJD NK5
 clear lJY NK5
 have geKG : n0 ≤ rK8 := Nat.le_trans Z0 nwKE
 have nwKH : h0.size ≤ rK8 := Nat.le_trans K0.1 nwKE
 have nKI : a ≠ rK8 := own_lt_ne2 E1.lt nwKE
 have nKJ : dE ≠ rK8 := own_lt_ne2 A1.lt nwKE
 have nKK : b ≠ rK8 := own_lt_ne2 E2.lt nwKE
 replace Z0 := Nat.le_trans Z0 KK9.1
 replace O1 := O1.keep KK9 (allS ge_a all0)
 replace E1 := E1.keep KK9
 clear F1
 clear F2
 clear F3
 replace A1 := A1.keep KK9 (ninS (fun q => nd q.symm) nin0)
 replace E2 := E2.keep KK9
 replace K0 := K0.trans KK9 (allS (Or.inl (List.mem_of_getElem? (i := 0) rfl)) all0)
 have kKL : own_G p e below E0 TJR (mkF m 23 #[vr a, vr b] []) := fun tQ kk => kJQ tQ (stK1.trans kk)
 clear kJQ stK1
 have kKM : own_G p e below E0 TJR (mkF m 24 #[vr a, vr b] [(.int (1 : Int32))]) := by
  intro tQ kk
  refine kKL tQ ?_
  refine XS.iconst XJV.here hx rfl (hH j38_25_23) ?_
  exact kk
 clear kKL
 obtain ⟨fs, hr, hrun, hended, hW, hsame⟩ := XJV.leave (v := some (.int (1 : Int32))) (fun h => by rw [Bd.returns] at h; cases h)
 have hrun0 := kKM _ (retOut XJV hx Bd.returns (t := .boolean) rfl (Or.inl ⟨rfl, Or.inr (Or.inl rfl), _, rfl⟩) (hH j38_25_24) hr)
 subst hE0
 refine ⟨_, _, hrun0, hrun, hended, _, _, rfl, ?_, ⟨_, rfl⟩, hW, hsame.mono (by decide) (by decide)⟩
 show QrmAd0 Z a b dE h0 n0 _ TJR.heap _
 exact ⟨rK8, rfl, NKF, K0, gKA, gKB, gKC, gKD, nwKH⟩
def QrmA31 (Z : State) (a : Addr) (b : Addr) (x0 : Addr) (r : Addr) (h0 : Heap) (n0 : Nat) (vQ : Option Value) (hQ : Heap) (LQ : List Loc) : Prop := vQ = none ∧ Fr n0 LQ ∧ Keep h0 hQ [a, r] ∧ (fd30 Z hQ a (.ref r)) ∧ (fd31 Z hQ a (.int (2 : Int32))) ∧ (fd29 Z hQ a (.int (2 : Int32))) ∧ (own_O Z hQ r "java/lang/Object" [(.ref x0), (.ref b), .null, .null, .null, .null, .null, .null, .null, .null])
theorem ef_rmA31 (m : MethodId) (a : Addr) (b : Addr) (x0 : Addr) (r : Addr) : entryFrame m #[(.ref a), (.ref b), (.ref r), (.int (1 : Int32))] 4 = mkF m 0 #[vr a, vr b, vr r, vi (1 : Int32)] [] := by first | (simp [entryFrame, mkF, argsToLocals, Value.category]; done) | rfl
set_option maxRecDepth 65536 in
set_option maxHeartbeats 40000000 in
theorem rmA31 (l : Launch) (Z : State) (a0 : Array Value) (hw : ∀ d ∈ tables_1, d.before a0 Z = true) (ws : List Jvm.Cond) (a : Addr) (b : Addr) (x0 : Addr) (r : Addr) (h0 : Heap) (n0 : Nat) (Z0 : n0 ≤ h0.size) (E1 : xa32 Z h0 a) (F1 : fd30 Z h0 a (.ref r)) (F2 : fd31 Z h0 a (.int (1 : Int32))) (A1 : own_O Z h0 r "java/lang/Object" [(.ref x0), .null, .null, .null, .null, .null, .null, .null, .null, .null]) (E2 : xa123 Z h0 b) (F3 : fd29 Z h0 a (.int (2 : Int32))) (nd : a ≠ r) (nb : a ≠ b) (nc : b ≠ r) (ge_a : n0 ≤ a) (ge_r : n0 ≤ r) :
  MetFree l mn139 (head1 (Jvm.Cond.code mn139 jdk_38_method_24_code 4 none :: ws) ({ frames := 0, cells := 0, slots := 0, locals := 0 } : Room)) (fun aA U => aA = #[(.ref a), (.ref b), (.ref r), (.int (1 : Int32))] ∧ Z.Warmed39 U.vm ∧ U.heap = h0) (fun _ _ _ _ _ => True) (fun _ U o U' => ∃ vR LR, o = .returned vR ∧ QrmA31 Z a b x0 r h0 n0 vR U'.heap LR ∧ FrameEnd U o U' LR ({ frames := 0, cells := 0, slots := 0, locals := 0 } : Room).cells ({ frames := 0, cells := 0, slots := 0, locals := 0 } : Room).slots) := by
 refine MetFree.of_bodySF (plainFor_of_name pn_java_util_ArrayList) hisR ?_
 intro p e s m args below meth c s₁ Bd hml0 hPre hKk
 obtain ⟨rfl, hZ, hh⟩ := hPre
 have hx := Bd.exec
 have hby := Bd.bytes
 have hH : ∀ {pc r}, decode jdk_38_method_24_code pc = r → decode c.code pc = r := fun q => hb hby q
 have hml : c.maxLocals = 4 := hml0
 have hown : s.vm.findClass "java/util/ArrayList" = some m.cls := findClass_of_methodNamed Bd.named
 have hnm := (name_of_methodNamed Bd.named Bd.method).1
 have X0 : Stand p l e ({ frames := 0, cells := 0, slots := 0, locals := 0 } : Room) s m #[(.ref a), (.ref b), (.ref r), (.int (1 : Int32))] below meth c s₁ [] 0 0 := Stand.of_body Bd
 have e0 : s₁.heap = h0 := by rw [← hh, Bd.state]; rfl
 have N0 := Fr.nil n0
 obtain ⟨E0, hE0⟩ : ∃ zE : State, zE = s₁.setTop (entryFrame m #[(.ref a), (.ref b), (.ref r), (.int (1 : Int32))] 4) := ⟨_, rfl⟩
 have k0 : own_G p e below E0 s₁ (mkF m 0 #[vr a, vr b, vr r, vi (1 : Int32)] []) := fun tz kz => hE0 ▸ castTop (ef_rmA31 m a b x0 r) kz
 have K0 : Keep h0 h0 [a, r] := Keep.refl _ _
 have kJ0 : own_G p e below E0 s₁ (mkF m 2 #[vr a, vr b, vr r, vi (1 : Int32)] [(.ref r), (.int (1 : Int32))]) := by
  intro tQ kk
  refine k0 tQ ?_
  refine XS.iloadN X0.here hx rfl (hH j38_24_0) rfl ?_
  refine XS.aloadN X0.here hx rfl (hH j38_24_1) rfl rfl ?_
  exact kk
 clear k0
 have stJ1 := fun tQ => own_O.len X0 hx hZ e0 A1 (g := (mkF m 2 #[vr a, vr b, vr r, vi (1 : Int32)] [(.ref r), (.int (1 : Int32))])) rfl rfl (hH j38_24_2) tQ
 have kJ2 : own_G p e below E0 s₁ (mkF m 3 #[vr a, vr b, vr r, vi (1 : Int32)] [(.int (10 : Int32)), (.int (1 : Int32))]) := fun tQ kk => kJ0 tQ (stJ1 _ kk)
 clear kJ0 stJ1
 have kJ3 : own_G p e below E0 s₁ (mkF m 14 #[vr a, vr b, vr r, vi (1 : Int32)] [(.ref b), (.int (1 : Int32)), (.ref r)]) := by
  intro tQ kk
  refine kJ2 tQ ?_
  refine XS.icmpYes X0.here hx rfl (pc0 := 3) (pc' := 11) rfl (hH j38_24_3) rfl (own_ic_neY (by decide)) (by decide) (by decide) ?_
  refine XS.aloadN X0.here hx rfl (hH j38_24_11) rfl rfl ?_
  refine XS.iloadN X0.here hx rfl (hH j38_24_12) rfl ?_
  refine XS.aloadN X0.here hx rfl (hH j38_24_13) rfl rfl ?_
  exact kk
 clear kJ2
 obtain ⟨TJ4, hJ5, XJ6, eJ7, WJ8, FJ9, stJA⟩ := own_O.ast X0 hx hZ e0 A1 (j := (1 : Int32)) (by decide) rfl (Ins.of_exa E2 (tw229 hw)) (g := (mkF m 14 #[vr a, vr b, vr r, vi (1 : Int32)] [(.ref b), (.int (1 : Int32)), (.ref r)])) rfl rfl (hH j38_24_14)
 have NJB := Fr.snoc XJ6 N0 ge_r
 have kJC : own_G p e below E0 TJ4 (mkF m 15 #[vr a, vr b, vr r, vi (1 : Int32)] []) := fun tQ kk => kJ3 tQ (stJA _ kk)
 clear kJ3 stJA
 replace E1 := E1.wr WJ8
 replace F1 := F1.other WJ8 (Or.inl nd)
 replace F2 := F2.other WJ8 (Or.inl nd)
 replace E2 := E2.wr WJ8
 replace F3 := F3.other WJ8 (Or.inl nd)
 replace Z0 := own_wrle WJ8 Z0
 replace K0 := K0.wr WJ8 (Or.inl (List.mem_of_getElem? (i := 1) rfl))
 have FJD : own_O Z hJ5 r "java/lang/Object" [(.ref x0), (.ref b), .null, .null, .null, .null, .null, .null, .null, .null] := FJ9
 have kJE : own_G p e below E0 TJ4 (mkF m 19 #[vr a, vr b, vr r, vi (1 : Int32)] [(.int (2 : Int32)), (.ref a)]) := by
  intro tQ kk
  refine kJC tQ ?_
  refine XS.aloadN XJ6.here hx rfl (hH j38_24_15) rfl rfl ?_
  refine XS.iloadN XJ6.here hx rfl (hH j38_24_16) rfl ?_
  refine XS.iconst XJ6.here hx rfl (hH j38_24_17) ?_
  refine XS.iadd XJ6.here hx rfl (hH j38_24_18) rfl ?_
  exact kk
 clear kJC
 obtain ⟨TJF, hJG, XJH, eJI, WJJ, stJK⟩ := putF XJ6 hx hZ hown (host := "") (Or.inl (tw185 hw)) Via.refl eJ7 F2 E1 (Or.inl (tw186 hw)) (tw17 hw) (ty := .int) (by decide) rfl rfl (g := (mkF m 19 #[vr a, vr b, vr r, vi (1 : Int32)] [(.int (2 : Int32)), (.ref a)])) rfl rfl (hH j38_24_19)
 have NJL := Fr.snoc XJH NJB ge_a
 have kJM : own_G p e below E0 TJF (mkF m 22 #[vr a, vr b, vr r, vi (1 : Int32)] []) := fun tQ kk => kJE tQ (stJK _ kk)
 clear kJE stJK
 replace E1 := E1.wr WJJ
 replace F1 := F1.other WJJ (Or.inr (sn141 hw))
 replace F2 := F2.same WJJ
 replace E2 := E2.wr WJJ
 replace F3 := F3.other WJJ (Or.inr (sn142 hw))
 replace FJD := FJD.other WJJ (fun q => nd q.symm)
 replace Z0 := own_wrle WJJ Z0
 replace K0 := K0.wr WJJ (Or.inl (List.mem_of_getElem? (i := 0) rfl))
 obtain ⟨fs, hr, hrun, hended, hW, hsame⟩ := XJH.leave (v := none) (fun _ => rfl)
 have hrun0 := kJM _ (XJH.returnOut hx Bd.returns (hH j38_24_22) hr)
 subst hE0
 refine ⟨_, _, hrun0, hrun, hended, _, _, rfl, ?_, ⟨_, rfl⟩, hW, hsame.mono (by decide) (by decide)⟩
 show QrmA31 Z a b x0 r h0 n0 _ TJF.heap _
 rw [eJI]
 exact ⟨rfl, NJL, K0, F1, F2, F3, FJD⟩
def QrmAd1 (Z : State) (a : Addr) (b : Addr) (x0 : Addr) (r : Addr) (h0 : Heap) (n0 : Nat) (vQ : Option Value) (hQ : Heap) (LQ : List Loc) : Prop := vQ = some (.int (1 : Int32)) ∧ Fr n0 LQ ∧ Keep h0 hQ [a, r] ∧ (fd30 Z hQ a (.ref r)) ∧ (fd31 Z hQ a (.int (2 : Int32))) ∧ (fd29 Z hQ a (.int (2 : Int32))) ∧ (own_O Z hQ r "java/lang/Object" [(.ref x0), (.ref b), .null, .null, .null, .null, .null, .null, .null, .null])
theorem ef_rmAd1 (m : MethodId) (a : Addr) (b : Addr) (x0 : Addr) (r : Addr) : entryFrame m #[(.ref a), (.ref b)] 2 = mkF m 0 #[vr a, vr b] [] := by first | (simp [entryFrame, mkF, argsToLocals, Value.category]; done) | rfl
set_option maxRecDepth 65536 in
set_option maxHeartbeats 40000000 in
theorem rmAd1 (l : Launch) (Z : State) (a0 : Array Value) (hw : ∀ d ∈ tables_1, d.before a0 Z = true) (ws : List Jvm.Cond) (a : Addr) (b : Addr) (x0 : Addr) (r : Addr) (h0 : Heap) (n0 : Nat) (Z0 : n0 ≤ h0.size) (E1 : xa32 Z h0 a) (F1 : fd30 Z h0 a (.ref r)) (F2 : fd31 Z h0 a (.int (1 : Int32))) (A1 : own_O Z h0 r "java/lang/Object" [(.ref x0), .null, .null, .null, .null, .null, .null, .null, .null, .null]) (E2 : xa123 Z h0 b) (F3 : fd29 Z h0 a (.int (1 : Int32))) (nd : a ≠ r) (nb : a ≠ b) (nc : b ≠ r) (ge_a : n0 ≤ a) (ge_r : n0 ≤ r) :
  MetFree l mn143 (head1 (Jvm.Cond.code mn143 jdk_38_method_25_code 2 (some .boolean) :: ws) ({ frames := 1, cells := 0, slots := 0, locals := 18 } : Room)) (fun aA U => aA = #[(.ref a), (.ref b)] ∧ Z.Warmed39 U.vm ∧ U.heap = h0) (fun _ _ _ _ _ => True) (fun _ U o U' => ∃ vR LR, o = .returned vR ∧ QrmAd1 Z a b x0 r h0 n0 vR U'.heap LR ∧ FrameEnd U o U' LR ({ frames := 1, cells := 0, slots := 0, locals := 18 } : Room).cells ({ frames := 1, cells := 0, slots := 0, locals := 18 } : Room).slots) := by
 refine MetFree.of_bodySF (plainFor_of_name pn_java_util_ArrayList) hisR ?_
 intro p e s m args below meth c s₁ Bd hml0 hPre hKk
 obtain ⟨rfl, hZ, hh⟩ := hPre
 have hx := Bd.exec
 have hby := Bd.bytes
 have hH : ∀ {pc r}, decode jdk_38_method_25_code pc = r → decode c.code pc = r := fun q => hb hby q
 have hml : c.maxLocals = 2 := hml0
 have hown : s.vm.findClass "java/util/ArrayList" = some m.cls := findClass_of_methodNamed Bd.named
 have hnm := (name_of_methodNamed Bd.named Bd.method).1
 have X0 : Stand p l e ({ frames := 1, cells := 0, slots := 0, locals := 18 } : Room) s m #[(.ref a), (.ref b)] below meth c s₁ [] 0 0 := Stand.of_body Bd
 have e0 : s₁.heap = h0 := by rw [← hh, Bd.state]; rfl
 have N0 := Fr.nil n0
 obtain ⟨E0, hE0⟩ : ∃ zE : State, zE = s₁.setTop (entryFrame m #[(.ref a), (.ref b)] 2) := ⟨_, rfl⟩
 have k0 : own_G p e below E0 s₁ (mkF m 0 #[vr a, vr b] []) := fun tz kz => hE0 ▸ castTop (ef_rmAd1 m a b x0 r) kz
 have K0 : Keep h0 h0 [a, r] := Keep.refl _ _
 have kJ0 : own_G p e below E0 s₁ (mkF m 2 #[vr a, vr b] [(.ref a), (.ref a)]) := by
  intro tQ kk
  refine k0 tQ ?_
  refine XS.aloadN X0.here hx rfl (hH j38_25_0) rfl rfl ?_
  refine XS.dup X0.here hx rfl (hH j38_25_1) rfl rfl ?_
  exact kk
 clear k0
 obtain ⟨TJ1, XJ2, eJ3, stJ4⟩ := getF X0 hx hZ hown (host := "") (Or.inl (tw206 hw)) (Via.of (tw207 hw)) e0 F3 (g := (mkF m 2 #[vr a, vr b] [(.ref a), (.ref a)])) rfl rfl (hH j38_25_2)
 have kJ5 : own_G p e below E0 TJ1 (mkF m 5 #[vr a, vr b] [(.int (1 : Int32)), (.ref a)]) := fun tQ kk => kJ0 tQ (stJ4 _ kk)
 clear kJ0 stJ4
 have kJ6 : own_G p e below E0 TJ1 (mkF m 7 #[vr a, vr b] [(.int (2 : Int32)), (.ref a)]) := by
  intro tQ kk
  refine kJ5 tQ ?_
  refine XS.iconst XJ2.here hx rfl (hH j38_25_5) ?_
  refine XS.iadd XJ2.here hx rfl (hH j38_25_6) rfl ?_
  exact kk
 clear kJ5
 obtain ⟨TJ7, hJ8, XJ9, eJA, WJB, stJC⟩ := putF XJ2 hx hZ hown (host := "") (Or.inl (tw206 hw)) (Via.of (tw207 hw)) eJ3 F3 E1 (Or.inl (tw36 hw)) (tw17 hw) (ty := .int) (by decide) rfl rfl (g := (mkF m 7 #[vr a, vr b] [(.int (2 : Int32)), (.ref a)])) rfl rfl (hH j38_25_7)
 have NJD := Fr.snoc XJ9 N0 ge_a
 have kJE : own_G p e below E0 TJ7 (mkF m 10 #[vr a, vr b] []) := fun tQ kk => kJ6 tQ (stJC _ kk)
 clear kJ6 stJC
 replace E1 := E1.wr WJB
 replace F1 := F1.other WJB (Or.inr (sn34 hw))
 replace F2 := F2.other WJB (Or.inr (sn37 hw))
 replace A1 := A1.other WJB (fun q => nd q.symm)
 replace E2 := E2.wr WJB
 replace F3 := F3.same WJB
 replace Z0 := own_wrle WJB Z0
 replace K0 := K0.wr WJB (Or.inl (List.mem_of_getElem? (i := 0) rfl))
 have kJF : own_G p e below E0 TJ7 (mkF m 13 #[vr a, vr b] [(.ref a), (.ref b), (.ref a)]) := by
  intro tQ kk
  refine kJE tQ ?_
  refine XS.aloadN XJ9.here hx rfl (hH j38_25_10) rfl rfl ?_
  refine XS.aloadN XJ9.here hx rfl (hH j38_25_11) rfl rfl ?_
  refine XS.aloadN XJ9.here hx rfl (hH j38_25_12) rfl rfl ?_
  exact kk
 clear kJE
 obtain ⟨TJG, XJH, eJI, stJJ⟩ := getF XJ9 hx hZ hown (host := "") (Or.inl (tw38 hw)) Via.refl eJA F1 (g := (mkF m 13 #[vr a, vr b] [(.ref a), (.ref b), (.ref a)])) rfl rfl (hH j38_25_13)
 have kJK : own_G p e below E0 TJG (mkF m 16 #[vr a, vr b] [(.ref r), (.ref b), (.ref a)]) := fun tQ kk => kJF tQ (stJJ _ kk)
 clear kJF stJJ
 have kJL : own_G p e below E0 TJG (mkF m 17 #[vr a, vr b] [(.ref a), (.ref r), (.ref b), (.ref a)]) := by
  intro tQ kk
  refine kJK tQ ?_
  refine XS.aloadN XJH.here hx rfl (hH j38_25_16) rfl rfl ?_
  exact kk
 clear kJK
 obtain ⟨TJM, XJN, eJO, stJP⟩ := getF XJH hx hZ hown (host := "") (Or.inl (tw185 hw)) Via.refl eJI F2 (g := (mkF m 17 #[vr a, vr b] [(.ref a), (.ref r), (.ref b), (.ref a)])) rfl rfl (hH j38_25_17)
 have kJQ : own_G p e below E0 TJM (mkF m 20 #[vr a, vr b] [(.int (1 : Int32)), (.ref r), (.ref b), (.ref a)]) := fun tQ kk => kJL tQ (stJP _ kk)
 clear kJL stJP
 obtain ⟨cqK2, qaK3, qbK4⟩ := (Ins.self E1).cell
 obtain ⟨_, _, ⟨TJR, LJS, kcJT, ncJU⟩, -, XJV, ⟨LcJW, hQJX, lJY, yJZ, zK0⟩, stK1⟩ := XJN.privateBack hx (y := mn139) hown (mvT hZ (tw208 hw)) (mvT hZ (tw209 hw)) (mvT hZ (tw211 hw)) (Cond.privateMethod_at (mvP hZ (tw210 hw) (args := #[]))) (mvT hZ (tw212 hw)) (by decide) (backOf (W := 0) (rmA31 l Z a0 hw [] a b x0 r hJ8 n0 Z0 E1 F1 F2 A1 E2 F3 nd nb nc ge_a ge_r) hZ (tw212 hw) (tw18 hw) (by decide) (by decide)) (g := (mkF m 20 #[vr a, vr b] [(.int (1 : Int32)), (.ref r), (.ref b), (.ref a)])) rfl (by rw [hml]; rfl) (Steps.refl _) (a := a) (by rw [eJO]; exact qaK3) qbK4 (argsL := [(.ref b), (.ref r), (.int (1 : Int32))]) (rest := []) (lenOf pd_144 rfl) rfl (by show 2 * 0 + _ ≤ _; exact Nat.le_of_eq rfl) (hH j38_25_20) (fun _ _ => ⟨rfl, eJO, (by decide : 0 + 0 ≤ _), (by decide : 0 + 0 ≤ _)⟩)
 dsimp only [Pt.U, Pt.locs, Pt.cells, Pt.slots] at XJV lJY yJZ zK0 stK1 hQJX
 subst yJZ zK0
 obtain ⟨rfl, NK5, KK8, gK9, gKA, gKB, gKC⟩ := hQJX
 have NKD : Fr n0 LJS := by rw [lJY]; exact Fr.app NJD NK5
 clear lJY NK5
 replace Z0 := Nat.le_trans Z0 KK8.1
 replace E1 := E1.keep KK8
 clear F1
 clear F2
 clear A1
 replace E2 := E2.keep KK8
 clear F3
 replace K0 := K0.trans KK8 (allS (Or.inl (List.mem_of_getElem? (i := 0) rfl)) (allS (Or.inl (List.mem_of_getElem? (i := 1) rfl)) all0))
 have kKE : own_G p e below E0 TJR (mkF m 23 #[vr a, vr b] []) := fun tQ kk => kJQ tQ (stK1.trans kk)
 clear kJQ stK1
 have kKF : own_G p e below E0 TJR (mkF m 24 #[vr a, vr b] [(.int (1 : Int32))]) := by
  intro tQ kk
  refine kKE tQ ?_
  refine XS.iconst XJV.here hx rfl (hH j38_25_23) ?_
  exact kk
 clear kKE
 obtain ⟨fs, hr, hrun, hended, hW, hsame⟩ := XJV.leave (v := some (.int (1 : Int32))) (fun h => by rw [Bd.returns] at h; cases h)
 have hrun0 := kKF _ (retOut XJV hx Bd.returns (t := .boolean) rfl (Or.inl ⟨rfl, Or.inr (Or.inl rfl), _, rfl⟩) (hH j38_25_24) hr)
 subst hE0
 refine ⟨_, _, hrun0, hrun, hended, _, _, rfl, ?_, ⟨_, rfl⟩, hW, hsame.mono (by decide) (by decide)⟩
 show QrmAd1 Z a b x0 r h0 n0 _ TJR.heap _
 exact ⟨rfl, NKD, K0, gK9, gKA, gKB, gKC⟩
def QrmA32 (Z : State) (a : Addr) (b : Addr) (x0 : Addr) (x1 : Addr) (r : Addr) (h0 : Heap) (n0 : Nat) (vQ : Option Value) (hQ : Heap) (LQ : List Loc) : Prop := vQ = none ∧ Fr n0 LQ ∧ Keep h0 hQ [a, r] ∧ (fd30 Z hQ a (.ref r)) ∧ (fd31 Z hQ a (.int (3 : Int32))) ∧ (fd29 Z hQ a (.int (3 : Int32))) ∧ (own_O Z hQ r "java/lang/Object" [(.ref x0), (.ref x1), (.ref b), .null, .null, .null, .null, .null, .null, .null])
theorem ef_rmA32 (m : MethodId) (a : Addr) (b : Addr) (x0 : Addr) (x1 : Addr) (r : Addr) : entryFrame m #[(.ref a), (.ref b), (.ref r), (.int (2 : Int32))] 4 = mkF m 0 #[vr a, vr b, vr r, vi (2 : Int32)] [] := by first | (simp [entryFrame, mkF, argsToLocals, Value.category]; done) | rfl
set_option maxRecDepth 65536 in
set_option maxHeartbeats 40000000 in
theorem rmA32 (l : Launch) (Z : State) (a0 : Array Value) (hw : ∀ d ∈ tables_1, d.before a0 Z = true) (ws : List Jvm.Cond) (a : Addr) (b : Addr) (x0 : Addr) (x1 : Addr) (r : Addr) (h0 : Heap) (n0 : Nat) (Z0 : n0 ≤ h0.size) (E1 : xa32 Z h0 a) (F1 : fd30 Z h0 a (.ref r)) (F2 : fd31 Z h0 a (.int (2 : Int32))) (A1 : own_O Z h0 r "java/lang/Object" [(.ref x0), (.ref x1), .null, .null, .null, .null, .null, .null, .null, .null]) (E2 : xa123 Z h0 b) (F3 : fd29 Z h0 a (.int (3 : Int32))) (nd : a ≠ r) (nb : a ≠ b) (nc : b ≠ r) (ge_a : n0 ≤ a) (ge_r : n0 ≤ r) :
  MetFree l mn139 (head1 (Jvm.Cond.code mn139 jdk_38_method_24_code 4 none :: ws) ({ frames := 0, cells := 0, slots := 0, locals := 0 } : Room)) (fun aA U => aA = #[(.ref a), (.ref b), (.ref r), (.int (2 : Int32))] ∧ Z.Warmed39 U.vm ∧ U.heap = h0) (fun _ _ _ _ _ => True) (fun _ U o U' => ∃ vR LR, o = .returned vR ∧ QrmA32 Z a b x0 x1 r h0 n0 vR U'.heap LR ∧ FrameEnd U o U' LR ({ frames := 0, cells := 0, slots := 0, locals := 0 } : Room).cells ({ frames := 0, cells := 0, slots := 0, locals := 0 } : Room).slots) := by
 refine MetFree.of_bodySF (plainFor_of_name pn_java_util_ArrayList) hisR ?_
 intro p e s m args below meth c s₁ Bd hml0 hPre hKk
 obtain ⟨rfl, hZ, hh⟩ := hPre
 have hx := Bd.exec
 have hby := Bd.bytes
 have hH : ∀ {pc r}, decode jdk_38_method_24_code pc = r → decode c.code pc = r := fun q => hb hby q
 have hml : c.maxLocals = 4 := hml0
 have hown : s.vm.findClass "java/util/ArrayList" = some m.cls := findClass_of_methodNamed Bd.named
 have hnm := (name_of_methodNamed Bd.named Bd.method).1
 have X0 : Stand p l e ({ frames := 0, cells := 0, slots := 0, locals := 0 } : Room) s m #[(.ref a), (.ref b), (.ref r), (.int (2 : Int32))] below meth c s₁ [] 0 0 := Stand.of_body Bd
 have e0 : s₁.heap = h0 := by rw [← hh, Bd.state]; rfl
 have N0 := Fr.nil n0
 obtain ⟨E0, hE0⟩ : ∃ zE : State, zE = s₁.setTop (entryFrame m #[(.ref a), (.ref b), (.ref r), (.int (2 : Int32))] 4) := ⟨_, rfl⟩
 have k0 : own_G p e below E0 s₁ (mkF m 0 #[vr a, vr b, vr r, vi (2 : Int32)] []) := fun tz kz => hE0 ▸ castTop (ef_rmA32 m a b x0 x1 r) kz
 have K0 : Keep h0 h0 [a, r] := Keep.refl _ _
 have kJ0 : own_G p e below E0 s₁ (mkF m 2 #[vr a, vr b, vr r, vi (2 : Int32)] [(.ref r), (.int (2 : Int32))]) := by
  intro tQ kk
  refine k0 tQ ?_
  refine XS.iloadN X0.here hx rfl (hH j38_24_0) rfl ?_
  refine XS.aloadN X0.here hx rfl (hH j38_24_1) rfl rfl ?_
  exact kk
 clear k0
 have stJ1 := fun tQ => own_O.len X0 hx hZ e0 A1 (g := (mkF m 2 #[vr a, vr b, vr r, vi (2 : Int32)] [(.ref r), (.int (2 : Int32))])) rfl rfl (hH j38_24_2) tQ
 have kJ2 : own_G p e below E0 s₁ (mkF m 3 #[vr a, vr b, vr r, vi (2 : Int32)] [(.int (10 : Int32)), (.int (2 : Int32))]) := fun tQ kk => kJ0 tQ (stJ1 _ kk)
 clear kJ0 stJ1
 have kJ3 : own_G p e below E0 s₁ (mkF m 14 #[vr a, vr b, vr r, vi (2 : Int32)] [(.ref b), (.int (2 : Int32)), (.ref r)]) := by
  intro tQ kk
  refine kJ2 tQ ?_
  refine XS.icmpYes X0.here hx rfl (pc0 := 3) (pc' := 11) rfl (hH j38_24_3) rfl (own_ic_neY (by decide)) (by decide) (by decide) ?_
  refine XS.aloadN X0.here hx rfl (hH j38_24_11) rfl rfl ?_
  refine XS.iloadN X0.here hx rfl (hH j38_24_12) rfl ?_
  refine XS.aloadN X0.here hx rfl (hH j38_24_13) rfl rfl ?_
  exact kk
 clear kJ2
 obtain ⟨TJ4, hJ5, XJ6, eJ7, WJ8, FJ9, stJA⟩ := own_O.ast X0 hx hZ e0 A1 (j := (2 : Int32)) (by decide) rfl (Ins.of_exa E2 (tw229 hw)) (g := (mkF m 14 #[vr a, vr b, vr r, vi (2 : Int32)] [(.ref b), (.int (2 : Int32)), (.ref r)])) rfl rfl (hH j38_24_14)
 have NJB := Fr.snoc XJ6 N0 ge_r
 have kJC : own_G p e below E0 TJ4 (mkF m 15 #[vr a, vr b, vr r, vi (2 : Int32)] []) := fun tQ kk => kJ3 tQ (stJA _ kk)
 clear kJ3 stJA
 replace E1 := E1.wr WJ8
 replace F1 := F1.other WJ8 (Or.inl nd)
 replace F2 := F2.other WJ8 (Or.inl nd)
 replace E2 := E2.wr WJ8
 replace F3 := F3.other WJ8 (Or.inl nd)
 replace Z0 := own_wrle WJ8 Z0
 replace K0 := K0.wr WJ8 (Or.inl (List.mem_of_getElem? (i := 1) rfl))
 have FJD : own_O Z hJ5 r "java/lang/Object" [(.ref x0), (.ref x1), (.ref b), .null, .null, .null, .null, .null, .null, .null] := FJ9
 have kJE : own_G p e below E0 TJ4 (mkF m 19 #[vr a, vr b, vr r, vi (2 : Int32)] [(.int (3 : Int32)), (.ref a)]) := by
  intro tQ kk
  refine kJC tQ ?_
  refine XS.aloadN XJ6.here hx rfl (hH j38_24_15) rfl rfl ?_
  refine XS.iloadN XJ6.here hx rfl (hH j38_24_16) rfl ?_
  refine XS.iconst XJ6.here hx rfl (hH j38_24_17) ?_
  refine XS.iadd XJ6.here hx rfl (hH j38_24_18) rfl ?_
  exact kk
 clear kJC
 obtain ⟨TJF, hJG, XJH, eJI, WJJ, stJK⟩ := putF XJ6 hx hZ hown (host := "") (Or.inl (tw185 hw)) Via.refl eJ7 F2 E1 (Or.inl (tw186 hw)) (tw17 hw) (ty := .int) (by decide) rfl rfl (g := (mkF m 19 #[vr a, vr b, vr r, vi (2 : Int32)] [(.int (3 : Int32)), (.ref a)])) rfl rfl (hH j38_24_19)
 have NJL := Fr.snoc XJH NJB ge_a
 have kJM : own_G p e below E0 TJF (mkF m 22 #[vr a, vr b, vr r, vi (2 : Int32)] []) := fun tQ kk => kJE tQ (stJK _ kk)
 clear kJE stJK
 replace E1 := E1.wr WJJ
 replace F1 := F1.other WJJ (Or.inr (sn141 hw))
 replace F2 := F2.same WJJ
 replace E2 := E2.wr WJJ
 replace F3 := F3.other WJJ (Or.inr (sn142 hw))
 replace FJD := FJD.other WJJ (fun q => nd q.symm)
 replace Z0 := own_wrle WJJ Z0
 replace K0 := K0.wr WJJ (Or.inl (List.mem_of_getElem? (i := 0) rfl))
 obtain ⟨fs, hr, hrun, hended, hW, hsame⟩ := XJH.leave (v := none) (fun _ => rfl)
 have hrun0 := kJM _ (XJH.returnOut hx Bd.returns (hH j38_24_22) hr)
 subst hE0
 refine ⟨_, _, hrun0, hrun, hended, _, _, rfl, ?_, ⟨_, rfl⟩, hW, hsame.mono (by decide) (by decide)⟩
 show QrmA32 Z a b x0 x1 r h0 n0 _ TJF.heap _
 rw [eJI]
 exact ⟨rfl, NJL, K0, F1, F2, F3, FJD⟩
def QrmAd2 (Z : State) (a : Addr) (b : Addr) (x0 : Addr) (x1 : Addr) (r : Addr) (h0 : Heap) (n0 : Nat) (vQ : Option Value) (hQ : Heap) (LQ : List Loc) : Prop := vQ = some (.int (1 : Int32)) ∧ Fr n0 LQ ∧ Keep h0 hQ [a, r] ∧ (fd30 Z hQ a (.ref r)) ∧ (fd31 Z hQ a (.int (3 : Int32))) ∧ (fd29 Z hQ a (.int (3 : Int32))) ∧ (own_O Z hQ r "java/lang/Object" [(.ref x0), (.ref x1), (.ref b), .null, .null, .null, .null, .null, .null, .null])
theorem ef_rmAd2 (m : MethodId) (a : Addr) (b : Addr) (x0 : Addr) (x1 : Addr) (r : Addr) : entryFrame m #[(.ref a), (.ref b)] 2 = mkF m 0 #[vr a, vr b] [] := by first | (simp [entryFrame, mkF, argsToLocals, Value.category]; done) | rfl
set_option maxRecDepth 65536 in
set_option maxHeartbeats 40000000 in
theorem rmAd2 (l : Launch) (Z : State) (a0 : Array Value) (hw : ∀ d ∈ tables_1, d.before a0 Z = true) (ws : List Jvm.Cond) (a : Addr) (b : Addr) (x0 : Addr) (x1 : Addr) (r : Addr) (h0 : Heap) (n0 : Nat) (Z0 : n0 ≤ h0.size) (E1 : xa32 Z h0 a) (F1 : fd30 Z h0 a (.ref r)) (F2 : fd31 Z h0 a (.int (2 : Int32))) (A1 : own_O Z h0 r "java/lang/Object" [(.ref x0), (.ref x1), .null, .null, .null, .null, .null, .null, .null, .null]) (E2 : xa123 Z h0 b) (F3 : fd29 Z h0 a (.int (2 : Int32))) (nd : a ≠ r) (nb : a ≠ b) (nc : b ≠ r) (ge_a : n0 ≤ a) (ge_r : n0 ≤ r) :
  MetFree l mn143 (head1 (Jvm.Cond.code mn143 jdk_38_method_25_code 2 (some .boolean) :: ws) ({ frames := 1, cells := 0, slots := 0, locals := 18 } : Room)) (fun aA U => aA = #[(.ref a), (.ref b)] ∧ Z.Warmed39 U.vm ∧ U.heap = h0) (fun _ _ _ _ _ => True) (fun _ U o U' => ∃ vR LR, o = .returned vR ∧ QrmAd2 Z a b x0 x1 r h0 n0 vR U'.heap LR ∧ FrameEnd U o U' LR ({ frames := 1, cells := 0, slots := 0, locals := 18 } : Room).cells ({ frames := 1, cells := 0, slots := 0, locals := 18 } : Room).slots) := by
 refine MetFree.of_bodySF (plainFor_of_name pn_java_util_ArrayList) hisR ?_
 intro p e s m args below meth c s₁ Bd hml0 hPre hKk
 obtain ⟨rfl, hZ, hh⟩ := hPre
 have hx := Bd.exec
 have hby := Bd.bytes
 have hH : ∀ {pc r}, decode jdk_38_method_25_code pc = r → decode c.code pc = r := fun q => hb hby q
 have hml : c.maxLocals = 2 := hml0
 have hown : s.vm.findClass "java/util/ArrayList" = some m.cls := findClass_of_methodNamed Bd.named
 have hnm := (name_of_methodNamed Bd.named Bd.method).1
 have X0 : Stand p l e ({ frames := 1, cells := 0, slots := 0, locals := 18 } : Room) s m #[(.ref a), (.ref b)] below meth c s₁ [] 0 0 := Stand.of_body Bd
 have e0 : s₁.heap = h0 := by rw [← hh, Bd.state]; rfl
 have N0 := Fr.nil n0
 obtain ⟨E0, hE0⟩ : ∃ zE : State, zE = s₁.setTop (entryFrame m #[(.ref a), (.ref b)] 2) := ⟨_, rfl⟩
 have k0 : own_G p e below E0 s₁ (mkF m 0 #[vr a, vr b] []) := fun tz kz => hE0 ▸ castTop (ef_rmAd2 m a b x0 x1 r) kz
 have K0 : Keep h0 h0 [a, r] := Keep.refl _ _
 have kJ0 : own_G p e below E0 s₁ (mkF m 2 #[vr a, vr b] [(.ref a), (.ref a)]) := by
  intro tQ kk
  refine k0 tQ ?_
  refine XS.aloadN X0.here hx rfl (hH j38_25_0) rfl rfl ?_
  refine XS.dup X0.here hx rfl (hH j38_25_1) rfl rfl ?_
  exact kk
 clear k0
 obtain ⟨TJ1, XJ2, eJ3, stJ4⟩ := getF X0 hx hZ hown (host := "") (Or.inl (tw206 hw)) (Via.of (tw207 hw)) e0 F3 (g := (mkF m 2 #[vr a, vr b] [(.ref a), (.ref a)])) rfl rfl (hH j38_25_2)
 have kJ5 : own_G p e below E0 TJ1 (mkF m 5 #[vr a, vr b] [(.int (2 : Int32)), (.ref a)]) := fun tQ kk => kJ0 tQ (stJ4 _ kk)
 clear kJ0 stJ4
 have kJ6 : own_G p e below E0 TJ1 (mkF m 7 #[vr a, vr b] [(.int (3 : Int32)), (.ref a)]) := by
  intro tQ kk
  refine kJ5 tQ ?_
  refine XS.iconst XJ2.here hx rfl (hH j38_25_5) ?_
  refine XS.iadd XJ2.here hx rfl (hH j38_25_6) rfl ?_
  exact kk
 clear kJ5
 obtain ⟨TJ7, hJ8, XJ9, eJA, WJB, stJC⟩ := putF XJ2 hx hZ hown (host := "") (Or.inl (tw206 hw)) (Via.of (tw207 hw)) eJ3 F3 E1 (Or.inl (tw36 hw)) (tw17 hw) (ty := .int) (by decide) rfl rfl (g := (mkF m 7 #[vr a, vr b] [(.int (3 : Int32)), (.ref a)])) rfl rfl (hH j38_25_7)
 have NJD := Fr.snoc XJ9 N0 ge_a
 have kJE : own_G p e below E0 TJ7 (mkF m 10 #[vr a, vr b] []) := fun tQ kk => kJ6 tQ (stJC _ kk)
 clear kJ6 stJC
 replace E1 := E1.wr WJB
 replace F1 := F1.other WJB (Or.inr (sn34 hw))
 replace F2 := F2.other WJB (Or.inr (sn37 hw))
 replace A1 := A1.other WJB (fun q => nd q.symm)
 replace E2 := E2.wr WJB
 replace F3 := F3.same WJB
 replace Z0 := own_wrle WJB Z0
 replace K0 := K0.wr WJB (Or.inl (List.mem_of_getElem? (i := 0) rfl))
 have kJF : own_G p e below E0 TJ7 (mkF m 13 #[vr a, vr b] [(.ref a), (.ref b), (.ref a)]) := by
  intro tQ kk
  refine kJE tQ ?_
  refine XS.aloadN XJ9.here hx rfl (hH j38_25_10) rfl rfl ?_
  refine XS.aloadN XJ9.here hx rfl (hH j38_25_11) rfl rfl ?_
  refine XS.aloadN XJ9.here hx rfl (hH j38_25_12) rfl rfl ?_
  exact kk
 clear kJE
 obtain ⟨TJG, XJH, eJI, stJJ⟩ := getF XJ9 hx hZ hown (host := "") (Or.inl (tw38 hw)) Via.refl eJA F1 (g := (mkF m 13 #[vr a, vr b] [(.ref a), (.ref b), (.ref a)])) rfl rfl (hH j38_25_13)
 have kJK : own_G p e below E0 TJG (mkF m 16 #[vr a, vr b] [(.ref r), (.ref b), (.ref a)]) := fun tQ kk => kJF tQ (stJJ _ kk)
 clear kJF stJJ
 have kJL : own_G p e below E0 TJG (mkF m 17 #[vr a, vr b] [(.ref a), (.ref r), (.ref b), (.ref a)]) := by
  intro tQ kk
  refine kJK tQ ?_
  refine XS.aloadN XJH.here hx rfl (hH j38_25_16) rfl rfl ?_
  exact kk
 clear kJK
 obtain ⟨TJM, XJN, eJO, stJP⟩ := getF XJH hx hZ hown (host := "") (Or.inl (tw185 hw)) Via.refl eJI F2 (g := (mkF m 17 #[vr a, vr b] [(.ref a), (.ref r), (.ref b), (.ref a)])) rfl rfl (hH j38_25_17)
 have kJQ : own_G p e below E0 TJM (mkF m 20 #[vr a, vr b] [(.int (2 : Int32)), (.ref r), (.ref b), (.ref a)]) := fun tQ kk => kJL tQ (stJP _ kk)
 clear kJL stJP
 obtain ⟨cqK2, qaK3, qbK4⟩ := (Ins.self E1).cell
 obtain ⟨_, _, ⟨TJR, LJS, kcJT, ncJU⟩, -, XJV, ⟨LcJW, hQJX, lJY, yJZ, zK0⟩, stK1⟩ := XJN.privateBack hx (y := mn139) hown (mvT hZ (tw208 hw)) (mvT hZ (tw209 hw)) (mvT hZ (tw211 hw)) (Cond.privateMethod_at (mvP hZ (tw210 hw) (args := #[]))) (mvT hZ (tw212 hw)) (by decide) (backOf (W := 0) (rmA32 l Z a0 hw [] a b x0 x1 r hJ8 n0 Z0 E1 F1 F2 A1 E2 F3 nd nb nc ge_a ge_r) hZ (tw212 hw) (tw18 hw) (by decide) (by decide)) (g := (mkF m 20 #[vr a, vr b] [(.int (2 : Int32)), (.ref r), (.ref b), (.ref a)])) rfl (by rw [hml]; rfl) (Steps.refl _) (a := a) (by rw [eJO]; exact qaK3) qbK4 (argsL := [(.ref b), (.ref r), (.int (2 : Int32))]) (rest := []) (lenOf pd_144 rfl) rfl (by show 2 * 0 + _ ≤ _; exact Nat.le_of_eq rfl) (hH j38_25_20) (fun _ _ => ⟨rfl, eJO, (by decide : 0 + 0 ≤ _), (by decide : 0 + 0 ≤ _)⟩)
 dsimp only [Pt.U, Pt.locs, Pt.cells, Pt.slots] at XJV lJY yJZ zK0 stK1 hQJX
 subst yJZ zK0
 obtain ⟨rfl, NK5, KK8, gK9, gKA, gKB, gKC⟩ := hQJX
 have NKD : Fr n0 LJS := by rw [lJY]; exact Fr.app NJD NK5
 clear lJY NK5
 replace Z0 := Nat.le_trans Z0 KK8.1
 replace E1 := E1.keep KK8
 clear F1
 clear F2
 clear A1
 replace E2 := E2.keep KK8
 clear F3
 replace K0 := K0.trans KK8 (allS (Or.inl (List.mem_of_getElem? (i := 0) rfl)) (allS (Or.inl (List.mem_of_getElem? (i := 1) rfl)) all0))
 have kKE : own_G p e below E0 TJR (mkF m 23 #[vr a, vr b] []) := fun tQ kk => kJQ tQ (stK1.trans kk)
 clear kJQ stK1
 have kKF : own_G p e below E0 TJR (mkF m 24 #[vr a, vr b] [(.int (1 : Int32))]) := by
  intro tQ kk
  refine kKE tQ ?_
  refine XS.iconst XJV.here hx rfl (hH j38_25_23) ?_
  exact kk
 clear kKE
 obtain ⟨fs, hr, hrun, hended, hW, hsame⟩ := XJV.leave (v := some (.int (1 : Int32))) (fun h => by rw [Bd.returns] at h; cases h)
 have hrun0 := kKF _ (retOut XJV hx Bd.returns (t := .boolean) rfl (Or.inl ⟨rfl, Or.inr (Or.inl rfl), _, rfl⟩) (hH j38_25_24) hr)
 subst hE0
 refine ⟨_, _, hrun0, hrun, hended, _, _, rfl, ?_, ⟨_, rfl⟩, hW, hsame.mono (by decide) (by decide)⟩
 show QrmAd2 Z a b x0 x1 r h0 n0 _ TJR.heap _
 exact ⟨rfl, NKD, K0, gK9, gKA, gKB, gKC⟩
def QrmSz0 (Z : State) (a : Addr) (h0 : Heap) (n0 : Nat) (vQ : Option Value) (hQ : Heap) (LQ : List Loc) : Prop := vQ = some (.int (0 : Int32)) ∧ Fr n0 LQ ∧ hQ = h0
theorem ef_rmSz0 (m : MethodId) (a : Addr) : entryFrame m #[(.ref a)] 1 = mkF m 0 #[vr a] [] := by first | (simp [entryFrame, mkF, argsToLocals, Value.category]; done) | rfl
abbrev mn145 : MethodName := ⟨"java/util/ArrayList", "size", "()I"⟩
theorem j38_8_0 : decode jdk_38_method_8_code 0 = .ok (.aload_n 0, 1) := by decide +kernel
theorem j38_8_1 : decode jdk_38_method_8_code 1 = .ok (.getfield 48, 3) := by decide +kernel
theorem j38_8_4 : decode jdk_38_method_8_code 4 = .ok (.ireturn, 1) := by decide +kernel
set_option maxRecDepth 65536 in
set_option maxHeartbeats 40000000 in
theorem rmSz0 (l : Launch) (Z : State) (a0 : Array Value) (hw : ∀ d ∈ tables_1, d.before a0 Z = true) (ws : List Jvm.Cond) (a : Addr) (h0 : Heap) (n0 : Nat) (Z0 : n0 ≤ h0.size) (F1 : fd31 Z h0 a (.int (0 : Int32))) :
  MetFree l mn145 (head1 (Jvm.Cond.code mn145 jdk_38_method_8_code 1 (some .int) :: ws) ({ frames := 0, cells := 0, slots := 0, locals := 0 } : Room)) (fun aA U => aA = #[(.ref a)] ∧ Z.Warmed39 U.vm ∧ U.heap = h0) (fun _ _ _ _ _ => True) (fun _ U o U' => ∃ vR LR, o = .returned vR ∧ QrmSz0 Z a h0 n0 vR U'.heap LR ∧ FrameEnd U o U' LR ({ frames := 0, cells := 0, slots := 0, locals := 0 } : Room).cells ({ frames := 0, cells := 0, slots := 0, locals := 0 } : Room).slots) := by
 refine MetFree.of_bodySF (plainFor_of_name pn_java_util_ArrayList) hisR ?_
 intro p e s m args below meth c s₁ Bd hml0 hPre hKk
 obtain ⟨rfl, hZ, hh⟩ := hPre
 have hx := Bd.exec
 have hby := Bd.bytes
 have hH : ∀ {pc r}, decode jdk_38_method_8_code pc = r → decode c.code pc = r := fun q => hb hby q
 have hml : c.maxLocals = 1 := hml0
 have hown : s.vm.findClass "java/util/ArrayList" = some m.cls := findClass_of_methodNamed Bd.named
 have hnm := (name_of_methodNamed Bd.named Bd.method).1
 have X0 : Stand p l e ({ frames := 0, cells := 0, slots := 0, locals := 0 } : Room) s m #[(.ref a)] below meth c s₁ [] 0 0 := Stand.of_body Bd
 have e0 : s₁.heap = h0 := by rw [← hh, Bd.state]; rfl
 have N0 := Fr.nil n0
 obtain ⟨E0, hE0⟩ : ∃ zE : State, zE = s₁.setTop (entryFrame m #[(.ref a)] 1) := ⟨_, rfl⟩
 have k0 : own_G p e below E0 s₁ (mkF m 0 #[vr a] []) := fun tz kz => hE0 ▸ castTop (ef_rmSz0 m a) kz
 have kJ0 : own_G p e below E0 s₁ (mkF m 1 #[vr a] [(.ref a)]) := by
  intro tQ kk
  refine k0 tQ ?_
  refine XS.aloadN X0.here hx rfl (hH j38_8_0) rfl rfl ?_
  exact kk
 clear k0
 obtain ⟨TJ1, XJ2, eJ3, stJ4⟩ := getF X0 hx hZ hown (host := "") (Or.inl (tw185 hw)) Via.refl e0 F1 (g := (mkF m 1 #[vr a] [(.ref a)])) rfl rfl (hH j38_8_1)
 have kJ5 : own_G p e below E0 TJ1 (mkF m 4 #[vr a] [(.int (0 : Int32))]) := fun tQ kk => kJ0 tQ (stJ4 _ kk)
 clear kJ0 stJ4
 obtain ⟨fs, hr, hrun, hended, hW, hsame⟩ := XJ2.leave (v := some (.int (0 : Int32))) (fun h => by rw [Bd.returns] at h; cases h)
 have hrun0 := kJ5 _ (retOut XJ2 hx Bd.returns (t := .int) rfl (Or.inl ⟨rfl, Or.inl rfl, _, rfl⟩) (hH j38_8_4) hr)
 subst hE0
 refine ⟨_, _, hrun0, hrun, hended, _, _, rfl, ?_, ⟨_, rfl⟩, hW, hsame.mono (by decide) (by decide)⟩
 show QrmSz0 Z a h0 n0 _ TJ1.heap _
 rw [eJ3]
 exact ⟨rfl, N0, rfl⟩
def QrmSz1 (Z : State) (a : Addr) (h0 : Heap) (n0 : Nat) (vQ : Option Value) (hQ : Heap) (LQ : List Loc) : Prop := vQ = some (.int (1 : Int32)) ∧ Fr n0 LQ ∧ hQ = h0
theorem ef_rmSz1 (m : MethodId) (a : Addr) : entryFrame m #[(.ref a)] 1 = mkF m 0 #[vr a] [] := by first | (simp [entryFrame, mkF, argsToLocals, Value.category]; done) | rfl
set_option maxRecDepth 65536 in
set_option maxHeartbeats 40000000 in
theorem rmSz1 (l : Launch) (Z : State) (a0 : Array Value) (hw : ∀ d ∈ tables_1, d.before a0 Z = true) (ws : List Jvm.Cond) (a : Addr) (h0 : Heap) (n0 : Nat) (Z0 : n0 ≤ h0.size) (F1 : fd31 Z h0 a (.int (1 : Int32))) :
  MetFree l mn145 (head1 (Jvm.Cond.code mn145 jdk_38_method_8_code 1 (some .int) :: ws) ({ frames := 0, cells := 0, slots := 0, locals := 0 } : Room)) (fun aA U => aA = #[(.ref a)] ∧ Z.Warmed39 U.vm ∧ U.heap = h0) (fun _ _ _ _ _ => True) (fun _ U o U' => ∃ vR LR, o = .returned vR ∧ QrmSz1 Z a h0 n0 vR U'.heap LR ∧ FrameEnd U o U' LR ({ frames := 0, cells := 0, slots := 0, locals := 0 } : Room).cells ({ frames := 0, cells := 0, slots := 0, locals := 0 } : Room).slots) := by
 refine MetFree.of_bodySF (plainFor_of_name pn_java_util_ArrayList) hisR ?_
 intro p e s m args below meth c s₁ Bd hml0 hPre hKk
 obtain ⟨rfl, hZ, hh⟩ := hPre
 have hx := Bd.exec
 have hby := Bd.bytes
 have hH : ∀ {pc r}, decode jdk_38_method_8_code pc = r → decode c.code pc = r := fun q => hb hby q
 have hml : c.maxLocals = 1 := hml0
 have hown : s.vm.findClass "java/util/ArrayList" = some m.cls := findClass_of_methodNamed Bd.named
 have hnm := (name_of_methodNamed Bd.named Bd.method).1
 have X0 : Stand p l e ({ frames := 0, cells := 0, slots := 0, locals := 0 } : Room) s m #[(.ref a)] below meth c s₁ [] 0 0 := Stand.of_body Bd
 have e0 : s₁.heap = h0 := by rw [← hh, Bd.state]; rfl
 have N0 := Fr.nil n0
 obtain ⟨E0, hE0⟩ : ∃ zE : State, zE = s₁.setTop (entryFrame m #[(.ref a)] 1) := ⟨_, rfl⟩
 have k0 : own_G p e below E0 s₁ (mkF m 0 #[vr a] []) := fun tz kz => hE0 ▸ castTop (ef_rmSz1 m a) kz
 have kJ0 : own_G p e below E0 s₁ (mkF m 1 #[vr a] [(.ref a)]) := by
  intro tQ kk
  refine k0 tQ ?_
  refine XS.aloadN X0.here hx rfl (hH j38_8_0) rfl rfl ?_
  exact kk
 clear k0
 obtain ⟨TJ1, XJ2, eJ3, stJ4⟩ := getF X0 hx hZ hown (host := "") (Or.inl (tw185 hw)) Via.refl e0 F1 (g := (mkF m 1 #[vr a] [(.ref a)])) rfl rfl (hH j38_8_1)
 have kJ5 : own_G p e below E0 TJ1 (mkF m 4 #[vr a] [(.int (1 : Int32))]) := fun tQ kk => kJ0 tQ (stJ4 _ kk)
 clear kJ0 stJ4
 obtain ⟨fs, hr, hrun, hended, hW, hsame⟩ := XJ2.leave (v := some (.int (1 : Int32))) (fun h => by rw [Bd.returns] at h; cases h)
 have hrun0 := kJ5 _ (retOut XJ2 hx Bd.returns (t := .int) rfl (Or.inl ⟨rfl, Or.inl rfl, _, rfl⟩) (hH j38_8_4) hr)
 subst hE0
 refine ⟨_, _, hrun0, hrun, hended, _, _, rfl, ?_, ⟨_, rfl⟩, hW, hsame.mono (by decide) (by decide)⟩
 show QrmSz1 Z a h0 n0 _ TJ1.heap _
 rw [eJ3]
 exact ⟨rfl, N0, rfl⟩
def QrmSz2 (Z : State) (a : Addr) (h0 : Heap) (n0 : Nat) (vQ : Option Value) (hQ : Heap) (LQ : List Loc) : Prop := vQ = some (.int (2 : Int32)) ∧ Fr n0 LQ ∧ hQ = h0
theorem ef_rmSz2 (m : MethodId) (a : Addr) : entryFrame m #[(.ref a)] 1 = mkF m 0 #[vr a] [] := by first | (simp [entryFrame, mkF, argsToLocals, Value.category]; done) | rfl
set_option maxRecDepth 65536 in
set_option maxHeartbeats 40000000 in
theorem rmSz2 (l : Launch) (Z : State) (a0 : Array Value) (hw : ∀ d ∈ tables_1, d.before a0 Z = true) (ws : List Jvm.Cond) (a : Addr) (h0 : Heap) (n0 : Nat) (Z0 : n0 ≤ h0.size) (F1 : fd31 Z h0 a (.int (2 : Int32))) :
  MetFree l mn145 (head1 (Jvm.Cond.code mn145 jdk_38_method_8_code 1 (some .int) :: ws) ({ frames := 0, cells := 0, slots := 0, locals := 0 } : Room)) (fun aA U => aA = #[(.ref a)] ∧ Z.Warmed39 U.vm ∧ U.heap = h0) (fun _ _ _ _ _ => True) (fun _ U o U' => ∃ vR LR, o = .returned vR ∧ QrmSz2 Z a h0 n0 vR U'.heap LR ∧ FrameEnd U o U' LR ({ frames := 0, cells := 0, slots := 0, locals := 0 } : Room).cells ({ frames := 0, cells := 0, slots := 0, locals := 0 } : Room).slots) := by
 refine MetFree.of_bodySF (plainFor_of_name pn_java_util_ArrayList) hisR ?_
 intro p e s m args below meth c s₁ Bd hml0 hPre hKk
 obtain ⟨rfl, hZ, hh⟩ := hPre
 have hx := Bd.exec
 have hby := Bd.bytes
 have hH : ∀ {pc r}, decode jdk_38_method_8_code pc = r → decode c.code pc = r := fun q => hb hby q
 have hml : c.maxLocals = 1 := hml0
 have hown : s.vm.findClass "java/util/ArrayList" = some m.cls := findClass_of_methodNamed Bd.named
 have hnm := (name_of_methodNamed Bd.named Bd.method).1
 have X0 : Stand p l e ({ frames := 0, cells := 0, slots := 0, locals := 0 } : Room) s m #[(.ref a)] below meth c s₁ [] 0 0 := Stand.of_body Bd
 have e0 : s₁.heap = h0 := by rw [← hh, Bd.state]; rfl
 have N0 := Fr.nil n0
 obtain ⟨E0, hE0⟩ : ∃ zE : State, zE = s₁.setTop (entryFrame m #[(.ref a)] 1) := ⟨_, rfl⟩
 have k0 : own_G p e below E0 s₁ (mkF m 0 #[vr a] []) := fun tz kz => hE0 ▸ castTop (ef_rmSz2 m a) kz
 have kJ0 : own_G p e below E0 s₁ (mkF m 1 #[vr a] [(.ref a)]) := by
  intro tQ kk
  refine k0 tQ ?_
  refine XS.aloadN X0.here hx rfl (hH j38_8_0) rfl rfl ?_
  exact kk
 clear k0
 obtain ⟨TJ1, XJ2, eJ3, stJ4⟩ := getF X0 hx hZ hown (host := "") (Or.inl (tw185 hw)) Via.refl e0 F1 (g := (mkF m 1 #[vr a] [(.ref a)])) rfl rfl (hH j38_8_1)
 have kJ5 : own_G p e below E0 TJ1 (mkF m 4 #[vr a] [(.int (2 : Int32))]) := fun tQ kk => kJ0 tQ (stJ4 _ kk)
 clear kJ0 stJ4
 obtain ⟨fs, hr, hrun, hended, hW, hsame⟩ := XJ2.leave (v := some (.int (2 : Int32))) (fun h => by rw [Bd.returns] at h; cases h)
 have hrun0 := kJ5 _ (retOut XJ2 hx Bd.returns (t := .int) rfl (Or.inl ⟨rfl, Or.inl rfl, _, rfl⟩) (hH j38_8_4) hr)
 subst hE0
 refine ⟨_, _, hrun0, hrun, hended, _, _, rfl, ?_, ⟨_, rfl⟩, hW, hsame.mono (by decide) (by decide)⟩
 show QrmSz2 Z a h0 n0 _ TJ1.heap _
 rw [eJ3]
 exact ⟨rfl, N0, rfl⟩
def QrmPc (Z : State) (j : Int32) (k : Int32) (h0 : Heap) (n0 : Nat) (vQ : Option Value) (hQ : Heap) (LQ : List Loc) : Prop := vQ = some (.int j) ∧ Fr n0 LQ ∧ hQ = h0
theorem ef_rmPc (m : MethodId) (j : Int32) (k : Int32) : entryFrame m #[(.int j), (.int k), .null] 3 = mkF m 0 #[vi j, vi k, .val .null] [] := by first | (simp [entryFrame, mkF, argsToLocals, Value.category]; done) | rfl
abbrev mn146 : MethodName := ⟨"jdk/internal/util/Preconditions", "checkIndex", "(IILjava/util/function/BiFunction;)I"⟩
theorem pn_jdk_internal_util_Preconditions : plainName "jdk/internal/util/Preconditions" = true := by first | (simp [plainName, overriddenIn]; done) | decide +kernel
theorem j41_11_0 : decode jdk_41_method_11_code 0 = .ok (.iload_n 0, 1) := by decide +kernel
theorem j41_11_1 : decode jdk_41_method_11_code 1 = .ok (.ifCond .lt 8, 3) := by decide +kernel
theorem j41_11_4 : decode jdk_41_method_11_code 4 = .ok (.iload_n 0, 1) := by decide +kernel
theorem j41_11_5 : decode jdk_41_method_11_code 5 = .ok (.iload_n 1, 1) := by decide +kernel
theorem j41_11_6 : decode jdk_41_method_11_code 6 = .ok (.if_icmp .lt 10, 3) := by decide +kernel
theorem j41_11_16 : decode jdk_41_method_11_code 16 = .ok (.iload_n 0, 1) := by decide +kernel
theorem j41_11_17 : decode jdk_41_method_11_code 17 = .ok (.ireturn, 1) := by decide +kernel
set_option maxRecDepth 65536 in
set_option maxHeartbeats 40000000 in
theorem rmPc (l : Launch) (Z : State) (a0 : Array Value) (hw : ∀ d ∈ tables_1, d.before a0 Z = true) (ws : List Jvm.Cond) (j : Int32) (k : Int32) (h0 : Heap) (n0 : Nat) (Z0 : n0 ≤ h0.size) (hj0 : ¬ j < 0) (h1 : j < k) :
  MetFree l mn146 (head1 (Jvm.Cond.code mn146 jdk_41_method_11_code 3 (some .int) :: ws) ({ frames := 0, cells := 0, slots := 0, locals := 0 } : Room)) (fun aA U => aA = #[(.int j), (.int k), .null] ∧ Z.Warmed39 U.vm ∧ U.heap = h0) (fun _ _ _ _ _ => True) (fun _ U o U' => ∃ vR LR, o = .returned vR ∧ QrmPc Z j k h0 n0 vR U'.heap LR ∧ FrameEnd U o U' LR ({ frames := 0, cells := 0, slots := 0, locals := 0 } : Room).cells ({ frames := 0, cells := 0, slots := 0, locals := 0 } : Room).slots) := by
 refine MetFree.of_bodySF (plainFor_of_name pn_jdk_internal_util_Preconditions) hisR ?_
 intro p e s m args below meth c s₁ Bd hml0 hPre hKk
 obtain ⟨rfl, hZ, hh⟩ := hPre
 have hx := Bd.exec
 have hby := Bd.bytes
 have hH : ∀ {pc r}, decode jdk_41_method_11_code pc = r → decode c.code pc = r := fun q => hb hby q
 have hml : c.maxLocals = 3 := hml0
 have hown : s.vm.findClass "jdk/internal/util/Preconditions" = some m.cls := findClass_of_methodNamed Bd.named
 have hnm := (name_of_methodNamed Bd.named Bd.method).1
 have X0 : Stand p l e ({ frames := 0, cells := 0, slots := 0, locals := 0 } : Room) s m #[(.int j), (.int k), .null] below meth c s₁ [] 0 0 := Stand.of_body Bd
 have e0 : s₁.heap = h0 := by rw [← hh, Bd.state]; rfl
 have N0 := Fr.nil n0
 obtain ⟨E0, hE0⟩ : ∃ zE : State, zE = s₁.setTop (entryFrame m #[(.int j), (.int k), .null] 3) := ⟨_, rfl⟩
 have k0 : own_G p e below E0 s₁ (mkF m 0 #[vi j, vi k, .val .null] []) := fun tz kz => hE0 ▸ castTop (ef_rmPc m j k) kz
 have kJ0 : own_G p e below E0 s₁ (mkF m 17 #[vi j, vi k, .val .null] [(.int j)]) := by
  intro tQ kk
  refine k0 tQ ?_
  refine XS.iloadN X0.here hx rfl (hH j41_11_0) rfl ?_
  refine XS.ifNo X0.here hx rfl (hH j41_11_1) rfl (own_if_ltN hj0) ?_
  refine XS.iloadN X0.here hx rfl (hH j41_11_4) rfl ?_
  refine XS.iloadN X0.here hx rfl (hH j41_11_5) rfl ?_
  refine XS.icmpYes X0.here hx rfl (pc0 := 6) (pc' := 16) rfl (hH j41_11_6) rfl (own_ic_ltY h1) (by decide) (by decide) ?_
  refine XS.iloadN X0.here hx rfl (hH j41_11_16) rfl ?_
  exact kk
 clear k0
 obtain ⟨fs, hr, hrun, hended, hW, hsame⟩ := X0.leave (v := some (.int j)) (fun h => by rw [Bd.returns] at h; cases h)
 have hrun0 := kJ0 _ (retOut X0 hx Bd.returns (t := .int) rfl (Or.inl ⟨rfl, Or.inl rfl, _, rfl⟩) (hH j41_11_17) hr)
 subst hE0
 refine ⟨_, _, hrun0, hrun, hended, _, _, rfl, ?_, ⟨_, rfl⟩, hW, hsame.mono (by decide) (by decide)⟩
 show QrmPc Z j k h0 n0 _ s₁.heap _
 rw [e0]
 exact ⟨rfl, N0, rfl⟩
def QrmOc (Z : State) (j : Int32) (k : Int32) (h0 : Heap) (n0 : Nat) (vQ : Option Value) (hQ : Heap) (LQ : List Loc) : Prop := vQ = some (.int j) ∧ Fr n0 LQ ∧ hQ = h0
theorem ef_rmOc (m : MethodId) (j : Int32) (k : Int32) : entryFrame m #[(.int j), (.int k)] 2 = mkF m 0 #[vi j, vi k] [] := by first | (simp [entryFrame, mkF, argsToLocals, Value.category]; done) | rfl
abbrev mn147 : MethodName := ⟨"java/util/Objects", "checkIndex", "(II)I"⟩
theorem pn_java_util_Objects : plainName "java/util/Objects" = true := by first | (simp [plainName, overriddenIn]; done) | decide +kernel
theorem j31_17_0 : decode jdk_31_method_17_code 0 = .ok (.iload_n 0, 1) := by decide +kernel
theorem j31_17_1 : decode jdk_31_method_17_code 1 = .ok (.iload_n 1, 1) := by decide +kernel
theorem j31_17_2 : decode jdk_31_method_17_code 2 = .ok (.aconst_null, 1) := by decide +kernel
theorem j31_17_3 : decode jdk_31_method_17_code 3 = .ok (.invokestatic 105, 3) := by decide +kernel
def tw268 {Z a0} (hw : HW Z a0) := hw _ (List.mem_of_getElem? (i := 268) rfl)
def tw271 {Z a0} (hw : HW Z a0) := hw _ (List.mem_of_getElem? (i := 271) rfl)
def tw270 {Z a0} (hw : HW Z a0) := hw _ (List.mem_of_getElem? (i := 270) rfl)
theorem pd_148 : parseMethodDescriptor "(IILjava/util/function/BiFunction;)I" = some ⟨[.int, .int, (.object "java/util/function/BiFunction")], some .int⟩ := by decide +kernel
def tw269 {Z a0} (hw : HW Z a0) := hw _ (List.mem_of_getElem? (i := 269) rfl)
theorem j31_17_6 : decode jdk_31_method_17_code 6 = .ok (.ireturn, 1) := by decide +kernel
set_option maxRecDepth 65536 in
set_option maxHeartbeats 40000000 in
theorem rmOc (l : Launch) (Z : State) (a0 : Array Value) (hw : ∀ d ∈ tables_1, d.before a0 Z = true) (ws : List Jvm.Cond) (j : Int32) (k : Int32) (h0 : Heap) (n0 : Nat) (Z0 : n0 ≤ h0.size) (hj0 : ¬ j < 0) (h1 : j < k) :
  MetFree l mn147 (head1 (Jvm.Cond.code mn147 jdk_31_method_17_code 2 (some .int) :: ws) ({ frames := 1, cells := 0, slots := 0, locals := 16 } : Room)) (fun aA U => aA = #[(.int j), (.int k)] ∧ Z.Warmed39 U.vm ∧ U.heap = h0) (fun _ _ _ _ _ => True) (fun _ U o U' => ∃ vR LR, o = .returned vR ∧ QrmOc Z j k h0 n0 vR U'.heap LR ∧ FrameEnd U o U' LR ({ frames := 1, cells := 0, slots := 0, locals := 16 } : Room).cells ({ frames := 1, cells := 0, slots := 0, locals := 16 } : Room).slots) := by
 refine MetFree.of_bodySF (plainFor_of_name pn_java_util_Objects) hisR ?_
 intro p e s m args below meth c s₁ Bd hml0 hPre hKk
 obtain ⟨rfl, hZ, hh⟩ := hPre
 have hx := Bd.exec
 have hby := Bd.bytes
 have hH : ∀ {pc r}, decode jdk_31_method_17_code pc = r → decode c.code pc = r := fun q => hb hby q
 have hml : c.maxLocals = 2 := hml0
 have hown : s.vm.findClass "java/util/Objects" = some m.cls := findClass_of_methodNamed Bd.named
 have hnm := (name_of_methodNamed Bd.named Bd.method).1
 have X0 : Stand p l e ({ frames := 1, cells := 0, slots := 0, locals := 16 } : Room) s m #[(.int j), (.int k)] below meth c s₁ [] 0 0 := Stand.of_body Bd
 have e0 : s₁.heap = h0 := by rw [← hh, Bd.state]; rfl
 have N0 := Fr.nil n0
 obtain ⟨E0, hE0⟩ : ∃ zE : State, zE = s₁.setTop (entryFrame m #[(.int j), (.int k)] 2) := ⟨_, rfl⟩
 have k0 : own_G p e below E0 s₁ (mkF m 0 #[vi j, vi k] []) := fun tz kz => hE0 ▸ castTop (ef_rmOc m j k) kz
 have kJ0 : own_G p e below E0 s₁ (mkF m 3 #[vi j, vi k] [.null, (.int k), (.int j)]) := by
  intro tQ kk
  refine k0 tQ ?_
  refine XS.iloadN X0.here hx rfl (hH j31_17_0) rfl ?_
  refine XS.iloadN X0.here hx rfl (hH j31_17_1) rfl ?_
  refine XS.aconstNull X0.here hx rfl (hH j31_17_2) ?_
  exact kk
 clear k0
 obtain ⟨_, _, ⟨TJ1, LJ2, kcJ3, ncJ4⟩, -, XJ5, ⟨LcJ6, hQJ7, lJ8, yJ9, zJA⟩, stJB⟩ := Jvm.LawKit.callS X0 hx (y := mn146) hown (mvT hZ (tw268 hw)) (mvT hZ (tw269 hw)) (mvT hZ (tw270 hw)) (mvT hZ (tw271 hw)) (by decide) (backOf (W := 0) (rmPc l Z a0 hw [] j k h0 n0 Z0 hj0 h1) hZ (tw271 hw) (tw270 hw) (by decide) (by decide)) (g := (mkF m 3 #[vi j, vi k] [.null, (.int k), (.int j)])) rfl (by rw [hml]; rfl) (argsL := [(.int j), (.int k), .null]) (rest := []) (lenOf pd_148 rfl) rfl (by show 2 * 0 + _ ≤ _; exact Nat.le_of_eq rfl) (hH j31_17_3) (fun _ _ => ⟨rfl, e0, (by decide : 0 + 0 ≤ _), (by decide : 0 + 0 ≤ _)⟩)
 dsimp only [Pt.U, Pt.locs, Pt.cells, Pt.slots] at XJ5 lJ8 yJ9 zJA stJB hQJ7
 subst yJ9 zJA
 obtain ⟨rfl, NJC, eJD⟩ := hQJ7
 have NJF : Fr n0 LJ2 := by rw [lJ8]; exact Fr.app N0 NJC
 clear lJ8 NJC
 have kJG : own_G p e below E0 TJ1 (mkF m 6 #[vi j, vi k] [(.int j)]) := fun tQ kk => kJ0 tQ (stJB _ kk)
 clear kJ0 stJB
 obtain ⟨fs, hr, hrun, hended, hW, hsame⟩ := XJ5.leave (v := some (.int j)) (fun h => by rw [Bd.returns] at h; cases h)
 have hrun0 := kJG _ (retOut XJ5 hx Bd.returns (t := .int) rfl (Or.inl ⟨rfl, Or.inl rfl, _, rfl⟩) (hH j31_17_6) hr)
 subst hE0
 refine ⟨_, _, hrun0, hrun, hended, _, _, rfl, ?_, ⟨_, rfl⟩, hW, hsame.mono (by decide) (by decide)⟩
 show QrmOc Z j k h0 n0 _ TJ1.heap _
 rw [eJD]
 exact ⟨rfl, NJF, rfl⟩
def QrmEdS (Z : State) (a : Addr) (r : Addr) (x0 : Addr) (x1 : Addr) (x2 : Addr) (xo : Addr) (j : Int32) (h0 : Heap) (n0 : Nat) (vQ : Option Value) (hQ : Heap) (LQ : List Loc) : Prop := vQ = some (.ref xo) ∧ Fr n0 LQ ∧ hQ = h0
theorem ef_rmEdS (m : MethodId) (a : Addr) (r : Addr) (x0 : Addr) (x1 : Addr) (x2 : Addr) (xo : Addr) (j : Int32) : entryFrame m #[(.ref a), (.int j)] 2 = mkF m 0 #[vr a, vi j] [] := by first | (simp [entryFrame, mkF, argsToLocals, Value.category]; done) | rfl
abbrev mn149 : MethodName := ⟨"java/util/ArrayList", "elementData", "(I)Ljava/lang/Object;"⟩
theorem j38_18_0 : decode jdk_38_method_18_code 0 = .ok (.aload_n 0, 1) := by decide +kernel
theorem j38_18_1 : decode jdk_38_method_18_code 1 = .ok (.getfield 9, 3) := by decide +kernel
theorem j38_18_4 : decode jdk_38_method_18_code 4 = .ok (.iload_n 1, 1) := by decide +kernel
theorem j38_18_5 : decode jdk_38_method_18_code 5 = .ok (.aaload, 1) := by decide +kernel
theorem j38_18_6 : decode jdk_38_method_18_code 6 = .ok (.areturn, 1) := by decide +kernel
set_option maxRecDepth 65536 in
set_option maxHeartbeats 40000000 in
theorem rmEdS (l : Launch) (Z : State) (a0 : Array Value) (hw : ∀ d ∈ tables_1, d.before a0 Z = true) (ws : List Jvm.Cond) (a : Addr) (r : Addr) (x0 : Addr) (x1 : Addr) (x2 : Addr) (xo : Addr) (j : Int32) (h0 : Heap) (n0 : Nat) (Z0 : n0 ≤ h0.size) (E1 : xa32 Z h0 a) (F1 : fd30 Z h0 a (.ref r)) (F2 : fd31 Z h0 a (.int (3 : Int32))) (A1 : own_O Z h0 r "java/lang/Object" [(.ref x0), (.ref x1), (.ref x2), .null, .null, .null, .null, .null, .null, .null]) (hj0 : ¬ j < 0) (h1 : j < 3) (hx_ : ([.ref x0, .ref x1, .ref x2, .null, .null, .null, .null, .null, .null, .null] : List Value)[j.toNatClampNeg]? = some (.ref xo)) :
  MetFree l mn149 (head1 (Jvm.Cond.code mn149 jdk_38_method_18_code 2 (some (.object "java/lang/Object")) :: ws) ({ frames := 0, cells := 0, slots := 0, locals := 0 } : Room)) (fun aA U => aA = #[(.ref a), (.int j)] ∧ Z.Warmed39 U.vm ∧ U.heap = h0) (fun _ _ _ _ _ => True) (fun _ U o U' => ∃ vR LR, o = .returned vR ∧ QrmEdS Z a r x0 x1 x2 xo j h0 n0 vR U'.heap LR ∧ FrameEnd U o U' LR ({ frames := 0, cells := 0, slots := 0, locals := 0 } : Room).cells ({ frames := 0, cells := 0, slots := 0, locals := 0 } : Room).slots) := by
 refine MetFree.of_bodySF (plainFor_of_name pn_java_util_ArrayList) hisR ?_
 intro p e s m args below meth c s₁ Bd hml0 hPre hKk
 obtain ⟨rfl, hZ, hh⟩ := hPre
 have hx := Bd.exec
 have hby := Bd.bytes
 have hH : ∀ {pc r}, decode jdk_38_method_18_code pc = r → decode c.code pc = r := fun q => hb hby q
 have hml : c.maxLocals = 2 := hml0
 have hown : s.vm.findClass "java/util/ArrayList" = some m.cls := findClass_of_methodNamed Bd.named
 have hnm := (name_of_methodNamed Bd.named Bd.method).1
 have X0 : Stand p l e ({ frames := 0, cells := 0, slots := 0, locals := 0 } : Room) s m #[(.ref a), (.int j)] below meth c s₁ [] 0 0 := Stand.of_body Bd
 have e0 : s₁.heap = h0 := by rw [← hh, Bd.state]; rfl
 have N0 := Fr.nil n0
 obtain ⟨E0, hE0⟩ : ∃ zE : State, zE = s₁.setTop (entryFrame m #[(.ref a), (.int j)] 2) := ⟨_, rfl⟩
 have k0 : own_G p e below E0 s₁ (mkF m 0 #[vr a, vi j] []) := fun tz kz => hE0 ▸ castTop (ef_rmEdS m a r x0 x1 x2 xo j) kz
 have kJ0 : own_G p e below E0 s₁ (mkF m 1 #[vr a, vi j] [(.ref a)]) := by
  intro tQ kk
  refine k0 tQ ?_
  refine XS.aloadN X0.here hx rfl (hH j38_18_0) rfl rfl ?_
  exact kk
 clear k0
 obtain ⟨TJ1, XJ2, eJ3, stJ4⟩ := getF X0 hx hZ hown (host := "") (Or.inl (tw38 hw)) Via.refl e0 F1 (g := (mkF m 1 #[vr a, vi j] [(.ref a)])) rfl rfl (hH j38_18_1)
 have kJ5 : own_G p e below E0 TJ1 (mkF m 4 #[vr a, vi j] [(.ref r)]) := fun tQ kk => kJ0 tQ (stJ4 _ kk)
 clear kJ0 stJ4
 have kJ6 : own_G p e below E0 TJ1 (mkF m 5 #[vr a, vi j] [(.int j), (.ref r)]) := by
  intro tQ kk
  refine kJ5 tQ ?_
  refine XS.iloadN XJ2.here hx rfl (hH j38_18_4) rfl ?_
  exact kk
 clear kJ5
 have stJ7 := fun tQ => own_O.ald XJ2 hx hZ eJ3 A1 (j := j) (v := (.ref xo)) hj0 hx_ (g := (mkF m 5 #[vr a, vi j] [(.int j), (.ref r)])) rfl rfl (hH j38_18_5) tQ
 have kJ8 : own_G p e below E0 TJ1 (mkF m 6 #[vr a, vi j] [(.ref xo)]) := fun tQ kk => kJ6 tQ (stJ7 _ kk)
 clear kJ6 stJ7
 obtain ⟨fs, hr, hrun, hended, hW, hsame⟩ := XJ2.leave (v := some (.ref xo)) (fun h => by rw [Bd.returns] at h; cases h)
 have hrun0 := kJ8 _ (retOut XJ2 hx Bd.returns (t := (.object "java/lang/Object")) rfl (Or.inr (Or.inr (Or.inr (Or.inr ⟨rfl, rfl, rfl⟩)))) (hH j38_18_6) hr)
 subst hE0
 refine ⟨_, _, hrun0, hrun, hended, _, _, rfl, ?_, ⟨_, rfl⟩, hW, hsame.mono (by decide) (by decide)⟩
 show QrmEdS Z a r x0 x1 x2 xo j h0 n0 _ TJ1.heap _
 rw [eJ3]
 exact ⟨rfl, N0, rfl⟩
def QrmGtS (Z : State) (a : Addr) (r : Addr) (x0 : Addr) (x1 : Addr) (x2 : Addr) (xo : Addr) (j : Int32) (h0 : Heap) (n0 : Nat) (vQ : Option Value) (hQ : Heap) (LQ : List Loc) : Prop := vQ = some (.ref xo) ∧ Fr n0 LQ ∧ hQ = h0
theorem ef_rmGtS (m : MethodId) (a : Addr) (r : Addr) (x0 : Addr) (x1 : Addr) (x2 : Addr) (xo : Addr) (j : Int32) : entryFrame m #[(.ref a), (.int j)] 2 = mkF m 0 #[vr a, vi j] [] := by first | (simp [entryFrame, mkF, argsToLocals, Value.category]; done) | rfl
abbrev mn150 : MethodName := ⟨"java/util/ArrayList", "get", "(I)Ljava/lang/Object;"⟩
theorem j38_20_0 : decode jdk_38_method_20_code 0 = .ok (.iload_n 1, 1) := by decide +kernel
theorem j38_20_1 : decode jdk_38_method_20_code 1 = .ok (.aload_n 0, 1) := by decide +kernel
theorem j38_20_2 : decode jdk_38_method_20_code 2 = .ok (.getfield 48, 3) := by decide +kernel
theorem j38_20_5 : decode jdk_38_method_20_code 5 = .ok (.invokestatic 118, 3) := by decide +kernel
def tw264 {Z a0} (hw : HW Z a0) := hw _ (List.mem_of_getElem? (i := 264) rfl)
def tw267 {Z a0} (hw : HW Z a0) := hw _ (List.mem_of_getElem? (i := 267) rfl)
def tw266 {Z a0} (hw : HW Z a0) := hw _ (List.mem_of_getElem? (i := 266) rfl)
def tw265 {Z a0} (hw : HW Z a0) := hw _ (List.mem_of_getElem? (i := 265) rfl)
theorem j38_20_8 : decode jdk_38_method_20_code 8 = .ok (.pop, 1) := by decide +kernel
theorem j38_20_9 : decode jdk_38_method_20_code 9 = .ok (.aload_n 0, 1) := by decide +kernel
theorem j38_20_10 : decode jdk_38_method_20_code 10 = .ok (.iload_n 1, 1) := by decide +kernel
theorem j38_20_11 : decode jdk_38_method_20_code 11 = .ok (.invokevirtual 123, 3) := by decide +kernel
def tw272 {Z a0} (hw : HW Z a0) := hw _ (List.mem_of_getElem? (i := 272) rfl)
def tw275 {Z a0} (hw : HW Z a0) := hw _ (List.mem_of_getElem? (i := 275) rfl)
def tw276 {Z a0} (hw : HW Z a0) := hw _ (List.mem_of_getElem? (i := 276) rfl)
theorem pd_151 : parseMethodDescriptor "(I)Ljava/lang/Object;" = some ⟨[.int], some (.object "java/lang/Object")⟩ := by decide +kernel
def tw273 {Z a0} (hw : HW Z a0) := hw _ (List.mem_of_getElem? (i := 273) rfl)
def tw274 {Z a0} (hw : HW Z a0) := hw _ (List.mem_of_getElem? (i := 274) rfl)
theorem j38_20_14 : decode jdk_38_method_20_code 14 = .ok (.areturn, 1) := by decide +kernel
set_option maxRecDepth 65536 in
set_option maxHeartbeats 40000000 in
theorem rmGtS (l : Launch) (Z : State) (a0 : Array Value) (hw : ∀ d ∈ tables_1, d.before a0 Z = true) (ws : List Jvm.Cond) (a : Addr) (r : Addr) (x0 : Addr) (x1 : Addr) (x2 : Addr) (xo : Addr) (j : Int32) (h0 : Heap) (n0 : Nat) (Z0 : n0 ≤ h0.size) (E1 : xa32 Z h0 a) (F1 : fd30 Z h0 a (.ref r)) (F2 : fd31 Z h0 a (.int (3 : Int32))) (A1 : own_O Z h0 r "java/lang/Object" [(.ref x0), (.ref x1), (.ref x2), .null, .null, .null, .null, .null, .null, .null]) (hj0 : ¬ j < 0) (h1 : j < 3) (hx_ : ([.ref x0, .ref x1, .ref x2, .null, .null, .null, .null, .null, .null, .null] : List Value)[j.toNatClampNeg]? = some (.ref xo)) :
  MetFree l mn150 (head1 (Jvm.Cond.code mn150 jdk_38_method_20_code 2 (some (.object "java/lang/Object")) :: ws) ({ frames := 2, cells := 0, slots := 0, locals := 32 } : Room)) (fun aA U => aA = #[(.ref a), (.int j)] ∧ Z.Warmed39 U.vm ∧ U.heap = h0) (fun _ _ _ _ _ => True) (fun _ U o U' => ∃ vR LR, o = .returned vR ∧ QrmGtS Z a r x0 x1 x2 xo j h0 n0 vR U'.heap LR ∧ FrameEnd U o U' LR ({ frames := 2, cells := 0, slots := 0, locals := 32 } : Room).cells ({ frames := 2, cells := 0, slots := 0, locals := 32 } : Room).slots) := by
 refine MetFree.of_bodySF (plainFor_of_name pn_java_util_ArrayList) hisR ?_
 intro p e s m args below meth c s₁ Bd hml0 hPre hKk
 obtain ⟨rfl, hZ, hh⟩ := hPre
 have hx := Bd.exec
 have hby := Bd.bytes
 have hH : ∀ {pc r}, decode jdk_38_method_20_code pc = r → decode c.code pc = r := fun q => hb hby q
 have hml : c.maxLocals = 2 := hml0
 have hown : s.vm.findClass "java/util/ArrayList" = some m.cls := findClass_of_methodNamed Bd.named
 have hnm := (name_of_methodNamed Bd.named Bd.method).1
 have X0 : Stand p l e ({ frames := 2, cells := 0, slots := 0, locals := 32 } : Room) s m #[(.ref a), (.int j)] below meth c s₁ [] 0 0 := Stand.of_body Bd
 have e0 : s₁.heap = h0 := by rw [← hh, Bd.state]; rfl
 have N0 := Fr.nil n0
 obtain ⟨E0, hE0⟩ : ∃ zE : State, zE = s₁.setTop (entryFrame m #[(.ref a), (.int j)] 2) := ⟨_, rfl⟩
 have k0 : own_G p e below E0 s₁ (mkF m 0 #[vr a, vi j] []) := fun tz kz => hE0 ▸ castTop (ef_rmGtS m a r x0 x1 x2 xo j) kz
 have kJ0 : own_G p e below E0 s₁ (mkF m 2 #[vr a, vi j] [(.ref a), (.int j)]) := by
  intro tQ kk
  refine k0 tQ ?_
  refine XS.iloadN X0.here hx rfl (hH j38_20_0) rfl ?_
  refine XS.aloadN X0.here hx rfl (hH j38_20_1) rfl rfl ?_
  exact kk
 clear k0
 obtain ⟨TJ1, XJ2, eJ3, stJ4⟩ := getF X0 hx hZ hown (host := "") (Or.inl (tw185 hw)) Via.refl e0 F2 (g := (mkF m 2 #[vr a, vi j] [(.ref a), (.int j)])) rfl rfl (hH j38_20_2)
 have kJ5 : own_G p e below E0 TJ1 (mkF m 5 #[vr a, vi j] [(.int (3 : Int32)), (.int j)]) := fun tQ kk => kJ0 tQ (stJ4 _ kk)
 clear kJ0 stJ4
 obtain ⟨_, _, ⟨TJ6, LJ7, kcJ8, ncJ9⟩, -, XJA, ⟨LcJB, hQJC, lJD, yJE, zJF⟩, stJG⟩ := Jvm.LawKit.callS XJ2 hx (y := mn147) hown (mvT hZ (tw264 hw)) (mvT hZ (tw265 hw)) (mvT hZ (tw266 hw)) (mvT hZ (tw267 hw)) (by decide) (backOf (W := 0) (rmOc l Z a0 hw [] j (3 : Int32) h0 n0 Z0 hj0 h1) hZ (tw267 hw) (tw266 hw) (by decide) (by decide)) (g := (mkF m 5 #[vr a, vi j] [(.int (3 : Int32)), (.int j)])) rfl (by rw [hml]; rfl) (argsL := [(.int j), (.int (3 : Int32))]) (rest := []) (lenOf pd_136 rfl) rfl (by show 2 * 0 + _ ≤ _; exact Nat.le_of_eq rfl) (hH j38_20_5) (fun _ _ => ⟨rfl, eJ3, (by decide : 0 + 0 ≤ _), (by decide : 0 + 0 ≤ _)⟩)
 dsimp only [Pt.U, Pt.locs, Pt.cells, Pt.slots] at XJA lJD yJE zJF stJG hQJC
 subst yJE zJF
 obtain ⟨rfl, NJH, eJI⟩ := hQJC
 have NJK : Fr n0 LJ7 := by rw [lJD]; exact Fr.app N0 NJH
 clear lJD NJH
 have kJL : own_G p e below E0 TJ6 (mkF m 8 #[vr a, vi j] [(.int j)]) := fun tQ kk => kJ5 tQ (stJG _ kk)
 clear kJ5 stJG
 have kJM : own_G p e below E0 TJ6 (mkF m 11 #[vr a, vi j] [(.int j), (.ref a)]) := by
  intro tQ kk
  refine kJL tQ ?_
  refine XT.pop XJA.here hx rfl (hH j38_20_8) rfl rfl ?_
  refine XS.aloadN XJA.here hx rfl (hH j38_20_9) rfl rfl ?_
  refine XS.iloadN XJA.here hx rfl (hH j38_20_10) rfl ?_
  exact kk
 clear kJL
 obtain ⟨cqJY, kqJZ, qaK0, qbK1, qcK2⟩ := isOf hZ eJI E1
 obtain ⟨_, _, ⟨TJN, LJO, kcJP, ncJQ⟩, -, XJR, ⟨LcJS, hQJT, lJU, yJV, zJW⟩, stJX⟩ := XJA.virtualBack hx (y := mn149) (z := mn149) hown (mvT hZ (tw272 hw)) (mvT hZ (tw273 hw)) (notFace_of_selects (args := #[]) (mvT hZ (tw275 hw))) (mvT hZ (tw275 hw)) (mvT hZ (tw274 hw)) (by decide) (backOf (W := 0) (rmEdS l Z a0 hw [] a r x0 x1 x2 xo j h0 n0 Z0 E1 F1 F2 A1 hj0 h1 hx_) hZ (tw276 hw) (tw18 hw) (by decide) (by decide)) qaK0 qcK2 (g := (mkF m 11 #[vr a, vi j] [(.int j), (.ref a)])) rfl (by rw [hml]; rfl) (Steps.refl _) (argsL := [(.int j)]) (rest := []) (lenOf pd_151 rfl) rfl (by show 2 * 0 + _ ≤ _; exact Nat.le_of_eq rfl) (hH j38_20_11) (fun _ _ => ⟨rfl, eJI, (by decide : 0 + 0 ≤ _), (by decide : 0 + 0 ≤ _)⟩)
 dsimp only [Pt.U, Pt.locs, Pt.cells, Pt.slots] at XJR lJU yJV zJW stJX hQJT
 subst yJV zJW
 obtain ⟨rfl, NK3, eK4⟩ := hQJT
 have NK6 : Fr n0 LJO := by rw [lJU]; exact Fr.app NJK NK3
 clear lJU NK3
 have kK7 : own_G p e below E0 TJN (mkF m 14 #[vr a, vi j] [(.ref xo)]) := fun tQ kk => kJM tQ (stJX.trans kk)
 clear kJM stJX
 obtain ⟨fs, hr, hrun, hended, hW, hsame⟩ := XJR.leave (v := some (.ref xo)) (fun h => by rw [Bd.returns] at h; cases h)
 have hrun0 := kK7 _ (retOut XJR hx Bd.returns (t := (.object "java/lang/Object")) rfl (Or.inr (Or.inr (Or.inr (Or.inr ⟨rfl, rfl, rfl⟩)))) (hH j38_20_14) hr)
 subst hE0
 refine ⟨_, _, hrun0, hrun, hended, _, _, rfl, ?_, ⟨_, rfl⟩, hW, hsame.mono (by decide) (by decide)⟩
 show QrmGtS Z a r x0 x1 x2 xo j h0 n0 _ TJN.heap _
 rw [eK4]
 exact ⟨rfl, NK6, rfl⟩
def QrmCo0 (Z : State) (a : Addr) (is : Addr) (ds : Addr) (al : Addr) (cA : Addr) (ro : Addr) (ba : Addr) (pA : Addr) (fa : Addr) (va : Addr) (dE : Addr) (cv : List Value) (pv : List Value) (xc : UInt64) (h0 : Heap) (n0 : Nat) (vQ : Option Value) (hQ : Heap) (LQ : List Loc) : Prop := ∃ (r : Addr), ∃ (sc : Addr), ∃ (r1 : Addr), ∃ (r2 : Addr), vQ = some (.int (0 : Int32)) ∧ Fr n0 LQ ∧ Keep h0 hQ [a, al, cA, pA] ∧ (fd41 Z hQ a (.ref al)) ∧ (fd42 Z hQ a (.ref cA)) ∧ (fd43 Z hQ a (.ref ro)) ∧ (fd44 Z hQ a (.ref ba)) ∧ (fd45 Z hQ a (.ref pA)) ∧ (fd46 Z hQ a (.ref fa)) ∧ (fd47 Z hQ a (.ref va)) ∧ (fd48 Z hQ a (.int (0 : Int32))) ∧ (fd30 Z hQ al (.ref r)) ∧ (fd31 Z hQ al (.int (1 : Int32))) ∧ (fd29 Z hQ al (.int (1 : Int32))) ∧ (own_O Z hQ r "java/lang/Object" [(.ref sc), .null, .null, .null, .null, .null, .null, .null, .null, .null]) ∧ (own_A Z hQ cA .double (cv.set ((0 : Int32)).toNatClampNeg (.double xc))) ∧ (own_A Z hQ pA .int (pv.set ((0 : Int32)).toNatClampNeg (.int (-1 : Int32)))) ∧ (xa123 Z hQ sc) ∧ (fd120 Z hQ sc (.ref r1)) ∧ (fd121 Z hQ sc (.ref r2)) ∧ (fd122 Z hQ sc (.int (0 : Int32))) ∧ (own_A Z hQ r1 .int own_i4) ∧ (own_A Z hQ r2 .double own_d4) ∧ (h0.size ≤ r) ∧ (h0.size ≤ sc) ∧ (h0.size ≤ r1) ∧ (h0.size ≤ r2) ∧ (r ≠ sc) ∧ (r ≠ r1) ∧ (r ≠ r2) ∧ (sc ≠ r1) ∧ (sc ≠ r2) ∧ (r1 ≠ r2)
theorem ef_rmCo0 (m : MethodId) (a : Addr) (is : Addr) (ds : Addr) (al : Addr) (cA : Addr) (ro : Addr) (ba : Addr) (pA : Addr) (fa : Addr) (va : Addr) (dE : Addr) (cv : List Value) (pv : List Value) (xc : UInt64) : entryFrame m #[(.ref a), (.double xc), (.ref is), (.ref ds)] 8 = mkF m 0 #[vr a, vd xc, ss, vr is, vr ds, uu, uu, uu] [] := by first | (simp [entryFrame, mkF, argsToLocals, Value.category]; done) | rfl
abbrev mn152 : MethodName := ⟨"com/example/netloom/netloom/embed/Simplex", "addColumn", "(D[I[D)I"⟩
theorem p49_2_0 : decode prog_49_method_2_code 0 = .ok (.aload_n 0, 1) := by decide +kernel
theorem p49_2_1 : decode prog_49_method_2_code 1 = .ok (.getfield 10, 3) := by decide +kernel
theorem p49_2_4 : decode prog_49_method_2_code 4 = .ok (.invokeinterface 43 1, 5) := by decide +kernel
def tw176 {Z a0} (hw : HW Z a0) := hw _ (List.mem_of_getElem? (i := 176) rfl)
def tw179 {Z a0} (hw : HW Z a0) := hw _ (List.mem_of_getElem? (i := 179) rfl)
def tw184 {Z a0} (hw : HW Z a0) := hw _ (List.mem_of_getElem? (i := 184) rfl)
theorem pd_153 : parseMethodDescriptor "()I" = some ⟨[], some .int⟩ := by decide +kernel
abbrev mn154 : MethodName := ⟨"java/util/List", "size", "()I"⟩
def tw177 {Z a0} (hw : HW Z a0) := hw _ (List.mem_of_getElem? (i := 177) rfl)
def tw178 {Z a0} (hw : HW Z a0) := hw _ (List.mem_of_getElem? (i := 178) rfl)
def tw180 {Z a0} (hw : HW Z a0) := hw _ (List.mem_of_getElem? (i := 180) rfl)
def tw181 {Z a0} (hw : HW Z a0) := hw _ (List.mem_of_getElem? (i := 181) rfl)
def tw182 {Z a0} (hw : HW Z a0) := hw _ (List.mem_of_getElem? (i := 182) rfl)
def tw183 {Z a0} (hw : HW Z a0) := hw _ (List.mem_of_getElem? (i := 183) rfl)
theorem p49_2_9 : decode prog_49_method_2_code 9 = .ok (.istore 5, 2) := by decide +kernel
theorem p49_2_11 : decode prog_49_method_2_code 11 = .ok (.new 49, 3) := by decide +kernel
def tw187 {Z a0} (hw : HW Z a0) := hw _ (List.mem_of_getElem? (i := 187) rfl)
def tw189 {Z a0} (hw : HW Z a0) := hw _ (List.mem_of_getElem? (i := 189) rfl)
theorem p49_2_14 : decode prog_49_method_2_code 14 = .ok (.dup, 1) := by decide +kernel
theorem p49_2_15 : decode prog_49_method_2_code 15 = .ok (.invokespecial 51, 3) := by decide +kernel
def tw190 {Z a0} (hw : HW Z a0) := hw _ (List.mem_of_getElem? (i := 190) rfl)
def tw192 {Z a0} (hw : HW Z a0) := hw _ (List.mem_of_getElem? (i := 192) rfl)
def tw191 {Z a0} (hw : HW Z a0) := hw _ (List.mem_of_getElem? (i := 191) rfl)
theorem p49_2_18 : decode prog_49_method_2_code 18 = .ok (.astore 6, 2) := by decide +kernel
theorem p49_2_20 : decode prog_49_method_2_code 20 = .ok (.iconst 0, 1) := by decide +kernel
theorem p49_2_21 : decode prog_49_method_2_code 21 = .ok (.istore 7, 2) := by decide +kernel
theorem p49_2_23 : decode prog_49_method_2_code 23 = .ok (.iload 7, 2) := by decide +kernel
theorem p49_2_25 : decode prog_49_method_2_code 25 = .ok (.aload_n 3, 1) := by decide +kernel
theorem p49_2_26 : decode prog_49_method_2_code 26 = .ok (.arraylength, 1) := by decide +kernel
theorem p49_2_27 : decode prog_49_method_2_code 27 = .ok (.if_icmp .ge 23, 3) := by decide +kernel
theorem p49_2_50 : decode prog_49_method_2_code 50 = .ok (.aload_n 0, 1) := by decide +kernel
theorem p49_2_51 : decode prog_49_method_2_code 51 = .ok (.getfield 10, 3) := by decide +kernel
theorem p49_2_54 : decode prog_49_method_2_code 54 = .ok (.aload 6, 2) := by decide +kernel
theorem p49_2_56 : decode prog_49_method_2_code 56 = .ok (.invokeinterface 56 2, 5) := by decide +kernel
def tw198 {Z a0} (hw : HW Z a0) := hw _ (List.mem_of_getElem? (i := 198) rfl)
def tw201 {Z a0} (hw : HW Z a0) := hw _ (List.mem_of_getElem? (i := 201) rfl)
def tw205 {Z a0} (hw : HW Z a0) := hw _ (List.mem_of_getElem? (i := 205) rfl)
theorem pd_155 : parseMethodDescriptor "(Ljava/lang/Object;)Z" = some ⟨[(.object "java/lang/Object")], some .boolean⟩ := by decide +kernel
abbrev mn156 : MethodName := ⟨"java/util/List", "add", "(Ljava/lang/Object;)Z"⟩
def tw199 {Z a0} (hw : HW Z a0) := hw _ (List.mem_of_getElem? (i := 199) rfl)
def tw200 {Z a0} (hw : HW Z a0) := hw _ (List.mem_of_getElem? (i := 200) rfl)
def tw202 {Z a0} (hw : HW Z a0) := hw _ (List.mem_of_getElem? (i := 202) rfl)
def tw203 {Z a0} (hw : HW Z a0) := hw _ (List.mem_of_getElem? (i := 203) rfl)
def tw204 {Z a0} (hw : HW Z a0) := hw _ (List.mem_of_getElem? (i := 204) rfl)
theorem p49_2_61 : decode prog_49_method_2_code 61 = .ok (.pop, 1) := by decide +kernel
theorem p49_2_62 : decode prog_49_method_2_code 62 = .ok (.aload_n 0, 1) := by decide +kernel
theorem p49_2_63 : decode prog_49_method_2_code 63 = .ok (.aload_n 0, 1) := by decide +kernel
theorem p49_2_64 : decode prog_49_method_2_code 64 = .ok (.getfield 16, 3) := by decide +kernel
theorem p49_2_67 : decode prog_49_method_2_code 67 = .ok (.iload 5, 2) := by decide +kernel
theorem p49_2_69 : decode prog_49_method_2_code 69 = .ok (.iconst 1, 1) := by decide +kernel
theorem p49_2_70 : decode prog_49_method_2_code 70 = .ok (.iadd, 1) := by decide +kernel
theorem p49_2_71 : decode prog_49_method_2_code 71 = .ok (.invokestatic 59, 3) := by decide +kernel
def tw230 {Z a0} (hw : HW Z a0) := hw _ (List.mem_of_getElem? (i := 230) rfl)
def tw233 {Z a0} (hw : HW Z a0) := hw _ (List.mem_of_getElem? (i := 233) rfl)
def tw232 {Z a0} (hw : HW Z a0) := hw _ (List.mem_of_getElem? (i := 232) rfl)
theorem pd_157 : parseMethodDescriptor "([DI)[D" = some ⟨[(.array .double), .int], some (.array .double)⟩ := by decide +kernel
def tw231 {Z a0} (hw : HW Z a0) := hw _ (List.mem_of_getElem? (i := 231) rfl)
theorem p49_2_74 : decode prog_49_method_2_code 74 = .ok (.putfield 16, 3) := by decide +kernel
theorem p49_2_77 : decode prog_49_method_2_code 77 = .ok (.aload_n 0, 1) := by decide +kernel
theorem p49_2_78 : decode prog_49_method_2_code 78 = .ok (.getfield 16, 3) := by decide +kernel
theorem p49_2_81 : decode prog_49_method_2_code 81 = .ok (.iload 5, 2) := by decide +kernel
theorem p49_2_83 : decode prog_49_method_2_code 83 = .ok (.dload_n 1, 1) := by decide +kernel
theorem p49_2_84 : decode prog_49_method_2_code 84 = .ok (.dastore, 1) := by decide +kernel
theorem p49_2_85 : decode prog_49_method_2_code 85 = .ok (.aload_n 0, 1) := by decide +kernel
theorem p49_2_86 : decode prog_49_method_2_code 86 = .ok (.aload_n 0, 1) := by decide +kernel
theorem p49_2_87 : decode prog_49_method_2_code 87 = .ok (.getfield 27, 3) := by decide +kernel
theorem p49_2_90 : decode prog_49_method_2_code 90 = .ok (.iload 5, 2) := by decide +kernel
theorem p49_2_92 : decode prog_49_method_2_code 92 = .ok (.iconst 1, 1) := by decide +kernel
theorem p49_2_93 : decode prog_49_method_2_code 93 = .ok (.iadd, 1) := by decide +kernel
theorem p49_2_94 : decode prog_49_method_2_code 94 = .ok (.invokestatic 65, 3) := by decide +kernel
def tw234 {Z a0} (hw : HW Z a0) := hw _ (List.mem_of_getElem? (i := 234) rfl)
def tw236 {Z a0} (hw : HW Z a0) := hw _ (List.mem_of_getElem? (i := 236) rfl)
theorem pd_158 : parseMethodDescriptor "([II)[I" = some ⟨[(.array .int), .int], some (.array .int)⟩ := by decide +kernel
def tw235 {Z a0} (hw : HW Z a0) := hw _ (List.mem_of_getElem? (i := 235) rfl)
theorem p49_2_97 : decode prog_49_method_2_code 97 = .ok (.putfield 27, 3) := by decide +kernel
theorem p49_2_100 : decode prog_49_method_2_code 100 = .ok (.aload_n 0, 1) := by decide +kernel
theorem p49_2_101 : decode prog_49_method_2_code 101 = .ok (.getfield 27, 3) := by decide +kernel
theorem p49_2_104 : decode prog_49_method_2_code 104 = .ok (.iload 5, 2) := by decide +kernel
theorem p49_2_106 : decode prog_49_method_2_code 106 = .ok (.iconst (-1), 1) := by decide +kernel
theorem p49_2_107 : decode prog_49_method_2_code 107 = .ok (.iastore, 1) := by decide +kernel
theorem p49_2_108 : decode prog_49_method_2_code 108 = .ok (.iload 5, 2) := by decide +kernel
theorem p49_2_110 : decode prog_49_method_2_code 110 = .ok (.ireturn, 1) := by decide +kernel
set_option maxRecDepth 65536 in
set_option maxHeartbeats 40000000 in
theorem rmCo0 (l : Launch) (Z : State) (a0 : Array Value) (hw : ∀ d ∈ tables_1, d.before a0 Z = true) (ws : List Jvm.Cond) (a : Addr) (is : Addr) (ds : Addr) (al : Addr) (cA : Addr) (ro : Addr) (ba : Addr) (pA : Addr) (fa : Addr) (va : Addr) (dE : Addr) (cv : List Value) (pv : List Value) (xc : UInt64) (h0 : Heap) (n0 : Nat) (Z0 : n0 ≤ h0.size) (EX : xa49 Z h0 a) (S0 : fd41 Z h0 a (.ref al)) (S1 : fd42 Z h0 a (.ref cA)) (S2 : fd43 Z h0 a (.ref ro)) (S3 : fd44 Z h0 a (.ref ba)) (S4 : fd45 Z h0 a (.ref pA)) (S5 : fd46 Z h0 a (.ref fa)) (S6 : fd47 Z h0 a (.ref va)) (S7 : fd48 Z h0 a (.int (0 : Int32))) (E1 : xa32 Z h0 al) (L1 : fd30 Z h0 al (.ref dE)) (L2 : fd31 Z h0 al (.int (0 : Int32))) (L3 : fd29 Z h0 al (.int (0 : Int32))) (O1 : Old Z n0 h0) (AE : own_A Z h0 dE (.object "java/lang/Object") []) (A1 : own_A Z h0 cA .double cv) (A2 : own_A Z h0 pA .int pv) (A3 : own_A Z h0 is .int []) (A4 : own_A Z h0 ds .double []) (q_a_al : a ≠ al) (q_a_cA : a ≠ cA) (q_a_pA : a ≠ pA) (q_a_is : a ≠ is) (q_a_ds : a ≠ ds) (q_a_dE : a ≠ dE) (q_al_cA : al ≠ cA) (q_al_pA : al ≠ pA) (q_al_is : al ≠ is) (q_al_ds : al ≠ ds) (q_al_dE : al ≠ dE) (q_cA_pA : cA ≠ pA) (q_cA_is : cA ≠ is) (q_cA_ds : cA ≠ ds) (q_cA_dE : cA ≠ dE) (q_pA_is : pA ≠ is) (q_pA_ds : pA ≠ ds) (q_pA_dE : pA ≠ dE) (ge_a : n0 ≤ a) (ge_al : n0 ≤ al) (ge_cA : n0 ≤ cA) (ge_pA : n0 ≤ pA) (lc : cv.length = 16) (lp : pv.length = 16) (oD : Sta Z Z.heap "java/util/ArrayList" "DEFAULTCAPACITY_EMPTY_ELEMENTDATA" "[Ljava/lang/Object;" (.ref dE)) :
  MetFree l mn152 (head1 (Jvm.Cond.code mn152 prog_49_method_2_code 8 (some .int) :: ws) ({ frames := 6, cells := 4, slots := 21, locals := 90 } : Room)) (fun aA U => aA = #[(.ref a), (.double xc), (.ref is), (.ref ds)] ∧ Z.Warmed39 U.vm ∧ U.heap = h0) (fun _ _ _ _ _ => True) (fun _ U o U' => ∃ vR LR, o = .returned vR ∧ QrmCo0 Z a is ds al cA ro ba pA fa va dE cv pv xc h0 n0 vR U'.heap LR ∧ FrameEnd U o U' LR ({ frames := 6, cells := 4, slots := 21, locals := 90 } : Room).cells ({ frames := 6, cells := 4, slots := 21, locals := 90 } : Room).slots) := by
 refine MetFree.of_bodySF (plainFor_of_name pn_com_example_netloom_netloom_embed_Simplex) hisR ?_
 intro p e s m args below meth c s₁ Bd hml0 hPre hKk
 obtain ⟨rfl, hZ, hh⟩ := hPre
 have hx := Bd.exec
 have hby := Bd.bytes
 have hH : ∀ {pc r}, decode prog_49_method_2_code pc = r → decode c.code pc = r := fun q => hb hby q
 have hml : c.maxLocals = 8 := hml0
 have hown : s.vm.findClass "com/example/netloom/netloom/embed/Simplex" = some m.cls := findClass_of_methodNamed Bd.named
 have hnm := (name_of_methodNamed Bd.named Bd.method).1
 have X0 : Stand p l e ({ frames := 6, cells := 4, slots := 21, locals := 90 } : Room) s m #[(.ref a), (.double xc), (.ref is), (.ref ds)] below meth c s₁ [] 0 0 := Stand.of_body Bd
 have e0 : s₁.heap = h0 := by rw [← hh, Bd.state]; rfl
 have N0 := Fr.nil n0
 obtain ⟨E0, hE0⟩ : ∃ zE : State, zE = s₁.setTop (entryFrame m #[(.ref a), (.double xc), (.ref is), (.ref ds)] 8) := ⟨_, rfl⟩
 have k0 : own_G p e below E0 s₁ (mkF m 0 #[vr a, vd xc, ss, vr is, vr ds, uu, uu, uu] []) := fun tz kz => hE0 ▸ castTop (ef_rmCo0 m a is ds al cA ro ba pA fa va dE cv pv xc) kz
 have K0 : Keep h0 h0 [a, al, cA, pA] := Keep.refl _ _
 have kJ0 : own_G p e below E0 s₁ (mkF m 1 #[vr a, vd xc, ss, vr is, vr ds, uu, uu, uu] [(.ref a)]) := by
  intro tQ kk
  refine k0 tQ ?_
  refine XS.aloadN X0.here hx rfl (hH p49_2_0) rfl rfl ?_
  exact kk
 clear k0
 obtain ⟨TJ1, XJ2, eJ3, stJ4⟩ := getF X0 hx hZ hown (host := "") (Or.inl (tw40 hw)) Via.refl e0 S0 (g := (mkF m 1 #[vr a, vd xc, ss, vr is, vr ds, uu, uu, uu] [(.ref a)])) rfl rfl (hH p49_2_1)
 have kJ5 : own_G p e below E0 TJ1 (mkF m 4 #[vr a, vd xc, ss, vr is, vr ds, uu, uu, uu] [(.ref al)]) := fun tQ kk => kJ0 tQ (stJ4 _ kk)
 clear kJ0 stJ4
 obtain ⟨cqJH, kqJI, qaJJ, qbJK, qcJL⟩ := isOf hZ eJ3 E1
 obtain ⟨_, _, ⟨TJ6, LJ7, kcJ8, ncJ9⟩, -, XJA, ⟨LcJB, hQJC, lJD, yJE, zJF⟩, stJG⟩ := XJ2.interfaceBack hx (xi := mn154) (y := mn145) hown (mvT hZ (tw176 hw)) (mvT hZ (tw177 hw)) (mvT hZ (tw178 hw)) (mvT hZ (tw179 hw)) (mvT hZ (tw180 hw)) (mvT hZ (tw181 hw)) (mvT hZ (tw182 hw)) (mvT hZ (tw183 hw)) (by decide) (backOf (W := 0) (rmSz0 l Z a0 hw [] al h0 n0 Z0 L2) hZ (tw184 hw) (tw18 hw) (by decide) (by decide)) qaJJ qbJK qcJL (g := (mkF m 4 #[vr a, vd xc, ss, vr is, vr ds, uu, uu, uu] [(.ref al)])) rfl (by rw [hml]; rfl) (Steps.refl _) (argsL := []) (rest := []) (lenOf pd_153 rfl) rfl (by show 2 * 0 + _ ≤ _; exact Nat.le_of_eq rfl) (hH p49_2_4) (fun _ _ => ⟨rfl, eJ3, (by decide : 0 + 0 ≤ _), (by decide : 0 + 0 ≤ _)⟩)
 dsimp only [Pt.U, Pt.locs, Pt.cells, Pt.slots] at XJA lJD yJE zJF stJG hQJC
 subst yJE zJF
 obtain ⟨rfl, NJM, eJN⟩ := hQJC
 have NJP : Fr n0 LJ7 := by rw [lJD]; exact Fr.app N0 NJM
 clear lJD NJM
 have kJQ : own_G p e below E0 TJ6 (mkF m 9 #[vr a, vd xc, ss, vr is, vr ds, uu, uu, uu] [(.int (0 : Int32))]) := fun tQ kk => kJ5 tQ (stJG.trans kk)
 clear kJ5 stJG
 let zz1 : Array Slot := #[vr a, vd xc, ss, vr is, vr ds, vi (0 : Int32), uu, uu]
 have kJR : own_G p e below E0 TJ6 (mkF m 11 zz1 []) := by
  intro tQ kk
  refine kJQ tQ ?_
  refine XS.istore XJA.here hx rfl (hH p49_2_9) rfl (l' := zz1) rfl ?_
  exact kk
 clear kJQ
 obtain ⟨TJS, hJT, XJU, eJV, EJW, AJX, DJY, UnK2, stJZ⟩ := newO XJA hx hZ hown (tw187 hw) (tw188 hw) (tw189 hw) eJN (g := (mkF m 11 zz1 [])) rfl (hH p49_2_11) (by decide) (by decide)
 obtain ⟨aK0, gK1⟩ : ∃ zA : Nat, zA = h0.size := ⟨_, rfl⟩
 rw [← gK1] at AJX DJY stJZ UnK2
 have nK3 := own_lt_ne EX.lt gK1
 have nK4 := own_lt_ne E1.lt gK1
 have nK5 := own_lt_ne AE.lt gK1
 have nK6 := own_lt_ne A1.lt gK1
 have nK7 := own_lt_ne A2.lt gK1
 have nK8 := own_lt_ne A3.lt gK1
 have nK9 := own_lt_ne A4.lt gK1
 have nwKA : h0.size ≤ aK0 := own_ge_of K0.1 gK1
 have geKB : n0 ≤ aK0 := own_ge_of Z0 gK1
 replace Z0 := Nat.le_trans Z0 EJW.1
 replace EX := EX.ext EJW
 replace S0 := S0.ext EJW
 replace S1 := S1.ext EJW
 replace S2 := S2.ext EJW
 replace S3 := S3.ext EJW
 replace S4 := S4.ext EJW
 replace S5 := S5.ext EJW
 replace S6 := S6.ext EJW
 replace S7 := S7.ext EJW
 replace E1 := E1.ext EJW
 replace L1 := L1.ext EJW
 replace L2 := L2.ext EJW
 replace L3 := L3.ext EJW
 replace O1 := O1.ext EJW
 replace AE := AE.ext EJW
 replace A1 := A1.ext EJW
 replace A2 := A2.ext EJW
 replace A3 := A3.ext EJW
 replace A4 := A4.ext EJW
 replace K0 := K0.ext EJW
 have UnKC : Unt hJT aK0 := UnK2
 have FKD : Fld Z hJT aK0 "com/example/netloom/netloom/embed/SparseColumn" "rows" "[I" .null := (DJY (Or.inl (tw195 hw)) (ty := (.array .int)) (by decide))
 have FKE : Fld Z hJT aK0 "com/example/netloom/netloom/embed/SparseColumn" "values" "[D" .null := (DJY (Or.inl (tw197 hw)) (ty := (.array .double)) (by decide))
 have FKF : Fld Z hJT aK0 "com/example/netloom/netloom/embed/SparseColumn" "size" "I" (.int (0 : Int32)) := (DJY (Or.inl (tw284 hw)) (ty := .int) (by decide))
 have kKG : own_G p e below E0 TJS (mkF m 14 zz1 [(.ref aK0)]) := fun tQ kk => kJR tQ (stJZ _ kk)
 clear kJR stJZ
 have kKH : own_G p e below E0 TJS (mkF m 15 zz1 [(.ref aK0), (.ref aK0)]) := by
  intro tQ kk
  refine kKG tQ ?_
  refine XS.dup XJU.here hx rfl (hH p49_2_14) rfl rfl ?_
  exact kk
 clear kKG
 obtain ⟨_, _, ⟨TKI, LKJ, kcKK, ncKL⟩, -, XKM, ⟨LcKN, hQKO, lKP, yKQ, zKR⟩, stKS⟩ := XJU.specialBack hx (y := mn124) rfl hown (mvT hZ (tw190 hw)) (mvT hZ (tw191 hw)) (mvT hZ (tw192 hw)) (by decide) (backOf (W := 1) (rmSc l Z a0 hw [] aK0 hJT n0 Z0 AJX FKD FKE FKF geKB) hZ (tw192 hw) (tw189 hw) (by decide) (by decide)) (g := (mkF m 15 zz1 [(.ref aK0), (.ref aK0)])) rfl (by rw [hml]; rfl) (Steps.refl _) (a := aK0) (argsL := []) (rest := [(.ref aK0)]) (lenOf pd_8 rfl) rfl (by show 2 * 0 + _ ≤ _; exact Nat.le_of_eq rfl) (hH p49_2_15) (fun _ _ => ⟨rfl, eJV, (by decide : 1 + 2 ≤ _), (by decide : 3 + 8 ≤ _)⟩)
 dsimp only [Pt.U, Pt.locs, Pt.cells, Pt.slots] at XKM lKP yKQ zKR stKS hQKO
 subst yKQ zKR
 obtain ⟨r1KW, r2KX, rfl, NKT, KKY, gKZ, gL0, gL1, gL2, gL3, nwL4, nwL5, nL6⟩ := hQKO
 have NL7 : Fr n0 LKJ := by rw [lKP]; exact Fr.app NJP NKT
 clear lKP NKT
 have geL8 : n0 ≤ r1KW := Nat.le_trans Z0 nwL4
 have nwL9 : h0.size ≤ r1KW := Nat.le_trans K0.1 nwL4
 have nLA : a ≠ r1KW := own_lt_ne2 EX.lt nwL4
 have nLB : al ≠ r1KW := own_lt_ne2 E1.lt nwL4
 have nLC : dE ≠ r1KW := own_lt_ne2 AE.lt nwL4
 have nLD : cA ≠ r1KW := own_lt_ne2 A1.lt nwL4
 have nLE : pA ≠ r1KW := own_lt_ne2 A2.lt nwL4
 have nLF : is ≠ r1KW := own_lt_ne2 A3.lt nwL4
 have nLG : ds ≠ r1KW := own_lt_ne2 A4.lt nwL4
 have nLH : aK0 ≠ r1KW := own_lt_ne2 AJX.lt nwL4
 have geLI : n0 ≤ r2KX := Nat.le_trans Z0 nwL5
 have nwLJ : h0.size ≤ r2KX := Nat.le_trans K0.1 nwL5
 have nLK : a ≠ r2KX := own_lt_ne2 EX.lt nwL5
 have nLL : al ≠ r2KX := own_lt_ne2 E1.lt nwL5
 have nLM : dE ≠ r2KX := own_lt_ne2 AE.lt nwL5
 have nLN : cA ≠ r2KX := own_lt_ne2 A1.lt nwL5
 have nLO : pA ≠ r2KX := own_lt_ne2 A2.lt nwL5
 have nLP : is ≠ r2KX := own_lt_ne2 A3.lt nwL5
 have nLQ : ds ≠ r2KX := own_lt_ne2 A4.lt nwL5
 have nLR : aK0 ≠ r2KX := own_lt_ne2 AJX.lt nwL5
 replace Z0 := Nat.le_trans Z0 KKY.1
 replace EX := EX.keep KKY
 replace S0 := S0.keep KKY (ninS nK3 nin0)
 replace S1 := S1.keep KKY (ninS nK3 nin0)
 replace S2 := S2.keep KKY (ninS nK3 nin0)
 replace S3 := S3.keep KKY (ninS nK3 nin0)
 replace S4 := S4.keep KKY (ninS nK3 nin0)
 replace S5 := S5.keep KKY (ninS nK3 nin0)
 replace S6 := S6.keep KKY (ninS nK3 nin0)
 replace S7 := S7.keep KKY (ninS nK3 nin0)
 replace E1 := E1.keep KKY
 replace L1 := L1.keep KKY (ninS nK4 nin0)
 replace L2 := L2.keep KKY (ninS nK4 nin0)
 replace L3 := L3.keep KKY (ninS nK4 nin0)
 replace O1 := O1.keep KKY (allS geKB all0)
 replace AE := AE.keep KKY (ninS nK5 nin0)
 replace A1 := A1.keep KKY (ninS nK6 nin0)
 replace A2 := A2.keep KKY (ninS nK7 nin0)
 replace A3 := A3.keep KKY (ninS nK8 nin0)
 replace A4 := A4.keep KKY (ninS nK9 nin0)
 replace AJX := AJX.keep KKY
 clear UnKC
 clear FKD
 clear FKE
 clear FKF
 replace K0 := K0.trans KKY (allS (Or.inr nwKA) all0)
 have kLS : own_G p e below E0 TKI (mkF m 18 zz1 [(.ref aK0)]) := fun tQ kk => kKH tQ (stKS.trans kk)
 clear kKH stKS
 let zz2 : Array Slot := #[vr a, vd xc, ss, vr is, vr ds, vi (0 : Int32), vr aK0, vi (0 : Int32)]
 have kLT : own_G p e below E0 TKI (mkF m 26 zz2 [(.ref is), (.int (0 : Int32))]) := by
  intro tQ kk
  refine kLS tQ ?_
  refine XS.astore XKM.here hx rfl (hH p49_2_18) rfl rfl (l' := #[vr a, vd xc, ss, vr is, vr ds, vi (0 : Int32), vr aK0, uu]) rfl ?_
  refine XS.iconst XKM.here hx rfl (hH p49_2_20) ?_
  refine XS.istore XKM.here hx rfl (hH p49_2_21) rfl (l' := zz2) rfl ?_
  refine XS.iload XKM.here hx rfl (hH p49_2_23) rfl ?_
  refine XS.aloadN XKM.here hx rfl (hH p49_2_25) rfl rfl ?_
  exact kk
 clear kLS
 have stLU := fun tQ => own_A.len XKM hx hZ rfl A3 (g := (mkF m 26 zz2 [(.ref is), (.int (0 : Int32))])) rfl rfl (hH p49_2_26) tQ
 have kLV : own_G p e below E0 TKI (mkF m 27 zz2 [(.int (0 : Int32)), (.int (0 : Int32))]) := fun tQ kk => kLT tQ (stLU _ kk)
 clear kLT stLU
 have kLW : own_G p e below E0 TKI (mkF m 51 zz2 [(.ref a)]) := by
  intro tQ kk
  refine kLV tQ ?_
  refine XS.icmpYes XKM.here hx rfl (pc0 := 27) (pc' := 50) rfl (hH p49_2_27) rfl (own_ic_geY (by decide)) (by decide) (by decide) ?_
  refine XS.aloadN XKM.here hx rfl (hH p49_2_50) rfl rfl ?_
  exact kk
 clear kLV
 obtain ⟨TLX, XLY, eLZ, stM0⟩ := getF XKM hx hZ hown (host := "") (Or.inl (tw40 hw)) Via.refl rfl S0 (g := (mkF m 51 zz2 [(.ref a)])) rfl rfl (hH p49_2_51)
 have kM1 : own_G p e below E0 TLX (mkF m 54 zz2 [(.ref al)]) := fun tQ kk => kLW tQ (stM0 _ kk)
 clear kLW stM0
 have kM2 : own_G p e below E0 TLX (mkF m 56 zz2 [(.ref aK0), (.ref al)]) := by
  intro tQ kk
  refine kM1 tQ ?_
  refine XS.aload XLY.here hx rfl (hH p49_2_54) rfl rfl ?_
  exact kk
 clear kM1
 obtain ⟨cqME, kqMF, qaMG, qbMH, qcMI⟩ := isOf hZ eLZ E1
 obtain ⟨_, _, ⟨TM3, LM4, kcM5, ncM6⟩, -, XM7, ⟨LcM8, hQM9, lMA, yMB, zMC⟩, stMD⟩ := XLY.interfaceBack hx (xi := mn156) (y := mn143) hown (mvT hZ (tw198 hw)) (mvT hZ (tw199 hw)) (mvT hZ (tw200 hw)) (mvT hZ (tw201 hw)) (mvT hZ (tw202 hw)) (mvT hZ (tw203 hw)) (mvT hZ (tw204 hw)) (mvT hZ (tw183 hw)) (by decide) (backOf (W := 0) (rmAd0 l Z a0 hw [] al aK0 dE TKI.heap n0 Z0 O1 E1 L1 L2 L3 AE AJX q_al_dE nK4 ge_al oD) hZ (tw205 hw) (tw18 hw) (by decide) (by decide)) qaMG qbMH qcMI (g := (mkF m 56 zz2 [(.ref aK0), (.ref al)])) rfl (by rw [hml]; rfl) (Steps.refl _) (argsL := [(.ref aK0)]) (rest := []) (lenOf pd_155 rfl) rfl (by show 2 * 0 + _ ≤ _; exact Nat.le_of_eq rfl) (hH p49_2_56) (fun _ _ => ⟨rfl, eLZ, (by decide : 3 + 1 ≤ _), (by decide : 11 + 10 ≤ _)⟩)
 dsimp only [Pt.U, Pt.locs, Pt.cells, Pt.slots] at XM7 lMA yMB zMC stMD hQM9
 subst yMB zMC
 obtain ⟨rMM, rfl, NMJ, KMN, gMO, gMP, gMQ, gMR, nwMS⟩ := hQM9
 have NMT : Fr n0 LM4 := by rw [lMA]; exact Fr.app NL7 NMJ
 clear lMA NMJ
 have geMU : n0 ≤ rMM := Nat.le_trans Z0 nwMS
 have nwMV : h0.size ≤ rMM := Nat.le_trans K0.1 nwMS
 have nMW : a ≠ rMM := own_lt_ne2 EX.lt nwMS
 have nMX : al ≠ rMM := own_lt_ne2 E1.lt nwMS
 have nMY : dE ≠ rMM := own_lt_ne2 AE.lt nwMS
 have nMZ : cA ≠ rMM := own_lt_ne2 A1.lt nwMS
 have nN0 : pA ≠ rMM := own_lt_ne2 A2.lt nwMS
 have nN1 : is ≠ rMM := own_lt_ne2 A3.lt nwMS
 have nN2 : ds ≠ rMM := own_lt_ne2 A4.lt nwMS
 have nN3 : aK0 ≠ rMM := own_lt_ne2 AJX.lt nwMS
 have nN4 : r1KW ≠ rMM := own_lt_ne2 gL2.lt nwMS
 have nN5 : r2KX ≠ rMM := own_lt_ne2 gL3.lt nwMS
 replace Z0 := Nat.le_trans Z0 KMN.1
 replace EX := EX.keep KMN
 replace S0 := S0.keep KMN (ninS q_a_al nin0)
 replace S1 := S1.keep KMN (ninS q_a_al nin0)
 replace S2 := S2.keep KMN (ninS q_a_al nin0)
 replace S3 := S3.keep KMN (ninS q_a_al nin0)
 replace S4 := S4.keep KMN (ninS q_a_al nin0)
 replace S5 := S5.keep KMN (ninS q_a_al nin0)
 replace S6 := S6.keep KMN (ninS q_a_al nin0)
 replace S7 := S7.keep KMN (ninS q_a_al nin0)
 replace E1 := E1.keep KMN
 clear L1
 clear L2
 clear L3
 replace O1 := O1.keep KMN (allS ge_al all0)
 replace AE := AE.keep KMN (ninS (fun q => q_al_dE q.symm) nin0)
 replace A1 := A1.keep KMN (ninS (fun q => q_al_cA q.symm) nin0)
 replace A2 := A2.keep KMN (ninS (fun q => q_al_pA q.symm) nin0)
 replace A3 := A3.keep KMN (ninS (fun q => q_al_is q.symm) nin0)
 replace A4 := A4.keep KMN (ninS (fun q => q_al_ds q.symm) nin0)
 replace AJX := AJX.keep KMN
 replace gKZ := gKZ.keep KMN (ninS (Ne.symm nK4) nin0)
 replace gL0 := gL0.keep KMN (ninS (Ne.symm nK4) nin0)
 replace gL1 := gL1.keep KMN (ninS (Ne.symm nK4) nin0)
 replace gL2 := gL2.keep KMN (ninS (Ne.symm nLB) nin0)
 replace gL3 := gL3.keep KMN (ninS (Ne.symm nLL) nin0)
 replace K0 := K0.trans KMN (allS (Or.inl (List.mem_of_getElem? (i := 1) rfl)) all0)
 have kN6 : own_G p e below E0 TM3 (mkF m 61 zz2 [(.int (1 : Int32))]) := fun tQ kk => kM2 tQ (stMD.trans kk)
 clear kM2 stMD
 have kN7 : own_G p e below E0 TM3 (mkF m 64 zz2 [(.ref a), (.ref a)]) := by
  intro tQ kk
  refine kN6 tQ ?_
  refine XT.pop XM7.here hx rfl (hH p49_2_61) rfl rfl ?_
  refine XS.aloadN XM7.here hx rfl (hH p49_2_62) rfl rfl ?_
  refine XS.aloadN XM7.here hx rfl (hH p49_2_63) rfl rfl ?_
  exact kk
 clear kN6
 obtain ⟨TN8, XN9, eNA, stNB⟩ := getF XM7 hx hZ hown (host := "") (Or.inl (tw42 hw)) Via.refl rfl S1 (g := (mkF m 64 zz2 [(.ref a), (.ref a)])) rfl rfl (hH p49_2_64)
 have kNC : own_G p e below E0 TN8 (mkF m 67 zz2 [(.ref cA), (.ref a)]) := fun tQ kk => kN7 tQ (stNB _ kk)
 clear kN7 stNB
 have kND : own_G p e below E0 TN8 (mkF m 71 zz2 [(.int (1 : Int32)), (.ref cA), (.ref a)]) := by
  intro tQ kk
  refine kNC tQ ?_
  refine XS.iload XN9.here hx rfl (hH p49_2_67) rfl ?_
  refine XS.iconst XN9.here hx rfl (hH p49_2_69) ?_
  refine XS.iadd XN9.here hx rfl (hH p49_2_70) rfl ?_
  exact kk
 clear kNC
 obtain ⟨_, _, ⟨TNE, LNF, kcNG, ncNH⟩, -, XNI, ⟨LcNJ, hQNK, lNL, yNM, zNN⟩, stNO⟩ := Jvm.LawKit.callS XN9 hx (y := mn118) hown (mvT hZ (tw230 hw)) (mvT hZ (tw231 hw)) (mvT hZ (tw232 hw)) (mvT hZ (tw233 hw)) (by decide) (backOf (W := 1) (rmGd l Z a0 hw [] cA (1 : Int32) cv TM3.heap n0 Z0 A1 (by rw [lc]; decide)) hZ (tw233 hw) (tw232 hw) (by decide) (by decide)) (g := (mkF m 71 zz2 [(.int (1 : Int32)), (.ref cA), (.ref a)])) rfl (by rw [hml]; rfl) (argsL := [(.ref cA), (.int (1 : Int32))]) (rest := [(.ref a)]) (lenOf pd_157 rfl) rfl (by show 2 * 0 + _ ≤ _; exact Nat.le_of_eq rfl) (hH p49_2_71) (fun _ _ => ⟨rfl, eNA, (by decide : 4 + 0 ≤ _), (by decide : 21 + 0 ≤ _)⟩)
 dsimp only [Pt.U, Pt.locs, Pt.cells, Pt.slots] at XNI lNL yNM zNN stNO hQNK
 subst yNM zNN
 obtain ⟨rfl, NNP, eNQ⟩ := hQNK
 have NNS : Fr n0 LNF := by rw [lNL]; exact Fr.app NMT NNP
 clear lNL NNP
 have kNT : own_G p e below E0 TNE (mkF m 74 zz2 [(.ref cA), (.ref a)]) := fun tQ kk => kND tQ (stNO _ kk)
 clear kND stNO
 obtain ⟨TNU, hNV, XNW, eNX, WNY, stNZ⟩ := putF XNI hx hZ hown (host := "") (Or.inl (tw42 hw)) Via.refl eNQ S1 EX (Or.inl (tw43 hw)) (tw8 hw) (ty := (.array .double)) (by decide) rfl rfl (g := (mkF m 74 zz2 [(.ref cA), (.ref a)])) rfl rfl (hH p49_2_74)
 have NP0 := Fr.snoc XNW NNS ge_a
 have kP1 : own_G p e below E0 TNU (mkF m 77 zz2 []) := fun tQ kk => kNT tQ (stNZ _ kk)
 clear kNT stNZ
 replace EX := EX.wr WNY
 replace S0 := S0.other WNY (Or.inr (sn61 hw))
 replace S1 := S1.same WNY
 replace S2 := S2.other WNY (Or.inr (sn62 hw))
 replace S3 := S3.other WNY (Or.inr (sn63 hw))
 replace S4 := S4.other WNY (Or.inr (sn64 hw))
 replace S5 := S5.other WNY (Or.inr (sn65 hw))
 replace S6 := S6.other WNY (Or.inr (sn66 hw))
 replace S7 := S7.other WNY (Or.inr (sn68 hw))
 replace E1 := E1.wr WNY
 replace O1 := O1.wr WNY ge_a
 replace AE := AE.other WNY (fun q => q_a_dE q.symm)
 replace A1 := A1.other WNY (fun q => q_a_cA q.symm)
 replace A2 := A2.other WNY (fun q => q_a_pA q.symm)
 replace A3 := A3.other WNY (fun q => q_a_is q.symm)
 replace A4 := A4.other WNY (fun q => q_a_ds q.symm)
 replace AJX := AJX.wr WNY
 replace gKZ := gKZ.other WNY (Or.inl (Ne.symm nK3))
 replace gL0 := gL0.other WNY (Or.inl (Ne.symm nK3))
 replace gL1 := gL1.other WNY (Or.inl (Ne.symm nK3))
 replace gL2 := gL2.other WNY (Ne.symm nLA)
 replace gL3 := gL3.other WNY (Ne.symm nLK)
 replace gMO := gMO.other WNY (Or.inl (fun q => q_a_al q.symm))
 replace gMP := gMP.other WNY (Or.inl (fun q => q_a_al q.symm))
 replace gMQ := gMQ.other WNY (Or.inl (fun q => q_a_al q.symm))
 replace gMR := gMR.other WNY (Ne.symm nMW)
 replace Z0 := own_wrle WNY Z0
 replace K0 := K0.wr WNY (Or.inl (List.mem_of_getElem? (i := 0) rfl))
 have kP2 : own_G p e below E0 TNU (mkF m 78 zz2 [(.ref a)]) := by
  intro tQ kk
  refine kP1 tQ ?_
  refine XS.aloadN XNW.here hx rfl (hH p49_2_77) rfl rfl ?_
  exact kk
 clear kP1
 obtain ⟨TP3, XP4, eP5, stP6⟩ := getF XNW hx hZ hown (host := "") (Or.inl (tw42 hw)) Via.refl eNX S1 (g := (mkF m 78 zz2 [(.ref a)])) rfl rfl (hH p49_2_78)
 have kP7 : own_G p e below E0 TP3 (mkF m 81 zz2 [(.ref cA)]) := fun tQ kk => kP2 tQ (stP6 _ kk)
 clear kP2 stP6
 have kP8 : own_G p e below E0 TP3 (mkF m 84 zz2 [(.double xc), (.int (0 : Int32)), (.ref cA)]) := by
  intro tQ kk
  refine kP7 tQ ?_
  refine XS.iload XP4.here hx rfl (hH p49_2_81) rfl ?_
  refine XS.dloadN XP4.here hx rfl (hH p49_2_83) rfl ?_
  exact kk
 clear kP7
 obtain ⟨TP9, hPA, XPB, ePC, WPD, FPE, stPF⟩ := own_A.dst XP4 hx hZ eP5 A1 (j := (0 : Int32)) (by decide) (List.getElem?_eq_getElem (by rw [lc]; decide)) (g := (mkF m 84 zz2 [(.double xc), (.int (0 : Int32)), (.ref cA)])) rfl rfl (hH p49_2_84)
 have NPG := Fr.snoc XPB NP0 ge_cA
 have kPH : own_G p e below E0 TP9 (mkF m 85 zz2 []) := fun tQ kk => kP8 tQ (stPF _ kk)
 clear kP8 stPF
 replace EX := EX.wr WPD
 replace S0 := S0.other WPD (Or.inl q_a_cA)
 replace S1 := S1.other WPD (Or.inl q_a_cA)
 replace S2 := S2.other WPD (Or.inl q_a_cA)
 replace S3 := S3.other WPD (Or.inl q_a_cA)
 replace S4 := S4.other WPD (Or.inl q_a_cA)
 replace S5 := S5.other WPD (Or.inl q_a_cA)
 replace S6 := S6.other WPD (Or.inl q_a_cA)
 replace S7 := S7.other WPD (Or.inl q_a_cA)
 replace E1 := E1.wr WPD
 replace O1 := O1.wr WPD ge_cA
 replace AE := AE.other WPD (fun q => q_cA_dE q.symm)
 replace A2 := A2.other WPD (fun q => q_cA_pA q.symm)
 replace A3 := A3.other WPD (fun q => q_cA_is q.symm)
 replace A4 := A4.other WPD (fun q => q_cA_ds q.symm)
 replace AJX := AJX.wr WPD
 replace gKZ := gKZ.other WPD (Or.inl (Ne.symm nK6))
 replace gL0 := gL0.other WPD (Or.inl (Ne.symm nK6))
 replace gL1 := gL1.other WPD (Or.inl (Ne.symm nK6))
 replace gL2 := gL2.other WPD (Ne.symm nLD)
 replace gL3 := gL3.other WPD (Ne.symm nLN)
 replace gMO := gMO.other WPD (Or.inl q_al_cA)
 replace gMP := gMP.other WPD (Or.inl q_al_cA)
 replace gMQ := gMQ.other WPD (Or.inl q_al_cA)
 replace gMR := gMR.other WPD (Ne.symm nMZ)
 replace Z0 := own_wrle WPD Z0
 replace K0 := K0.wr WPD (Or.inl (List.mem_of_getElem? (i := 2) rfl))
 have FPI : own_A Z hPA cA .double (cv.set ((0 : Int32)).toNatClampNeg (.double xc)) := FPE
 have kPJ : own_G p e below E0 TP9 (mkF m 87 zz2 [(.ref a), (.ref a)]) := by
  intro tQ kk
  refine kPH tQ ?_
  refine XS.aloadN XPB.here hx rfl (hH p49_2_85) rfl rfl ?_
  refine XS.aloadN XPB.here hx rfl (hH p49_2_86) rfl rfl ?_
  exact kk
 clear kPH
 obtain ⟨TPK, XPL, ePM, stPN⟩ := getF XPB hx hZ hown (host := "") (Or.inl (tw48 hw)) Via.refl ePC S4 (g := (mkF m 87 zz2 [(.ref a), (.ref a)])) rfl rfl (hH p49_2_87)
 have kPO : own_G p e below E0 TPK (mkF m 90 zz2 [(.ref pA), (.ref a)]) := fun tQ kk => kPJ tQ (stPN _ kk)
 clear kPJ stPN
 have kPP : own_G p e below E0 TPK (mkF m 94 zz2 [(.int (1 : Int32)), (.ref pA), (.ref a)]) := by
  intro tQ kk
  refine kPO tQ ?_
  refine XS.iload XPL.here hx rfl (hH p49_2_90) rfl ?_
  refine XS.iconst XPL.here hx rfl (hH p49_2_92) ?_
  refine XS.iadd XPL.here hx rfl (hH p49_2_93) rfl ?_
  exact kk
 clear kPO
 obtain ⟨_, _, ⟨TPQ, LPR, kcPS, ncPT⟩, -, XPU, ⟨LcPV, hQPW, lPX, yPY, zPZ⟩, stQ0⟩ := Jvm.LawKit.callS XPL hx (y := mn119) hown (mvT hZ (tw234 hw)) (mvT hZ (tw235 hw)) (mvT hZ (tw232 hw)) (mvT hZ (tw236 hw)) (by decide) (backOf (W := 1) (rmGi l Z a0 hw [] pA (1 : Int32) pv hPA n0 Z0 A2 (by rw [lp]; decide)) hZ (tw236 hw) (tw232 hw) (by decide) (by decide)) (g := (mkF m 94 zz2 [(.int (1 : Int32)), (.ref pA), (.ref a)])) rfl (by rw [hml]; rfl) (argsL := [(.ref pA), (.int (1 : Int32))]) (rest := [(.ref a)]) (lenOf pd_158 rfl) rfl (by show 2 * 0 + _ ≤ _; exact Nat.le_of_eq rfl) (hH p49_2_94) (fun _ _ => ⟨rfl, ePM, (by decide : 4 + 0 ≤ _), (by decide : 21 + 0 ≤ _)⟩)
 dsimp only [Pt.U, Pt.locs, Pt.cells, Pt.slots] at XPU lPX yPY zPZ stQ0 hQPW
 subst yPY zPZ
 obtain ⟨rfl, NQ1, eQ2⟩ := hQPW
 have NQ4 : Fr n0 LPR := by rw [lPX]; exact Fr.app NPG NQ1
 clear lPX NQ1
 have kQ5 : own_G p e below E0 TPQ (mkF m 97 zz2 [(.ref pA), (.ref a)]) := fun tQ kk => kPP tQ (stQ0 _ kk)
 clear kPP stQ0
 obtain ⟨TQ6, hQ7, XQ8, eQ9, WQA, stQB⟩ := putF XPU hx hZ hown (host := "") (Or.inl (tw48 hw)) Via.refl eQ2 S4 EX (Or.inl (tw49 hw)) (tw8 hw) (ty := (.array .int)) (by decide) rfl rfl (g := (mkF m 97 zz2 [(.ref pA), (.ref a)])) rfl rfl (hH p49_2_97)
 have NQC := Fr.snoc XQ8 NQ4 ge_a
 have kQD : own_G p e below E0 TQ6 (mkF m 100 zz2 []) := fun tQ kk => kQ5 tQ (stQB _ kk)
 clear kQ5 stQB
 replace EX := EX.wr WQA
 replace S0 := S0.other WQA (Or.inr (sn85 hw))
 replace S1 := S1.other WQA (Or.inr (sn86 hw))
 replace S2 := S2.other WQA (Or.inr (sn87 hw))
 replace S3 := S3.other WQA (Or.inr (sn88 hw))
 replace S4 := S4.same WQA
 replace S5 := S5.other WQA (Or.inr (sn89 hw))
 replace S6 := S6.other WQA (Or.inr (sn90 hw))
 replace S7 := S7.other WQA (Or.inr (sn92 hw))
 replace E1 := E1.wr WQA
 replace O1 := O1.wr WQA ge_a
 replace AE := AE.other WQA (fun q => q_a_dE q.symm)
 replace A2 := A2.other WQA (fun q => q_a_pA q.symm)
 replace A3 := A3.other WQA (fun q => q_a_is q.symm)
 replace A4 := A4.other WQA (fun q => q_a_ds q.symm)
 replace AJX := AJX.wr WQA
 replace gKZ := gKZ.other WQA (Or.inl (Ne.symm nK3))
 replace gL0 := gL0.other WQA (Or.inl (Ne.symm nK3))
 replace gL1 := gL1.other WQA (Or.inl (Ne.symm nK3))
 replace gL2 := gL2.other WQA (Ne.symm nLA)
 replace gL3 := gL3.other WQA (Ne.symm nLK)
 replace gMO := gMO.other WQA (Or.inl (fun q => q_a_al q.symm))
 replace gMP := gMP.other WQA (Or.inl (fun q => q_a_al q.symm))
 replace gMQ := gMQ.other WQA (Or.inl (fun q => q_a_al q.symm))
 replace gMR := gMR.other WQA (Ne.symm nMW)
 replace FPI := FPI.other WQA (fun q => q_a_cA q.symm)
 replace Z0 := own_wrle WQA Z0
 replace K0 := K0.wr WQA (Or.inl (List.mem_of_getElem? (i := 0) rfl))
 have kQE : own_G p e below E0 TQ6 (mkF m 101 zz2 [(.ref a)]) := by
  intro tQ kk
  refine kQD tQ ?_
  refine XS.aloadN XQ8.here hx rfl (hH p49_2_100) rfl rfl ?_
  exact kk
 clear kQD
 obtain ⟨TQF, XQG, eQH, stQI⟩ := getF XQ8 hx hZ hown (host := "") (Or.inl (tw48 hw)) Via.refl eQ9 S4 (g := (mkF m 101 zz2 [(.ref a)])) rfl rfl (hH p49_2_101)
 have kQJ : own_G p e below E0 TQF (mkF m 104 zz2 [(.ref pA)]) := fun tQ kk => kQE tQ (stQI _ kk)
 clear kQE stQI
 have kQK : own_G p e below E0 TQF (mkF m 107 zz2 [(.int (-1 : Int32)), (.int (0 : Int32)), (.ref pA)]) := by
  intro tQ kk
  refine kQJ tQ ?_
  refine XS.iload XQG.here hx rfl (hH p49_2_104) rfl ?_
  refine XS.iconst XQG.here hx rfl (hH p49_2_106) ?_
  exact kk
 clear kQJ
 obtain ⟨TQL, hQM, XQN, eQO, WQP, FQQ, stQR⟩ := own_A.ist XQG hx hZ eQH A2 (j := (0 : Int32)) (by decide) (List.getElem?_eq_getElem (by rw [lp]; decide)) (g := (mkF m 107 zz2 [(.int (-1 : Int32)), (.int (0 : Int32)), (.ref pA)])) rfl rfl (hH p49_2_107)
 have NQS := Fr.snoc XQN NQC ge_pA
 have kQT : own_G p e below E0 TQL (mkF m 108 zz2 []) := fun tQ kk => kQK tQ (stQR _ kk)
 clear kQK stQR
 replace EX := EX.wr WQP
 replace S0 := S0.other WQP (Or.inl q_a_pA)
 replace S1 := S1.other WQP (Or.inl q_a_pA)
 replace S2 := S2.other WQP (Or.inl q_a_pA)
 replace S3 := S3.other WQP (Or.inl q_a_pA)
 replace S4 := S4.other WQP (Or.inl q_a_pA)
 replace S5 := S5.other WQP (Or.inl q_a_pA)
 replace S6 := S6.other WQP (Or.inl q_a_pA)
 replace S7 := S7.other WQP (Or.inl q_a_pA)
 replace E1 := E1.wr WQP
 replace O1 := O1.wr WQP ge_pA
 replace AE := AE.other WQP (fun q => q_pA_dE q.symm)
 replace A3 := A3.other WQP (fun q => q_pA_is q.symm)
 replace A4 := A4.other WQP (fun q => q_pA_ds q.symm)
 replace AJX := AJX.wr WQP
 replace gKZ := gKZ.other WQP (Or.inl (Ne.symm nK7))
 replace gL0 := gL0.other WQP (Or.inl (Ne.symm nK7))
 replace gL1 := gL1.other WQP (Or.inl (Ne.symm nK7))
 replace gL2 := gL2.other WQP (Ne.symm nLE)
 replace gL3 := gL3.other WQP (Ne.symm nLO)
 replace gMO := gMO.other WQP (Or.inl q_al_pA)
 replace gMP := gMP.other WQP (Or.inl q_al_pA)
 replace gMQ := gMQ.other WQP (Or.inl q_al_pA)
 replace gMR := gMR.other WQP (Ne.symm nN0)
 replace FPI := FPI.other WQP q_cA_pA
 replace Z0 := own_wrle WQP Z0
 replace K0 := K0.wr WQP (Or.inl (List.mem_of_getElem? (i := 3) rfl))
 have FQU : own_A Z hQM pA .int (pv.set ((0 : Int32)).toNatClampNeg (.int (-1 : Int32))) := FQQ
 have kQV : own_G p e below E0 TQL (mkF m 110 zz2 [(.int (0 : Int32))]) := by
  intro tQ kk
  refine kQT tQ ?_
  refine XS.iload XQN.here hx rfl (hH p49_2_108) rfl ?_
  exact kk
 clear kQT
 obtain ⟨fs, hr, hrun, hended, hW, hsame⟩ := XQN.leave (v := some (.int (0 : Int32))) (fun h => by rw [Bd.returns] at h; cases h)
 have hrun0 := kQV _ (retOut XQN hx Bd.returns (t := .int) rfl (Or.inl ⟨rfl, Or.inl rfl, _, rfl⟩) (hH p49_2_110) hr)
 subst hE0
 refine ⟨_, _, hrun0, hrun, hended, _, _, rfl, ?_, ⟨_, rfl⟩, hW, hsame.mono (by decide) (by decide)⟩
 show QrmCo0 Z a is ds al cA ro ba pA fa va dE cv pv xc h0 n0 _ TQL.heap _
 rw [eQO]
 exact ⟨rMM, aK0, r1KW, r2KX, rfl, NQS, K0, S0, S1, S2, S3, S4, S5, S6, S7, gMO, gMP, gMQ, gMR, FPI, FQU, AJX, gKZ, gL0, gL1, gL2, gL3, nwMV, nwKA, nwL9, nwLJ, (Ne.symm nN3), (Ne.symm nN4), (Ne.symm nN5), nLH, nLR, nL6⟩
def QrmCo1 (Z : State) (a : Addr) (is : Addr) (ds : Addr) (al : Addr) (cA : Addr) (ro : Addr) (ba : Addr) (pA : Addr) (fa : Addr) (va : Addr) (r : Addr) (x0 : Addr) (cv : List Value) (pv : List Value) (xc : UInt64) (h0 : Heap) (n0 : Nat) (vQ : Option Value) (hQ : Heap) (LQ : List Loc) : Prop := ∃ (sc : Addr), ∃ (r1 : Addr), ∃ (r2 : Addr), vQ = some (.int (1 : Int32)) ∧ Fr n0 LQ ∧ Keep h0 hQ [a, al, cA, pA, r] ∧ (fd41 Z hQ a (.ref al)) ∧ (fd42 Z hQ a (.ref cA)) ∧ (fd43 Z hQ a (.ref ro)) ∧ (fd44 Z hQ a (.ref ba)) ∧ (fd45 Z hQ a (.ref pA)) ∧ (fd46 Z hQ a (.ref fa)) ∧ (fd47 Z hQ a (.ref va)) ∧ (fd48 Z hQ a (.int (0 : Int32))) ∧ (fd30 Z hQ al (.ref r)) ∧ (fd31 Z hQ al (.int (2 : Int32))) ∧ (fd29 Z hQ al (.int (2 : Int32))) ∧ (own_O Z hQ r "java/lang/Object" [(.ref x0), (.ref sc), .null, .null, .null, .null, .null, .null, .null, .null]) ∧ (own_A Z hQ cA .double (cv.set ((1 : Int32)).toNatClampNeg (.double xc))) ∧ (own_A Z hQ pA .int (pv.set ((1 : Int32)).toNatClampNeg (.int (-1 : Int32)))) ∧ (xa123 Z hQ sc) ∧ (fd120 Z hQ sc (.ref r1)) ∧ (fd121 Z hQ sc (.ref r2)) ∧ (fd122 Z hQ sc (.int (0 : Int32))) ∧ (own_A Z hQ r1 .int own_i4) ∧ (own_A Z hQ r2 .double own_d4) ∧ (h0.size ≤ sc) ∧ (h0.size ≤ r1) ∧ (h0.size ≤ r2) ∧ (sc ≠ r1) ∧ (sc ≠ r2) ∧ (r1 ≠ r2)
theorem ef_rmCo1 (m : MethodId) (a : Addr) (is : Addr) (ds : Addr) (al : Addr) (cA : Addr) (ro : Addr) (ba : Addr) (pA : Addr) (fa : Addr) (va : Addr) (r : Addr) (x0 : Addr) (cv : List Value) (pv : List Value) (xc : UInt64) : entryFrame m #[(.ref a), (.double xc), (.ref is), (.ref ds)] 8 = mkF m 0 #[vr a, vd xc, ss, vr is, vr ds, uu, uu, uu] [] := by first | (simp [entryFrame, mkF, argsToLocals, Value.category]; done) | rfl
set_option maxRecDepth 65536 in
set_option maxHeartbeats 40000000 in
theorem rmCo1 (l : Launch) (Z : State) (a0 : Array Value) (hw : ∀ d ∈ tables_1, d.before a0 Z = true) (ws : List Jvm.Cond) (a : Addr) (is : Addr) (ds : Addr) (al : Addr) (cA : Addr) (ro : Addr) (ba : Addr) (pA : Addr) (fa : Addr) (va : Addr) (r : Addr) (x0 : Addr) (cv : List Value) (pv : List Value) (xc : UInt64) (h0 : Heap) (n0 : Nat) (Z0 : n0 ≤ h0.size) (EX : xa49 Z h0 a) (S0 : fd41 Z h0 a (.ref al)) (S1 : fd42 Z h0 a (.ref cA)) (S2 : fd43 Z h0 a (.ref ro)) (S3 : fd44 Z h0 a (.ref ba)) (S4 : fd45 Z h0 a (.ref pA)) (S5 : fd46 Z h0 a (.ref fa)) (S6 : fd47 Z h0 a (.ref va)) (S7 : fd48 Z h0 a (.int (0 : Int32))) (E1 : xa32 Z h0 al) (L1 : fd30 Z h0 al (.ref r)) (L2 : fd31 Z h0 al (.int (1 : Int32))) (L3 : fd29 Z h0 al (.int (1 : Int32))) (AE : own_O Z h0 r "java/lang/Object" [(.ref x0), .null, .null, .null, .null, .null, .null, .null, .null, .null]) (A1 : own_A Z h0 cA .double cv) (A2 : own_A Z h0 pA .int pv) (A3 : own_A Z h0 is .int []) (A4 : own_A Z h0 ds .double []) (q_a_al : a ≠ al) (q_a_cA : a ≠ cA) (q_a_pA : a ≠ pA) (q_a_r : a ≠ r) (q_a_is : a ≠ is) (q_a_ds : a ≠ ds) (q_al_cA : al ≠ cA) (q_al_pA : al ≠ pA) (q_al_r : al ≠ r) (q_al_is : al ≠ is) (q_al_ds : al ≠ ds) (q_cA_pA : cA ≠ pA) (q_cA_r : cA ≠ r) (q_cA_is : cA ≠ is) (q_cA_ds : cA ≠ ds) (q_pA_r : pA ≠ r) (q_pA_is : pA ≠ is) (q_pA_ds : pA ≠ ds) (q_r_is : r ≠ is) (q_r_ds : r ≠ ds) (ge_a : n0 ≤ a) (ge_al : n0 ≤ al) (ge_cA : n0 ≤ cA) (ge_pA : n0 ≤ pA) (ge_r : n0 ≤ r) (lc : cv.length = 16) (lp : pv.length = 16) :
  MetFree l mn152 (head1 (Jvm.Cond.code mn152 prog_49_method_2_code 8 (some .int) :: ws) ({ frames := 6, cells := 3, slots := 11, locals := 90 } : Room)) (fun aA U => aA = #[(.ref a), (.double xc), (.ref is), (.ref ds)] ∧ Z.Warmed39 U.vm ∧ U.heap = h0) (fun _ _ _ _ _ => True) (fun _ U o U' => ∃ vR LR, o = .returned vR ∧ QrmCo1 Z a is ds al cA ro ba pA fa va r x0 cv pv xc h0 n0 vR U'.heap LR ∧ FrameEnd U o U' LR ({ frames := 6, cells := 3, slots := 11, locals := 90 } : Room).cells ({ frames := 6, cells := 3, slots := 11, locals := 90 } : Room).slots) := by
 refine MetFree.of_bodySF (plainFor_of_name pn_com_example_netloom_netloom_embed_Simplex) hisR ?_
 intro p e s m args below meth c s₁ Bd hml0 hPre hKk
 obtain ⟨rfl, hZ, hh⟩ := hPre
 have hx := Bd.exec
 have hby := Bd.bytes
 have hH : ∀ {pc r}, decode prog_49_method_2_code pc = r → decode c.code pc = r := fun q => hb hby q
 have hml : c.maxLocals = 8 := hml0
 have hown : s.vm.findClass "com/example/netloom/netloom/embed/Simplex" = some m.cls := findClass_of_methodNamed Bd.named
 have hnm := (name_of_methodNamed Bd.named Bd.method).1
 have X0 : Stand p l e ({ frames := 6, cells := 3, slots := 11, locals := 90 } : Room) s m #[(.ref a), (.double xc), (.ref is), (.ref ds)] below meth c s₁ [] 0 0 := Stand.of_body Bd
 have e0 : s₁.heap = h0 := by rw [← hh, Bd.state]; rfl
 have N0 := Fr.nil n0
 obtain ⟨E0, hE0⟩ : ∃ zE : State, zE = s₁.setTop (entryFrame m #[(.ref a), (.double xc), (.ref is), (.ref ds)] 8) := ⟨_, rfl⟩
 have k0 : own_G p e below E0 s₁ (mkF m 0 #[vr a, vd xc, ss, vr is, vr ds, uu, uu, uu] []) := fun tz kz => hE0 ▸ castTop (ef_rmCo1 m a is ds al cA ro ba pA fa va r x0 cv pv xc) kz
 have K0 : Keep h0 h0 [a, al, cA, pA, r] := Keep.refl _ _
 have kJ0 : own_G p e below E0 s₁ (mkF m 1 #[vr a, vd xc, ss, vr is, vr ds, uu, uu, uu] [(.ref a)]) := by
  intro tQ kk
  refine k0 tQ ?_
  refine XS.aloadN X0.here hx rfl (hH p49_2_0) rfl rfl ?_
  exact kk
 clear k0
 obtain ⟨TJ1, XJ2, eJ3, stJ4⟩ := getF X0 hx hZ hown (host := "") (Or.inl (tw40 hw)) Via.refl e0 S0 (g := (mkF m 1 #[vr a, vd xc, ss, vr is, vr ds, uu, uu, uu] [(.ref a)])) rfl rfl (hH p49_2_1)
 have kJ5 : own_G p e below E0 TJ1 (mkF m 4 #[vr a, vd xc, ss, vr is, vr ds, uu, uu, uu] [(.ref al)]) := fun tQ kk => kJ0 tQ (stJ4 _ kk)
 clear kJ0 stJ4
 obtain ⟨cqJH, kqJI, qaJJ, qbJK, qcJL⟩ := isOf hZ eJ3 E1
 obtain ⟨_, _, ⟨TJ6, LJ7, kcJ8, ncJ9⟩, -, XJA, ⟨LcJB, hQJC, lJD, yJE, zJF⟩, stJG⟩ := XJ2.interfaceBack hx (xi := mn154) (y := mn145) hown (mvT hZ (tw176 hw)) (mvT hZ (tw177 hw)) (mvT hZ (tw178 hw)) (mvT hZ (tw179 hw)) (mvT hZ (tw180 hw)) (mvT hZ (tw181 hw)) (mvT hZ (tw182 hw)) (mvT hZ (tw183 hw)) (by decide) (backOf (W := 0) (rmSz1 l Z a0 hw [] al h0 n0 Z0 L2) hZ (tw184 hw) (tw18 hw) (by decide) (by decide)) qaJJ qbJK qcJL (g := (mkF m 4 #[vr a, vd xc, ss, vr is, vr ds, uu, uu, uu] [(.ref al)])) rfl (by rw [hml]; rfl) (Steps.refl _) (argsL := []) (rest := []) (lenOf pd_153 rfl) rfl (by show 2 * 0 + _ ≤ _; exact Nat.le_of_eq rfl) (hH p49_2_4) (fun _ _ => ⟨rfl, eJ3, (by decide : 0 + 0 ≤ _), (by decide : 0 + 0 ≤ _)⟩)
 dsimp only [Pt.U, Pt.locs, Pt.cells, Pt.slots] at XJA lJD yJE zJF stJG hQJC
 subst yJE zJF
 obtain ⟨rfl, NJM, eJN⟩ := hQJC
 have NJP : Fr n0 LJ7 := by rw [lJD]; exact Fr.app N0 NJM
 clear lJD NJM
 have kJQ : own_G p e below E0 TJ6 (mkF m 9 #[vr a, vd xc, ss, vr is, vr ds, uu, uu, uu] [(.int (1 : Int32))]) := fun tQ kk => kJ5 tQ (stJG.trans kk)
 clear kJ5 stJG
 let zz3 : Array Slot := #[vr a, vd xc, ss, vr is, vr ds, vi (1 : Int32), uu, uu]
 have kJR : own_G p e below E0 TJ6 (mkF m 11 zz3 []) := by
  intro tQ kk
  refine kJQ tQ ?_
  refine XS.istore XJA.here hx rfl (hH p49_2_9) rfl (l' := zz3) rfl ?_
  exact kk
 clear kJQ
 obtain ⟨TJS, hJT, XJU, eJV, EJW, AJX, DJY, UnK2, stJZ⟩ := newO XJA hx hZ hown (tw187 hw) (tw188 hw) (tw189 hw) eJN (g := (mkF m 11 zz3 [])) rfl (hH p49_2_11) (by decide) (by decide)
 obtain ⟨aK0, gK1⟩ : ∃ zA : Nat, zA = h0.size := ⟨_, rfl⟩
 rw [← gK1] at AJX DJY stJZ UnK2
 have nK3 := own_lt_ne EX.lt gK1
 have nK4 := own_lt_ne E1.lt gK1
 have nK5 := own_lt_ne AE.lt gK1
 have nK6 := own_lt_ne A1.lt gK1
 have nK7 := own_lt_ne A2.lt gK1
 have nK8 := own_lt_ne A3.lt gK1
 have nK9 := own_lt_ne A4.lt gK1
 have nwKA : h0.size ≤ aK0 := own_ge_of K0.1 gK1
 have geKB : n0 ≤ aK0 := own_ge_of Z0 gK1
 replace Z0 := Nat.le_trans Z0 EJW.1
 replace EX := EX.ext EJW
 replace S0 := S0.ext EJW
 replace S1 := S1.ext EJW
 replace S2 := S2.ext EJW
 replace S3 := S3.ext EJW
 replace S4 := S4.ext EJW
 replace S5 := S5.ext EJW
 replace S6 := S6.ext EJW
 replace S7 := S7.ext EJW
 replace E1 := E1.ext EJW
 replace L1 := L1.ext EJW
 replace L2 := L2.ext EJW
 replace L3 := L3.ext EJW
 replace AE := AE.ext EJW
 replace A1 := A1.ext EJW
 replace A2 := A2.ext EJW
 replace A3 := A3.ext EJW
 replace A4 := A4.ext EJW
 replace K0 := K0.ext EJW
 have UnKC : Unt hJT aK0 := UnK2
 have FKD : Fld Z hJT aK0 "com/example/netloom/netloom/embed/SparseColumn" "rows" "[I" .null := (DJY (Or.inl (tw195 hw)) (ty := (.array .int)) (by decide))
 have FKE : Fld Z hJT aK0 "com/example/netloom/netloom/embed/SparseColumn" "values" "[D" .null := (DJY (Or.inl (tw197 hw)) (ty := (.array .double)) (by decide))
 have FKF : Fld Z hJT aK0 "com/example/netloom/netloom/embed/SparseColumn" "size" "I" (.int (0 : Int32)) := (DJY (Or.inl (tw284 hw)) (ty := .int) (by decide))
 have kKG : own_G p e below E0 TJS (mkF m 14 zz3 [(.ref aK0)]) := fun tQ kk => kJR tQ (stJZ _ kk)
 clear kJR stJZ
 have kKH : own_G p e below E0 TJS (mkF m 15 zz3 [(.ref aK0), (.ref aK0)]) := by
  intro tQ kk
  refine kKG tQ ?_
  refine XS.dup XJU.here hx rfl (hH p49_2_14) rfl rfl ?_
  exact kk
 clear kKG
 obtain ⟨_, _, ⟨TKI, LKJ, kcKK, ncKL⟩, -, XKM, ⟨LcKN, hQKO, lKP, yKQ, zKR⟩, stKS⟩ := XJU.specialBack hx (y := mn124) rfl hown (mvT hZ (tw190 hw)) (mvT hZ (tw191 hw)) (mvT hZ (tw192 hw)) (by decide) (backOf (W := 1) (rmSc l Z a0 hw [] aK0 hJT n0 Z0 AJX FKD FKE FKF geKB) hZ (tw192 hw) (tw189 hw) (by decide) (by decide)) (g := (mkF m 15 zz3 [(.ref aK0), (.ref aK0)])) rfl (by rw [hml]; rfl) (Steps.refl _) (a := aK0) (argsL := []) (rest := [(.ref aK0)]) (lenOf pd_8 rfl) rfl (by show 2 * 0 + _ ≤ _; exact Nat.le_of_eq rfl) (hH p49_2_15) (fun _ _ => ⟨rfl, eJV, (by decide : 1 + 2 ≤ _), (by decide : 3 + 8 ≤ _)⟩)
 dsimp only [Pt.U, Pt.locs, Pt.cells, Pt.slots] at XKM lKP yKQ zKR stKS hQKO
 subst yKQ zKR
 obtain ⟨r1KW, r2KX, rfl, NKT, KKY, gKZ, gL0, gL1, gL2, gL3, nwL4, nwL5, nL6⟩ := hQKO
 have NL7 : Fr n0 LKJ := by rw [lKP]; exact Fr.app NJP NKT
 clear lKP NKT
 have geL8 : n0 ≤ r1KW := Nat.le_trans Z0 nwL4
 have nwL9 : h0.size ≤ r1KW := Nat.le_trans K0.1 nwL4
 have nLA : a ≠ r1KW := own_lt_ne2 EX.lt nwL4
 have nLB : al ≠ r1KW := own_lt_ne2 E1.lt nwL4
 have nLC : r ≠ r1KW := own_lt_ne2 AE.lt nwL4
 have nLD : cA ≠ r1KW := own_lt_ne2 A1.lt nwL4
 have nLE : pA ≠ r1KW := own_lt_ne2 A2.lt nwL4
 have nLF : is ≠ r1KW := own_lt_ne2 A3.lt nwL4
 have nLG : ds ≠ r1KW := own_lt_ne2 A4.lt nwL4
 have nLH : aK0 ≠ r1KW := own_lt_ne2 AJX.lt nwL4
 have geLI : n0 ≤ r2KX := Nat.le_trans Z0 nwL5
 have nwLJ : h0.size ≤ r2KX := Nat.le_trans K0.1 nwL5
 have nLK : a ≠ r2KX := own_lt_ne2 EX.lt nwL5
 have nLL : al ≠ r2KX := own_lt_ne2 E1.lt nwL5
 have nLM : r ≠ r2KX := own_lt_ne2 AE.lt nwL5
 have nLN : cA ≠ r2KX := own_lt_ne2 A1.lt nwL5
 have nLO : pA ≠ r2KX := own_lt_ne2 A2.lt nwL5
 have nLP : is ≠ r2KX := own_lt_ne2 A3.lt nwL5
 have nLQ : ds ≠ r2KX := own_lt_ne2 A4.lt nwL5
 have nLR : aK0 ≠ r2KX := own_lt_ne2 AJX.lt nwL5
 replace Z0 := Nat.le_trans Z0 KKY.1
 replace EX := EX.keep KKY
 replace S0 := S0.keep KKY (ninS nK3 nin0)
 replace S1 := S1.keep KKY (ninS nK3 nin0)
 replace S2 := S2.keep KKY (ninS nK3 nin0)
 replace S3 := S3.keep KKY (ninS nK3 nin0)
 replace S4 := S4.keep KKY (ninS nK3 nin0)
 replace S5 := S5.keep KKY (ninS nK3 nin0)
 replace S6 := S6.keep KKY (ninS nK3 nin0)
 replace S7 := S7.keep KKY (ninS nK3 nin0)
 replace E1 := E1.keep KKY
 replace L1 := L1.keep KKY (ninS nK4 nin0)
 replace L2 := L2.keep KKY (ninS nK4 nin0)
 replace L3 := L3.keep KKY (ninS nK4 nin0)
 replace AE := AE.keep KKY (ninS nK5 nin0)
 replace A1 := A1.keep KKY (ninS nK6 nin0)
 replace A2 := A2.keep KKY (ninS nK7 nin0)
 replace A3 := A3.keep KKY (ninS nK8 nin0)
 replace A4 := A4.keep KKY (ninS nK9 nin0)
 replace AJX := AJX.keep KKY
 clear UnKC
 clear FKD
 clear FKE
 clear FKF
 replace K0 := K0.trans KKY (allS (Or.inr nwKA) all0)
 have kLS : own_G p e below E0 TKI (mkF m 18 zz3 [(.ref aK0)]) := fun tQ kk => kKH tQ (stKS.trans kk)
 clear kKH stKS
 let zz4 : Array Slot := #[vr a, vd xc, ss, vr is, vr ds, vi (1 : Int32), vr aK0, vi (0 : Int32)]
 have kLT : own_G p e below E0 TKI (mkF m 26 zz4 [(.ref is), (.int (0 : Int32))]) := by
  intro tQ kk
  refine kLS tQ ?_
  refine XS.astore XKM.here hx rfl (hH p49_2_18) rfl rfl (l' := #[vr a, vd xc, ss, vr is, vr ds, vi (1 : Int32), vr aK0, uu]) rfl ?_
  refine XS.iconst XKM.here hx rfl (hH p49_2_20) ?_
  refine XS.istore XKM.here hx rfl (hH p49_2_21) rfl (l' := zz4) rfl ?_
  refine XS.iload XKM.here hx rfl (hH p49_2_23) rfl ?_
  refine XS.aloadN XKM.here hx rfl (hH p49_2_25) rfl rfl ?_
  exact kk
 clear kLS
 have stLU := fun tQ => own_A.len XKM hx hZ rfl A3 (g := (mkF m 26 zz4 [(.ref is), (.int (0 : Int32))])) rfl rfl (hH p49_2_26) tQ
 have kLV : own_G p e below E0 TKI (mkF m 27 zz4 [(.int (0 : Int32)), (.int (0 : Int32))]) := fun tQ kk => kLT tQ (stLU _ kk)
 clear kLT stLU
 have kLW : own_G p e below E0 TKI (mkF m 51 zz4 [(.ref a)]) := by
  intro tQ kk
  refine kLV tQ ?_
  refine XS.icmpYes XKM.here hx rfl (pc0 := 27) (pc' := 50) rfl (hH p49_2_27) rfl (own_ic_geY (by decide)) (by decide) (by decide) ?_
  refine XS.aloadN XKM.here hx rfl (hH p49_2_50) rfl rfl ?_
  exact kk
 clear kLV
 obtain ⟨TLX, XLY, eLZ, stM0⟩ := getF XKM hx hZ hown (host := "") (Or.inl (tw40 hw)) Via.refl rfl S0 (g := (mkF m 51 zz4 [(.ref a)])) rfl rfl (hH p49_2_51)
 have kM1 : own_G p e below E0 TLX (mkF m 54 zz4 [(.ref al)]) := fun tQ kk => kLW tQ (stM0 _ kk)
 clear kLW stM0
 have kM2 : own_G p e below E0 TLX (mkF m 56 zz4 [(.ref aK0), (.ref al)]) := by
  intro tQ kk
  refine kM1 tQ ?_
  refine XS.aload XLY.here hx rfl (hH p49_2_54) rfl rfl ?_
  exact kk
 clear kM1
 obtain ⟨cqME, kqMF, qaMG, qbMH, qcMI⟩ := isOf hZ eLZ E1
 obtain ⟨_, _, ⟨TM3, LM4, kcM5, ncM6⟩, -, XM7, ⟨LcM8, hQM9, lMA, yMB, zMC⟩, stMD⟩ := XLY.interfaceBack hx (xi := mn156) (y := mn143) hown (mvT hZ (tw198 hw)) (mvT hZ (tw199 hw)) (mvT hZ (tw200 hw)) (mvT hZ (tw201 hw)) (mvT hZ (tw202 hw)) (mvT hZ (tw203 hw)) (mvT hZ (tw204 hw)) (mvT hZ (tw183 hw)) (by decide) (backOf (W := 0) (rmAd1 l Z a0 hw [] al aK0 x0 r TKI.heap n0 Z0 E1 L1 L2 AE AJX L3 q_al_r nK4 (Ne.symm nK5) ge_al ge_r) hZ (tw205 hw) (tw18 hw) (by decide) (by decide)) qaMG qbMH qcMI (g := (mkF m 56 zz4 [(.ref aK0), (.ref al)])) rfl (by rw [hml]; rfl) (Steps.refl _) (argsL := [(.ref aK0)]) (rest := []) (lenOf pd_155 rfl) rfl (by show 2 * 0 + _ ≤ _; exact Nat.le_of_eq rfl) (hH p49_2_56) (fun _ _ => ⟨rfl, eLZ, (by decide : 3 + 0 ≤ _), (by decide : 11 + 0 ≤ _)⟩)
 dsimp only [Pt.U, Pt.locs, Pt.cells, Pt.slots] at XM7 lMA yMB zMC stMD hQM9
 subst yMB zMC
 obtain ⟨rfl, NMJ, KMM, gMN, gMO, gMP, gMQ⟩ := hQM9
 have NMR : Fr n0 LM4 := by rw [lMA]; exact Fr.app NL7 NMJ
 clear lMA NMJ
 replace Z0 := Nat.le_trans Z0 KMM.1
 replace EX := EX.keep KMM
 replace S0 := S0.keep KMM (ninS q_a_al (ninS q_a_r nin0))
 replace S1 := S1.keep KMM (ninS q_a_al (ninS q_a_r nin0))
 replace S2 := S2.keep KMM (ninS q_a_al (ninS q_a_r nin0))
 replace S3 := S3.keep KMM (ninS q_a_al (ninS q_a_r nin0))
 replace S4 := S4.keep KMM (ninS q_a_al (ninS q_a_r nin0))
 replace S5 := S5.keep KMM (ninS q_a_al (ninS q_a_r nin0))
 replace S6 := S6.keep KMM (ninS q_a_al (ninS q_a_r nin0))
 replace S7 := S7.keep KMM (ninS q_a_al (ninS q_a_r nin0))
 replace E1 := E1.keep KMM
 clear L1
 clear L2
 clear L3
 clear AE
 replace A1 := A1.keep KMM (ninS (fun q => q_al_cA q.symm) (ninS q_cA_r nin0))
 replace A2 := A2.keep KMM (ninS (fun q => q_al_pA q.symm) (ninS q_pA_r nin0))
 replace A3 := A3.keep KMM (ninS (fun q => q_al_is q.symm) (ninS (fun q => q_r_is q.symm) nin0))
 replace A4 := A4.keep KMM (ninS (fun q => q_al_ds q.symm) (ninS (fun q => q_r_ds q.symm) nin0))
 replace AJX := AJX.keep KMM
 replace gKZ := gKZ.keep KMM (ninS (Ne.symm nK4) (ninS (Ne.symm nK5) nin0))
 replace gL0 := gL0.keep KMM (ninS (Ne.symm nK4) (ninS (Ne.symm nK5) nin0))
 replace gL1 := gL1.keep KMM (ninS (Ne.symm nK4) (ninS (Ne.symm nK5) nin0))
 replace gL2 := gL2.keep KMM (ninS (Ne.symm nLB) (ninS (Ne.symm nLC) nin0))
 replace gL3 := gL3.keep KMM (ninS (Ne.symm nLL) (ninS (Ne.symm nLM) nin0))
 replace K0 := K0.trans KMM (allS (Or.inl (List.mem_of_getElem? (i := 1) rfl)) (allS (Or.inl (List.mem_of_getElem? (i := 4) rfl)) all0))
 have kMS : own_G p e below E0 TM3 (mkF m 61 zz4 [(.int (1 : Int32))]) := fun tQ kk => kM2 tQ (stMD.trans kk)
 clear kM2 stMD
 have kMT : own_G p e below E0 TM3 (mkF m 64 zz4 [(.ref a), (.ref a)]) := by
  intro tQ kk
  refine kMS tQ ?_
  refine XT.pop XM7.here hx rfl (hH p49_2_61) rfl rfl ?_
  refine XS.aloadN XM7.here hx rfl (hH p49_2_62) rfl rfl ?_
  refine XS.aloadN XM7.here hx rfl (hH p49_2_63) rfl rfl ?_
  exact kk
 clear kMS
 obtain ⟨TMU, XMV, eMW, stMX⟩ := getF XM7 hx hZ hown (host := "") (Or.inl (tw42 hw)) Via.refl rfl S1 (g := (mkF m 64 zz4 [(.ref a), (.ref a)])) rfl rfl (hH p49_2_64)
 have kMY : own_G p e below E0 TMU (mkF m 67 zz4 [(.ref cA), (.ref a)]) := fun tQ kk => kMT tQ (stMX _ kk)
 clear kMT stMX
 have kMZ : own_G p e below E0 TMU (mkF m 71 zz4 [(.int (2 : Int32)), (.ref cA), (.ref a)]) := by
  intro tQ kk
  refine kMY tQ ?_
  refine XS.iload XMV.here hx rfl (hH p49_2_67) rfl ?_
  refine XS.iconst XMV.here hx rfl (hH p49_2_69) ?_
  refine XS.iadd XMV.here hx rfl (hH p49_2_70) rfl ?_
  exact kk
 clear kMY
 obtain ⟨_, _, ⟨TN0, LN1, kcN2, ncN3⟩, -, XN4, ⟨LcN5, hQN6, lN7, yN8, zN9⟩, stNA⟩ := Jvm.LawKit.callS XMV hx (y := mn118) hown (mvT hZ (tw230 hw)) (mvT hZ (tw231 hw)) (mvT hZ (tw232 hw)) (mvT hZ (tw233 hw)) (by decide) (backOf (W := 1) (rmGd l Z a0 hw [] cA (2 : Int32) cv TM3.heap n0 Z0 A1 (by rw [lc]; decide)) hZ (tw233 hw) (tw232 hw) (by decide) (by decide)) (g := (mkF m 71 zz4 [(.int (2 : Int32)), (.ref cA), (.ref a)])) rfl (by rw [hml]; rfl) (argsL := [(.ref cA), (.int (2 : Int32))]) (rest := [(.ref a)]) (lenOf pd_157 rfl) rfl (by show 2 * 0 + _ ≤ _; exact Nat.le_of_eq rfl) (hH p49_2_71) (fun _ _ => ⟨rfl, eMW, (by decide : 3 + 0 ≤ _), (by decide : 11 + 0 ≤ _)⟩)
 dsimp only [Pt.U, Pt.locs, Pt.cells, Pt.slots] at XN4 lN7 yN8 zN9 stNA hQN6
 subst yN8 zN9
 obtain ⟨rfl, NNB, eNC⟩ := hQN6
 have NNE : Fr n0 LN1 := by rw [lN7]; exact Fr.app NMR NNB
 clear lN7 NNB
 have kNF : own_G p e below E0 TN0 (mkF m 74 zz4 [(.ref cA), (.ref a)]) := fun tQ kk => kMZ tQ (stNA _ kk)
 clear kMZ stNA
 obtain ⟨TNG, hNH, XNI, eNJ, WNK, stNL⟩ := putF XN4 hx hZ hown (host := "") (Or.inl (tw42 hw)) Via.refl eNC S1 EX (Or.inl (tw43 hw)) (tw8 hw) (ty := (.array .double)) (by decide) rfl rfl (g := (mkF m 74 zz4 [(.ref cA), (.ref a)])) rfl rfl (hH p49_2_74)
 have NNM := Fr.snoc XNI NNE ge_a
 have kNN : own_G p e below E0 TNG (mkF m 77 zz4 []) := fun tQ kk => kNF tQ (stNL _ kk)
 clear kNF stNL
 replace EX := EX.wr WNK
 replace S0 := S0.other WNK (Or.inr (sn61 hw))
 replace S1 := S1.same WNK
 replace S2 := S2.other WNK (Or.inr (sn62 hw))
 replace S3 := S3.other WNK (Or.inr (sn63 hw))
 replace S4 := S4.other WNK (Or.inr (sn64 hw))
 replace S5 := S5.other WNK (Or.inr (sn65 hw))
 replace S6 := S6.other WNK (Or.inr (sn66 hw))
 replace S7 := S7.other WNK (Or.inr (sn68 hw))
 replace E1 := E1.wr WNK
 replace A1 := A1.other WNK (fun q => q_a_cA q.symm)
 replace A2 := A2.other WNK (fun q => q_a_pA q.symm)
 replace A3 := A3.other WNK (fun q => q_a_is q.symm)
 replace A4 := A4.other WNK (fun q => q_a_ds q.symm)
 replace AJX := AJX.wr WNK
 replace gKZ := gKZ.other WNK (Or.inl (Ne.symm nK3))
 replace gL0 := gL0.other WNK (Or.inl (Ne.symm nK3))
 replace gL1 := gL1.other WNK (Or.inl (Ne.symm nK3))
 replace gL2 := gL2.other WNK (Ne.symm nLA)
 replace gL3 := gL3.other WNK (Ne.symm nLK)
 replace gMN := gMN.other WNK (Or.inl (fun q => q_a_al q.symm))
 replace gMO := gMO.other WNK (Or.inl (fun q => q_a_al q.symm))
 replace gMP := gMP.other WNK (Or.inl (fun q => q_a_al q.symm))
 replace gMQ := gMQ.other WNK (fun q => q_a_r q.symm)
 replace Z0 := own_wrle WNK Z0
 replace K0 := K0.wr WNK (Or.inl (List.mem_of_getElem? (i := 0) rfl))
 have kNO : own_G p e below E0 TNG (mkF m 78 zz4 [(.ref a)]) := by
  intro tQ kk
  refine kNN tQ ?_
  refine XS.aloadN XNI.here hx rfl (hH p49_2_77) rfl rfl ?_
  exact kk
 clear kNN
 obtain ⟨TNP, XNQ, eNR, stNS⟩ := getF XNI hx hZ hown (host := "") (Or.inl (tw42 hw)) Via.refl eNJ S1 (g := (mkF m 78 zz4 [(.ref a)])) rfl rfl (hH p49_2_78)
 have kNT : own_G p e below E0 TNP (mkF m 81 zz4 [(.ref cA)]) := fun tQ kk => kNO tQ (stNS _ kk)
 clear kNO stNS
 have kNU : own_G p e below E0 TNP (mkF m 84 zz4 [(.double xc), (.int (1 : Int32)), (.ref cA)]) := by
  intro tQ kk
  refine kNT tQ ?_
  refine XS.iload XNQ.here hx rfl (hH p49_2_81) rfl ?_
  refine XS.dloadN XNQ.here hx rfl (hH p49_2_83) rfl ?_
  exact kk
 clear kNT
 obtain ⟨TNV, hNW, XNX, eNY, WNZ, FP0, stP1⟩ := own_A.dst XNQ hx hZ eNR A1 (j := (1 : Int32)) (by decide) (List.getElem?_eq_getElem (by rw [lc]; decide)) (g := (mkF m 84 zz4 [(.double xc), (.int (1 : Int32)), (.ref cA)])) rfl rfl (hH p49_2_84)
 have NP2 := Fr.snoc XNX NNM ge_cA
 have kP3 : own_G p e below E0 TNV (mkF m 85 zz4 []) := fun tQ kk => kNU tQ (stP1 _ kk)
 clear kNU stP1
 replace EX := EX.wr WNZ
 replace S0 := S0.other WNZ (Or.inl q_a_cA)
 replace S1 := S1.other WNZ (Or.inl q_a_cA)
 replace S2 := S2.other WNZ (Or.inl q_a_cA)
 replace S3 := S3.other WNZ (Or.inl q_a_cA)
 replace S4 := S4.other WNZ (Or.inl q_a_cA)
 replace S5 := S5.other WNZ (Or.inl q_a_cA)
 replace S6 := S6.other WNZ (Or.inl q_a_cA)
 replace S7 := S7.other WNZ (Or.inl q_a_cA)
 replace E1 := E1.wr WNZ
 replace A2 := A2.other WNZ (fun q => q_cA_pA q.symm)
 replace A3 := A3.other WNZ (fun q => q_cA_is q.symm)
 replace A4 := A4.other WNZ (fun q => q_cA_ds q.symm)
 replace AJX := AJX.wr WNZ
 replace gKZ := gKZ.other WNZ (Or.inl (Ne.symm nK6))
 replace gL0 := gL0.other WNZ (Or.inl (Ne.symm nK6))
 replace gL1 := gL1.other WNZ (Or.inl (Ne.symm nK6))
 replace gL2 := gL2.other WNZ (Ne.symm nLD)
 replace gL3 := gL3.other WNZ (Ne.symm nLN)
 replace gMN := gMN.other WNZ (Or.inl q_al_cA)
 replace gMO := gMO.other WNZ (Or.inl q_al_cA)
 replace gMP := gMP.other WNZ (Or.inl q_al_cA)
 replace gMQ := gMQ.other WNZ (fun q => q_cA_r q.symm)
 replace Z0 := own_wrle WNZ Z0
 replace K0 := K0.wr WNZ (Or.inl (List.mem_of_getElem? (i := 2) rfl))
 have FP4 : own_A Z hNW cA .double (cv.set ((1 : Int32)).toNatClampNeg (.double xc)) := FP0
 have kP5 : own_G p e below E0 TNV (mkF m 87 zz4 [(.ref a), (.ref a)]) := by
  intro tQ kk
  refine kP3 tQ ?_
  refine XS.aloadN XNX.here hx rfl (hH p49_2_85) rfl rfl ?_
  refine XS.aloadN XNX.here hx rfl (hH p49_2_86) rfl rfl ?_
  exact kk
 clear kP3
 obtain ⟨TP6, XP7, eP8, stP9⟩ := getF XNX hx hZ hown (host := "") (Or.inl (tw48 hw)) Via.refl eNY S4 (g := (mkF m 87 zz4 [(.ref a), (.ref a)])) rfl rfl (hH p49_2_87)
 have kPA : own_G p e below E0 TP6 (mkF m 90 zz4 [(.ref pA), (.ref a)]) := fun tQ kk => kP5 tQ (stP9 _ kk)
 clear kP5 stP9
 have kPB : own_G p e below E0 TP6 (mkF m 94 zz4 [(.int (2 : Int32)), (.ref pA), (.ref a)]) := by
  intro tQ kk
  refine kPA tQ ?_
  refine XS.iload XP7.here hx rfl (hH p49_2_90) rfl ?_
  refine XS.iconst XP7.here hx rfl (hH p49_2_92) ?_
  refine XS.iadd XP7.here hx rfl (hH p49_2_93) rfl ?_
  exact kk
 clear kPA
 obtain ⟨_, _, ⟨TPC, LPD, kcPE, ncPF⟩, -, XPG, ⟨LcPH, hQPI, lPJ, yPK, zPL⟩, stPM⟩ := Jvm.LawKit.callS XP7 hx (y := mn119) hown (mvT hZ (tw234 hw)) (mvT hZ (tw235 hw)) (mvT hZ (tw232 hw)) (mvT hZ (tw236 hw)) (by decide) (backOf (W := 1) (rmGi l Z a0 hw [] pA (2 : Int32) pv hNW n0 Z0 A2 (by rw [lp]; decide)) hZ (tw236 hw) (tw232 hw) (by decide) (by decide)) (g := (mkF m 94 zz4 [(.int (2 : Int32)), (.ref pA), (.ref a)])) rfl (by rw [hml]; rfl) (argsL := [(.ref pA), (.int (2 : Int32))]) (rest := [(.ref a)]) (lenOf pd_158 rfl) rfl (by show 2 * 0 + _ ≤ _; exact Nat.le_of_eq rfl) (hH p49_2_94) (fun _ _ => ⟨rfl, eP8, (by decide : 3 + 0 ≤ _), (by decide : 11 + 0 ≤ _)⟩)
 dsimp only [Pt.U, Pt.locs, Pt.cells, Pt.slots] at XPG lPJ yPK zPL stPM hQPI
 subst yPK zPL
 obtain ⟨rfl, NPN, ePO⟩ := hQPI
 have NPQ : Fr n0 LPD := by rw [lPJ]; exact Fr.app NP2 NPN
 clear lPJ NPN
 have kPR : own_G p e below E0 TPC (mkF m 97 zz4 [(.ref pA), (.ref a)]) := fun tQ kk => kPB tQ (stPM _ kk)
 clear kPB stPM
 obtain ⟨TPS, hPT, XPU, ePV, WPW, stPX⟩ := putF XPG hx hZ hown (host := "") (Or.inl (tw48 hw)) Via.refl ePO S4 EX (Or.inl (tw49 hw)) (tw8 hw) (ty := (.array .int)) (by decide) rfl rfl (g := (mkF m 97 zz4 [(.ref pA), (.ref a)])) rfl rfl (hH p49_2_97)
 have NPY := Fr.snoc XPU NPQ ge_a
 have kPZ : own_G p e below E0 TPS (mkF m 100 zz4 []) := fun tQ kk => kPR tQ (stPX _ kk)
 clear kPR stPX
 replace EX := EX.wr WPW
 replace S0 := S0.other WPW (Or.inr (sn85 hw))
 replace S1 := S1.other WPW (Or.inr (sn86 hw))
 replace S2 := S2.other WPW (Or.inr (sn87 hw))
 replace S3 := S3.other WPW (Or.inr (sn88 hw))
 replace S4 := S4.same WPW
 replace S5 := S5.other WPW (Or.inr (sn89 hw))
 replace S6 := S6.other WPW (Or.inr (sn90 hw))
 replace S7 := S7.other WPW (Or.inr (sn92 hw))
 replace E1 := E1.wr WPW
 replace A2 := A2.other WPW (fun q => q_a_pA q.symm)
 replace A3 := A3.other WPW (fun q => q_a_is q.symm)
 replace A4 := A4.other WPW (fun q => q_a_ds q.symm)
 replace AJX := AJX.wr WPW
 replace gKZ := gKZ.other WPW (Or.inl (Ne.symm nK3))
 replace gL0 := gL0.other WPW (Or.inl (Ne.symm nK3))
 replace gL1 := gL1.other WPW (Or.inl (Ne.symm nK3))
 replace gL2 := gL2.other WPW (Ne.symm nLA)
 replace gL3 := gL3.other WPW (Ne.symm nLK)
 replace gMN := gMN.other WPW (Or.inl (fun q => q_a_al q.symm))
 replace gMO := gMO.other WPW (Or.inl (fun q => q_a_al q.symm))
 replace gMP := gMP.other WPW (Or.inl (fun q => q_a_al q.symm))
 replace gMQ := gMQ.other WPW (fun q => q_a_r q.symm)
 replace FP4 := FP4.other WPW (fun q => q_a_cA q.symm)
 replace Z0 := own_wrle WPW Z0
 replace K0 := K0.wr WPW (Or.inl (List.mem_of_getElem? (i := 0) rfl))
 have kQ0 : own_G p e below E0 TPS (mkF m 101 zz4 [(.ref a)]) := by
  intro tQ kk
  refine kPZ tQ ?_
  refine XS.aloadN XPU.here hx rfl (hH p49_2_100) rfl rfl ?_
  exact kk
 clear kPZ
 obtain ⟨TQ1, XQ2, eQ3, stQ4⟩ := getF XPU hx hZ hown (host := "") (Or.inl (tw48 hw)) Via.refl ePV S4 (g := (mkF m 101 zz4 [(.ref a)])) rfl rfl (hH p49_2_101)
 have kQ5 : own_G p e below E0 TQ1 (mkF m 104 zz4 [(.ref pA)]) := fun tQ kk => kQ0 tQ (stQ4 _ kk)
 clear kQ0 stQ4
 have kQ6 : own_G p e below E0 TQ1 (mkF m 107 zz4 [(.int (-1 : Int32)), (.int (1 : Int32)), (.ref pA)]) := by
  intro tQ kk
  refine kQ5 tQ ?_
  refine XS.iload XQ2.here hx rfl (hH p49_2_104) rfl ?_
  refine XS.iconst XQ2.here hx rfl (hH p49_2_106) ?_
  exact kk
 clear kQ5
 obtain ⟨TQ7, hQ8, XQ9, eQA, WQB, FQC, stQD⟩ := own_A.ist XQ2 hx hZ eQ3 A2 (j := (1 : Int32)) (by decide) (List.getElem?_eq_getElem (by rw [lp]; decide)) (g := (mkF m 107 zz4 [(.int (-1 : Int32)), (.int (1 : Int32)), (.ref pA)])) rfl rfl (hH p49_2_107)
 have NQE := Fr.snoc XQ9 NPY ge_pA
 have kQF : own_G p e below E0 TQ7 (mkF m 108 zz4 []) := fun tQ kk => kQ6 tQ (stQD _ kk)
 clear kQ6 stQD
 replace EX := EX.wr WQB
 replace S0 := S0.other WQB (Or.inl q_a_pA)
 replace S1 := S1.other WQB (Or.inl q_a_pA)
 replace S2 := S2.other WQB (Or.inl q_a_pA)
 replace S3 := S3.other WQB (Or.inl q_a_pA)
 replace S4 := S4.other WQB (Or.inl q_a_pA)
 replace S5 := S5.other WQB (Or.inl q_a_pA)
 replace S6 := S6.other WQB (Or.inl q_a_pA)
 replace S7 := S7.other WQB (Or.inl q_a_pA)
 replace E1 := E1.wr WQB
 replace A3 := A3.other WQB (fun q => q_pA_is q.symm)
 replace A4 := A4.other WQB (fun q => q_pA_ds q.symm)
 replace AJX := AJX.wr WQB
 replace gKZ := gKZ.other WQB (Or.inl (Ne.symm nK7))
 replace gL0 := gL0.other WQB (Or.inl (Ne.symm nK7))
 replace gL1 := gL1.other WQB (Or.inl (Ne.symm nK7))
 replace gL2 := gL2.other WQB (Ne.symm nLE)
 replace gL3 := gL3.other WQB (Ne.symm nLO)
 replace gMN := gMN.other WQB (Or.inl q_al_pA)
 replace gMO := gMO.other WQB (Or.inl q_al_pA)
 replace gMP := gMP.other WQB (Or.inl q_al_pA)
 replace gMQ := gMQ.other WQB (fun q => q_pA_r q.symm)
 replace FP4 := FP4.other WQB q_cA_pA
 replace Z0 := own_wrle WQB Z0
 replace K0 := K0.wr WQB (Or.inl (List.mem_of_getElem? (i := 3) rfl))
 have FQG : own_A Z hQ8 pA .int (pv.set ((1 : Int32)).toNatClampNeg (.int (-1 : Int32))) := FQC
 have kQH : own_G p e below E0 TQ7 (mkF m 110 zz4 [(.int (1 : Int32))]) := by
  intro tQ kk
  refine kQF tQ ?_
  refine XS.iload XQ9.here hx rfl (hH p49_2_108) rfl ?_
  exact kk
 clear kQF
 obtain ⟨fs, hr, hrun, hended, hW, hsame⟩ := XQ9.leave (v := some (.int (1 : Int32))) (fun h => by rw [Bd.returns] at h; cases h)
 have hrun0 := kQH _ (retOut XQ9 hx Bd.returns (t := .int) rfl (Or.inl ⟨rfl, Or.inl rfl, _, rfl⟩) (hH p49_2_110) hr)
 subst hE0
 refine ⟨_, _, hrun0, hrun, hended, _, _, rfl, ?_, ⟨_, rfl⟩, hW, hsame.mono (by decide) (by decide)⟩
 show QrmCo1 Z a is ds al cA ro ba pA fa va r x0 cv pv xc h0 n0 _ TQ7.heap _
 rw [eQA]
 exact ⟨aK0, r1KW, r2KX, rfl, NQE, K0, S0, S1, S2, S3, S4, S5, S6, S7, gMN, gMO, gMP, gMQ, FP4, FQG, AJX, gKZ, gL0, gL1, gL2, gL3, nwKA, nwL9, nwLJ, nLH, nLR, nL6⟩
def QrmCo2 (Z : State) (a : Addr) (is : Addr) (ds : Addr) (al : Addr) (cA : Addr) (ro : Addr) (ba : Addr) (pA : Addr) (fa : Addr) (va : Addr) (r : Addr) (x0 : Addr) (x1 : Addr) (cv : List Value) (pv : List Value) (xc : UInt64) (h0 : Heap) (n0 : Nat) (vQ : Option Value) (hQ : Heap) (LQ : List Loc) : Prop := ∃ (sc : Addr), ∃ (r1 : Addr), ∃ (r2 : Addr), vQ = some (.int (2 : Int32)) ∧ Fr n0 LQ ∧ Keep h0 hQ [a, al, cA, pA, r] ∧ (fd41 Z hQ a (.ref al)) ∧ (fd42 Z hQ a (.ref cA)) ∧ (fd43 Z hQ a (.ref ro)) ∧ (fd44 Z hQ a (.ref ba)) ∧ (fd45 Z hQ a (.ref pA)) ∧ (fd46 Z hQ a (.ref fa)) ∧ (fd47 Z hQ a (.ref va)) ∧ (fd48 Z hQ a (.int (0 : Int32))) ∧ (fd30 Z hQ al (.ref r)) ∧ (fd31 Z hQ al (.int (3 : Int32))) ∧ (fd29 Z hQ al (.int (3 : Int32))) ∧ (own_O Z hQ r "java/lang/Object" [(.ref x0), (.ref x1), (.ref sc), .null, .null, .null, .null, .null, .null, .null]) ∧ (own_A Z hQ cA .double (cv.set ((2 : Int32)).toNatClampNeg (.double xc))) ∧ (own_A Z hQ pA .int (pv.set ((2 : Int32)).toNatClampNeg (.int (-1 : Int32)))) ∧ (xa123 Z hQ sc) ∧ (fd120 Z hQ sc (.ref r1)) ∧ (fd121 Z hQ sc (.ref r2)) ∧ (fd122 Z hQ sc (.int (0 : Int32))) ∧ (own_A Z hQ r1 .int own_i4) ∧ (own_A Z hQ r2 .double own_d4) ∧ (h0.size ≤ sc) ∧ (h0.size ≤ r1) ∧ (h0.size ≤ r2) ∧ (sc ≠ r1) ∧ (sc ≠ r2) ∧ (r1 ≠ r2)
theorem ef_rmCo2 (m : MethodId) (a : Addr) (is : Addr) (ds : Addr) (al : Addr) (cA : Addr) (ro : Addr) (ba : Addr) (pA : Addr) (fa : Addr) (va : Addr) (r : Addr) (x0 : Addr) (x1 : Addr) (cv : List Value) (pv : List Value) (xc : UInt64) : entryFrame m #[(.ref a), (.double xc), (.ref is), (.ref ds)] 8 = mkF m 0 #[vr a, vd xc, ss, vr is, vr ds, uu, uu, uu] [] := by first | (simp [entryFrame, mkF, argsToLocals, Value.category]; done) | rfl
set_option maxRecDepth 65536 in
set_option maxHeartbeats 40000000 in
theorem rmCo2 (l : Launch) (Z : State) (a0 : Array Value) (hw : ∀ d ∈ tables_1, d.before a0 Z = true) (ws : List Jvm.Cond) (a : Addr) (is : Addr) (ds : Addr) (al : Addr) (cA : Addr) (ro : Addr) (ba : Addr) (pA : Addr) (fa : Addr) (va : Addr) (r : Addr) (x0 : Addr) (x1 : Addr) (cv : List Value) (pv : List Value) (xc : UInt64) (h0 : Heap) (n0 : Nat) (Z0 : n0 ≤ h0.size) (EX : xa49 Z h0 a) (S0 : fd41 Z h0 a (.ref al)) (S1 : fd42 Z h0 a (.ref cA)) (S2 : fd43 Z h0 a (.ref ro)) (S3 : fd44 Z h0 a (.ref ba)) (S4 : fd45 Z h0 a (.ref pA)) (S5 : fd46 Z h0 a (.ref fa)) (S6 : fd47 Z h0 a (.ref va)) (S7 : fd48 Z h0 a (.int (0 : Int32))) (E1 : xa32 Z h0 al) (L1 : fd30 Z h0 al (.ref r)) (L2 : fd31 Z h0 al (.int (2 : Int32))) (L3 : fd29 Z h0 al (.int (2 : Int32))) (AE : own_O Z h0 r "java/lang/Object" [(.ref x0), (.ref x1), .null, .null, .null, .null, .null, .null, .null, .null]) (A1 : own_A Z h0 cA .double cv) (A2 : own_A Z h0 pA .int pv) (A3 : own_A Z h0 is .int []) (A4 : own_A Z h0 ds .double []) (q_a_al : a ≠ al) (q_a_cA : a ≠ cA) (q_a_pA : a ≠ pA) (q_a_r : a ≠ r) (q_a_is : a ≠ is) (q_a_ds : a ≠ ds) (q_al_cA : al ≠ cA) (q_al_pA : al ≠ pA) (q_al_r : al ≠ r) (q_al_is : al ≠ is) (q_al_ds : al ≠ ds) (q_cA_pA : cA ≠ pA) (q_cA_r : cA ≠ r) (q_cA_is : cA ≠ is) (q_cA_ds : cA ≠ ds) (q_pA_r : pA ≠ r) (q_pA_is : pA ≠ is) (q_pA_ds : pA ≠ ds) (q_r_is : r ≠ is) (q_r_ds : r ≠ ds) (ge_a : n0 ≤ a) (ge_al : n0 ≤ al) (ge_cA : n0 ≤ cA) (ge_pA : n0 ≤ pA) (ge_r : n0 ≤ r) (lc : cv.length = 16) (lp : pv.length = 16) :
  MetFree l mn152 (head1 (Jvm.Cond.code mn152 prog_49_method_2_code 8 (some .int) :: ws) ({ frames := 6, cells := 3, slots := 11, locals := 90 } : Room)) (fun aA U => aA = #[(.ref a), (.double xc), (.ref is), (.ref ds)] ∧ Z.Warmed39 U.vm ∧ U.heap = h0) (fun _ _ _ _ _ => True) (fun _ U o U' => ∃ vR LR, o = .returned vR ∧ QrmCo2 Z a is ds al cA ro ba pA fa va r x0 x1 cv pv xc h0 n0 vR U'.heap LR ∧ FrameEnd U o U' LR ({ frames := 6, cells := 3, slots := 11, locals := 90 } : Room).cells ({ frames := 6, cells := 3, slots := 11, locals := 90 } : Room).slots) := by
 refine MetFree.of_bodySF (plainFor_of_name pn_com_example_netloom_netloom_embed_Simplex) hisR ?_
 intro p e s m args below meth c s₁ Bd hml0 hPre hKk
 obtain ⟨rfl, hZ, hh⟩ := hPre
 have hx := Bd.exec
 have hby := Bd.bytes
 have hH : ∀ {pc r}, decode prog_49_method_2_code pc = r → decode c.code pc = r := fun q => hb hby q
 have hml : c.maxLocals = 8 := hml0
 have hown : s.vm.findClass "com/example/netloom/netloom/embed/Simplex" = some m.cls := findClass_of_methodNamed Bd.named
 have hnm := (name_of_methodNamed Bd.named Bd.method).1
 have X0 : Stand p l e ({ frames := 6, cells := 3, slots := 11, locals := 90 } : Room) s m #[(.ref a), (.double xc), (.ref is), (.ref ds)] below meth c s₁ [] 0 0 := Stand.of_body Bd
 have e0 : s₁.heap = h0 := by rw [← hh, Bd.state]; rfl
 have N0 := Fr.nil n0
 obtain ⟨E0, hE0⟩ : ∃ zE : State, zE = s₁.setTop (entryFrame m #[(.ref a), (.double xc), (.ref is), (.ref ds)] 8) := ⟨_, rfl⟩
 have k0 : own_G p e below E0 s₁ (mkF m 0 #[vr a, vd xc, ss, vr is, vr ds, uu, uu, uu] []) := fun tz kz => hE0 ▸ castTop (ef_rmCo2 m a is ds al cA ro ba pA fa va r x0 x1 cv pv xc) kz
 have K0 : Keep h0 h0 [a, al, cA, pA, r] := Keep.refl _ _
 have kJ0 : own_G p e below E0 s₁ (mkF m 1 #[vr a, vd xc, ss, vr is, vr ds, uu, uu, uu] [(.ref a)]) := by
  intro tQ kk
  refine k0 tQ ?_
  refine XS.aloadN X0.here hx rfl (hH p49_2_0) rfl rfl ?_
  exact kk
 clear k0
 obtain ⟨TJ1, XJ2, eJ3, stJ4⟩ := getF X0 hx hZ hown (host := "") (Or.inl (tw40 hw)) Via.refl e0 S0 (g := (mkF m 1 #[vr a, vd xc, ss, vr is, vr ds, uu, uu, uu] [(.ref a)])) rfl rfl (hH p49_2_1)
 have kJ5 : own_G p e below E0 TJ1 (mkF m 4 #[vr a, vd xc, ss, vr is, vr ds, uu, uu, uu] [(.ref al)]) := fun tQ kk => kJ0 tQ (stJ4 _ kk)
 clear kJ0 stJ4
 obtain ⟨cqJH, kqJI, qaJJ, qbJK, qcJL⟩ := isOf hZ eJ3 E1
 obtain ⟨_, _, ⟨TJ6, LJ7, kcJ8, ncJ9⟩, -, XJA, ⟨LcJB, hQJC, lJD, yJE, zJF⟩, stJG⟩ := XJ2.interfaceBack hx (xi := mn154) (y := mn145) hown (mvT hZ (tw176 hw)) (mvT hZ (tw177 hw)) (mvT hZ (tw178 hw)) (mvT hZ (tw179 hw)) (mvT hZ (tw180 hw)) (mvT hZ (tw181 hw)) (mvT hZ (tw182 hw)) (mvT hZ (tw183 hw)) (by decide) (backOf (W := 0) (rmSz2 l Z a0 hw [] al h0 n0 Z0 L2) hZ (tw184 hw) (tw18 hw) (by decide) (by decide)) qaJJ qbJK qcJL (g := (mkF m 4 #[vr a, vd xc, ss, vr is, vr ds, uu, uu, uu] [(.ref al)])) rfl (by rw [hml]; rfl) (Steps.refl _) (argsL := []) (rest := []) (lenOf pd_153 rfl) rfl (by show 2 * 0 + _ ≤ _; exact Nat.le_of_eq rfl) (hH p49_2_4) (fun _ _ => ⟨rfl, eJ3, (by decide : 0 + 0 ≤ _), (by decide : 0 + 0 ≤ _)⟩)
 dsimp only [Pt.U, Pt.locs, Pt.cells, Pt.slots] at XJA lJD yJE zJF stJG hQJC
 subst yJE zJF
 obtain ⟨rfl, NJM, eJN⟩ := hQJC
 have NJP : Fr n0 LJ7 := by rw [lJD]; exact Fr.app N0 NJM
 clear lJD NJM
 have kJQ : own_G p e below E0 TJ6 (mkF m 9 #[vr a, vd xc, ss, vr is, vr ds, uu, uu, uu] [(.int (2 : Int32))]) := fun tQ kk => kJ5 tQ (stJG.trans kk)
 clear kJ5 stJG
 let zz5 : Array Slot := #[vr a, vd xc, ss, vr is, vr ds, vi (2 : Int32), uu, uu]
 have kJR : own_G p e below E0 TJ6 (mkF m 11 zz5 []) := by
  intro tQ kk
  refine kJQ tQ ?_
  refine XS.istore XJA.here hx rfl (hH p49_2_9) rfl (l' := zz5) rfl ?_
  exact kk
 clear kJQ
 obtain ⟨TJS, hJT, XJU, eJV, EJW, AJX, DJY, UnK2, stJZ⟩ := newO XJA hx hZ hown (tw187 hw) (tw188 hw) (tw189 hw) eJN (g := (mkF m 11 zz5 [])) rfl (hH p49_2_11) (by decide) (by decide)
 obtain ⟨aK0, gK1⟩ : ∃ zA : Nat, zA = h0.size := ⟨_, rfl⟩
 rw [← gK1] at AJX DJY stJZ UnK2
 have nK3 := own_lt_ne EX.lt gK1
 have nK4 := own_lt_ne E1.lt gK1
 have nK5 := own_lt_ne AE.lt gK1
 have nK6 := own_lt_ne A1.lt gK1
 have nK7 := own_lt_ne A2.lt gK1
 have nK8 := own_lt_ne A3.lt gK1
 have nK9 := own_lt_ne A4.lt gK1
 have nwKA : h0.size ≤ aK0 := own_ge_of K0.1 gK1
 have geKB : n0 ≤ aK0 := own_ge_of Z0 gK1
 replace Z0 := Nat.le_trans Z0 EJW.1
 replace EX := EX.ext EJW
 replace S0 := S0.ext EJW
 replace S1 := S1.ext EJW
 replace S2 := S2.ext EJW
 replace S3 := S3.ext EJW
 replace S4 := S4.ext EJW
 replace S5 := S5.ext EJW
 replace S6 := S6.ext EJW
 replace S7 := S7.ext EJW
 replace E1 := E1.ext EJW
 replace L1 := L1.ext EJW
 replace L2 := L2.ext EJW
 replace L3 := L3.ext EJW
 replace AE := AE.ext EJW
 replace A1 := A1.ext EJW
 replace A2 := A2.ext EJW
 replace A3 := A3.ext EJW
 replace A4 := A4.ext EJW
 replace K0 := K0.ext EJW
 have UnKC : Unt hJT aK0 := UnK2
 have FKD : Fld Z hJT aK0 "com/example/netloom/netloom/embed/SparseColumn" "rows" "[I" .null := (DJY (Or.inl (tw195 hw)) (ty := (.array .int)) (by decide))
 have FKE : Fld Z hJT aK0 "com/example/netloom/netloom/embed/SparseColumn" "values" "[D" .null := (DJY (Or.inl (tw197 hw)) (ty := (.array .double)) (by decide))
 have FKF : Fld Z hJT aK0 "com/example/netloom/netloom/embed/SparseColumn" "size" "I" (.int (0 : Int32)) := (DJY (Or.inl (tw284 hw)) (ty := .int) (by decide))
 have kKG : own_G p e below E0 TJS (mkF m 14 zz5 [(.ref aK0)]) := fun tQ kk => kJR tQ (stJZ _ kk)
 clear kJR stJZ
 have kKH : own_G p e below E0 TJS (mkF m 15 zz5 [(.ref aK0), (.ref aK0)]) := by
  intro tQ kk
  refine kKG tQ ?_
  refine XS.dup XJU.here hx rfl (hH p49_2_14) rfl rfl ?_
  exact kk
 clear kKG
 obtain ⟨_, _, ⟨TKI, LKJ, kcKK, ncKL⟩, -, XKM, ⟨LcKN, hQKO, lKP, yKQ, zKR⟩, stKS⟩ := XJU.specialBack hx (y := mn124) rfl hown (mvT hZ (tw190 hw)) (mvT hZ (tw191 hw)) (mvT hZ (tw192 hw)) (by decide) (backOf (W := 1) (rmSc l Z a0 hw [] aK0 hJT n0 Z0 AJX FKD FKE FKF geKB) hZ (tw192 hw) (tw189 hw) (by decide) (by decide)) (g := (mkF m 15 zz5 [(.ref aK0), (.ref aK0)])) rfl (by rw [hml]; rfl) (Steps.refl _) (a := aK0) (argsL := []) (rest := [(.ref aK0)]) (lenOf pd_8 rfl) rfl (by show 2 * 0 + _ ≤ _; exact Nat.le_of_eq rfl) (hH p49_2_15) (fun _ _ => ⟨rfl, eJV, (by decide : 1 + 2 ≤ _), (by decide : 3 + 8 ≤ _)⟩)
 dsimp only [Pt.U, Pt.locs, Pt.cells, Pt.slots] at XKM lKP yKQ zKR stKS hQKO
 subst yKQ zKR
 obtain ⟨r1KW, r2KX, rfl, NKT, KKY, gKZ, gL0, gL1, gL2, gL3, nwL4, nwL5, nL6⟩ := hQKO
 have NL7 : Fr n0 LKJ := by rw [lKP]; exact Fr.app NJP NKT
 clear lKP NKT
 have geL8 : n0 ≤ r1KW := Nat.le_trans Z0 nwL4
 have nwL9 : h0.size ≤ r1KW := Nat.le_trans K0.1 nwL4
 have nLA : a ≠ r1KW := own_lt_ne2 EX.lt nwL4
 have nLB : al ≠ r1KW := own_lt_ne2 E1.lt nwL4
 have nLC : r ≠ r1KW := own_lt_ne2 AE.lt nwL4
 have nLD : cA ≠ r1KW := own_lt_ne2 A1.lt nwL4
 have nLE : pA ≠ r1KW := own_lt_ne2 A2.lt nwL4
 have nLF : is ≠ r1KW := own_lt_ne2 A3.lt nwL4
 have nLG : ds ≠ r1KW := own_lt_ne2 A4.lt nwL4
 have nLH : aK0 ≠ r1KW := own_lt_ne2 AJX.lt nwL4
 have geLI : n0 ≤ r2KX := Nat.le_trans Z0 nwL5
 have nwLJ : h0.size ≤ r2KX := Nat.le_trans K0.1 nwL5
 have nLK : a ≠ r2KX := own_lt_ne2 EX.lt nwL5
 have nLL : al ≠ r2KX := own_lt_ne2 E1.lt nwL5
 have nLM : r ≠ r2KX := own_lt_ne2 AE.lt nwL5
 have nLN : cA ≠ r2KX := own_lt_ne2 A1.lt nwL5
 have nLO : pA ≠ r2KX := own_lt_ne2 A2.lt nwL5
 have nLP : is ≠ r2KX := own_lt_ne2 A3.lt nwL5
 have nLQ : ds ≠ r2KX := own_lt_ne2 A4.lt nwL5
 have nLR : aK0 ≠ r2KX := own_lt_ne2 AJX.lt nwL5
 replace Z0 := Nat.le_trans Z0 KKY.1
 replace EX := EX.keep KKY
 replace S0 := S0.keep KKY (ninS nK3 nin0)
 replace S1 := S1.keep KKY (ninS nK3 nin0)
 replace S2 := S2.keep KKY (ninS nK3 nin0)
 replace S3 := S3.keep KKY (ninS nK3 nin0)
 replace S4 := S4.keep KKY (ninS nK3 nin0)
 replace S5 := S5.keep KKY (ninS nK3 nin0)
 replace S6 := S6.keep KKY (ninS nK3 nin0)
 replace S7 := S7.keep KKY (ninS nK3 nin0)
 replace E1 := E1.keep KKY
 replace L1 := L1.keep KKY (ninS nK4 nin0)
 replace L2 := L2.keep KKY (ninS nK4 nin0)
 replace L3 := L3.keep KKY (ninS nK4 nin0)
 replace AE := AE.keep KKY (ninS nK5 nin0)
 replace A1 := A1.keep KKY (ninS nK6 nin0)
 replace A2 := A2.keep KKY (ninS nK7 nin0)
 replace A3 := A3.keep KKY (ninS nK8 nin0)
 replace A4 := A4.keep KKY (ninS nK9 nin0)
 replace AJX := AJX.keep KKY
 clear UnKC
 clear FKD
 clear FKE
 clear FKF
 replace K0 := K0.trans KKY (allS (Or.inr nwKA) all0)
 have kLS : own_G p e below E0 TKI (mkF m 18 zz5 [(.ref aK0)]) := fun tQ kk => kKH tQ (stKS.trans kk)
 clear kKH stKS
 let zz6 : Array Slot := #[vr a, vd xc, ss, vr is, vr ds, vi (2 : Int32), vr aK0, vi (0 : Int32)]
 have kLT : own_G p e below E0 TKI (mkF m 26 zz6 [(.ref is), (.int (0 : Int32))]) := by
  intro tQ kk
  refine kLS tQ ?_
  refine XS.astore XKM.here hx rfl (hH p49_2_18) rfl rfl (l' := #[vr a, vd xc, ss, vr is, vr ds, vi (2 : Int32), vr aK0, uu]) rfl ?_
  refine XS.iconst XKM.here hx rfl (hH p49_2_20) ?_
  refine XS.istore XKM.here hx rfl (hH p49_2_21) rfl (l' := zz6) rfl ?_
  refine XS.iload XKM.here hx rfl (hH p49_2_23) rfl ?_
  refine XS.aloadN XKM.here hx rfl (hH p49_2_25) rfl rfl ?_
  exact kk
 clear kLS
 have stLU := fun tQ => own_A.len XKM hx hZ rfl A3 (g := (mkF m 26 zz6 [(.ref is), (.int (0 : Int32))])) rfl rfl (hH p49_2_26) tQ
 have kLV : own_G p e below E0 TKI (mkF m 27 zz6 [(.int (0 : Int32)), (.int (0 : Int32))]) := fun tQ kk => kLT tQ (stLU _ kk)
 clear kLT stLU
 have kLW : own_G p e below E0 TKI (mkF m 51 zz6 [(.ref a)]) := by
  intro tQ kk
  refine kLV tQ ?_
  refine XS.icmpYes XKM.here hx rfl (pc0 := 27) (pc' := 50) rfl (hH p49_2_27) rfl (own_ic_geY (by decide)) (by decide) (by decide) ?_
  refine XS.aloadN XKM.here hx rfl (hH p49_2_50) rfl rfl ?_
  exact kk
 clear kLV
 obtain ⟨TLX, XLY, eLZ, stM0⟩ := getF XKM hx hZ hown (host := "") (Or.inl (tw40 hw)) Via.refl rfl S0 (g := (mkF m 51 zz6 [(.ref a)])) rfl rfl (hH p49_2_51)
 have kM1 : own_G p e below E0 TLX (mkF m 54 zz6 [(.ref al)]) := fun tQ kk => kLW tQ (stM0 _ kk)
 clear kLW stM0
 have kM2 : own_G p e below E0 TLX (mkF m 56 zz6 [(.ref aK0), (.ref al)]) := by
  intro tQ kk
  refine kM1 tQ ?_
  refine XS.aload XLY.here hx rfl (hH p49_2_54) rfl rfl ?_
  exact kk
 clear kM1
 obtain ⟨cqME, kqMF, qaMG, qbMH, qcMI⟩ := isOf hZ eLZ E1
 obtain ⟨_, _, ⟨TM3, LM4, kcM5, ncM6⟩, -, XM7, ⟨LcM8, hQM9, lMA, yMB, zMC⟩, stMD⟩ := XLY.interfaceBack hx (xi := mn156) (y := mn143) hown (mvT hZ (tw198 hw)) (mvT hZ (tw199 hw)) (mvT hZ (tw200 hw)) (mvT hZ (tw201 hw)) (mvT hZ (tw202 hw)) (mvT hZ (tw203 hw)) (mvT hZ (tw204 hw)) (mvT hZ (tw183 hw)) (by decide) (backOf (W := 0) (rmAd2 l Z a0 hw [] al aK0 x0 x1 r TKI.heap n0 Z0 E1 L1 L2 AE AJX L3 q_al_r nK4 (Ne.symm nK5) ge_al ge_r) hZ (tw205 hw) (tw18 hw) (by decide) (by decide)) qaMG qbMH qcMI (g := (mkF m 56 zz6 [(.ref aK0), (.ref al)])) rfl (by rw [hml]; rfl) (Steps.refl _) (argsL := [(.ref aK0)]) (rest := []) (lenOf pd_155 rfl) rfl (by show 2 * 0 + _ ≤ _; exact Nat.le_of_eq rfl) (hH p49_2_56) (fun _ _ => ⟨rfl, eLZ, (by decide : 3 + 0 ≤ _), (by decide : 11 + 0 ≤ _)⟩)
 dsimp only [Pt.U, Pt.locs, Pt.cells, Pt.slots] at XM7 lMA yMB zMC stMD hQM9
 subst yMB zMC
 obtain ⟨rfl, NMJ, KMM, gMN, gMO, gMP, gMQ⟩ := hQM9
 have NMR : Fr n0 LM4 := by rw [lMA]; exact Fr.app NL7 NMJ
 clear lMA NMJ
 replace Z0 := Nat.le_trans Z0 KMM.1
 replace EX := EX.keep KMM
 replace S0 := S0.keep KMM (ninS q_a_al (ninS q_a_r nin0))
 replace S1 := S1.keep KMM (ninS q_a_al (ninS q_a_r nin0))
 replace S2 := S2.keep KMM (ninS q_a_al (ninS q_a_r nin0))
 replace S3 := S3.keep KMM (ninS q_a_al (ninS q_a_r nin0))
 replace S4 := S4.keep KMM (ninS q_a_al (ninS q_a_r nin0))
 replace S5 := S5.keep KMM (ninS q_a_al (ninS q_a_r nin0))
 replace S6 := S6.keep KMM (ninS q_a_al (ninS q_a_r nin0))
 replace S7 := S7.keep KMM (ninS q_a_al (ninS q_a_r nin0))
 replace E1 := E1.keep KMM
 clear L1
 clear L2
 clear L3
 clear AE
 replace A1 := A1.keep KMM (ninS (fun q => q_al_cA q.symm) (ninS q_cA_r nin0))
 replace A2 := A2.keep KMM (ninS (fun q => q_al_pA q.symm) (ninS q_pA_r nin0))
 replace A3 := A3.keep KMM (ninS (fun q => q_al_is q.symm) (ninS (fun q => q_r_is q.symm) nin0))
 replace A4 := A4.keep KMM (ninS (fun q => q_al_ds q.symm) (ninS (fun q => q_r_ds q.symm) nin0))
 replace AJX := AJX.keep KMM
 replace gKZ := gKZ.keep KMM (ninS (Ne.symm nK4) (ninS (Ne.symm nK5) nin0))
 replace gL0 := gL0.keep KMM (ninS (Ne.symm nK4) (ninS (Ne.symm nK5) nin0))
 replace gL1 := gL1.keep KMM (ninS (Ne.symm nK4) (ninS (Ne.symm nK5) nin0))
 replace gL2 := gL2.keep KMM (ninS (Ne.symm nLB) (ninS (Ne.symm nLC) nin0))
 replace gL3 := gL3.keep KMM (ninS (Ne.symm nLL) (ninS (Ne.symm nLM) nin0))
 replace K0 := K0.trans KMM (allS (Or.inl (List.mem_of_getElem? (i := 1) rfl)) (allS (Or.inl (List.mem_of_getElem? (i := 4) rfl)) all0))
 have kMS : own_G p e below E0 TM3 (mkF m 61 zz6 [(.int (1 : Int32))]) := fun tQ kk => kM2 tQ (stMD.trans kk)
 clear kM2 stMD
 have kMT : own_G p e below E0 TM3 (mkF m 64 zz6 [(.ref a), (.ref a)]) := by
  intro tQ kk
  refine kMS tQ ?_
  refine XT.pop XM7.here hx rfl (hH p49_2_61) rfl rfl ?_
  refine XS.aloadN XM7.here hx rfl (hH p49_2_62) rfl rfl ?_
  refine XS.aloadN XM7.here hx rfl (hH p49_2_63) rfl rfl ?_
  exact kk
 clear kMS
 obtain ⟨TMU, XMV, eMW, stMX⟩ := getF XM7 hx hZ hown (host := "") (Or.inl (tw42 hw)) Via.refl rfl S1 (g := (mkF m 64 zz6 [(.ref a), (.ref a)])) rfl rfl (hH p49_2_64)
 have kMY : own_G p e below E0 TMU (mkF m 67 zz6 [(.ref cA), (.ref a)]) := fun tQ kk => kMT tQ (stMX _ kk)
 clear kMT stMX
 have kMZ : own_G p e below E0 TMU (mkF m 71 zz6 [(.int (3 : Int32)), (.ref cA), (.ref a)]) := by
  intro tQ kk
  refine kMY tQ ?_
  refine XS.iload XMV.here hx rfl (hH p49_2_67) rfl ?_
  refine XS.iconst XMV.here hx rfl (hH p49_2_69) ?_
  refine XS.iadd XMV.here hx rfl (hH p49_2_70) rfl ?_
  exact kk
 clear kMY
 obtain ⟨_, _, ⟨TN0, LN1, kcN2, ncN3⟩, -, XN4, ⟨LcN5, hQN6, lN7, yN8, zN9⟩, stNA⟩ := Jvm.LawKit.callS XMV hx (y := mn118) hown (mvT hZ (tw230 hw)) (mvT hZ (tw231 hw)) (mvT hZ (tw232 hw)) (mvT hZ (tw233 hw)) (by decide) (backOf (W := 1) (rmGd l Z a0 hw [] cA (3 : Int32) cv TM3.heap n0 Z0 A1 (by rw [lc]; decide)) hZ (tw233 hw) (tw232 hw) (by decide) (by decide)) (g := (mkF m 71 zz6 [(.int (3 : Int32)), (.ref cA), (.ref a)])) rfl (by rw [hml]; rfl) (argsL := [(.ref cA), (.int (3 : Int32))]) (rest := [(.ref a)]) (lenOf pd_157 rfl) rfl (by show 2 * 0 + _ ≤ _; exact Nat.le_of_eq rfl) (hH p49_2_71) (fun _ _ => ⟨rfl, eMW, (by decide : 3 + 0 ≤ _), (by decide : 11 + 0 ≤ _)⟩)
 dsimp only [Pt.U, Pt.locs, Pt.cells, Pt.slots] at XN4 lN7 yN8 zN9 stNA hQN6
 subst yN8 zN9
 obtain ⟨rfl, NNB, eNC⟩ := hQN6
 have NNE : Fr n0 LN1 := by rw [lN7]; exact Fr.app NMR NNB
 clear lN7 NNB
 have kNF : own_G p e below E0 TN0 (mkF m 74 zz6 [(.ref cA), (.ref a)]) := fun tQ kk => kMZ tQ (stNA _ kk)
 clear kMZ stNA
 obtain ⟨TNG, hNH, XNI, eNJ, WNK, stNL⟩ := putF XN4 hx hZ hown (host := "") (Or.inl (tw42 hw)) Via.refl eNC S1 EX (Or.inl (tw43 hw)) (tw8 hw) (ty := (.array .double)) (by decide) rfl rfl (g := (mkF m 74 zz6 [(.ref cA), (.ref a)])) rfl rfl (hH p49_2_74)
 have NNM := Fr.snoc XNI NNE ge_a
 have kNN : own_G p e below E0 TNG (mkF m 77 zz6 []) := fun tQ kk => kNF tQ (stNL _ kk)
 clear kNF stNL
 replace EX := EX.wr WNK
 replace S0 := S0.other WNK (Or.inr (sn61 hw))
 replace S1 := S1.same WNK
 replace S2 := S2.other WNK (Or.inr (sn62 hw))
 replace S3 := S3.other WNK (Or.inr (sn63 hw))
 replace S4 := S4.other WNK (Or.inr (sn64 hw))
 replace S5 := S5.other WNK (Or.inr (sn65 hw))
 replace S6 := S6.other WNK (Or.inr (sn66 hw))
 replace S7 := S7.other WNK (Or.inr (sn68 hw))
 replace E1 := E1.wr WNK
 replace A1 := A1.other WNK (fun q => q_a_cA q.symm)
 replace A2 := A2.other WNK (fun q => q_a_pA q.symm)
 replace A3 := A3.other WNK (fun q => q_a_is q.symm)
 replace A4 := A4.other WNK (fun q => q_a_ds q.symm)
 replace AJX := AJX.wr WNK
 replace gKZ := gKZ.other WNK (Or.inl (Ne.symm nK3))
 replace gL0 := gL0.other WNK (Or.inl (Ne.symm nK3))
 replace gL1 := gL1.other WNK (Or.inl (Ne.symm nK3))
 replace gL2 := gL2.other WNK (Ne.symm nLA)
 replace gL3 := gL3.other WNK (Ne.symm nLK)
 replace gMN := gMN.other WNK (Or.inl (fun q => q_a_al q.symm))
 replace gMO := gMO.other WNK (Or.inl (fun q => q_a_al q.symm))
 replace gMP := gMP.other WNK (Or.inl (fun q => q_a_al q.symm))
 replace gMQ := gMQ.other WNK (fun q => q_a_r q.symm)
 replace Z0 := own_wrle WNK Z0
 replace K0 := K0.wr WNK (Or.inl (List.mem_of_getElem? (i := 0) rfl))
 have kNO : own_G p e below E0 TNG (mkF m 78 zz6 [(.ref a)]) := by
  intro tQ kk
  refine kNN tQ ?_
  refine XS.aloadN XNI.here hx rfl (hH p49_2_77) rfl rfl ?_
  exact kk
 clear kNN
 obtain ⟨TNP, XNQ, eNR, stNS⟩ := getF XNI hx hZ hown (host := "") (Or.inl (tw42 hw)) Via.refl eNJ S1 (g := (mkF m 78 zz6 [(.ref a)])) rfl rfl (hH p49_2_78)
 have kNT : own_G p e below E0 TNP (mkF m 81 zz6 [(.ref cA)]) := fun tQ kk => kNO tQ (stNS _ kk)
 clear kNO stNS
 have kNU : own_G p e below E0 TNP (mkF m 84 zz6 [(.double xc), (.int (2 : Int32)), (.ref cA)]) := by
  intro tQ kk
  refine kNT tQ ?_
  refine XS.iload XNQ.here hx rfl (hH p49_2_81) rfl ?_
  refine XS.dloadN XNQ.here hx rfl (hH p49_2_83) rfl ?_
  exact kk
 clear kNT
 obtain ⟨TNV, hNW, XNX, eNY, WNZ, FP0, stP1⟩ := own_A.dst XNQ hx hZ eNR A1 (j := (2 : Int32)) (by decide) (List.getElem?_eq_getElem (by rw [lc]; decide)) (g := (mkF m 84 zz6 [(.double xc), (.int (2 : Int32)), (.ref cA)])) rfl rfl (hH p49_2_84)
 have NP2 := Fr.snoc XNX NNM ge_cA
 have kP3 : own_G p e below E0 TNV (mkF m 85 zz6 []) := fun tQ kk => kNU tQ (stP1 _ kk)
 clear kNU stP1
 replace EX := EX.wr WNZ
 replace S0 := S0.other WNZ (Or.inl q_a_cA)
 replace S1 := S1.other WNZ (Or.inl q_a_cA)
 replace S2 := S2.other WNZ (Or.inl q_a_cA)
 replace S3 := S3.other WNZ (Or.inl q_a_cA)
 replace S4 := S4.other WNZ (Or.inl q_a_cA)
 replace S5 := S5.other WNZ (Or.inl q_a_cA)
 replace S6 := S6.other WNZ (Or.inl q_a_cA)
 replace S7 := S7.other WNZ (Or.inl q_a_cA)
 replace E1 := E1.wr WNZ
 replace A2 := A2.other WNZ (fun q => q_cA_pA q.symm)
 replace A3 := A3.other WNZ (fun q => q_cA_is q.symm)
 replace A4 := A4.other WNZ (fun q => q_cA_ds q.symm)
 replace AJX := AJX.wr WNZ
 replace gKZ := gKZ.other WNZ (Or.inl (Ne.symm nK6))
 replace gL0 := gL0.other WNZ (Or.inl (Ne.symm nK6))
 replace gL1 := gL1.other WNZ (Or.inl (Ne.symm nK6))
 replace gL2 := gL2.other WNZ (Ne.symm nLD)
 replace gL3 := gL3.other WNZ (Ne.symm nLN)
 replace gMN := gMN.other WNZ (Or.inl q_al_cA)
 replace gMO := gMO.other WNZ (Or.inl q_al_cA)
 replace gMP := gMP.other WNZ (Or.inl q_al_cA)
 replace gMQ := gMQ.other WNZ (fun q => q_cA_r q.symm)
 replace Z0 := own_wrle WNZ Z0
 replace K0 := K0.wr WNZ (Or.inl (List.mem_of_getElem? (i := 2) rfl))
 have FP4 : own_A Z hNW cA .double (cv.set ((2 : Int32)).toNatClampNeg (.double xc)) := FP0
 have kP5 : own_G p e below E0 TNV (mkF m 87 zz6 [(.ref a), (.ref a)]) := by
  intro tQ kk
  refine kP3 tQ ?_
  refine XS.aloadN XNX.here hx rfl (hH p49_2_85) rfl rfl ?_
  refine XS.aloadN XNX.here hx rfl (hH p49_2_86) rfl rfl ?_
  exact kk
 clear kP3
 obtain ⟨TP6, XP7, eP8, stP9⟩ := getF XNX hx hZ hown (host := "") (Or.inl (tw48 hw)) Via.refl eNY S4 (g := (mkF m 87 zz6 [(.ref a), (.ref a)])) rfl rfl (hH p49_2_87)
 have kPA : own_G p e below E0 TP6 (mkF m 90 zz6 [(.ref pA), (.ref a)]) := fun tQ kk => kP5 tQ (stP9 _ kk)
 clear kP5 stP9
 have kPB : own_G p e below E0 TP6 (mkF m 94 zz6 [(.int (3 : Int32)), (.ref pA), (.ref a)]) := by
  intro tQ kk
  refine kPA tQ ?_
  refine XS.iload XP7.here hx rfl (hH p49_2_90) rfl ?_
  refine XS.iconst XP7.here hx rfl (hH p49_2_92) ?_
  refine XS.iadd XP7.here hx rfl (hH p49_2_93) rfl ?_
  exact kk
 clear kPA
 obtain ⟨_, _, ⟨TPC, LPD, kcPE, ncPF⟩, -, XPG, ⟨LcPH, hQPI, lPJ, yPK, zPL⟩, stPM⟩ := Jvm.LawKit.callS XP7 hx (y := mn119) hown (mvT hZ (tw234 hw)) (mvT hZ (tw235 hw)) (mvT hZ (tw232 hw)) (mvT hZ (tw236 hw)) (by decide) (backOf (W := 1) (rmGi l Z a0 hw [] pA (3 : Int32) pv hNW n0 Z0 A2 (by rw [lp]; decide)) hZ (tw236 hw) (tw232 hw) (by decide) (by decide)) (g := (mkF m 94 zz6 [(.int (3 : Int32)), (.ref pA), (.ref a)])) rfl (by rw [hml]; rfl) (argsL := [(.ref pA), (.int (3 : Int32))]) (rest := [(.ref a)]) (lenOf pd_158 rfl) rfl (by show 2 * 0 + _ ≤ _; exact Nat.le_of_eq rfl) (hH p49_2_94) (fun _ _ => ⟨rfl, eP8, (by decide : 3 + 0 ≤ _), (by decide : 11 + 0 ≤ _)⟩)
 dsimp only [Pt.U, Pt.locs, Pt.cells, Pt.slots] at XPG lPJ yPK zPL stPM hQPI
 subst yPK zPL
 obtain ⟨rfl, NPN, ePO⟩ := hQPI
 have NPQ : Fr n0 LPD := by rw [lPJ]; exact Fr.app NP2 NPN
 clear lPJ NPN
 have kPR : own_G p e below E0 TPC (mkF m 97 zz6 [(.ref pA), (.ref a)]) := fun tQ kk => kPB tQ (stPM _ kk)
 clear kPB stPM
 obtain ⟨TPS, hPT, XPU, ePV, WPW, stPX⟩ := putF XPG hx hZ hown (host := "") (Or.inl (tw48 hw)) Via.refl ePO S4 EX (Or.inl (tw49 hw)) (tw8 hw) (ty := (.array .int)) (by decide) rfl rfl (g := (mkF m 97 zz6 [(.ref pA), (.ref a)])) rfl rfl (hH p49_2_97)
 have NPY := Fr.snoc XPU NPQ ge_a
 have kPZ : own_G p e below E0 TPS (mkF m 100 zz6 []) := fun tQ kk => kPR tQ (stPX _ kk)
 clear kPR stPX
 replace EX := EX.wr WPW
 replace S0 := S0.other WPW (Or.inr (sn85 hw))
 replace S1 := S1.other WPW (Or.inr (sn86 hw))
 replace S2 := S2.other WPW (Or.inr (sn87 hw))
 replace S3 := S3.other WPW (Or.inr (sn88 hw))
 replace S4 := S4.same WPW
 replace S5 := S5.other WPW (Or.inr (sn89 hw))
 replace S6 := S6.other WPW (Or.inr (sn90 hw))
 replace S7 := S7.other WPW (Or.inr (sn92 hw))
 replace E1 := E1.wr WPW
 replace A2 := A2.other WPW (fun q => q_a_pA q.symm)
 replace A3 := A3.other WPW (fun q => q_a_is q.symm)
 replace A4 := A4.other WPW (fun q => q_a_ds q.symm)
 replace AJX := AJX.wr WPW
 replace gKZ := gKZ.other WPW (Or.inl (Ne.symm nK3))
 replace gL0 := gL0.other WPW (Or.inl (Ne.symm nK3))
 replace gL1 := gL1.other WPW (Or.inl (Ne.symm nK3))
 replace gL2 := gL2.other WPW (Ne.symm nLA)
 replace gL3 := gL3.other WPW (Ne.symm nLK)
 replace gMN := gMN.other WPW (Or.inl (fun q => q_a_al q.symm))
 replace gMO := gMO.other WPW (Or.inl (fun q => q_a_al q.symm))
 replace gMP := gMP.other WPW (Or.inl (fun q => q_a_al q.symm))
 replace gMQ := gMQ.other WPW (fun q => q_a_r q.symm)
 replace FP4 := FP4.other WPW (fun q => q_a_cA q.symm)
 replace Z0 := own_wrle WPW Z0
 replace K0 := K0.wr WPW (Or.inl (List.mem_of_getElem? (i := 0) rfl))
 have kQ0 : own_G p e below E0 TPS (mkF m 101 zz6 [(.ref a)]) := by
  intro tQ kk
  refine kPZ tQ ?_
  refine XS.aloadN XPU.here hx rfl (hH p49_2_100) rfl rfl ?_
  exact kk
 clear kPZ
 obtain ⟨TQ1, XQ2, eQ3, stQ4⟩ := getF XPU hx hZ hown (host := "") (Or.inl (tw48 hw)) Via.refl ePV S4 (g := (mkF m 101 zz6 [(.ref a)])) rfl rfl (hH p49_2_101)
 have kQ5 : own_G p e below E0 TQ1 (mkF m 104 zz6 [(.ref pA)]) := fun tQ kk => kQ0 tQ (stQ4 _ kk)
 clear kQ0 stQ4
 have kQ6 : own_G p e below E0 TQ1 (mkF m 107 zz6 [(.int (-1 : Int32)), (.int (2 : Int32)), (.ref pA)]) := by
  intro tQ kk
  refine kQ5 tQ ?_
  refine XS.iload XQ2.here hx rfl (hH p49_2_104) rfl ?_
  refine XS.iconst XQ2.here hx rfl (hH p49_2_106) ?_
  exact kk
 clear kQ5
 obtain ⟨TQ7, hQ8, XQ9, eQA, WQB, FQC, stQD⟩ := own_A.ist XQ2 hx hZ eQ3 A2 (j := (2 : Int32)) (by decide) (List.getElem?_eq_getElem (by rw [lp]; decide)) (g := (mkF m 107 zz6 [(.int (-1 : Int32)), (.int (2 : Int32)), (.ref pA)])) rfl rfl (hH p49_2_107)
 have NQE := Fr.snoc XQ9 NPY ge_pA
 have kQF : own_G p e below E0 TQ7 (mkF m 108 zz6 []) := fun tQ kk => kQ6 tQ (stQD _ kk)
 clear kQ6 stQD
 replace EX := EX.wr WQB
 replace S0 := S0.other WQB (Or.inl q_a_pA)
 replace S1 := S1.other WQB (Or.inl q_a_pA)
 replace S2 := S2.other WQB (Or.inl q_a_pA)
 replace S3 := S3.other WQB (Or.inl q_a_pA)
 replace S4 := S4.other WQB (Or.inl q_a_pA)
 replace S5 := S5.other WQB (Or.inl q_a_pA)
 replace S6 := S6.other WQB (Or.inl q_a_pA)
 replace S7 := S7.other WQB (Or.inl q_a_pA)
 replace E1 := E1.wr WQB
 replace A3 := A3.other WQB (fun q => q_pA_is q.symm)
 replace A4 := A4.other WQB (fun q => q_pA_ds q.symm)
 replace AJX := AJX.wr WQB
 replace gKZ := gKZ.other WQB (Or.inl (Ne.symm nK7))
 replace gL0 := gL0.other WQB (Or.inl (Ne.symm nK7))
 replace gL1 := gL1.other WQB (Or.inl (Ne.symm nK7))
 replace gL2 := gL2.other WQB (Ne.symm nLE)
 replace gL3 := gL3.other WQB (Ne.symm nLO)
 replace gMN := gMN.other WQB (Or.inl q_al_pA)
 replace gMO := gMO.other WQB (Or.inl q_al_pA)
 replace gMP := gMP.other WQB (Or.inl q_al_pA)
 replace gMQ := gMQ.other WQB (fun q => q_pA_r q.symm)
 replace FP4 := FP4.other WQB q_cA_pA
 replace Z0 := own_wrle WQB Z0
 replace K0 := K0.wr WQB (Or.inl (List.mem_of_getElem? (i := 3) rfl))
 have FQG : own_A Z hQ8 pA .int (pv.set ((2 : Int32)).toNatClampNeg (.int (-1 : Int32))) := FQC
 have kQH : own_G p e below E0 TQ7 (mkF m 110 zz6 [(.int (2 : Int32))]) := by
  intro tQ kk
  refine kQF tQ ?_
  refine XS.iload XQ9.here hx rfl (hH p49_2_108) rfl ?_
  exact kk
 clear kQF
 obtain ⟨fs, hr, hrun, hended, hW, hsame⟩ := XQ9.leave (v := some (.int (2 : Int32))) (fun h => by rw [Bd.returns] at h; cases h)
 have hrun0 := kQH _ (retOut XQ9 hx Bd.returns (t := .int) rfl (Or.inl ⟨rfl, Or.inl rfl, _, rfl⟩) (hH p49_2_110) hr)
 subst hE0
 refine ⟨_, _, hrun0, hrun, hended, _, _, rfl, ?_, ⟨_, rfl⟩, hW, hsame.mono (by decide) (by decide)⟩
 show QrmCo2 Z a is ds al cA ro ba pA fa va r x0 x1 cv pv xc h0 n0 _ TQ7.heap _
 rw [eQA]
 exact ⟨aK0, r1KW, r2KX, rfl, NQE, K0, S0, S1, S2, S3, S4, S5, S6, S7, gMN, gMO, gMP, gMQ, FP4, FQG, AJX, gKZ, gL0, gL1, gL2, gL3, nwKA, nwL9, nwLJ, nLH, nLR, nL6⟩
def QrmRs0 (Z : State) (a : Addr) (is : Addr) (ds : Addr) (al : Addr) (cA : Addr) (ro : Addr) (ba : Addr) (pA : Addr) (fa : Addr) (va : Addr) (r : Addr) (x0 : Addr) (x1 : Addr) (x2 : Addr) (xo : Addr) (ra : Addr) (sa : Addr) (rv : List Value) (bv : List Value) (pv : List Value) (vv : List Value) (la : List Value) (ma : List Value) (b : UInt64) (y0 : UInt64) (ow : Int32) (W : Int) (E : Int) (h0 : Heap) (n0 : Nat) (vQ : Option Value) (hQ : Heap) (LQ : List Loc) : Prop := ∃ (mq : UInt64), vQ = some (.int (0 : Int32)) ∧ Fr n0 LQ ∧ Keep h0 hQ [a, ro, ba, pA, va, xo, ra, sa] ∧ (fd41 Z hQ a (.ref al)) ∧ (fd42 Z hQ a (.ref cA)) ∧ (fd43 Z hQ a (.ref ro)) ∧ (fd44 Z hQ a (.ref ba)) ∧ (fd45 Z hQ a (.ref pA)) ∧ (fd46 Z hQ a (.ref fa)) ∧ (fd47 Z hQ a (.ref va)) ∧ (fd48 Z hQ a (.int (1 : Int32))) ∧ (own_A Z hQ ro .double (rv.set ((0 : Int32)).toNatClampNeg (.double b))) ∧ (own_A Z hQ ba .int (bv.set ((0 : Int32)).toNatClampNeg (.int ow))) ∧ (own_A Z hQ pA .int (pv.set ow.toNatClampNeg (.int (0 : Int32)))) ∧ (own_A Z hQ va .double (vv.set ((0 : Int32)).toNatClampNeg (.double mq))) ∧ (Fin64 mq ∧ own_z mq = W * ((2 ^ 1072 : Nat) : Int))
theorem ef_rmRs0 (m : MethodId) (a : Addr) (is : Addr) (ds : Addr) (al : Addr) (cA : Addr) (ro : Addr) (ba : Addr) (pA : Addr) (fa : Addr) (va : Addr) (r : Addr) (x0 : Addr) (x1 : Addr) (x2 : Addr) (xo : Addr) (ra : Addr) (sa : Addr) (rv : List Value) (bv : List Value) (pv : List Value) (vv : List Value) (la : List Value) (ma : List Value) (b : UInt64) (y0 : UInt64) (ow : Int32) (W : Int) (E : Int) : entryFrame m #[(.ref a), (.double b), (.ref is), (.ref ds), (.int ow)] 15 = mkF m 0 #[vr a, vd b, ss, vr is, vr ds, vi ow, uu, uu, uu, uu, uu, uu, uu, uu, uu] [] := by first | (simp [entryFrame, mkF, argsToLocals, Value.category]; done) | rfl
abbrev mn159 : MethodName := ⟨"com/example/netloom/netloom/embed/Simplex", "addRow", "(D[I[DI)I"⟩
theorem p49_3_0 : decode prog_49_method_3_code 0 = .ok (.aload_n 0, 1) := by decide +kernel
theorem p49_3_1 : decode prog_49_method_3_code 1 = .ok (.getfield 68, 3) := by decide +kernel
def tw247 {Z a0} (hw : HW Z a0) := hw _ (List.mem_of_getElem? (i := 247) rfl)
theorem p49_3_4 : decode prog_49_method_3_code 4 = .ok (.istore 6, 2) := by decide +kernel
theorem p49_3_6 : decode prog_49_method_3_code 6 = .ok (.aload_n 0, 1) := by decide +kernel
theorem p49_3_7 : decode prog_49_method_3_code 7 = .ok (.getfield 27, 3) := by decide +kernel
theorem p49_3_10 : decode prog_49_method_3_code 10 = .ok (.iload 5, 2) := by decide +kernel
theorem p49_3_12 : decode prog_49_method_3_code 12 = .ok (.iaload, 1) := by decide +kernel
theorem p49_3_13 : decode prog_49_method_3_code 13 = .ok (.ifCond .ge 23, 3) := by decide +kernel
theorem p49_3_16 : decode prog_49_method_3_code 16 = .ok (.aload_n 0, 1) := by decide +kernel
theorem p49_3_17 : decode prog_49_method_3_code 17 = .ok (.getfield 10, 3) := by decide +kernel
theorem p49_3_20 : decode prog_49_method_3_code 20 = .ok (.iload 5, 2) := by decide +kernel
theorem p49_3_22 : decode prog_49_method_3_code 22 = .ok (.invokeinterface 72 2, 5) := by decide +kernel
def tw256 {Z a0} (hw : HW Z a0) := hw _ (List.mem_of_getElem? (i := 256) rfl)
def tw259 {Z a0} (hw : HW Z a0) := hw _ (List.mem_of_getElem? (i := 259) rfl)
def tw263 {Z a0} (hw : HW Z a0) := hw _ (List.mem_of_getElem? (i := 263) rfl)
abbrev mn160 : MethodName := ⟨"java/util/List", "get", "(I)Ljava/lang/Object;"⟩
def tw257 {Z a0} (hw : HW Z a0) := hw _ (List.mem_of_getElem? (i := 257) rfl)
def tw258 {Z a0} (hw : HW Z a0) := hw _ (List.mem_of_getElem? (i := 258) rfl)
def tw260 {Z a0} (hw : HW Z a0) := hw _ (List.mem_of_getElem? (i := 260) rfl)
def tw261 {Z a0} (hw : HW Z a0) := hw _ (List.mem_of_getElem? (i := 261) rfl)
def tw262 {Z a0} (hw : HW Z a0) := hw _ (List.mem_of_getElem? (i := 262) rfl)
theorem p49_3_27 : decode prog_49_method_3_code 27 = .ok (.checkcast 49, 3) := by decide +kernel
def tw277 {Z a0} (hw : HW Z a0) := hw _ (List.mem_of_getElem? (i := 277) rfl)
theorem p49_3_30 : decode prog_49_method_3_code 30 = .ok (.invokevirtual 76, 3) := by decide +kernel
def tw278 {Z a0} (hw : HW Z a0) := hw _ (List.mem_of_getElem? (i := 278) rfl)
def tw281 {Z a0} (hw : HW Z a0) := hw _ (List.mem_of_getElem? (i := 281) rfl)
def tw282 {Z a0} (hw : HW Z a0) := hw _ (List.mem_of_getElem? (i := 282) rfl)
def tw279 {Z a0} (hw : HW Z a0) := hw _ (List.mem_of_getElem? (i := 279) rfl)
def tw280 {Z a0} (hw : HW Z a0) := hw _ (List.mem_of_getElem? (i := 280) rfl)
theorem p49_3_33 : decode prog_49_method_3_code 33 = .ok (.ifCond .le 18, 3) := by decide +kernel
theorem p49_3_51 : decode prog_49_method_3_code 51 = .ok (.dconst 0, 1) := by decide +kernel
theorem p49_3_52 : decode prog_49_method_3_code 52 = .ok (.dstore 7, 2) := by decide +kernel
theorem p49_3_54 : decode prog_49_method_3_code 54 = .ok (.dconst 0, 1) := by decide +kernel
theorem p49_3_55 : decode prog_49_method_3_code 55 = .ok (.dstore 9, 2) := by decide +kernel
theorem p49_3_57 : decode prog_49_method_3_code 57 = .ok (.iload 6, 2) := by decide +kernel
theorem p49_3_59 : decode prog_49_method_3_code 59 = .ok (.newarray .double, 2) := by decide +kernel
theorem p49_3_61 : decode prog_49_method_3_code 61 = .ok (.astore 11, 2) := by decide +kernel
theorem p49_3_63 : decode prog_49_method_3_code 63 = .ok (.iconst 0, 1) := by decide +kernel
theorem p49_3_64 : decode prog_49_method_3_code 64 = .ok (.istore 12, 2) := by decide +kernel
theorem p49_3_66 : decode prog_49_method_3_code 66 = .ok (.iload 12, 2) := by decide +kernel
theorem p49_3_68 : decode prog_49_method_3_code 68 = .ok (.aload_n 3, 1) := by decide +kernel
theorem p49_3_69 : decode prog_49_method_3_code 69 = .ok (.arraylength, 1) := by decide +kernel
theorem p49_3_70 : decode prog_49_method_3_code 70 = .ok (.if_icmp .ge 80, 3) := by decide +kernel
theorem p49_3_73 : decode prog_49_method_3_code 73 = .ok (.aload_n 3, 1) := by decide +kernel
theorem p49_3_74 : decode prog_49_method_3_code 74 = .ok (.iload 12, 2) := by decide +kernel
theorem p49_3_76 : decode prog_49_method_3_code 76 = .ok (.iaload, 1) := by decide +kernel
theorem p49_3_77 : decode prog_49_method_3_code 77 = .ok (.istore 13, 2) := by decide +kernel
theorem p49_3_79 : decode prog_49_method_3_code 79 = .ok (.iload 13, 2) := by decide +kernel
theorem p49_3_81 : decode prog_49_method_3_code 81 = .ok (.iload 5, 2) := by decide +kernel
theorem p49_3_83 : decode prog_49_method_3_code 83 = .ok (.if_icmp .ne 13, 3) := by decide +kernel
theorem p49_3_86 : decode prog_49_method_3_code 86 = .ok (.aload 4, 2) := by decide +kernel
theorem p49_3_88 : decode prog_49_method_3_code 88 = .ok (.iload 12, 2) := by decide +kernel
theorem p49_3_90 : decode prog_49_method_3_code 90 = .ok (.daload, 1) := by decide +kernel
theorem p49_3_91 : decode prog_49_method_3_code 91 = .ok (.dstore 7, 2) := by decide +kernel
theorem p49_3_93 : decode prog_49_method_3_code 93 = .ok (.goto 51, 3) := by decide +kernel
theorem p49_3_144 : decode prog_49_method_3_code 144 = .ok (.iinc 12 1, 3) := by decide +kernel
theorem p49_3_147 : decode prog_49_method_3_code 147 = .ok (.goto (-81), 3) := by decide +kernel
theorem p49_3_150 : decode prog_49_method_3_code 150 = .ok (.dload 7, 2) := by decide +kernel
theorem p49_3_152 : decode prog_49_method_3_code 152 = .ok (.dconst 0, 1) := by decide +kernel
theorem p49_3_153 : decode prog_49_method_3_code 153 = .ok (.dcmp .l, 1) := by decide +kernel
theorem p49_3_154 : decode prog_49_method_3_code 154 = .ok (.ifCond .ne 9, 3) := by decide +kernel
theorem p49_3_163 : decode prog_49_method_3_code 163 = .ok (.dload_n 1, 1) := by decide +kernel
theorem p49_3_164 : decode prog_49_method_3_code 164 = .ok (.dload 9, 2) := by decide +kernel
theorem p49_3_166 : decode prog_49_method_3_code 166 = .ok (.dsub, 1) := by decide +kernel
theorem p49_3_167 : decode prog_49_method_3_code 167 = .ok (.dload 7, 2) := by decide +kernel
theorem p49_3_169 : decode prog_49_method_3_code 169 = .ok (.ddiv, 1) := by decide +kernel
theorem p49_3_170 : decode prog_49_method_3_code 170 = .ok (.dstore 12, 2) := by decide +kernel
theorem p49_3_172 : decode prog_49_method_3_code 172 = .ok (.dload 12, 2) := by decide +kernel
theorem p49_3_174 : decode prog_49_method_3_code 174 = .ok (.ldc2_w 90, 3) := by decide +kernel
def tw285 {Z a0} (hw : HW Z a0) := hw _ (List.mem_of_getElem? (i := 285) rfl)
theorem p49_3_177 : decode prog_49_method_3_code 177 = .ok (.dconst 1, 1) := by decide +kernel
theorem p49_3_178 : decode prog_49_method_3_code 178 = .ok (.dload_n 1, 1) := by decide +kernel
theorem p49_3_179 : decode prog_49_method_3_code 179 = .ok (.invokestatic 92, 3) := by decide +kernel
def tw286 {Z a0} (hw : HW Z a0) := hw _ (List.mem_of_getElem? (i := 286) rfl)
def tw287 {Z a0} (hw : HW Z a0) := hw _ (List.mem_of_getElem? (i := 287) rfl)
def tw288 {Z a0} (hw : HW Z a0) := hw _ (List.mem_of_getElem? (i := 288) rfl)
theorem pd_161 : parseMethodDescriptor "(D)D" = some ⟨[.double], some .double⟩ := by decide +kernel
theorem p49_3_182 : decode prog_49_method_3_code 182 = .ok (.invokestatic 98, 3) := by decide +kernel
def tw289 {Z a0} (hw : HW Z a0) := hw _ (List.mem_of_getElem? (i := 289) rfl)
def tw290 {Z a0} (hw : HW Z a0) := hw _ (List.mem_of_getElem? (i := 290) rfl)
def tw291 {Z a0} (hw : HW Z a0) := hw _ (List.mem_of_getElem? (i := 291) rfl)
theorem pd_162 : parseMethodDescriptor "(DD)D" = some ⟨[.double, .double], some .double⟩ := by decide +kernel
theorem p49_3_185 : decode prog_49_method_3_code 185 = .ok (.dmul, 1) := by decide +kernel
theorem p49_3_186 : decode prog_49_method_3_code 186 = .ok (.dcmp .l, 1) := by decide +kernel
theorem p49_3_187 : decode prog_49_method_3_code 187 = .ok (.ifCond .ge 20, 3) := by decide +kernel
theorem p49_3_207 : decode prog_49_method_3_code 207 = .ok (.iconst 0, 1) := by decide +kernel
theorem p49_3_208 : decode prog_49_method_3_code 208 = .ok (.istore 14, 2) := by decide +kernel
theorem p49_3_210 : decode prog_49_method_3_code 210 = .ok (.iload 14, 2) := by decide +kernel
theorem p49_3_212 : decode prog_49_method_3_code 212 = .ok (.aload_n 3, 1) := by decide +kernel
theorem p49_3_213 : decode prog_49_method_3_code 213 = .ok (.arraylength, 1) := by decide +kernel
theorem p49_3_214 : decode prog_49_method_3_code 214 = .ok (.if_icmp .ge 35, 3) := by decide +kernel
theorem p49_3_217 : decode prog_49_method_3_code 217 = .ok (.aload_n 0, 1) := by decide +kernel
theorem p49_3_218 : decode prog_49_method_3_code 218 = .ok (.getfield 10, 3) := by decide +kernel
theorem p49_3_221 : decode prog_49_method_3_code 221 = .ok (.aload_n 3, 1) := by decide +kernel
theorem p49_3_222 : decode prog_49_method_3_code 222 = .ok (.iload 14, 2) := by decide +kernel
theorem p49_3_224 : decode prog_49_method_3_code 224 = .ok (.iaload, 1) := by decide +kernel
theorem p49_3_225 : decode prog_49_method_3_code 225 = .ok (.invokeinterface 72 2, 5) := by decide +kernel
theorem p49_3_230 : decode prog_49_method_3_code 230 = .ok (.checkcast 49, 3) := by decide +kernel
theorem p49_3_233 : decode prog_49_method_3_code 233 = .ok (.iload 6, 2) := by decide +kernel
theorem p49_3_235 : decode prog_49_method_3_code 235 = .ok (.aload 4, 2) := by decide +kernel
theorem p49_3_237 : decode prog_49_method_3_code 237 = .ok (.iload 14, 2) := by decide +kernel
theorem p49_3_239 : decode prog_49_method_3_code 239 = .ok (.daload, 1) := by decide +kernel
theorem p49_3_240 : decode prog_49_method_3_code 240 = .ok (.invokevirtual 52, 3) := by decide +kernel
def tw292 {Z a0} (hw : HW Z a0) := hw _ (List.mem_of_getElem? (i := 292) rfl)
def tw295 {Z a0} (hw : HW Z a0) := hw _ (List.mem_of_getElem? (i := 295) rfl)
def tw296 {Z a0} (hw : HW Z a0) := hw _ (List.mem_of_getElem? (i := 296) rfl)
theorem pd_163 : parseMethodDescriptor "(ID)V" = some ⟨[.int, .double], none⟩ := by decide +kernel
def tw293 {Z a0} (hw : HW Z a0) := hw _ (List.mem_of_getElem? (i := 293) rfl)
def tw294 {Z a0} (hw : HW Z a0) := hw _ (List.mem_of_getElem? (i := 294) rfl)
theorem p49_3_243 : decode prog_49_method_3_code 243 = .ok (.iinc 14 1, 3) := by decide +kernel
theorem p49_3_246 : decode prog_49_method_3_code 246 = .ok (.goto (-36), 3) := by decide +kernel
theorem p49_3_249 : decode prog_49_method_3_code 249 = .ok (.aload_n 0, 1) := by decide +kernel
theorem p49_3_250 : decode prog_49_method_3_code 250 = .ok (.aload_n 0, 1) := by decide +kernel
theorem p49_3_251 : decode prog_49_method_3_code 251 = .ok (.getfield 20, 3) := by decide +kernel
theorem p49_3_254 : decode prog_49_method_3_code 254 = .ok (.iload 6, 2) := by decide +kernel
theorem p49_3_256 : decode prog_49_method_3_code 256 = .ok (.iconst 1, 1) := by decide +kernel
theorem p49_3_257 : decode prog_49_method_3_code 257 = .ok (.iadd, 1) := by decide +kernel
theorem p49_3_258 : decode prog_49_method_3_code 258 = .ok (.invokestatic 59, 3) := by decide +kernel
theorem p49_3_261 : decode prog_49_method_3_code 261 = .ok (.putfield 20, 3) := by decide +kernel
theorem p49_3_264 : decode prog_49_method_3_code 264 = .ok (.aload_n 0, 1) := by decide +kernel
theorem p49_3_265 : decode prog_49_method_3_code 265 = .ok (.getfield 20, 3) := by decide +kernel
theorem p49_3_268 : decode prog_49_method_3_code 268 = .ok (.iload 6, 2) := by decide +kernel
theorem p49_3_270 : decode prog_49_method_3_code 270 = .ok (.dload_n 1, 1) := by decide +kernel
theorem p49_3_271 : decode prog_49_method_3_code 271 = .ok (.dastore, 1) := by decide +kernel
theorem p49_3_272 : decode prog_49_method_3_code 272 = .ok (.aload_n 0, 1) := by decide +kernel
theorem p49_3_273 : decode prog_49_method_3_code 273 = .ok (.aload_n 0, 1) := by decide +kernel
theorem p49_3_274 : decode prog_49_method_3_code 274 = .ok (.getfield 23, 3) := by decide +kernel
theorem p49_3_277 : decode prog_49_method_3_code 277 = .ok (.iload 6, 2) := by decide +kernel
theorem p49_3_279 : decode prog_49_method_3_code 279 = .ok (.iconst 1, 1) := by decide +kernel
theorem p49_3_280 : decode prog_49_method_3_code 280 = .ok (.iadd, 1) := by decide +kernel
theorem p49_3_281 : decode prog_49_method_3_code 281 = .ok (.invokestatic 65, 3) := by decide +kernel
theorem p49_3_284 : decode prog_49_method_3_code 284 = .ok (.putfield 23, 3) := by decide +kernel
theorem p49_3_287 : decode prog_49_method_3_code 287 = .ok (.aload_n 0, 1) := by decide +kernel
theorem p49_3_288 : decode prog_49_method_3_code 288 = .ok (.getfield 23, 3) := by decide +kernel
theorem p49_3_291 : decode prog_49_method_3_code 291 = .ok (.iload 6, 2) := by decide +kernel
theorem p49_3_293 : decode prog_49_method_3_code 293 = .ok (.iload 5, 2) := by decide +kernel
theorem p49_3_295 : decode prog_49_method_3_code 295 = .ok (.iastore, 1) := by decide +kernel
theorem p49_3_296 : decode prog_49_method_3_code 296 = .ok (.aload_n 0, 1) := by decide +kernel
theorem p49_3_297 : decode prog_49_method_3_code 297 = .ok (.getfield 27, 3) := by decide +kernel
theorem p49_3_300 : decode prog_49_method_3_code 300 = .ok (.iload 5, 2) := by decide +kernel
theorem p49_3_302 : decode prog_49_method_3_code 302 = .ok (.iload 6, 2) := by decide +kernel
theorem p49_3_304 : decode prog_49_method_3_code 304 = .ok (.iastore, 1) := by decide +kernel
theorem p49_3_305 : decode prog_49_method_3_code 305 = .ok (.aload_n 0, 1) := by decide +kernel
theorem p49_3_306 : decode prog_49_method_3_code 306 = .ok (.aload_n 0, 1) := by decide +kernel
theorem p49_3_307 : decode prog_49_method_3_code 307 = .ok (.getfield 37, 3) := by decide +kernel
theorem p49_3_310 : decode prog_49_method_3_code 310 = .ok (.iload 6, 2) := by decide +kernel
theorem p49_3_312 : decode prog_49_method_3_code 312 = .ok (.iconst 1, 1) := by decide +kernel
theorem p49_3_313 : decode prog_49_method_3_code 313 = .ok (.iadd, 1) := by decide +kernel
theorem p49_3_314 : decode prog_49_method_3_code 314 = .ok (.invokestatic 59, 3) := by decide +kernel
theorem p49_3_317 : decode prog_49_method_3_code 317 = .ok (.putfield 37, 3) := by decide +kernel
theorem p49_3_320 : decode prog_49_method_3_code 320 = .ok (.aload_n 0, 1) := by decide +kernel
theorem p49_3_321 : decode prog_49_method_3_code 321 = .ok (.getfield 37, 3) := by decide +kernel
theorem p49_3_324 : decode prog_49_method_3_code 324 = .ok (.iload 6, 2) := by decide +kernel
theorem p49_3_326 : decode prog_49_method_3_code 326 = .ok (.dconst 0, 1) := by decide +kernel
theorem p49_3_327 : decode prog_49_method_3_code 327 = .ok (.dload 12, 2) := by decide +kernel
theorem p49_3_329 : decode prog_49_method_3_code 329 = .ok (.invokestatic 98, 3) := by decide +kernel
theorem p49_3_332 : decode prog_49_method_3_code 332 = .ok (.dastore, 1) := by decide +kernel
theorem p49_3_333 : decode prog_49_method_3_code 333 = .ok (.aload_n 0, 1) := by decide +kernel
theorem p49_3_334 : decode prog_49_method_3_code 334 = .ok (.getfield 33, 3) := by decide +kernel
theorem p49_3_337 : decode prog_49_method_3_code 337 = .ok (.invokevirtual 105, 3) := by decide +kernel
def tw297 {Z a0} (hw : HW Z a0) := hw _ (List.mem_of_getElem? (i := 297) rfl)
def tw300 {Z a0} (hw : HW Z a0) := hw _ (List.mem_of_getElem? (i := 300) rfl)
def tw301 {Z a0} (hw : HW Z a0) := hw _ (List.mem_of_getElem? (i := 301) rfl)
def tw298 {Z a0} (hw : HW Z a0) := hw _ (List.mem_of_getElem? (i := 298) rfl)
def tw299 {Z a0} (hw : HW Z a0) := hw _ (List.mem_of_getElem? (i := 299) rfl)
theorem p49_3_340 : decode prog_49_method_3_code 340 = .ok (.iload 6, 2) := by decide +kernel
theorem p49_3_342 : decode prog_49_method_3_code 342 = .ok (.if_icmp .ne 14, 3) := by decide +kernel
theorem p49_3_356 : decode prog_49_method_3_code 356 = .ok (.aload_n 0, 1) := by decide +kernel
theorem p49_3_357 : decode prog_49_method_3_code 357 = .ok (.dup, 1) := by decide +kernel
theorem p49_3_358 : decode prog_49_method_3_code 358 = .ok (.getfield 68, 3) := by decide +kernel
theorem p49_3_361 : decode prog_49_method_3_code 361 = .ok (.iconst 1, 1) := by decide +kernel
theorem p49_3_362 : decode prog_49_method_3_code 362 = .ok (.iadd, 1) := by decide +kernel
theorem p49_3_363 : decode prog_49_method_3_code 363 = .ok (.putfield 68, 3) := by decide +kernel
theorem sn164 {Z a0} (hw : HW Z a0) : RoadKit.slotOf Z cn53 "columns" "Ljava/util/List;" ≠ RoadKit.slotOf Z cn53 "rowCount" "I" := (slot_ne (C := cn53) (Or.inr (tw41 hw)) (Or.inl (tw248 hw)) (by decide) (t := (.object "java/util/List")) (t' := .int) (by decide) (by decide))
theorem sn165 {Z a0} (hw : HW Z a0) : RoadKit.slotOf Z cn53 "cost" "[D" ≠ RoadKit.slotOf Z cn53 "rowCount" "I" := (slot_ne (C := cn53) (Or.inl (tw43 hw)) (Or.inl (tw248 hw)) (by decide) (t := (.array .double)) (t' := .int) (by decide) (by decide))
theorem sn166 {Z a0} (hw : HW Z a0) : RoadKit.slotOf Z cn53 "rhs" "[D" ≠ RoadKit.slotOf Z cn53 "rowCount" "I" := (slot_ne (C := cn53) (Or.inl (tw45 hw)) (Or.inl (tw248 hw)) (by decide) (t := (.array .double)) (t' := .int) (by decide) (by decide))
theorem sn167 {Z a0} (hw : HW Z a0) : RoadKit.slotOf Z cn53 "basic" "[I" ≠ RoadKit.slotOf Z cn53 "rowCount" "I" := (slot_ne (C := cn53) (Or.inl (tw47 hw)) (Or.inl (tw248 hw)) (by decide) (t := (.array .int)) (t' := .int) (by decide) (by decide))
theorem sn168 {Z a0} (hw : HW Z a0) : RoadKit.slotOf Z cn53 "positionOf" "[I" ≠ RoadKit.slotOf Z cn53 "rowCount" "I" := (slot_ne (C := cn53) (Or.inl (tw49 hw)) (Or.inl (tw248 hw)) (by decide) (t := (.array .int)) (t' := .int) (by decide) (by decide))
theorem sn169 {Z a0} (hw : HW Z a0) : RoadKit.slotOf Z cn53 "factor" "Lcom/example/netloom/netloom/embed/BasisFactor;" ≠ RoadKit.slotOf Z cn53 "rowCount" "I" := (slot_ne (C := cn53) (Or.inr (tw166 hw)) (Or.inl (tw248 hw)) (by decide) (t := (.object "com/example/netloom/netloom/embed/BasisFactor")) (t' := .int) (by decide) (by decide))
theorem sn170 {Z a0} (hw : HW Z a0) : RoadKit.slotOf Z cn53 "value" "[D" ≠ RoadKit.slotOf Z cn53 "rowCount" "I" := (slot_ne (C := cn53) (Or.inl (tw168 hw)) (Or.inl (tw248 hw)) (by decide) (t := (.array .double)) (t' := .int) (by decide) (by decide))
theorem p49_3_366 : decode prog_49_method_3_code 366 = .ok (.iload 6, 2) := by decide +kernel
theorem p49_3_368 : decode prog_49_method_3_code 368 = .ok (.ireturn, 1) := by decide +kernel
set_option maxRecDepth 65536 in
set_option maxHeartbeats 40000000 in
theorem rmRs0 (l : Launch) (Z : State) (a0 : Array Value) (hw : ∀ d ∈ tables_1, d.before a0 Z = true) (ws : List Jvm.Cond) (a : Addr) (is : Addr) (ds : Addr) (al : Addr) (cA : Addr) (ro : Addr) (ba : Addr) (pA : Addr) (fa : Addr) (va : Addr) (r : Addr) (x0 : Addr) (x1 : Addr) (x2 : Addr) (xo : Addr) (ra : Addr) (sa : Addr) (rv : List Value) (bv : List Value) (pv : List Value) (vv : List Value) (la : List Value) (ma : List Value) (b : UInt64) (y0 : UInt64) (ow : Int32) (W : Int) (E : Int) (h0 : Heap) (n0 : Nat) (Z0 : n0 ≤ h0.size) (EX : xa49 Z h0 a) (S0 : fd41 Z h0 a (.ref al)) (S1 : fd42 Z h0 a (.ref cA)) (S2 : fd43 Z h0 a (.ref ro)) (S3 : fd44 Z h0 a (.ref ba)) (S4 : fd45 Z h0 a (.ref pA)) (S5 : fd46 Z h0 a (.ref fa)) (S6 : fd47 Z h0 a (.ref va)) (S7 : fd48 Z h0 a (.int (0 : Int32))) (E1 : xa32 Z h0 al) (L1 : fd30 Z h0 al (.ref r)) (L2 : fd31 Z h0 al (.int (3 : Int32))) (AE : own_O Z h0 r "java/lang/Object" [(.ref x0), (.ref x1), (.ref x2), .null, .null, .null, .null, .null, .null, .null]) (E3 : xa10 Z h0 fa) (L3 : fd9 Z h0 fa (.int (-1 : Int32))) (C1 : xa123 Z h0 xo) (C2 : fd120 Z h0 xo (.ref ra)) (C3 : fd121 Z h0 xo (.ref sa)) (C4 : fd122 Z h0 xo (.int (0 : Int32))) (C5 : own_A Z h0 ra .int la) (C6 : own_A Z h0 sa .double ma) (A1 : own_A Z h0 ro .double rv) (A2 : own_A Z h0 ba .int bv) (A3 : own_A Z h0 pA .int pv) (A4 : own_A Z h0 va .double vv) (A5 : own_A Z h0 is .int [(.int ow)]) (A6 : own_A Z h0 ds .double [(.double y0)]) (q_a_ro : a ≠ ro) (q_a_ba : a ≠ ba) (q_a_pA : a ≠ pA) (q_a_va : a ≠ va) (q_a_xo : a ≠ xo) (q_a_ra : a ≠ ra) (q_a_sa : a ≠ sa) (q_a_is : a ≠ is) (q_a_ds : a ≠ ds) (q_a_al : a ≠ al) (q_a_r : a ≠ r) (q_a_fa : a ≠ fa) (q_ro_ba : ro ≠ ba) (q_ro_pA : ro ≠ pA) (q_ro_va : ro ≠ va) (q_ro_xo : ro ≠ xo) (q_ro_ra : ro ≠ ra) (q_ro_sa : ro ≠ sa) (q_ro_is : ro ≠ is) (q_ro_ds : ro ≠ ds) (q_ro_al : ro ≠ al) (q_ro_r : ro ≠ r) (q_ro_fa : ro ≠ fa) (q_ba_pA : ba ≠ pA) (q_ba_va : ba ≠ va) (q_ba_xo : ba ≠ xo) (q_ba_ra : ba ≠ ra) (q_ba_sa : ba ≠ sa) (q_ba_is : ba ≠ is) (q_ba_ds : ba ≠ ds) (q_ba_al : ba ≠ al) (q_ba_r : ba ≠ r) (q_ba_fa : ba ≠ fa) (q_pA_va : pA ≠ va) (q_pA_xo : pA ≠ xo) (q_pA_ra : pA ≠ ra) (q_pA_sa : pA ≠ sa) (q_pA_is : pA ≠ is) (q_pA_ds : pA ≠ ds) (q_pA_al : pA ≠ al) (q_pA_r : pA ≠ r) (q_pA_fa : pA ≠ fa) (q_va_xo : va ≠ xo) (q_va_ra : va ≠ ra) (q_va_sa : va ≠ sa) (q_va_is : va ≠ is) (q_va_ds : va ≠ ds) (q_va_al : va ≠ al) (q_va_r : va ≠ r) (q_va_fa : va ≠ fa) (q_xo_ra : xo ≠ ra) (q_xo_sa : xo ≠ sa) (q_xo_is : xo ≠ is) (q_xo_ds : xo ≠ ds) (q_xo_al : xo ≠ al) (q_xo_r : xo ≠ r) (q_xo_fa : xo ≠ fa) (q_ra_sa : ra ≠ sa) (q_ra_is : ra ≠ is) (q_ra_ds : ra ≠ ds) (q_ra_al : ra ≠ al) (q_ra_r : ra ≠ r) (q_ra_fa : ra ≠ fa) (q_sa_is : sa ≠ is) (q_sa_ds : sa ≠ ds) (q_sa_al : sa ≠ al) (q_sa_r : sa ≠ r) (q_sa_fa : sa ≠ fa) (ge_a : n0 ≤ a) (ge_ro : n0 ≤ ro) (ge_ba : n0 ≤ ba) (ge_pA : n0 ≤ pA) (ge_va : n0 ≤ va) (ge_xo : n0 ≤ xo) (ge_ra : n0 ≤ ra) (ge_sa : n0 ≤ sa) (lr : rv.length = 16) (lbv : bv.length = 16) (lp : pv.length = 16) (lv : vv.length = 16) (la4 : la.length = 4) (ma4 : ma.length = 4) (w0 : ¬ ow < 0) (w3 : ow < 3) (hxo : ([.ref x0, .ref x1, .ref x2, .null, .null, .null, .null, .null, .null, .null] : List Value)[ow.toNatClampNeg]? = some (.ref xo)) (hp : pv[ow.toNatClampNeg]? = some (.int (-1 : Int32))) (hbE : own_bE b y0 E W) :
  MetFree l mn159 (head1 (Jvm.Cond.code mn159 prog_49_method_3_code 15 (some .int) :: ws) ({ frames := 4, cells := 1, slots := 0, locals := 60 } : Room)) (fun aA U => aA = #[(.ref a), (.double b), (.ref is), (.ref ds), (.int ow)] ∧ Z.Warmed39 U.vm ∧ U.heap = h0) (fun _ _ _ _ _ => True) (fun _ U o U' => ∃ vR LR, o = .returned vR ∧ QrmRs0 Z a is ds al cA ro ba pA fa va r x0 x1 x2 xo ra sa rv bv pv vv la ma b y0 ow W E h0 n0 vR U'.heap LR ∧ FrameEnd U o U' LR ({ frames := 4, cells := 1, slots := 0, locals := 60 } : Room).cells ({ frames := 4, cells := 1, slots := 0, locals := 60 } : Room).slots) := by
 refine MetFree.of_bodySF (plainFor_of_name pn_com_example_netloom_netloom_embed_Simplex) hisR ?_
 intro p e s m args below meth c s₁ Bd hml0 hPre hKk
 obtain ⟨rfl, hZ, hh⟩ := hPre
 have hx := Bd.exec
 have hby := Bd.bytes
 have hH : ∀ {pc r}, decode prog_49_method_3_code pc = r → decode c.code pc = r := fun q => hb hby q
 have hml : c.maxLocals = 15 := hml0
 have hown : s.vm.findClass "com/example/netloom/netloom/embed/Simplex" = some m.cls := findClass_of_methodNamed Bd.named
 have hnm := (name_of_methodNamed Bd.named Bd.method).1
 have X0 : Stand p l e ({ frames := 4, cells := 1, slots := 0, locals := 60 } : Room) s m #[(.ref a), (.double b), (.ref is), (.ref ds), (.int ow)] below meth c s₁ [] 0 0 := Stand.of_body Bd
 have e0 : s₁.heap = h0 := by rw [← hh, Bd.state]; rfl
 have N0 := Fr.nil n0
 obtain ⟨E0, hE0⟩ : ∃ zE : State, zE = s₁.setTop (entryFrame m #[(.ref a), (.double b), (.ref is), (.ref ds), (.int ow)] 15) := ⟨_, rfl⟩
 have k0 : own_G p e below E0 s₁ (mkF m 0 #[vr a, vd b, ss, vr is, vr ds, vi ow, uu, uu, uu, uu, uu, uu, uu, uu, uu] []) := fun tz kz => hE0 ▸ castTop (ef_rmRs0 m a is ds al cA ro ba pA fa va r x0 x1 x2 xo ra sa rv bv pv vv la ma b y0 ow W E) kz
 have K0 : Keep h0 h0 [a, ro, ba, pA, va, xo, ra, sa] := Keep.refl _ _
 let zz7 : Array Slot := #[vr a, vd b, ss, vr is, vr ds, vi ow, uu, uu, uu, uu, uu, uu, uu, uu, uu]
 have kJ0 : own_G p e below E0 s₁ (mkF m 1 zz7 [(.ref a)]) := by
  intro tQ kk
  refine k0 tQ ?_
  refine XS.aloadN X0.here hx rfl (hH p49_3_0) rfl rfl ?_
  exact kk
 clear k0
 obtain ⟨TJ1, XJ2, eJ3, stJ4⟩ := getF X0 hx hZ hown (host := "") (Or.inl (tw247 hw)) Via.refl e0 S7 (g := (mkF m 1 zz7 [(.ref a)])) rfl rfl (hH p49_3_1)
 have kJ5 : own_G p e below E0 TJ1 (mkF m 4 zz7 [(.int (0 : Int32))]) := fun tQ kk => kJ0 tQ (stJ4 _ kk)
 clear kJ0 stJ4
 let zz8 : Array Slot := #[vr a, vd b, ss, vr is, vr ds, vi ow, vi (0 : Int32), uu, uu, uu, uu, uu, uu, uu, uu]
 have kJ6 : own_G p e below E0 TJ1 (mkF m 7 zz8 [(.ref a)]) := by
  intro tQ kk
  refine kJ5 tQ ?_
  refine XS.istore XJ2.here hx rfl (hH p49_3_4) rfl (l' := zz8) rfl ?_
  refine XS.aloadN XJ2.here hx rfl (hH p49_3_6) rfl rfl ?_
  exact kk
 clear kJ5
 obtain ⟨TJ7, XJ8, eJ9, stJA⟩ := getF XJ2 hx hZ hown (host := "") (Or.inl (tw48 hw)) Via.refl eJ3 S4 (g := (mkF m 7 zz8 [(.ref a)])) rfl rfl (hH p49_3_7)
 have kJB : own_G p e below E0 TJ7 (mkF m 10 zz8 [(.ref pA)]) := fun tQ kk => kJ6 tQ (stJA _ kk)
 clear kJ6 stJA
 have kJC : own_G p e below E0 TJ7 (mkF m 12 zz8 [(.int ow), (.ref pA)]) := by
  intro tQ kk
  refine kJB tQ ?_
  refine XS.iload XJ8.here hx rfl (hH p49_3_10) rfl ?_
  exact kk
 clear kJB
 have stJD := fun tQ => own_A.ild XJ8 hx hZ eJ9 A3 (j := ow) (v := (.int (-1 : Int32))) w0 hp (g := (mkF m 12 zz8 [(.int ow), (.ref pA)])) rfl rfl (hH p49_3_12) tQ
 have kJE : own_G p e below E0 TJ7 (mkF m 13 zz8 [(.int (-1 : Int32))]) := fun tQ kk => kJC tQ (stJD _ kk)
 clear kJC stJD
 have kJF : own_G p e below E0 TJ7 (mkF m 17 zz8 [(.ref a)]) := by
  intro tQ kk
  refine kJE tQ ?_
  refine XS.ifNo XJ8.here hx rfl (hH p49_3_13) rfl (own_if_geN (by decide)) ?_
  refine XS.aloadN XJ8.here hx rfl (hH p49_3_16) rfl rfl ?_
  exact kk
 clear kJE
 obtain ⟨TJG, XJH, eJI, stJJ⟩ := getF XJ8 hx hZ hown (host := "") (Or.inl (tw40 hw)) Via.refl eJ9 S0 (g := (mkF m 17 zz8 [(.ref a)])) rfl rfl (hH p49_3_17)
 have kJK : own_G p e below E0 TJG (mkF m 20 zz8 [(.ref al)]) := fun tQ kk => kJF tQ (stJJ _ kk)
 clear kJF stJJ
 have kJL : own_G p e below E0 TJG (mkF m 22 zz8 [(.int ow), (.ref al)]) := by
  intro tQ kk
  refine kJK tQ ?_
  refine XS.iload XJH.here hx rfl (hH p49_3_20) rfl ?_
  exact kk
 clear kJK
 obtain ⟨cqJX, kqJY, qaJZ, qbK0, qcK1⟩ := isOf hZ eJI E1
 obtain ⟨_, _, ⟨TJM, LJN, kcJO, ncJP⟩, -, XJQ, ⟨LcJR, hQJS, lJT, yJU, zJV⟩, stJW⟩ := XJH.interfaceBack hx (xi := mn160) (y := mn150) hown (mvT hZ (tw256 hw)) (mvT hZ (tw257 hw)) (mvT hZ (tw258 hw)) (mvT hZ (tw259 hw)) (mvT hZ (tw260 hw)) (mvT hZ (tw261 hw)) (mvT hZ (tw262 hw)) (mvT hZ (tw183 hw)) (by decide) (backOf (W := 0) (rmGtS l Z a0 hw [] al r x0 x1 x2 xo ow h0 n0 Z0 E1 L1 L2 AE w0 w3 hxo) hZ (tw263 hw) (tw18 hw) (by decide) (by decide)) qaJZ qbK0 qcK1 (g := (mkF m 22 zz8 [(.int ow), (.ref al)])) rfl (by rw [hml]; rfl) (Steps.refl _) (argsL := [(.int ow)]) (rest := []) (lenOf pd_151 rfl) rfl (by show 2 * 0 + _ ≤ _; exact Nat.le_of_eq rfl) (hH p49_3_22) (fun _ _ => ⟨rfl, eJI, (by decide : 0 + 0 ≤ _), (by decide : 0 + 0 ≤ _)⟩)
 dsimp only [Pt.U, Pt.locs, Pt.cells, Pt.slots] at XJQ lJT yJU zJV stJW hQJS
 subst yJU zJV
 obtain ⟨rfl, NK2, eK3⟩ := hQJS
 have NK5 : Fr n0 LJN := by rw [lJT]; exact Fr.app N0 NK2
 clear lJT NK2
 have kK6 : own_G p e below E0 TJM (mkF m 27 zz8 [(.ref xo)]) := fun tQ kk => kJL tQ (stJW.trans kk)
 clear kJL stJW
 obtain ⟨TK7, XK8, eK9, stKA⟩ := castY XJQ hx hZ hown (tw187 hw) eK3 (Ins.of_exa C1 (tw277 hw)) (g := (mkF m 27 zz8 [(.ref xo)])) rfl rfl (hH p49_3_27)
 have kKB : own_G p e below E0 TK7 (mkF m 30 zz8 [(.ref xo)]) := fun tQ kk => kK6 tQ (stKA _ kk)
 clear kK6 stKA
 obtain ⟨cqKN, kqKO, qaKP, qbKQ, qcKR⟩ := isOf hZ eK9 C1
 obtain ⟨_, _, ⟨TKC, LKD, kcKE, ncKF⟩, -, XKG, ⟨LcKH, hQKI, lKJ, yKK, zKL⟩, stKM⟩ := XK8.virtualBack hx (y := mn133) (z := mn133) hown (mvT hZ (tw278 hw)) (mvT hZ (tw279 hw)) (notFace_of_selects (args := #[]) (mvT hZ (tw281 hw))) (mvT hZ (tw281 hw)) (mvT hZ (tw280 hw)) (by decide) (backOf (W := 0) (rmSs l Z a0 hw [] xo (0 : Int32) h0 n0 Z0 C4) hZ (tw282 hw) (tw189 hw) (by decide) (by decide)) qaKP qcKR (g := (mkF m 30 zz8 [(.ref xo)])) rfl (by rw [hml]; rfl) (Steps.refl _) (argsL := []) (rest := []) (lenOf pd_153 rfl) rfl (by show 2 * 0 + _ ≤ _; exact Nat.le_of_eq rfl) (hH p49_3_30) (fun _ _ => ⟨rfl, eK9, (by decide : 0 + 0 ≤ _), (by decide : 0 + 0 ≤ _)⟩)
 dsimp only [Pt.U, Pt.locs, Pt.cells, Pt.slots] at XKG lKJ yKK zKL stKM hQKI
 subst yKK zKL
 obtain ⟨rfl, NKS, eKT⟩ := hQKI
 have NKV : Fr n0 LKD := by rw [lKJ]; exact Fr.app NK5 NKS
 clear lKJ NKS
 have kKW : own_G p e below E0 TKC (mkF m 33 zz8 [(.int (0 : Int32))]) := fun tQ kk => kKB tQ (stKM.trans kk)
 clear kKB stKM
 let zz9 : Array Slot := #[vr a, vd b, ss, vr is, vr ds, vi ow, vi (0 : Int32), vd FP.dconst0, ss, vd FP.dconst0, ss, uu, uu, uu, uu]
 have kKX : own_G p e below E0 TKC (mkF m 59 zz9 [(.int (0 : Int32))]) := by
  intro tQ kk
  refine kKW tQ ?_
  refine XS.ifYes XKG.here hx rfl (pc0 := 33) (pc' := 51) rfl (hH p49_3_33) rfl (own_if_leY (by decide)) (by decide) (by decide) ?_
  refine XS.dconst0 XKG.here hx rfl (hH p49_3_51) rfl ?_
  refine XS.dstore XKG.here hx rfl (hH p49_3_52) rfl (l' := #[vr a, vd b, ss, vr is, vr ds, vi ow, vi (0 : Int32), vd FP.dconst0, ss, uu, uu, uu, uu, uu, uu]) rfl ?_
  refine XS.dconst0 XKG.here hx rfl (hH p49_3_54) rfl ?_
  refine XS.dstore XKG.here hx rfl (hH p49_3_55) rfl (l' := zz9) rfl ?_
  refine XS.iload XKG.here hx rfl (hH p49_3_57) rfl ?_
  exact kk
 clear kKW
 obtain ⟨TKY, hKZ, cAL0, XL1, eL2, EL3, AL4, stL5⟩ := newP (aty := .double) XKG hx hZ (tw6 hw) eKT (g := (mkF m 59 zz9 [(.int (0 : Int32))])) rfl (hH p49_3_59) rfl (by decide) (cap := 0) (by decide) (by decide) (by decide) (by decide)
 obtain ⟨aL6, gL7⟩ : ∃ zA : Nat, zA = h0.size := ⟨_, rfl⟩
 rw [← gL7] at AL4 stL5
 have nL8 := own_lt_ne EX.lt gL7
 have nL9 := own_lt_ne E1.lt gL7
 have nLA := own_lt_ne AE.lt gL7
 have nLB := own_lt_ne E3.lt gL7
 have nLC := own_lt_ne C1.lt gL7
 have nLD := own_lt_ne C5.lt gL7
 have nLE := own_lt_ne C6.lt gL7
 have nLF := own_lt_ne A1.lt gL7
 have nLG := own_lt_ne A2.lt gL7
 have nLH := own_lt_ne A3.lt gL7
 have nLI := own_lt_ne A4.lt gL7
 have nLJ := own_lt_ne A5.lt gL7
 have nLK := own_lt_ne A6.lt gL7
 have nwLL : h0.size ≤ aL6 := own_ge_of K0.1 gL7
 have geLM : n0 ≤ aL6 := own_ge_of Z0 gL7
 replace Z0 := Nat.le_trans Z0 EL3.1
 replace EX := EX.ext EL3
 replace S0 := S0.ext EL3
 replace S1 := S1.ext EL3
 replace S2 := S2.ext EL3
 replace S3 := S3.ext EL3
 replace S4 := S4.ext EL3
 replace S5 := S5.ext EL3
 replace S6 := S6.ext EL3
 replace S7 := S7.ext EL3
 replace E1 := E1.ext EL3
 replace L1 := L1.ext EL3
 replace L2 := L2.ext EL3
 replace AE := AE.ext EL3
 replace E3 := E3.ext EL3
 replace L3 := L3.ext EL3
 replace C1 := C1.ext EL3
 replace C2 := C2.ext EL3
 replace C3 := C3.ext EL3
 replace C4 := C4.ext EL3
 replace C5 := C5.ext EL3
 replace C6 := C6.ext EL3
 replace A1 := A1.ext EL3
 replace A2 := A2.ext EL3
 replace A3 := A3.ext EL3
 replace A4 := A4.ext EL3
 replace A5 := A5.ext EL3
 replace A6 := A6.ext EL3
 replace K0 := K0.ext EL3
 have FLN : own_A Z hKZ aL6 .double [] := own_A.new AL4
 have kLO : own_G p e below E0 TKY (mkF m 61 zz9 [(.ref aL6)]) := fun tQ kk => kKX tQ (stL5 _ kk)
 clear kKX stL5
 let zz10 : Array Slot := #[vr a, vd b, ss, vr is, vr ds, vi ow, vi (0 : Int32), vd FP.dconst0, ss, vd FP.dconst0, ss, vr aL6, vi (0 : Int32), uu, uu]
 have kLP : own_G p e below E0 TKY (mkF m 69 zz10 [(.ref is), (.int (0 : Int32))]) := by
  intro tQ kk
  refine kLO tQ ?_
  refine XS.astore XL1.here hx rfl (hH p49_3_61) rfl rfl (l' := #[vr a, vd b, ss, vr is, vr ds, vi ow, vi (0 : Int32), vd FP.dconst0, ss, vd FP.dconst0, ss, vr aL6, uu, uu, uu]) rfl ?_
  refine XS.iconst XL1.here hx rfl (hH p49_3_63) ?_
  refine XS.istore XL1.here hx rfl (hH p49_3_64) rfl (l' := zz10) rfl ?_
  refine XS.iload XL1.here hx rfl (hH p49_3_66) rfl ?_
  refine XS.aloadN XL1.here hx rfl (hH p49_3_68) rfl rfl ?_
  exact kk
 clear kLO
 have stLQ := fun tQ => own_A.len XL1 hx hZ eL2 A5 (g := (mkF m 69 zz10 [(.ref is), (.int (0 : Int32))])) rfl rfl (hH p49_3_69) tQ
 have kLR : own_G p e below E0 TKY (mkF m 70 zz10 [(.int (1 : Int32)), (.int (0 : Int32))]) := fun tQ kk => kLP tQ (stLQ _ kk)
 clear kLP stLQ
 have kLS : own_G p e below E0 TKY (mkF m 76 zz10 [(.int (0 : Int32)), (.ref is)]) := by
  intro tQ kk
  refine kLR tQ ?_
  refine XS.icmpNo XL1.here hx rfl (hH p49_3_70) rfl (own_ic_geN (by decide)) ?_
  refine XS.aloadN XL1.here hx rfl (hH p49_3_73) rfl rfl ?_
  refine XS.iload XL1.here hx rfl (hH p49_3_74) rfl ?_
  exact kk
 clear kLR
 have stLT := fun tQ => own_A.ild XL1 hx hZ eL2 A5 (j := (0 : Int32)) (v := (.int ow)) (by decide) rfl (g := (mkF m 76 zz10 [(.int (0 : Int32)), (.ref is)])) rfl rfl (hH p49_3_76) tQ
 have kLU : own_G p e below E0 TKY (mkF m 77 zz10 [(.int ow)]) := fun tQ kk => kLS tQ (stLT _ kk)
 clear kLS stLT
 let zz11 : Array Slot := #[vr a, vd b, ss, vr is, vr ds, vi ow, vi (0 : Int32), vd FP.dconst0, ss, vd FP.dconst0, ss, vr aL6, vi (0 : Int32), vi ow, uu]
 have kLV : own_G p e below E0 TKY (mkF m 90 zz11 [(.int (0 : Int32)), (.ref ds)]) := by
  intro tQ kk
  refine kLU tQ ?_
  refine XS.istore XL1.here hx rfl (hH p49_3_77) rfl (l' := zz11) rfl ?_
  refine XS.iload XL1.here hx rfl (hH p49_3_79) rfl ?_
  refine XS.iload XL1.here hx rfl (hH p49_3_81) rfl ?_
  refine XS.icmpNo XL1.here hx rfl (hH p49_3_83) rfl (own_ic_neN rfl) ?_
  refine XS.aload XL1.here hx rfl (hH p49_3_86) rfl rfl ?_
  refine XS.iload XL1.here hx rfl (hH p49_3_88) rfl ?_
  exact kk
 clear kLU
 have stLW := fun tQ => own_A.dld XL1 hx hZ eL2 A6 (j := (0 : Int32)) (v := (.double y0)) (by decide) rfl (g := (mkF m 90 zz11 [(.int (0 : Int32)), (.ref ds)])) rfl rfl (hH p49_3_90) tQ
 have kLX : own_G p e below E0 TKY (mkF m 91 zz11 [(.double y0)]) := fun tQ kk => kLV tQ (stLW _ kk)
 clear kLV stLW
 let zz12 : Array Slot := #[vr a, vd b, ss, vr is, vr ds, vi ow, vi (0 : Int32), vd y0, ss, vd FP.dconst0, ss, vr aL6, vi (1 : Int32), vi ow, uu]
 have kLY : own_G p e below E0 TKY (mkF m 69 zz12 [(.ref is), (.int (1 : Int32))]) := by
  intro tQ kk
  refine kLX tQ ?_
  refine XS.dstore XL1.here hx rfl (hH p49_3_91) rfl (l' := #[vr a, vd b, ss, vr is, vr ds, vi ow, vi (0 : Int32), vd y0, ss, vd FP.dconst0, ss, vr aL6, vi (0 : Int32), vi ow, uu]) rfl ?_
  refine XS.goto XL1.here hx rfl (pc0 := 93) (pc' := 144) rfl (hH p49_3_93) (by decide) (by decide) ?_
  refine XS.iinc XL1.here hx rfl (hH p49_3_144) rfl (l' := zz12) rfl ?_
  refine XS.goto XL1.here hx rfl (pc0 := 147) (pc' := 66) rfl (hH p49_3_147) (by decide) (by decide) ?_
  refine XS.iload XL1.here hx rfl (hH p49_3_66) rfl ?_
  refine XS.aloadN XL1.here hx rfl (hH p49_3_68) rfl rfl ?_
  exact kk
 clear kLX
 have stLZ := fun tQ => own_A.len XL1 hx hZ eL2 A5 (g := (mkF m 69 zz12 [(.ref is), (.int (1 : Int32))])) rfl rfl (hH p49_3_69) tQ
 have kM0 : own_G p e below E0 TKY (mkF m 70 zz12 [(.int (1 : Int32)), (.int (1 : Int32))]) := fun tQ kk => kLY tQ (stLZ _ kk)
 clear kLY stLZ
 have kM1 : own_G p e below E0 TKY (mkF m 169 zz12 [(.double y0), (.double (FP.dsub b FP.dconst0))]) := by
  intro tQ kk
  refine kM0 tQ ?_
  refine XS.icmpYes XL1.here hx rfl (pc0 := 70) (pc' := 150) rfl (hH p49_3_70) rfl (own_ic_geY (by decide)) (by decide) (by decide) ?_
  refine XS.dload XL1.here hx rfl (hH p49_3_150) rfl ?_
  refine XS.dconst0 XL1.here hx rfl (hH p49_3_152) rfl ?_
  refine XS.dcmpS (v := (own_c (own_z y0) (own_z FP.dconst0))) XL1.here hx rfl (hH p49_3_153) rfl (own_cE .l (own_cmpz hbE.1.noNaN own_n0)) ?_
  refine XS.ifYes XL1.here hx rfl (pc0 := 154) (pc' := 163) rfl (hH p49_3_154) rfl (own_c_neY (own_bEz hbE)) (by decide) (by decide) ?_
  refine XS.dloadN XL1.here hx rfl (hH p49_3_163) rfl ?_
  refine XS.dload XL1.here hx rfl (hH p49_3_164) rfl ?_
  refine XS.dsubS XL1.here hx rfl (hH p49_3_166) rfl (own_v hbE).1 rfl ?_
  show Steps p.tables e below (TKY.setTop (mkF m 167 zz12 [(.double (FP.dsub b FP.dconst0))])) tQ
  refine XS.dload XL1.here hx rfl (hH p49_3_167) rfl ?_
  exact kk
 clear kM0
 obtain ⟨vq, hvq⟩ : ∃ vA, FP.ddiv (FP.dsub b FP.dconst0) y0 = vA := ⟨_, rfl⟩
 have Dv : Fin64 vq ∧ own_z vq = W * ((2 ^ 1072 : Nat) : Int) := hvq ▸ (own_v hbE).2
 let zz13 : Array Slot := #[vr a, vd b, ss, vr is, vr ds, vi ow, vi (0 : Int32), vd y0, ss, vd FP.dconst0, ss, vr aL6, vd vq, ss, uu]
 have kM2 : own_G p e below E0 TKY (mkF m 174 zz13 [(.double vq)]) := by
  intro tQ kk
  refine kM1 tQ ?_
  refine XS.ddivS XL1.here hx rfl (hH p49_3_169) rfl (own_v hbE).2.1.noNaN hvq ?_
  refine XS.dstore XL1.here hx rfl (hH p49_3_170) rfl (l' := zz13) rfl ?_
  refine XS.dload XL1.here hx rfl (hH p49_3_172) rfl ?_
  exact kk
 clear kM1
 have stM3 := XL1.ldc2DoubleC hx hown (mvT hZ (tw285 hw)) (g := (mkF m 174 zz13 [(.double vq)])) rfl (hH p49_3_174)
 have kM4 : own_G p e below E0 TKY (mkF m 177 zz13 [(.double (13695778570484766357 : UInt64)), (.double vq)]) := fun tQ kk => kM2 tQ (stM3 _ kk)
 clear kM2 stM3
 have kM5 : own_G p e below E0 TKY (mkF m 179 zz13 [(.double b), (.double FP.dconst1), (.double (13695778570484766357 : UInt64)), (.double vq)]) := by
  intro tQ kk
  refine kM4 tQ ?_
  refine XS.dconst1 XL1.here hx rfl (hH p49_3_177) rfl ?_
  refine XS.dloadN XL1.here hx rfl (hH p49_3_178) rfl ?_
  exact kk
 clear kM4
 obtain ⟨TM6, XM7, eM8, stM9⟩ := natS XL1 hx hZ hown (tw286 hw) (tw287 hw) (tw225 hw) (tw288 hw) (by decide) eL2 (W := 6) (fun c4 => Jvm.Free.Fl.Abs.absD_pays b c4 (by decide) (by decide)) (g := (mkF m 179 zz13 [(.double b), (.double FP.dconst1), (.double (13695778570484766357 : UInt64)), (.double vq)])) rfl (by rw [hml]; rfl) (argsL := [(.double b)]) (rest := [(.double FP.dconst1), (.double (13695778570484766357 : UInt64)), (.double vq)]) (lenOf pd_161 rfl) rfl (by show 2 * 0 + _ ≤ _; exact Nat.le_of_eq rfl) (hH p49_3_179) (by decide) (by decide) ⟨rfl, hbE.2.1.noNaN⟩ rfl
 have kMA : own_G p e below E0 TM6 (mkF m 182 zz13 [(.double (b &&& 0x7fffffffffffffff)), (.double FP.dconst1), (.double (13695778570484766357 : UInt64)), (.double vq)]) := fun tQ kk => kM5 tQ (stM9 _ kk)
 clear kM5 stM9
 obtain ⟨TMB, XMC, eMD, stME⟩ := natS XM7 hx hZ hown (tw289 hw) (tw290 hw) (tw225 hw) (tw291 hw) (by decide) eM8 (W := 4) (fun c4 => Jvm.Free.Fl.Abs.maxD_pays FP.dconst1 (b &&& 0x7fffffffffffffff) c4 (by decide) (by decide)) (g := (mkF m 182 zz13 [(.double (b &&& 0x7fffffffffffffff)), (.double FP.dconst1), (.double (13695778570484766357 : UInt64)), (.double vq)])) rfl (by rw [hml]; rfl) (argsL := [(.double FP.dconst1), (.double (b &&& 0x7fffffffffffffff))]) (rest := [(.double (13695778570484766357 : UInt64)), (.double vq)]) (lenOf pd_162 rfl) rfl (by show 2 * 0 + _ ≤ _; exact Nat.le_of_eq rfl) (hH p49_3_182) (by decide) (by decide) ⟨rfl, own_n1, (own_absn hbE.2.1)⟩ rfl
 have kMF : own_G p e below E0 TMB (mkF m 185 zz13 [(.double (Native.java_lang_Math.nans.pick64 true FP.dconst1 (b &&& 0x7fffffffffffffff))), (.double (13695778570484766357 : UInt64)), (.double vq)]) := fun tQ kk => kMA tQ (stME _ kk)
 clear kMA stME
 let zz14 : Array Slot := #[vr a, vd b, ss, vr is, vr ds, vi ow, vi (0 : Int32), vd y0, ss, vd FP.dconst0, ss, vr aL6, vd vq, ss, vi (0 : Int32)]
 have kMG : own_G p e below E0 TMB (mkF m 213 zz14 [(.ref is), (.int (0 : Int32))]) := by
  intro tQ kk
  refine kMF tQ ?_
  refine XS.dmulS XMC.here hx rfl (hH p49_3_185) rfl (own_chz Dv hbE).1 rfl ?_
  refine XS.dcmpS (v := (own_c (own_z vq) (own_z (FP.dmul (13695778570484766357 : UInt64) (Native.java_lang_Math.nans.pick64 true FP.dconst1 (b &&& 0x7fffffffffffffff)))))) XMC.here hx rfl (hH p49_3_186) rfl (own_cE .l (own_cmpz Dv.1.noNaN (own_chz Dv hbE).1)) ?_
  refine XS.ifYes XMC.here hx rfl (pc0 := 187) (pc' := 207) rfl (hH p49_3_187) rfl (own_c_geY (own_chz Dv hbE).2) (by decide) (by decide) ?_
  refine XS.iconst XMC.here hx rfl (hH p49_3_207) ?_
  refine XS.istore XMC.here hx rfl (hH p49_3_208) rfl (l' := zz14) rfl ?_
  refine XS.iload XMC.here hx rfl (hH p49_3_210) rfl ?_
  refine XS.aloadN XMC.here hx rfl (hH p49_3_212) rfl rfl ?_
  exact kk
 clear kMF
 have stMH := fun tQ => own_A.len XMC hx hZ eMD A5 (g := (mkF m 213 zz14 [(.ref is), (.int (0 : Int32))])) rfl rfl (hH p49_3_213) tQ
 have kMI : own_G p e below E0 TMB (mkF m 214 zz14 [(.int (1 : Int32)), (.int (0 : Int32))]) := fun tQ kk => kMG tQ (stMH _ kk)
 clear kMG stMH
 have kMJ : own_G p e below E0 TMB (mkF m 218 zz14 [(.ref a)]) := by
  intro tQ kk
  refine kMI tQ ?_
  refine XS.icmpNo XMC.here hx rfl (hH p49_3_214) rfl (own_ic_geN (by decide)) ?_
  refine XS.aloadN XMC.here hx rfl (hH p49_3_217) rfl rfl ?_
  exact kk
 clear kMI
 obtain ⟨TMK, XML, eMM, stMN⟩ := getF XMC hx hZ hown (host := "") (Or.inl (tw40 hw)) Via.refl eMD S0 (g := (mkF m 218 zz14 [(.ref a)])) rfl rfl (hH p49_3_218)
 have kMO : own_G p e below E0 TMK (mkF m 221 zz14 [(.ref al)]) := fun tQ kk => kMJ tQ (stMN _ kk)
 clear kMJ stMN
 have kMP : own_G p e below E0 TMK (mkF m 224 zz14 [(.int (0 : Int32)), (.ref is), (.ref al)]) := by
  intro tQ kk
  refine kMO tQ ?_
  refine XS.aloadN XML.here hx rfl (hH p49_3_221) rfl rfl ?_
  refine XS.iload XML.here hx rfl (hH p49_3_222) rfl ?_
  exact kk
 clear kMO
 have stMQ := fun tQ => own_A.ild XML hx hZ eMM A5 (j := (0 : Int32)) (v := (.int ow)) (by decide) rfl (g := (mkF m 224 zz14 [(.int (0 : Int32)), (.ref is), (.ref al)])) rfl rfl (hH p49_3_224) tQ
 have kMR : own_G p e below E0 TMK (mkF m 225 zz14 [(.int ow), (.ref al)]) := fun tQ kk => kMP tQ (stMQ _ kk)
 clear kMP stMQ
 obtain ⟨cqN3, kqN4, qaN5, qbN6, qcN7⟩ := isOf hZ eMM E1
 obtain ⟨_, _, ⟨TMS, LMT, kcMU, ncMV⟩, -, XMW, ⟨LcMX, hQMY, lMZ, yN0, zN1⟩, stN2⟩ := XML.interfaceBack hx (xi := mn160) (y := mn150) hown (mvT hZ (tw256 hw)) (mvT hZ (tw257 hw)) (mvT hZ (tw258 hw)) (mvT hZ (tw259 hw)) (mvT hZ (tw260 hw)) (mvT hZ (tw261 hw)) (mvT hZ (tw262 hw)) (mvT hZ (tw183 hw)) (by decide) (backOf (W := 0) (rmGtS l Z a0 hw [] al r x0 x1 x2 xo ow hKZ n0 Z0 E1 L1 L2 AE w0 w3 hxo) hZ (tw263 hw) (tw18 hw) (by decide) (by decide)) qaN5 qbN6 qcN7 (g := (mkF m 225 zz14 [(.int ow), (.ref al)])) rfl (by rw [hml]; rfl) (Steps.refl _) (argsL := [(.int ow)]) (rest := []) (lenOf pd_151 rfl) rfl (by show 2 * 0 + _ ≤ _; exact Nat.le_of_eq rfl) (hH p49_3_225) (fun _ _ => ⟨rfl, eMM, (by decide : 1 + 0 ≤ _), (by decide : 0 + 0 ≤ _)⟩)
 dsimp only [Pt.U, Pt.locs, Pt.cells, Pt.slots] at XMW lMZ yN0 zN1 stN2 hQMY
 subst yN0 zN1
 obtain ⟨rfl, NN8, eN9⟩ := hQMY
 have NNB : Fr n0 LMT := by rw [lMZ]; exact Fr.app NKV NN8
 clear lMZ NN8
 have kNC : own_G p e below E0 TMS (mkF m 230 zz14 [(.ref xo)]) := fun tQ kk => kMR tQ (stN2.trans kk)
 clear kMR stN2
 obtain ⟨TND, XNE, eNF, stNG⟩ := castY XMW hx hZ hown (tw187 hw) eN9 (Ins.of_exa C1 (tw277 hw)) (g := (mkF m 230 zz14 [(.ref xo)])) rfl rfl (hH p49_3_230)
 have kNH : own_G p e below E0 TND (mkF m 233 zz14 [(.ref xo)]) := fun tQ kk => kNC tQ (stNG _ kk)
 clear kNC stNG
 have kNI : own_G p e below E0 TND (mkF m 239 zz14 [(.int (0 : Int32)), (.ref ds), (.int (0 : Int32)), (.ref xo)]) := by
  intro tQ kk
  refine kNH tQ ?_
  refine XS.iload XNE.here hx rfl (hH p49_3_233) rfl ?_
  refine XS.aload XNE.here hx rfl (hH p49_3_235) rfl rfl ?_
  refine XS.iload XNE.here hx rfl (hH p49_3_237) rfl ?_
  exact kk
 clear kNH
 have stNJ := fun tQ => own_A.dld XNE hx hZ eNF A6 (j := (0 : Int32)) (v := (.double y0)) (by decide) rfl (g := (mkF m 239 zz14 [(.int (0 : Int32)), (.ref ds), (.int (0 : Int32)), (.ref xo)])) rfl rfl (hH p49_3_239) tQ
 have kNK : own_G p e below E0 TND (mkF m 240 zz14 [(.double y0), (.int (0 : Int32)), (.ref xo)]) := fun tQ kk => kNI tQ (stNJ _ kk)
 clear kNI stNJ
 obtain ⟨cqNW, kqNX, qaNY, qbNZ, qcP0⟩ := isOf hZ eNF C1
 obtain ⟨_, _, ⟨TNL, LNM, kcNN, ncNO⟩, -, XNP, ⟨LcNQ, hQNR, lNS, yNT, zNU⟩, stNV⟩ := XNE.virtualBack hx (y := mn130) (z := mn130) hown (mvT hZ (tw292 hw)) (mvT hZ (tw293 hw)) (notFace_of_selects (args := #[]) (mvT hZ (tw295 hw))) (mvT hZ (tw295 hw)) (mvT hZ (tw294 hw)) (by decide) (backOf (W := 0) (rmSa l Z a0 hw [] xo ra sa (0 : Int32) (0 : Int32) y0 la ma hKZ n0 Z0 C1 C2 C3 C4 C5 C6 q_xo_ra q_xo_sa q_ra_sa ge_xo ge_ra ge_sa (by rw [la4]; decide) (by decide) (by rw [la4]; decide) (by rw [ma4]; decide)) hZ (tw296 hw) (tw189 hw) (by decide) (by decide)) qaNY qcP0 (g := (mkF m 240 zz14 [(.double y0), (.int (0 : Int32)), (.ref xo)])) rfl (by rw [hml]; rfl) (Steps.refl _) (argsL := [(.int (0 : Int32)), (.double y0)]) (rest := []) (lenOf pd_163 rfl) rfl (by show 2 * 0 + _ ≤ _; exact Nat.le_of_eq rfl) (hH p49_3_240) (fun _ _ => ⟨rfl, eNF, (by decide : 1 + 0 ≤ _), (by decide : 0 + 0 ≤ _)⟩)
 dsimp only [Pt.U, Pt.locs, Pt.cells, Pt.slots] at XNP lNS yNT zNU stNV hQNR
 subst yNT zNU
 obtain ⟨rfl, NP1, KP4, gP5, gP6, gP7, gP8, gP9⟩ := hQNR
 have NPA : Fr n0 LNM := by rw [lNS]; exact Fr.app NNB NP1
 clear lNS NP1
 replace Z0 := Nat.le_trans Z0 KP4.1
 replace EX := EX.keep KP4
 replace S0 := S0.keep KP4 (ninS q_a_xo (ninS q_a_ra (ninS q_a_sa nin0)))
 replace S1 := S1.keep KP4 (ninS q_a_xo (ninS q_a_ra (ninS q_a_sa nin0)))
 replace S2 := S2.keep KP4 (ninS q_a_xo (ninS q_a_ra (ninS q_a_sa nin0)))
 replace S3 := S3.keep KP4 (ninS q_a_xo (ninS q_a_ra (ninS q_a_sa nin0)))
 replace S4 := S4.keep KP4 (ninS q_a_xo (ninS q_a_ra (ninS q_a_sa nin0)))
 replace S5 := S5.keep KP4 (ninS q_a_xo (ninS q_a_ra (ninS q_a_sa nin0)))
 replace S6 := S6.keep KP4 (ninS q_a_xo (ninS q_a_ra (ninS q_a_sa nin0)))
 replace S7 := S7.keep KP4 (ninS q_a_xo (ninS q_a_ra (ninS q_a_sa nin0)))
 replace E1 := E1.keep KP4
 replace L1 := L1.keep KP4 (ninS (fun q => q_xo_al q.symm) (ninS (fun q => q_ra_al q.symm) (ninS (fun q => q_sa_al q.symm) nin0)))
 replace L2 := L2.keep KP4 (ninS (fun q => q_xo_al q.symm) (ninS (fun q => q_ra_al q.symm) (ninS (fun q => q_sa_al q.symm) nin0)))
 replace AE := AE.keep KP4 (ninS (fun q => q_xo_r q.symm) (ninS (fun q => q_ra_r q.symm) (ninS (fun q => q_sa_r q.symm) nin0)))
 replace E3 := E3.keep KP4
 replace L3 := L3.keep KP4 (ninS (fun q => q_xo_fa q.symm) (ninS (fun q => q_ra_fa q.symm) (ninS (fun q => q_sa_fa q.symm) nin0)))
 replace C1 := C1.keep KP4
 clear C2
 clear C3
 clear C4
 clear C5
 clear C6
 replace A1 := A1.keep KP4 (ninS q_ro_xo (ninS q_ro_ra (ninS q_ro_sa nin0)))
 replace A2 := A2.keep KP4 (ninS q_ba_xo (ninS q_ba_ra (ninS q_ba_sa nin0)))
 replace A3 := A3.keep KP4 (ninS q_pA_xo (ninS q_pA_ra (ninS q_pA_sa nin0)))
 replace A4 := A4.keep KP4 (ninS q_va_xo (ninS q_va_ra (ninS q_va_sa nin0)))
 replace A5 := A5.keep KP4 (ninS (fun q => q_xo_is q.symm) (ninS (fun q => q_ra_is q.symm) (ninS (fun q => q_sa_is q.symm) nin0)))
 replace A6 := A6.keep KP4 (ninS (fun q => q_xo_ds q.symm) (ninS (fun q => q_ra_ds q.symm) (ninS (fun q => q_sa_ds q.symm) nin0)))
 replace FLN := FLN.keep KP4 (ninS (Ne.symm nLC) (ninS (Ne.symm nLD) (ninS (Ne.symm nLE) nin0)))
 replace K0 := K0.trans KP4 (allS (Or.inl (List.mem_of_getElem? (i := 5) rfl)) (allS (Or.inl (List.mem_of_getElem? (i := 6) rfl)) (allS (Or.inl (List.mem_of_getElem? (i := 7) rfl)) all0)))
 have kPB : own_G p e below E0 TNL (mkF m 243 zz14 []) := fun tQ kk => kNK tQ (stNV.trans kk)
 clear kNK stNV
 let zz15 : Array Slot := #[vr a, vd b, ss, vr is, vr ds, vi ow, vi (0 : Int32), vd y0, ss, vd FP.dconst0, ss, vr aL6, vd vq, ss, vi (1 : Int32)]
 have kPC : own_G p e below E0 TNL (mkF m 213 zz15 [(.ref is), (.int (1 : Int32))]) := by
  intro tQ kk
  refine kPB tQ ?_
  refine XS.iinc XNP.here hx rfl (hH p49_3_243) rfl (l' := zz15) rfl ?_
  refine XS.goto XNP.here hx rfl (pc0 := 246) (pc' := 210) rfl (hH p49_3_246) (by decide) (by decide) ?_
  refine XS.iload XNP.here hx rfl (hH p49_3_210) rfl ?_
  refine XS.aloadN XNP.here hx rfl (hH p49_3_212) rfl rfl ?_
  exact kk
 clear kPB
 have stPD := fun tQ => own_A.len XNP hx hZ rfl A5 (g := (mkF m 213 zz15 [(.ref is), (.int (1 : Int32))])) rfl rfl (hH p49_3_213) tQ
 have kPE : own_G p e below E0 TNL (mkF m 214 zz15 [(.int (1 : Int32)), (.int (1 : Int32))]) := fun tQ kk => kPC tQ (stPD _ kk)
 clear kPC stPD
 have kPF : own_G p e below E0 TNL (mkF m 251 zz15 [(.ref a), (.ref a)]) := by
  intro tQ kk
  refine kPE tQ ?_
  refine XS.icmpYes XNP.here hx rfl (pc0 := 214) (pc' := 249) rfl (hH p49_3_214) rfl (own_ic_geY (by decide)) (by decide) (by decide) ?_
  refine XS.aloadN XNP.here hx rfl (hH p49_3_249) rfl rfl ?_
  refine XS.aloadN XNP.here hx rfl (hH p49_3_250) rfl rfl ?_
  exact kk
 clear kPE
 obtain ⟨TPG, XPH, ePI, stPJ⟩ := getF XNP hx hZ hown (host := "") (Or.inl (tw44 hw)) Via.refl rfl S2 (g := (mkF m 251 zz15 [(.ref a), (.ref a)])) rfl rfl (hH p49_3_251)
 have kPK : own_G p e below E0 TPG (mkF m 254 zz15 [(.ref ro), (.ref a)]) := fun tQ kk => kPF tQ (stPJ _ kk)
 clear kPF stPJ
 have kPL : own_G p e below E0 TPG (mkF m 258 zz15 [(.int (1 : Int32)), (.ref ro), (.ref a)]) := by
  intro tQ kk
  refine kPK tQ ?_
  refine XS.iload XPH.here hx rfl (hH p49_3_254) rfl ?_
  refine XS.iconst XPH.here hx rfl (hH p49_3_256) ?_
  refine XS.iadd XPH.here hx rfl (hH p49_3_257) rfl ?_
  exact kk
 clear kPK
 obtain ⟨_, _, ⟨TPM, LPN, kcPO, ncPP⟩, -, XPQ, ⟨LcPR, hQPS, lPT, yPU, zPV⟩, stPW⟩ := Jvm.LawKit.callS XPH hx (y := mn118) hown (mvT hZ (tw230 hw)) (mvT hZ (tw231 hw)) (mvT hZ (tw232 hw)) (mvT hZ (tw233 hw)) (by decide) (backOf (W := 1) (rmGd l Z a0 hw [] ro (1 : Int32) rv TNL.heap n0 Z0 A1 (by rw [lr]; decide)) hZ (tw233 hw) (tw232 hw) (by decide) (by decide)) (g := (mkF m 258 zz15 [(.int (1 : Int32)), (.ref ro), (.ref a)])) rfl (by rw [hml]; rfl) (argsL := [(.ref ro), (.int (1 : Int32))]) (rest := [(.ref a)]) (lenOf pd_157 rfl) rfl (by show 2 * 0 + _ ≤ _; exact Nat.le_of_eq rfl) (hH p49_3_258) (fun _ _ => ⟨rfl, ePI, (by decide : 1 + 0 ≤ _), (by decide : 0 + 0 ≤ _)⟩)
 dsimp only [Pt.U, Pt.locs, Pt.cells, Pt.slots] at XPQ lPT yPU zPV stPW hQPS
 subst yPU zPV
 obtain ⟨rfl, NPX, ePY⟩ := hQPS
 have NQ0 : Fr n0 LPN := by rw [lPT]; exact Fr.app NPA NPX
 clear lPT NPX
 have kQ1 : own_G p e below E0 TPM (mkF m 261 zz15 [(.ref ro), (.ref a)]) := fun tQ kk => kPL tQ (stPW _ kk)
 clear kPL stPW
 obtain ⟨TQ2, hQ3, XQ4, eQ5, WQ6, stQ7⟩ := putF XPQ hx hZ hown (host := "") (Or.inl (tw44 hw)) Via.refl ePY S2 EX (Or.inl (tw45 hw)) (tw8 hw) (ty := (.array .double)) (by decide) rfl rfl (g := (mkF m 261 zz15 [(.ref ro), (.ref a)])) rfl rfl (hH p49_3_261)
 have NQ8 := Fr.snoc XQ4 NQ0 ge_a
 have kQ9 : own_G p e below E0 TQ2 (mkF m 264 zz15 []) := fun tQ kk => kQ1 tQ (stQ7 _ kk)
 clear kQ1 stQ7
 replace EX := EX.wr WQ6
 replace S0 := S0.other WQ6 (Or.inr (sn69 hw))
 replace S1 := S1.other WQ6 (Or.inr (sn70 hw))
 replace S2 := S2.same WQ6
 replace S3 := S3.other WQ6 (Or.inr (sn71 hw))
 replace S4 := S4.other WQ6 (Or.inr (sn72 hw))
 replace S5 := S5.other WQ6 (Or.inr (sn73 hw))
 replace S6 := S6.other WQ6 (Or.inr (sn74 hw))
 replace S7 := S7.other WQ6 (Or.inr (sn76 hw))
 replace E1 := E1.wr WQ6
 replace L1 := L1.other WQ6 (Or.inl (fun q => q_a_al q.symm))
 replace L2 := L2.other WQ6 (Or.inl (fun q => q_a_al q.symm))
 replace AE := AE.other WQ6 (fun q => q_a_r q.symm)
 replace E3 := E3.wr WQ6
 replace L3 := L3.other WQ6 (Or.inl (fun q => q_a_fa q.symm))
 replace C1 := C1.wr WQ6
 replace A1 := A1.other WQ6 (fun q => q_a_ro q.symm)
 replace A2 := A2.other WQ6 (fun q => q_a_ba q.symm)
 replace A3 := A3.other WQ6 (fun q => q_a_pA q.symm)
 replace A4 := A4.other WQ6 (fun q => q_a_va q.symm)
 replace A5 := A5.other WQ6 (fun q => q_a_is q.symm)
 replace A6 := A6.other WQ6 (fun q => q_a_ds q.symm)
 replace FLN := FLN.other WQ6 (Ne.symm nL8)
 replace gP5 := gP5.other WQ6 (Or.inl (fun q => q_a_xo q.symm))
 replace gP6 := gP6.other WQ6 (Or.inl (fun q => q_a_xo q.symm))
 replace gP7 := gP7.other WQ6 (Or.inl (fun q => q_a_xo q.symm))
 replace gP8 := gP8.other WQ6 (fun q => q_a_ra q.symm)
 replace gP9 := gP9.other WQ6 (fun q => q_a_sa q.symm)
 replace Z0 := own_wrle WQ6 Z0
 replace K0 := K0.wr WQ6 (Or.inl (List.mem_of_getElem? (i := 0) rfl))
 have kQA : own_G p e below E0 TQ2 (mkF m 265 zz15 [(.ref a)]) := by
  intro tQ kk
  refine kQ9 tQ ?_
  refine XS.aloadN XQ4.here hx rfl (hH p49_3_264) rfl rfl ?_
  exact kk
 clear kQ9
 obtain ⟨TQB, XQC, eQD, stQE⟩ := getF XQ4 hx hZ hown (host := "") (Or.inl (tw44 hw)) Via.refl eQ5 S2 (g := (mkF m 265 zz15 [(.ref a)])) rfl rfl (hH p49_3_265)
 have kQF : own_G p e below E0 TQB (mkF m 268 zz15 [(.ref ro)]) := fun tQ kk => kQA tQ (stQE _ kk)
 clear kQA stQE
 have kQG : own_G p e below E0 TQB (mkF m 271 zz15 [(.double b), (.int (0 : Int32)), (.ref ro)]) := by
  intro tQ kk
  refine kQF tQ ?_
  refine XS.iload XQC.here hx rfl (hH p49_3_268) rfl ?_
  refine XS.dloadN XQC.here hx rfl (hH p49_3_270) rfl ?_
  exact kk
 clear kQF
 obtain ⟨TQH, hQI, XQJ, eQK, WQL, FQM, stQN⟩ := own_A.dst XQC hx hZ eQD A1 (j := (0 : Int32)) (by decide) (List.getElem?_eq_getElem (by rw [lr]; decide)) (g := (mkF m 271 zz15 [(.double b), (.int (0 : Int32)), (.ref ro)])) rfl rfl (hH p49_3_271)
 have NQO := Fr.snoc XQJ NQ8 ge_ro
 have kQP : own_G p e below E0 TQH (mkF m 272 zz15 []) := fun tQ kk => kQG tQ (stQN _ kk)
 clear kQG stQN
 replace EX := EX.wr WQL
 replace S0 := S0.other WQL (Or.inl q_a_ro)
 replace S1 := S1.other WQL (Or.inl q_a_ro)
 replace S2 := S2.other WQL (Or.inl q_a_ro)
 replace S3 := S3.other WQL (Or.inl q_a_ro)
 replace S4 := S4.other WQL (Or.inl q_a_ro)
 replace S5 := S5.other WQL (Or.inl q_a_ro)
 replace S6 := S6.other WQL (Or.inl q_a_ro)
 replace S7 := S7.other WQL (Or.inl q_a_ro)
 replace E1 := E1.wr WQL
 replace L1 := L1.other WQL (Or.inl (fun q => q_ro_al q.symm))
 replace L2 := L2.other WQL (Or.inl (fun q => q_ro_al q.symm))
 replace AE := AE.other WQL (fun q => q_ro_r q.symm)
 replace E3 := E3.wr WQL
 replace L3 := L3.other WQL (Or.inl (fun q => q_ro_fa q.symm))
 replace C1 := C1.wr WQL
 replace A2 := A2.other WQL (fun q => q_ro_ba q.symm)
 replace A3 := A3.other WQL (fun q => q_ro_pA q.symm)
 replace A4 := A4.other WQL (fun q => q_ro_va q.symm)
 replace A5 := A5.other WQL (fun q => q_ro_is q.symm)
 replace A6 := A6.other WQL (fun q => q_ro_ds q.symm)
 replace FLN := FLN.other WQL (Ne.symm nLF)
 replace gP5 := gP5.other WQL (Or.inl (fun q => q_ro_xo q.symm))
 replace gP6 := gP6.other WQL (Or.inl (fun q => q_ro_xo q.symm))
 replace gP7 := gP7.other WQL (Or.inl (fun q => q_ro_xo q.symm))
 replace gP8 := gP8.other WQL (fun q => q_ro_ra q.symm)
 replace gP9 := gP9.other WQL (fun q => q_ro_sa q.symm)
 replace Z0 := own_wrle WQL Z0
 replace K0 := K0.wr WQL (Or.inl (List.mem_of_getElem? (i := 1) rfl))
 have FQQ : own_A Z hQI ro .double (rv.set ((0 : Int32)).toNatClampNeg (.double b)) := FQM
 have kQR : own_G p e below E0 TQH (mkF m 274 zz15 [(.ref a), (.ref a)]) := by
  intro tQ kk
  refine kQP tQ ?_
  refine XS.aloadN XQJ.here hx rfl (hH p49_3_272) rfl rfl ?_
  refine XS.aloadN XQJ.here hx rfl (hH p49_3_273) rfl rfl ?_
  exact kk
 clear kQP
 obtain ⟨TQS, XQT, eQU, stQV⟩ := getF XQJ hx hZ hown (host := "") (Or.inl (tw46 hw)) Via.refl eQK S3 (g := (mkF m 274 zz15 [(.ref a), (.ref a)])) rfl rfl (hH p49_3_274)
 have kQW : own_G p e below E0 TQS (mkF m 277 zz15 [(.ref ba), (.ref a)]) := fun tQ kk => kQR tQ (stQV _ kk)
 clear kQR stQV
 have kQX : own_G p e below E0 TQS (mkF m 281 zz15 [(.int (1 : Int32)), (.ref ba), (.ref a)]) := by
  intro tQ kk
  refine kQW tQ ?_
  refine XS.iload XQT.here hx rfl (hH p49_3_277) rfl ?_
  refine XS.iconst XQT.here hx rfl (hH p49_3_279) ?_
  refine XS.iadd XQT.here hx rfl (hH p49_3_280) rfl ?_
  exact kk
 clear kQW
 obtain ⟨_, _, ⟨TQY, LQZ, kcR0, ncR1⟩, -, XR2, ⟨LcR3, hQR4, lR5, yR6, zR7⟩, stR8⟩ := Jvm.LawKit.callS XQT hx (y := mn119) hown (mvT hZ (tw234 hw)) (mvT hZ (tw235 hw)) (mvT hZ (tw232 hw)) (mvT hZ (tw236 hw)) (by decide) (backOf (W := 1) (rmGi l Z a0 hw [] ba (1 : Int32) bv hQI n0 Z0 A2 (by rw [lbv]; decide)) hZ (tw236 hw) (tw232 hw) (by decide) (by decide)) (g := (mkF m 281 zz15 [(.int (1 : Int32)), (.ref ba), (.ref a)])) rfl (by rw [hml]; rfl) (argsL := [(.ref ba), (.int (1 : Int32))]) (rest := [(.ref a)]) (lenOf pd_158 rfl) rfl (by show 2 * 0 + _ ≤ _; exact Nat.le_of_eq rfl) (hH p49_3_281) (fun _ _ => ⟨rfl, eQU, (by decide : 1 + 0 ≤ _), (by decide : 0 + 0 ≤ _)⟩)
 dsimp only [Pt.U, Pt.locs, Pt.cells, Pt.slots] at XR2 lR5 yR6 zR7 stR8 hQR4
 subst yR6 zR7
 obtain ⟨rfl, NR9, eRA⟩ := hQR4
 have NRC : Fr n0 LQZ := by rw [lR5]; exact Fr.app NQO NR9
 clear lR5 NR9
 have kRD : own_G p e below E0 TQY (mkF m 284 zz15 [(.ref ba), (.ref a)]) := fun tQ kk => kQX tQ (stR8 _ kk)
 clear kQX stR8
 obtain ⟨TRE, hRF, XRG, eRH, WRI, stRJ⟩ := putF XR2 hx hZ hown (host := "") (Or.inl (tw46 hw)) Via.refl eRA S3 EX (Or.inl (tw47 hw)) (tw8 hw) (ty := (.array .int)) (by decide) rfl rfl (g := (mkF m 284 zz15 [(.ref ba), (.ref a)])) rfl rfl (hH p49_3_284)
 have NRK := Fr.snoc XRG NRC ge_a
 have kRL : own_G p e below E0 TRE (mkF m 287 zz15 []) := fun tQ kk => kRD tQ (stRJ _ kk)
 clear kRD stRJ
 replace EX := EX.wr WRI
 replace S0 := S0.other WRI (Or.inr (sn77 hw))
 replace S1 := S1.other WRI (Or.inr (sn78 hw))
 replace S2 := S2.other WRI (Or.inr (sn79 hw))
 replace S3 := S3.same WRI
 replace S4 := S4.other WRI (Or.inr (sn80 hw))
 replace S5 := S5.other WRI (Or.inr (sn81 hw))
 replace S6 := S6.other WRI (Or.inr (sn82 hw))
 replace S7 := S7.other WRI (Or.inr (sn84 hw))
 replace E1 := E1.wr WRI
 replace L1 := L1.other WRI (Or.inl (fun q => q_a_al q.symm))
 replace L2 := L2.other WRI (Or.inl (fun q => q_a_al q.symm))
 replace AE := AE.other WRI (fun q => q_a_r q.symm)
 replace E3 := E3.wr WRI
 replace L3 := L3.other WRI (Or.inl (fun q => q_a_fa q.symm))
 replace C1 := C1.wr WRI
 replace A2 := A2.other WRI (fun q => q_a_ba q.symm)
 replace A3 := A3.other WRI (fun q => q_a_pA q.symm)
 replace A4 := A4.other WRI (fun q => q_a_va q.symm)
 replace A5 := A5.other WRI (fun q => q_a_is q.symm)
 replace A6 := A6.other WRI (fun q => q_a_ds q.symm)
 replace FLN := FLN.other WRI (Ne.symm nL8)
 replace gP5 := gP5.other WRI (Or.inl (fun q => q_a_xo q.symm))
 replace gP6 := gP6.other WRI (Or.inl (fun q => q_a_xo q.symm))
 replace gP7 := gP7.other WRI (Or.inl (fun q => q_a_xo q.symm))
 replace gP8 := gP8.other WRI (fun q => q_a_ra q.symm)
 replace gP9 := gP9.other WRI (fun q => q_a_sa q.symm)
 replace FQQ := FQQ.other WRI (fun q => q_a_ro q.symm)
 replace Z0 := own_wrle WRI Z0
 replace K0 := K0.wr WRI (Or.inl (List.mem_of_getElem? (i := 0) rfl))
 have kRM : own_G p e below E0 TRE (mkF m 288 zz15 [(.ref a)]) := by
  intro tQ kk
  refine kRL tQ ?_
  refine XS.aloadN XRG.here hx rfl (hH p49_3_287) rfl rfl ?_
  exact kk
 clear kRL
 obtain ⟨TRN, XRO, eRP, stRQ⟩ := getF XRG hx hZ hown (host := "") (Or.inl (tw46 hw)) Via.refl eRH S3 (g := (mkF m 288 zz15 [(.ref a)])) rfl rfl (hH p49_3_288)
 have kRR : own_G p e below E0 TRN (mkF m 291 zz15 [(.ref ba)]) := fun tQ kk => kRM tQ (stRQ _ kk)
 clear kRM stRQ
 have kRS : own_G p e below E0 TRN (mkF m 295 zz15 [(.int ow), (.int (0 : Int32)), (.ref ba)]) := by
  intro tQ kk
  refine kRR tQ ?_
  refine XS.iload XRO.here hx rfl (hH p49_3_291) rfl ?_
  refine XS.iload XRO.here hx rfl (hH p49_3_293) rfl ?_
  exact kk
 clear kRR
 obtain ⟨TRT, hRU, XRV, eRW, WRX, FRY, stRZ⟩ := own_A.ist XRO hx hZ eRP A2 (j := (0 : Int32)) (by decide) (List.getElem?_eq_getElem (by rw [lbv]; decide)) (g := (mkF m 295 zz15 [(.int ow), (.int (0 : Int32)), (.ref ba)])) rfl rfl (hH p49_3_295)
 have NS0 := Fr.snoc XRV NRK ge_ba
 have kS1 : own_G p e below E0 TRT (mkF m 296 zz15 []) := fun tQ kk => kRS tQ (stRZ _ kk)
 clear kRS stRZ
 replace EX := EX.wr WRX
 replace S0 := S0.other WRX (Or.inl q_a_ba)
 replace S1 := S1.other WRX (Or.inl q_a_ba)
 replace S2 := S2.other WRX (Or.inl q_a_ba)
 replace S3 := S3.other WRX (Or.inl q_a_ba)
 replace S4 := S4.other WRX (Or.inl q_a_ba)
 replace S5 := S5.other WRX (Or.inl q_a_ba)
 replace S6 := S6.other WRX (Or.inl q_a_ba)
 replace S7 := S7.other WRX (Or.inl q_a_ba)
 replace E1 := E1.wr WRX
 replace L1 := L1.other WRX (Or.inl (fun q => q_ba_al q.symm))
 replace L2 := L2.other WRX (Or.inl (fun q => q_ba_al q.symm))
 replace AE := AE.other WRX (fun q => q_ba_r q.symm)
 replace E3 := E3.wr WRX
 replace L3 := L3.other WRX (Or.inl (fun q => q_ba_fa q.symm))
 replace C1 := C1.wr WRX
 replace A3 := A3.other WRX (fun q => q_ba_pA q.symm)
 replace A4 := A4.other WRX (fun q => q_ba_va q.symm)
 replace A5 := A5.other WRX (fun q => q_ba_is q.symm)
 replace A6 := A6.other WRX (fun q => q_ba_ds q.symm)
 replace FLN := FLN.other WRX (Ne.symm nLG)
 replace gP5 := gP5.other WRX (Or.inl (fun q => q_ba_xo q.symm))
 replace gP6 := gP6.other WRX (Or.inl (fun q => q_ba_xo q.symm))
 replace gP7 := gP7.other WRX (Or.inl (fun q => q_ba_xo q.symm))
 replace gP8 := gP8.other WRX (fun q => q_ba_ra q.symm)
 replace gP9 := gP9.other WRX (fun q => q_ba_sa q.symm)
 replace FQQ := FQQ.other WRX q_ro_ba
 replace Z0 := own_wrle WRX Z0
 replace K0 := K0.wr WRX (Or.inl (List.mem_of_getElem? (i := 2) rfl))
 have FS2 : own_A Z hRU ba .int (bv.set ((0 : Int32)).toNatClampNeg (.int ow)) := FRY
 have kS3 : own_G p e below E0 TRT (mkF m 297 zz15 [(.ref a)]) := by
  intro tQ kk
  refine kS1 tQ ?_
  refine XS.aloadN XRV.here hx rfl (hH p49_3_296) rfl rfl ?_
  exact kk
 clear kS1
 obtain ⟨TS4, XS5, eS6, stS7⟩ := getF XRV hx hZ hown (host := "") (Or.inl (tw48 hw)) Via.refl eRW S4 (g := (mkF m 297 zz15 [(.ref a)])) rfl rfl (hH p49_3_297)
 have kS8 : own_G p e below E0 TS4 (mkF m 300 zz15 [(.ref pA)]) := fun tQ kk => kS3 tQ (stS7 _ kk)
 clear kS3 stS7
 have kS9 : own_G p e below E0 TS4 (mkF m 304 zz15 [(.int (0 : Int32)), (.int ow), (.ref pA)]) := by
  intro tQ kk
  refine kS8 tQ ?_
  refine XS.iload XS5.here hx rfl (hH p49_3_300) rfl ?_
  refine XS.iload XS5.here hx rfl (hH p49_3_302) rfl ?_
  exact kk
 clear kS8
 obtain ⟨TSA, hSB, XSC, eSD, WSE, FSF, stSG⟩ := own_A.ist XS5 hx hZ eS6 A3 (j := ow) w0 hp (g := (mkF m 304 zz15 [(.int (0 : Int32)), (.int ow), (.ref pA)])) rfl rfl (hH p49_3_304)
 have NSH := Fr.snoc XSC NS0 ge_pA
 have kSI : own_G p e below E0 TSA (mkF m 305 zz15 []) := fun tQ kk => kS9 tQ (stSG _ kk)
 clear kS9 stSG
 replace EX := EX.wr WSE
 replace S0 := S0.other WSE (Or.inl q_a_pA)
 replace S1 := S1.other WSE (Or.inl q_a_pA)
 replace S2 := S2.other WSE (Or.inl q_a_pA)
 replace S3 := S3.other WSE (Or.inl q_a_pA)
 replace S4 := S4.other WSE (Or.inl q_a_pA)
 replace S5 := S5.other WSE (Or.inl q_a_pA)
 replace S6 := S6.other WSE (Or.inl q_a_pA)
 replace S7 := S7.other WSE (Or.inl q_a_pA)
 replace E1 := E1.wr WSE
 replace L1 := L1.other WSE (Or.inl (fun q => q_pA_al q.symm))
 replace L2 := L2.other WSE (Or.inl (fun q => q_pA_al q.symm))
 replace AE := AE.other WSE (fun q => q_pA_r q.symm)
 replace E3 := E3.wr WSE
 replace L3 := L3.other WSE (Or.inl (fun q => q_pA_fa q.symm))
 replace C1 := C1.wr WSE
 replace A4 := A4.other WSE (fun q => q_pA_va q.symm)
 replace A5 := A5.other WSE (fun q => q_pA_is q.symm)
 replace A6 := A6.other WSE (fun q => q_pA_ds q.symm)
 replace FLN := FLN.other WSE (Ne.symm nLH)
 replace gP5 := gP5.other WSE (Or.inl (fun q => q_pA_xo q.symm))
 replace gP6 := gP6.other WSE (Or.inl (fun q => q_pA_xo q.symm))
 replace gP7 := gP7.other WSE (Or.inl (fun q => q_pA_xo q.symm))
 replace gP8 := gP8.other WSE (fun q => q_pA_ra q.symm)
 replace gP9 := gP9.other WSE (fun q => q_pA_sa q.symm)
 replace FQQ := FQQ.other WSE q_ro_pA
 replace FS2 := FS2.other WSE q_ba_pA
 replace Z0 := own_wrle WSE Z0
 replace K0 := K0.wr WSE (Or.inl (List.mem_of_getElem? (i := 3) rfl))
 have FSJ : own_A Z hSB pA .int (pv.set ow.toNatClampNeg (.int (0 : Int32))) := FSF
 have kSK : own_G p e below E0 TSA (mkF m 307 zz15 [(.ref a), (.ref a)]) := by
  intro tQ kk
  refine kSI tQ ?_
  refine XS.aloadN XSC.here hx rfl (hH p49_3_305) rfl rfl ?_
  refine XS.aloadN XSC.here hx rfl (hH p49_3_306) rfl rfl ?_
  exact kk
 clear kSI
 obtain ⟨TSL, XSM, eSN, stSO⟩ := getF XSC hx hZ hown (host := "") (Or.inl (tw167 hw)) Via.refl eSD S6 (g := (mkF m 307 zz15 [(.ref a), (.ref a)])) rfl rfl (hH p49_3_307)
 have kSP : own_G p e below E0 TSL (mkF m 310 zz15 [(.ref va), (.ref a)]) := fun tQ kk => kSK tQ (stSO _ kk)
 clear kSK stSO
 have kSQ : own_G p e below E0 TSL (mkF m 314 zz15 [(.int (1 : Int32)), (.ref va), (.ref a)]) := by
  intro tQ kk
  refine kSP tQ ?_
  refine XS.iload XSM.here hx rfl (hH p49_3_310) rfl ?_
  refine XS.iconst XSM.here hx rfl (hH p49_3_312) ?_
  refine XS.iadd XSM.here hx rfl (hH p49_3_313) rfl ?_
  exact kk
 clear kSP
 obtain ⟨_, _, ⟨TSR, LSS, kcST, ncSU⟩, -, XSV, ⟨LcSW, hQSX, lSY, ySZ, zT0⟩, stT1⟩ := Jvm.LawKit.callS XSM hx (y := mn118) hown (mvT hZ (tw230 hw)) (mvT hZ (tw231 hw)) (mvT hZ (tw232 hw)) (mvT hZ (tw233 hw)) (by decide) (backOf (W := 1) (rmGd l Z a0 hw [] va (1 : Int32) vv hSB n0 Z0 A4 (by rw [lv]; decide)) hZ (tw233 hw) (tw232 hw) (by decide) (by decide)) (g := (mkF m 314 zz15 [(.int (1 : Int32)), (.ref va), (.ref a)])) rfl (by rw [hml]; rfl) (argsL := [(.ref va), (.int (1 : Int32))]) (rest := [(.ref a)]) (lenOf pd_157 rfl) rfl (by show 2 * 0 + _ ≤ _; exact Nat.le_of_eq rfl) (hH p49_3_314) (fun _ _ => ⟨rfl, eSN, (by decide : 1 + 0 ≤ _), (by decide : 0 + 0 ≤ _)⟩)
 dsimp only [Pt.U, Pt.locs, Pt.cells, Pt.slots] at XSV lSY ySZ zT0 stT1 hQSX
 subst ySZ zT0
 obtain ⟨rfl, NT2, eT3⟩ := hQSX
 have NT5 : Fr n0 LSS := by rw [lSY]; exact Fr.app NSH NT2
 clear lSY NT2
 have kT6 : own_G p e below E0 TSR (mkF m 317 zz15 [(.ref va), (.ref a)]) := fun tQ kk => kSQ tQ (stT1 _ kk)
 clear kSQ stT1
 obtain ⟨TT7, hT8, XT9, eTA, WTB, stTC⟩ := putF XSV hx hZ hown (host := "") (Or.inl (tw167 hw)) Via.refl eT3 S6 EX (Or.inl (tw168 hw)) (tw8 hw) (ty := (.array .double)) (by decide) rfl rfl (g := (mkF m 317 zz15 [(.ref va), (.ref a)])) rfl rfl (hH p49_3_317)
 have NTD := Fr.snoc XT9 NT5 ge_a
 have kTE : own_G p e below E0 TT7 (mkF m 320 zz15 []) := fun tQ kk => kT6 tQ (stTC _ kk)
 clear kT6 stTC
 replace EX := EX.wr WTB
 replace S0 := S0.other WTB (Or.inr (sn101 hw))
 replace S1 := S1.other WTB (Or.inr (sn102 hw))
 replace S2 := S2.other WTB (Or.inr (sn103 hw))
 replace S3 := S3.other WTB (Or.inr (sn104 hw))
 replace S4 := S4.other WTB (Or.inr (sn105 hw))
 replace S5 := S5.other WTB (Or.inr (sn106 hw))
 replace S6 := S6.same WTB
 replace S7 := S7.other WTB (Or.inr (sn108 hw))
 replace E1 := E1.wr WTB
 replace L1 := L1.other WTB (Or.inl (fun q => q_a_al q.symm))
 replace L2 := L2.other WTB (Or.inl (fun q => q_a_al q.symm))
 replace AE := AE.other WTB (fun q => q_a_r q.symm)
 replace E3 := E3.wr WTB
 replace L3 := L3.other WTB (Or.inl (fun q => q_a_fa q.symm))
 replace C1 := C1.wr WTB
 replace A4 := A4.other WTB (fun q => q_a_va q.symm)
 replace A5 := A5.other WTB (fun q => q_a_is q.symm)
 replace A6 := A6.other WTB (fun q => q_a_ds q.symm)
 replace FLN := FLN.other WTB (Ne.symm nL8)
 replace gP5 := gP5.other WTB (Or.inl (fun q => q_a_xo q.symm))
 replace gP6 := gP6.other WTB (Or.inl (fun q => q_a_xo q.symm))
 replace gP7 := gP7.other WTB (Or.inl (fun q => q_a_xo q.symm))
 replace gP8 := gP8.other WTB (fun q => q_a_ra q.symm)
 replace gP9 := gP9.other WTB (fun q => q_a_sa q.symm)
 replace FQQ := FQQ.other WTB (fun q => q_a_ro q.symm)
 replace FS2 := FS2.other WTB (fun q => q_a_ba q.symm)
 replace FSJ := FSJ.other WTB (fun q => q_a_pA q.symm)
 replace Z0 := own_wrle WTB Z0
 replace K0 := K0.wr WTB (Or.inl (List.mem_of_getElem? (i := 0) rfl))
 have kTF : own_G p e below E0 TT7 (mkF m 321 zz15 [(.ref a)]) := by
  intro tQ kk
  refine kTE tQ ?_
  refine XS.aloadN XT9.here hx rfl (hH p49_3_320) rfl rfl ?_
  exact kk
 clear kTE
 obtain ⟨TTG, XTH, eTI, stTJ⟩ := getF XT9 hx hZ hown (host := "") (Or.inl (tw167 hw)) Via.refl eTA S6 (g := (mkF m 321 zz15 [(.ref a)])) rfl rfl (hH p49_3_321)
 have kTK : own_G p e below E0 TTG (mkF m 324 zz15 [(.ref va)]) := fun tQ kk => kTF tQ (stTJ _ kk)
 clear kTF stTJ
 have kTL : own_G p e below E0 TTG (mkF m 329 zz15 [(.double vq), (.double FP.dconst0), (.int (0 : Int32)), (.ref va)]) := by
  intro tQ kk
  refine kTK tQ ?_
  refine XS.iload XTH.here hx rfl (hH p49_3_324) rfl ?_
  refine XS.dconst0 XTH.here hx rfl (hH p49_3_326) rfl ?_
  refine XS.dload XTH.here hx rfl (hH p49_3_327) rfl ?_
  exact kk
 clear kTK
 obtain ⟨TTM, XTN, eTO, stTP⟩ := natS XTH hx hZ hown (tw289 hw) (tw290 hw) (tw225 hw) (tw291 hw) (by decide) eTI (W := 2) (fun c4 => Jvm.Free.Fl.Abs.maxD_pays FP.dconst0 vq c4 (by decide) (by decide)) (g := (mkF m 329 zz15 [(.double vq), (.double FP.dconst0), (.int (0 : Int32)), (.ref va)])) rfl (by rw [hml]; rfl) (argsL := [(.double FP.dconst0), (.double vq)]) (rest := [(.int (0 : Int32)), (.ref va)]) (lenOf pd_162 rfl) rfl (by show 2 * 0 + _ ≤ _; exact Nat.le_of_eq rfl) (hH p49_3_329) (by decide) (by decide) ⟨rfl, own_n0, Dv.1.noNaN⟩ rfl
 have kTQ : own_G p e below E0 TTM (mkF m 332 zz15 [(.double (Native.java_lang_Math.nans.pick64 true FP.dconst0 vq)), (.int (0 : Int32)), (.ref va)]) := fun tQ kk => kTL tQ (stTP _ kk)
 clear kTL stTP
 obtain ⟨TTR, hTS, XTT, eTU, WTV, FTW, stTX⟩ := own_A.dst XTN hx hZ eTO A4 (j := (0 : Int32)) (by decide) (List.getElem?_eq_getElem (by rw [lv]; decide)) (g := (mkF m 332 zz15 [(.double (Native.java_lang_Math.nans.pick64 true FP.dconst0 vq)), (.int (0 : Int32)), (.ref va)])) rfl rfl (hH p49_3_332)
 have NTY := Fr.snoc XTT NTD ge_va
 have kTZ : own_G p e below E0 TTR (mkF m 333 zz15 []) := fun tQ kk => kTQ tQ (stTX _ kk)
 clear kTQ stTX
 replace EX := EX.wr WTV
 replace S0 := S0.other WTV (Or.inl q_a_va)
 replace S1 := S1.other WTV (Or.inl q_a_va)
 replace S2 := S2.other WTV (Or.inl q_a_va)
 replace S3 := S3.other WTV (Or.inl q_a_va)
 replace S4 := S4.other WTV (Or.inl q_a_va)
 replace S5 := S5.other WTV (Or.inl q_a_va)
 replace S6 := S6.other WTV (Or.inl q_a_va)
 replace S7 := S7.other WTV (Or.inl q_a_va)
 replace E1 := E1.wr WTV
 replace L1 := L1.other WTV (Or.inl (fun q => q_va_al q.symm))
 replace L2 := L2.other WTV (Or.inl (fun q => q_va_al q.symm))
 replace AE := AE.other WTV (fun q => q_va_r q.symm)
 replace E3 := E3.wr WTV
 replace L3 := L3.other WTV (Or.inl (fun q => q_va_fa q.symm))
 replace C1 := C1.wr WTV
 replace A5 := A5.other WTV (fun q => q_va_is q.symm)
 replace A6 := A6.other WTV (fun q => q_va_ds q.symm)
 replace FLN := FLN.other WTV (Ne.symm nLI)
 replace gP5 := gP5.other WTV (Or.inl (fun q => q_va_xo q.symm))
 replace gP6 := gP6.other WTV (Or.inl (fun q => q_va_xo q.symm))
 replace gP7 := gP7.other WTV (Or.inl (fun q => q_va_xo q.symm))
 replace gP8 := gP8.other WTV (fun q => q_va_ra q.symm)
 replace gP9 := gP9.other WTV (fun q => q_va_sa q.symm)
 replace FQQ := FQQ.other WTV q_ro_va
 replace FS2 := FS2.other WTV q_ba_va
 replace FSJ := FSJ.other WTV q_pA_va
 replace Z0 := own_wrle WTV Z0
 replace K0 := K0.wr WTV (Or.inl (List.mem_of_getElem? (i := 4) rfl))
 have FU0 : own_A Z hTS va .double (vv.set ((0 : Int32)).toNatClampNeg (.double (Native.java_lang_Math.nans.pick64 true FP.dconst0 vq))) := FTW
 have kU1 : own_G p e below E0 TTR (mkF m 334 zz15 [(.ref a)]) := by
  intro tQ kk
  refine kTZ tQ ?_
  refine XS.aloadN XTT.here hx rfl (hH p49_3_333) rfl rfl ?_
  exact kk
 clear kTZ
 obtain ⟨TU2, XU3, eU4, stU5⟩ := getF XTT hx hZ hown (host := "") (Or.inl (tw165 hw)) Via.refl eTU S5 (g := (mkF m 334 zz15 [(.ref a)])) rfl rfl (hH p49_3_334)
 have kU6 : own_G p e below E0 TU2 (mkF m 337 zz15 [(.ref fa)]) := fun tQ kk => kU1 tQ (stU5 _ kk)
 clear kU1 stU5
 obtain ⟨cqUI, kqUJ, qaUK, qbUL, qcUM⟩ := isOf hZ eU4 E3
 obtain ⟨_, _, ⟨TU7, LU8, kcU9, ncUA⟩, -, XUB, ⟨LcUC, hQUD, lUE, yUF, zUG⟩, stUH⟩ := XU3.virtualBack hx (y := mn134) (z := mn134) hown (mvT hZ (tw297 hw)) (mvT hZ (tw298 hw)) (notFace_of_selects (args := #[]) (mvT hZ (tw300 hw))) (mvT hZ (tw300 hw)) (mvT hZ (tw299 hw)) (by decide) (backOf (W := 0) (rmBs l Z a0 hw [] fa hTS n0 Z0 L3) hZ (tw301 hw) (tw52 hw) (by decide) (by decide)) qaUK qcUM (g := (mkF m 337 zz15 [(.ref fa)])) rfl (by rw [hml]; rfl) (Steps.refl _) (argsL := []) (rest := []) (lenOf pd_153 rfl) rfl (by show 2 * 0 + _ ≤ _; exact Nat.le_of_eq rfl) (hH p49_3_337) (fun _ _ => ⟨rfl, eU4, (by decide : 1 + 0 ≤ _), (by decide : 0 + 0 ≤ _)⟩)
 dsimp only [Pt.U, Pt.locs, Pt.cells, Pt.slots] at XUB lUE yUF zUG stUH hQUD
 subst yUF zUG
 obtain ⟨rfl, NUN, eUO⟩ := hQUD
 have NUQ : Fr n0 LU8 := by rw [lUE]; exact Fr.app NTY NUN
 clear lUE NUN
 have kUR : own_G p e below E0 TU7 (mkF m 340 zz15 [(.int (-1 : Int32))]) := fun tQ kk => kU6 tQ (stUH.trans kk)
 clear kU6 stUH
 have kUS : own_G p e below E0 TU7 (mkF m 358 zz15 [(.ref a), (.ref a)]) := by
  intro tQ kk
  refine kUR tQ ?_
  refine XS.iload XUB.here hx rfl (hH p49_3_340) rfl ?_
  refine XS.icmpYes XUB.here hx rfl (pc0 := 342) (pc' := 356) rfl (hH p49_3_342) rfl (own_ic_neY (by decide)) (by decide) (by decide) ?_
  refine XS.aloadN XUB.here hx rfl (hH p49_3_356) rfl rfl ?_
  refine XS.dup XUB.here hx rfl (hH p49_3_357) rfl rfl ?_
  exact kk
 clear kUR
 obtain ⟨TUT, XUU, eUV, stUW⟩ := getF XUB hx hZ hown (host := "") (Or.inl (tw247 hw)) Via.refl eUO S7 (g := (mkF m 358 zz15 [(.ref a), (.ref a)])) rfl rfl (hH p49_3_358)
 have kUX : own_G p e below E0 TUT (mkF m 361 zz15 [(.int (0 : Int32)), (.ref a)]) := fun tQ kk => kUS tQ (stUW _ kk)
 clear kUS stUW
 have kUY : own_G p e below E0 TUT (mkF m 363 zz15 [(.int (1 : Int32)), (.ref a)]) := by
  intro tQ kk
  refine kUX tQ ?_
  refine XS.iconst XUU.here hx rfl (hH p49_3_361) ?_
  refine XS.iadd XUU.here hx rfl (hH p49_3_362) rfl ?_
  exact kk
 clear kUX
 obtain ⟨TUZ, hV0, XV1, eV2, WV3, stV4⟩ := putF XUU hx hZ hown (host := "") (Or.inl (tw247 hw)) Via.refl eUV S7 EX (Or.inl (tw248 hw)) (tw8 hw) (ty := .int) (by decide) rfl rfl (g := (mkF m 363 zz15 [(.int (1 : Int32)), (.ref a)])) rfl rfl (hH p49_3_363)
 have NV5 := Fr.snoc XV1 NUQ ge_a
 have kV6 : own_G p e below E0 TUZ (mkF m 366 zz15 []) := fun tQ kk => kUY tQ (stV4 _ kk)
 clear kUY stV4
 replace EX := EX.wr WV3
 replace S0 := S0.other WV3 (Or.inr (sn164 hw))
 replace S1 := S1.other WV3 (Or.inr (sn165 hw))
 replace S2 := S2.other WV3 (Or.inr (sn166 hw))
 replace S3 := S3.other WV3 (Or.inr (sn167 hw))
 replace S4 := S4.other WV3 (Or.inr (sn168 hw))
 replace S5 := S5.other WV3 (Or.inr (sn169 hw))
 replace S6 := S6.other WV3 (Or.inr (sn170 hw))
 replace S7 := S7.same WV3
 replace E1 := E1.wr WV3
 replace L1 := L1.other WV3 (Or.inl (fun q => q_a_al q.symm))
 replace L2 := L2.other WV3 (Or.inl (fun q => q_a_al q.symm))
 replace AE := AE.other WV3 (fun q => q_a_r q.symm)
 replace E3 := E3.wr WV3
 replace L3 := L3.other WV3 (Or.inl (fun q => q_a_fa q.symm))
 replace C1 := C1.wr WV3
 replace A5 := A5.other WV3 (fun q => q_a_is q.symm)
 replace A6 := A6.other WV3 (fun q => q_a_ds q.symm)
 replace FLN := FLN.other WV3 (Ne.symm nL8)
 replace gP5 := gP5.other WV3 (Or.inl (fun q => q_a_xo q.symm))
 replace gP6 := gP6.other WV3 (Or.inl (fun q => q_a_xo q.symm))
 replace gP7 := gP7.other WV3 (Or.inl (fun q => q_a_xo q.symm))
 replace gP8 := gP8.other WV3 (fun q => q_a_ra q.symm)
 replace gP9 := gP9.other WV3 (fun q => q_a_sa q.symm)
 replace FQQ := FQQ.other WV3 (fun q => q_a_ro q.symm)
 replace FS2 := FS2.other WV3 (fun q => q_a_ba q.symm)
 replace FSJ := FSJ.other WV3 (fun q => q_a_pA q.symm)
 replace FU0 := FU0.other WV3 (fun q => q_a_va q.symm)
 replace Z0 := own_wrle WV3 Z0
 replace K0 := K0.wr WV3 (Or.inl (List.mem_of_getElem? (i := 0) rfl))
 have kV7 : own_G p e below E0 TUZ (mkF m 368 zz15 [(.int (0 : Int32))]) := by
  intro tQ kk
  refine kV6 tQ ?_
  refine XS.iload XV1.here hx rfl (hH p49_3_366) rfl ?_
  exact kk
 clear kV6
 obtain ⟨fs, hr, hrun, hended, hW, hsame⟩ := XV1.leave (v := some (.int (0 : Int32))) (fun h => by rw [Bd.returns] at h; cases h)
 have hrun0 := kV7 _ (retOut XV1 hx Bd.returns (t := .int) rfl (Or.inl ⟨rfl, Or.inl rfl, _, rfl⟩) (hH p49_3_368) hr)
 subst hE0
 refine ⟨_, _, hrun0, hrun, hended, _, _, rfl, ?_, ⟨_, rfl⟩, hW, hsame.mono (by decide) (by decide)⟩
 show QrmRs0 Z a is ds al cA ro ba pA fa va r x0 x1 x2 xo ra sa rv bv pv vv la ma b y0 ow W E h0 n0 _ TUZ.heap _
 rw [eV2]
 exact ⟨(Native.java_lang_Math.nans.pick64 true FP.dconst0 vq), rfl, NV5, K0, S0, S1, S2, S3, S4, S5, S6, S7, FQQ, FS2, FSJ, FU0, (own_mz Dv hbE)⟩
def QrmRs1 (Z : State) (a : Addr) (is : Addr) (ds : Addr) (al : Addr) (cA : Addr) (ro : Addr) (ba : Addr) (pA : Addr) (fa : Addr) (va : Addr) (r : Addr) (x0 : Addr) (x1 : Addr) (x2 : Addr) (xo : Addr) (ra : Addr) (sa : Addr) (rv : List Value) (bv : List Value) (pv : List Value) (vv : List Value) (la : List Value) (ma : List Value) (b : UInt64) (y0 : UInt64) (ow : Int32) (W : Int) (E : Int) (h0 : Heap) (n0 : Nat) (vQ : Option Value) (hQ : Heap) (LQ : List Loc) : Prop := ∃ (mq : UInt64), vQ = some (.int (1 : Int32)) ∧ Fr n0 LQ ∧ Keep h0 hQ [a, ro, ba, pA, va, xo, ra, sa] ∧ (fd41 Z hQ a (.ref al)) ∧ (fd42 Z hQ a (.ref cA)) ∧ (fd43 Z hQ a (.ref ro)) ∧ (fd44 Z hQ a (.ref ba)) ∧ (fd45 Z hQ a (.ref pA)) ∧ (fd46 Z hQ a (.ref fa)) ∧ (fd47 Z hQ a (.ref va)) ∧ (fd48 Z hQ a (.int (2 : Int32))) ∧ (own_A Z hQ ro .double (rv.set ((1 : Int32)).toNatClampNeg (.double b))) ∧ (own_A Z hQ ba .int (bv.set ((1 : Int32)).toNatClampNeg (.int ow))) ∧ (own_A Z hQ pA .int (pv.set ow.toNatClampNeg (.int (1 : Int32)))) ∧ (own_A Z hQ va .double (vv.set ((1 : Int32)).toNatClampNeg (.double mq))) ∧ (Fin64 mq ∧ own_z mq = W * ((2 ^ 1072 : Nat) : Int))
theorem ef_rmRs1 (m : MethodId) (a : Addr) (is : Addr) (ds : Addr) (al : Addr) (cA : Addr) (ro : Addr) (ba : Addr) (pA : Addr) (fa : Addr) (va : Addr) (r : Addr) (x0 : Addr) (x1 : Addr) (x2 : Addr) (xo : Addr) (ra : Addr) (sa : Addr) (rv : List Value) (bv : List Value) (pv : List Value) (vv : List Value) (la : List Value) (ma : List Value) (b : UInt64) (y0 : UInt64) (ow : Int32) (W : Int) (E : Int) : entryFrame m #[(.ref a), (.double b), (.ref is), (.ref ds), (.int ow)] 15 = mkF m 0 #[vr a, vd b, ss, vr is, vr ds, vi ow, uu, uu, uu, uu, uu, uu, uu, uu, uu] [] := by first | (simp [entryFrame, mkF, argsToLocals, Value.category]; done) | rfl
set_option maxRecDepth 65536 in
set_option maxHeartbeats 40000000 in
theorem rmRs1 (l : Launch) (Z : State) (a0 : Array Value) (hw : ∀ d ∈ tables_1, d.before a0 Z = true) (ws : List Jvm.Cond) (a : Addr) (is : Addr) (ds : Addr) (al : Addr) (cA : Addr) (ro : Addr) (ba : Addr) (pA : Addr) (fa : Addr) (va : Addr) (r : Addr) (x0 : Addr) (x1 : Addr) (x2 : Addr) (xo : Addr) (ra : Addr) (sa : Addr) (rv : List Value) (bv : List Value) (pv : List Value) (vv : List Value) (la : List Value) (ma : List Value) (b : UInt64) (y0 : UInt64) (ow : Int32) (W : Int) (E : Int) (h0 : Heap) (n0 : Nat) (Z0 : n0 ≤ h0.size) (EX : xa49 Z h0 a) (S0 : fd41 Z h0 a (.ref al)) (S1 : fd42 Z h0 a (.ref cA)) (S2 : fd43 Z h0 a (.ref ro)) (S3 : fd44 Z h0 a (.ref ba)) (S4 : fd45 Z h0 a (.ref pA)) (S5 : fd46 Z h0 a (.ref fa)) (S6 : fd47 Z h0 a (.ref va)) (S7 : fd48 Z h0 a (.int (1 : Int32))) (E1 : xa32 Z h0 al) (L1 : fd30 Z h0 al (.ref r)) (L2 : fd31 Z h0 al (.int (3 : Int32))) (AE : own_O Z h0 r "java/lang/Object" [(.ref x0), (.ref x1), (.ref x2), .null, .null, .null, .null, .null, .null, .null]) (E3 : xa10 Z h0 fa) (L3 : fd9 Z h0 fa (.int (-1 : Int32))) (C1 : xa123 Z h0 xo) (C2 : fd120 Z h0 xo (.ref ra)) (C3 : fd121 Z h0 xo (.ref sa)) (C4 : fd122 Z h0 xo (.int (0 : Int32))) (C5 : own_A Z h0 ra .int la) (C6 : own_A Z h0 sa .double ma) (A1 : own_A Z h0 ro .double rv) (A2 : own_A Z h0 ba .int bv) (A3 : own_A Z h0 pA .int pv) (A4 : own_A Z h0 va .double vv) (A5 : own_A Z h0 is .int [(.int ow)]) (A6 : own_A Z h0 ds .double [(.double y0)]) (q_a_ro : a ≠ ro) (q_a_ba : a ≠ ba) (q_a_pA : a ≠ pA) (q_a_va : a ≠ va) (q_a_xo : a ≠ xo) (q_a_ra : a ≠ ra) (q_a_sa : a ≠ sa) (q_a_is : a ≠ is) (q_a_ds : a ≠ ds) (q_a_al : a ≠ al) (q_a_r : a ≠ r) (q_a_fa : a ≠ fa) (q_ro_ba : ro ≠ ba) (q_ro_pA : ro ≠ pA) (q_ro_va : ro ≠ va) (q_ro_xo : ro ≠ xo) (q_ro_ra : ro ≠ ra) (q_ro_sa : ro ≠ sa) (q_ro_is : ro ≠ is) (q_ro_ds : ro ≠ ds) (q_ro_al : ro ≠ al) (q_ro_r : ro ≠ r) (q_ro_fa : ro ≠ fa) (q_ba_pA : ba ≠ pA) (q_ba_va : ba ≠ va) (q_ba_xo : ba ≠ xo) (q_ba_ra : ba ≠ ra) (q_ba_sa : ba ≠ sa) (q_ba_is : ba ≠ is) (q_ba_ds : ba ≠ ds) (q_ba_al : ba ≠ al) (q_ba_r : ba ≠ r) (q_ba_fa : ba ≠ fa) (q_pA_va : pA ≠ va) (q_pA_xo : pA ≠ xo) (q_pA_ra : pA ≠ ra) (q_pA_sa : pA ≠ sa) (q_pA_is : pA ≠ is) (q_pA_ds : pA ≠ ds) (q_pA_al : pA ≠ al) (q_pA_r : pA ≠ r) (q_pA_fa : pA ≠ fa) (q_va_xo : va ≠ xo) (q_va_ra : va ≠ ra) (q_va_sa : va ≠ sa) (q_va_is : va ≠ is) (q_va_ds : va ≠ ds) (q_va_al : va ≠ al) (q_va_r : va ≠ r) (q_va_fa : va ≠ fa) (q_xo_ra : xo ≠ ra) (q_xo_sa : xo ≠ sa) (q_xo_is : xo ≠ is) (q_xo_ds : xo ≠ ds) (q_xo_al : xo ≠ al) (q_xo_r : xo ≠ r) (q_xo_fa : xo ≠ fa) (q_ra_sa : ra ≠ sa) (q_ra_is : ra ≠ is) (q_ra_ds : ra ≠ ds) (q_ra_al : ra ≠ al) (q_ra_r : ra ≠ r) (q_ra_fa : ra ≠ fa) (q_sa_is : sa ≠ is) (q_sa_ds : sa ≠ ds) (q_sa_al : sa ≠ al) (q_sa_r : sa ≠ r) (q_sa_fa : sa ≠ fa) (ge_a : n0 ≤ a) (ge_ro : n0 ≤ ro) (ge_ba : n0 ≤ ba) (ge_pA : n0 ≤ pA) (ge_va : n0 ≤ va) (ge_xo : n0 ≤ xo) (ge_ra : n0 ≤ ra) (ge_sa : n0 ≤ sa) (lr : rv.length = 16) (lbv : bv.length = 16) (lp : pv.length = 16) (lv : vv.length = 16) (la4 : la.length = 4) (ma4 : ma.length = 4) (w0 : ¬ ow < 0) (w3 : ow < 3) (hxo : ([.ref x0, .ref x1, .ref x2, .null, .null, .null, .null, .null, .null, .null] : List Value)[ow.toNatClampNeg]? = some (.ref xo)) (hp : pv[ow.toNatClampNeg]? = some (.int (-1 : Int32))) (hbE : own_bE b y0 E W) :
  MetFree l mn159 (head1 (Jvm.Cond.code mn159 prog_49_method_3_code 15 (some .int) :: ws) ({ frames := 4, cells := 1, slots := 1, locals := 60 } : Room)) (fun aA U => aA = #[(.ref a), (.double b), (.ref is), (.ref ds), (.int ow)] ∧ Z.Warmed39 U.vm ∧ U.heap = h0) (fun _ _ _ _ _ => True) (fun _ U o U' => ∃ vR LR, o = .returned vR ∧ QrmRs1 Z a is ds al cA ro ba pA fa va r x0 x1 x2 xo ra sa rv bv pv vv la ma b y0 ow W E h0 n0 vR U'.heap LR ∧ FrameEnd U o U' LR ({ frames := 4, cells := 1, slots := 1, locals := 60 } : Room).cells ({ frames := 4, cells := 1, slots := 1, locals := 60 } : Room).slots) := by
 refine MetFree.of_bodySF (plainFor_of_name pn_com_example_netloom_netloom_embed_Simplex) hisR ?_
 intro p e s m args below meth c s₁ Bd hml0 hPre hKk
 obtain ⟨rfl, hZ, hh⟩ := hPre
 have hx := Bd.exec
 have hby := Bd.bytes
 have hH : ∀ {pc r}, decode prog_49_method_3_code pc = r → decode c.code pc = r := fun q => hb hby q
 have hml : c.maxLocals = 15 := hml0
 have hown : s.vm.findClass "com/example/netloom/netloom/embed/Simplex" = some m.cls := findClass_of_methodNamed Bd.named
 have hnm := (name_of_methodNamed Bd.named Bd.method).1
 have X0 : Stand p l e ({ frames := 4, cells := 1, slots := 1, locals := 60 } : Room) s m #[(.ref a), (.double b), (.ref is), (.ref ds), (.int ow)] below meth c s₁ [] 0 0 := Stand.of_body Bd
 have e0 : s₁.heap = h0 := by rw [← hh, Bd.state]; rfl
 have N0 := Fr.nil n0
 obtain ⟨E0, hE0⟩ : ∃ zE : State, zE = s₁.setTop (entryFrame m #[(.ref a), (.double b), (.ref is), (.ref ds), (.int ow)] 15) := ⟨_, rfl⟩
 have k0 : own_G p e below E0 s₁ (mkF m 0 #[vr a, vd b, ss, vr is, vr ds, vi ow, uu, uu, uu, uu, uu, uu, uu, uu, uu] []) := fun tz kz => hE0 ▸ castTop (ef_rmRs1 m a is ds al cA ro ba pA fa va r x0 x1 x2 xo ra sa rv bv pv vv la ma b y0 ow W E) kz
 have K0 : Keep h0 h0 [a, ro, ba, pA, va, xo, ra, sa] := Keep.refl _ _
 let zz16 : Array Slot := #[vr a, vd b, ss, vr is, vr ds, vi ow, uu, uu, uu, uu, uu, uu, uu, uu, uu]
 have kJ0 : own_G p e below E0 s₁ (mkF m 1 zz16 [(.ref a)]) := by
  intro tQ kk
  refine k0 tQ ?_
  refine XS.aloadN X0.here hx rfl (hH p49_3_0) rfl rfl ?_
  exact kk
 clear k0
 obtain ⟨TJ1, XJ2, eJ3, stJ4⟩ := getF X0 hx hZ hown (host := "") (Or.inl (tw247 hw)) Via.refl e0 S7 (g := (mkF m 1 zz16 [(.ref a)])) rfl rfl (hH p49_3_1)
 have kJ5 : own_G p e below E0 TJ1 (mkF m 4 zz16 [(.int (1 : Int32))]) := fun tQ kk => kJ0 tQ (stJ4 _ kk)
 clear kJ0 stJ4
 let zz17 : Array Slot := #[vr a, vd b, ss, vr is, vr ds, vi ow, vi (1 : Int32), uu, uu, uu, uu, uu, uu, uu, uu]
 have kJ6 : own_G p e below E0 TJ1 (mkF m 7 zz17 [(.ref a)]) := by
  intro tQ kk
  refine kJ5 tQ ?_
  refine XS.istore XJ2.here hx rfl (hH p49_3_4) rfl (l' := zz17) rfl ?_
  refine XS.aloadN XJ2.here hx rfl (hH p49_3_6) rfl rfl ?_
  exact kk
 clear kJ5
 obtain ⟨TJ7, XJ8, eJ9, stJA⟩ := getF XJ2 hx hZ hown (host := "") (Or.inl (tw48 hw)) Via.refl eJ3 S4 (g := (mkF m 7 zz17 [(.ref a)])) rfl rfl (hH p49_3_7)
 have kJB : own_G p e below E0 TJ7 (mkF m 10 zz17 [(.ref pA)]) := fun tQ kk => kJ6 tQ (stJA _ kk)
 clear kJ6 stJA
 have kJC : own_G p e below E0 TJ7 (mkF m 12 zz17 [(.int ow), (.ref pA)]) := by
  intro tQ kk
  refine kJB tQ ?_
  refine XS.iload XJ8.here hx rfl (hH p49_3_10) rfl ?_
  exact kk
 clear kJB
 have stJD := fun tQ => own_A.ild XJ8 hx hZ eJ9 A3 (j := ow) (v := (.int (-1 : Int32))) w0 hp (g := (mkF m 12 zz17 [(.int ow), (.ref pA)])) rfl rfl (hH p49_3_12) tQ
 have kJE : own_G p e below E0 TJ7 (mkF m 13 zz17 [(.int (-1 : Int32))]) := fun tQ kk => kJC tQ (stJD _ kk)
 clear kJC stJD
 have kJF : own_G p e below E0 TJ7 (mkF m 17 zz17 [(.ref a)]) := by
  intro tQ kk
  refine kJE tQ ?_
  refine XS.ifNo XJ8.here hx rfl (hH p49_3_13) rfl (own_if_geN (by decide)) ?_
  refine XS.aloadN XJ8.here hx rfl (hH p49_3_16) rfl rfl ?_
  exact kk
 clear kJE
 obtain ⟨TJG, XJH, eJI, stJJ⟩ := getF XJ8 hx hZ hown (host := "") (Or.inl (tw40 hw)) Via.refl eJ9 S0 (g := (mkF m 17 zz17 [(.ref a)])) rfl rfl (hH p49_3_17)
 have kJK : own_G p e below E0 TJG (mkF m 20 zz17 [(.ref al)]) := fun tQ kk => kJF tQ (stJJ _ kk)
 clear kJF stJJ
 have kJL : own_G p e below E0 TJG (mkF m 22 zz17 [(.int ow), (.ref al)]) := by
  intro tQ kk
  refine kJK tQ ?_
  refine XS.iload XJH.here hx rfl (hH p49_3_20) rfl ?_
  exact kk
 clear kJK
 obtain ⟨cqJX, kqJY, qaJZ, qbK0, qcK1⟩ := isOf hZ eJI E1
 obtain ⟨_, _, ⟨TJM, LJN, kcJO, ncJP⟩, -, XJQ, ⟨LcJR, hQJS, lJT, yJU, zJV⟩, stJW⟩ := XJH.interfaceBack hx (xi := mn160) (y := mn150) hown (mvT hZ (tw256 hw)) (mvT hZ (tw257 hw)) (mvT hZ (tw258 hw)) (mvT hZ (tw259 hw)) (mvT hZ (tw260 hw)) (mvT hZ (tw261 hw)) (mvT hZ (tw262 hw)) (mvT hZ (tw183 hw)) (by decide) (backOf (W := 0) (rmGtS l Z a0 hw [] al r x0 x1 x2 xo ow h0 n0 Z0 E1 L1 L2 AE w0 w3 hxo) hZ (tw263 hw) (tw18 hw) (by decide) (by decide)) qaJZ qbK0 qcK1 (g := (mkF m 22 zz17 [(.int ow), (.ref al)])) rfl (by rw [hml]; rfl) (Steps.refl _) (argsL := [(.int ow)]) (rest := []) (lenOf pd_151 rfl) rfl (by show 2 * 0 + _ ≤ _; exact Nat.le_of_eq rfl) (hH p49_3_22) (fun _ _ => ⟨rfl, eJI, (by decide : 0 + 0 ≤ _), (by decide : 0 + 0 ≤ _)⟩)
 dsimp only [Pt.U, Pt.locs, Pt.cells, Pt.slots] at XJQ lJT yJU zJV stJW hQJS
 subst yJU zJV
 obtain ⟨rfl, NK2, eK3⟩ := hQJS
 have NK5 : Fr n0 LJN := by rw [lJT]; exact Fr.app N0 NK2
 clear lJT NK2
 have kK6 : own_G p e below E0 TJM (mkF m 27 zz17 [(.ref xo)]) := fun tQ kk => kJL tQ (stJW.trans kk)
 clear kJL stJW
 obtain ⟨TK7, XK8, eK9, stKA⟩ := castY XJQ hx hZ hown (tw187 hw) eK3 (Ins.of_exa C1 (tw277 hw)) (g := (mkF m 27 zz17 [(.ref xo)])) rfl rfl (hH p49_3_27)
 have kKB : own_G p e below E0 TK7 (mkF m 30 zz17 [(.ref xo)]) := fun tQ kk => kK6 tQ (stKA _ kk)
 clear kK6 stKA
 obtain ⟨cqKN, kqKO, qaKP, qbKQ, qcKR⟩ := isOf hZ eK9 C1
 obtain ⟨_, _, ⟨TKC, LKD, kcKE, ncKF⟩, -, XKG, ⟨LcKH, hQKI, lKJ, yKK, zKL⟩, stKM⟩ := XK8.virtualBack hx (y := mn133) (z := mn133) hown (mvT hZ (tw278 hw)) (mvT hZ (tw279 hw)) (notFace_of_selects (args := #[]) (mvT hZ (tw281 hw))) (mvT hZ (tw281 hw)) (mvT hZ (tw280 hw)) (by decide) (backOf (W := 0) (rmSs l Z a0 hw [] xo (0 : Int32) h0 n0 Z0 C4) hZ (tw282 hw) (tw189 hw) (by decide) (by decide)) qaKP qcKR (g := (mkF m 30 zz17 [(.ref xo)])) rfl (by rw [hml]; rfl) (Steps.refl _) (argsL := []) (rest := []) (lenOf pd_153 rfl) rfl (by show 2 * 0 + _ ≤ _; exact Nat.le_of_eq rfl) (hH p49_3_30) (fun _ _ => ⟨rfl, eK9, (by decide : 0 + 0 ≤ _), (by decide : 0 + 0 ≤ _)⟩)
 dsimp only [Pt.U, Pt.locs, Pt.cells, Pt.slots] at XKG lKJ yKK zKL stKM hQKI
 subst yKK zKL
 obtain ⟨rfl, NKS, eKT⟩ := hQKI
 have NKV : Fr n0 LKD := by rw [lKJ]; exact Fr.app NK5 NKS
 clear lKJ NKS
 have kKW : own_G p e below E0 TKC (mkF m 33 zz17 [(.int (0 : Int32))]) := fun tQ kk => kKB tQ (stKM.trans kk)
 clear kKB stKM
 let zz18 : Array Slot := #[vr a, vd b, ss, vr is, vr ds, vi ow, vi (1 : Int32), vd FP.dconst0, ss, vd FP.dconst0, ss, uu, uu, uu, uu]
 have kKX : own_G p e below E0 TKC (mkF m 59 zz18 [(.int (1 : Int32))]) := by
  intro tQ kk
  refine kKW tQ ?_
  refine XS.ifYes XKG.here hx rfl (pc0 := 33) (pc' := 51) rfl (hH p49_3_33) rfl (own_if_leY (by decide)) (by decide) (by decide) ?_
  refine XS.dconst0 XKG.here hx rfl (hH p49_3_51) rfl ?_
  refine XS.dstore XKG.here hx rfl (hH p49_3_52) rfl (l' := #[vr a, vd b, ss, vr is, vr ds, vi ow, vi (1 : Int32), vd FP.dconst0, ss, uu, uu, uu, uu, uu, uu]) rfl ?_
  refine XS.dconst0 XKG.here hx rfl (hH p49_3_54) rfl ?_
  refine XS.dstore XKG.here hx rfl (hH p49_3_55) rfl (l' := zz18) rfl ?_
  refine XS.iload XKG.here hx rfl (hH p49_3_57) rfl ?_
  exact kk
 clear kKW
 obtain ⟨TKY, hKZ, cAL0, XL1, eL2, EL3, AL4, stL5⟩ := newP (aty := .double) XKG hx hZ (tw6 hw) eKT (g := (mkF m 59 zz18 [(.int (1 : Int32))])) rfl (hH p49_3_59) rfl (by decide) (cap := 1) (by decide) (by decide) (by decide) (by decide)
 obtain ⟨aL6, gL7⟩ : ∃ zA : Nat, zA = h0.size := ⟨_, rfl⟩
 rw [← gL7] at AL4 stL5
 have nL8 := own_lt_ne EX.lt gL7
 have nL9 := own_lt_ne E1.lt gL7
 have nLA := own_lt_ne AE.lt gL7
 have nLB := own_lt_ne E3.lt gL7
 have nLC := own_lt_ne C1.lt gL7
 have nLD := own_lt_ne C5.lt gL7
 have nLE := own_lt_ne C6.lt gL7
 have nLF := own_lt_ne A1.lt gL7
 have nLG := own_lt_ne A2.lt gL7
 have nLH := own_lt_ne A3.lt gL7
 have nLI := own_lt_ne A4.lt gL7
 have nLJ := own_lt_ne A5.lt gL7
 have nLK := own_lt_ne A6.lt gL7
 have nwLL : h0.size ≤ aL6 := own_ge_of K0.1 gL7
 have geLM : n0 ≤ aL6 := own_ge_of Z0 gL7
 replace Z0 := Nat.le_trans Z0 EL3.1
 replace EX := EX.ext EL3
 replace S0 := S0.ext EL3
 replace S1 := S1.ext EL3
 replace S2 := S2.ext EL3
 replace S3 := S3.ext EL3
 replace S4 := S4.ext EL3
 replace S5 := S5.ext EL3
 replace S6 := S6.ext EL3
 replace S7 := S7.ext EL3
 replace E1 := E1.ext EL3
 replace L1 := L1.ext EL3
 replace L2 := L2.ext EL3
 replace AE := AE.ext EL3
 replace E3 := E3.ext EL3
 replace L3 := L3.ext EL3
 replace C1 := C1.ext EL3
 replace C2 := C2.ext EL3
 replace C3 := C3.ext EL3
 replace C4 := C4.ext EL3
 replace C5 := C5.ext EL3
 replace C6 := C6.ext EL3
 replace A1 := A1.ext EL3
 replace A2 := A2.ext EL3
 replace A3 := A3.ext EL3
 replace A4 := A4.ext EL3
 replace A5 := A5.ext EL3
 replace A6 := A6.ext EL3
 replace K0 := K0.ext EL3
 have FLN : own_A Z hKZ aL6 .double [(.double (0 : UInt64))] := own_A.new AL4
 have kLO : own_G p e below E0 TKY (mkF m 61 zz18 [(.ref aL6)]) := fun tQ kk => kKX tQ (stL5 _ kk)
 clear kKX stL5
 let zz19 : Array Slot := #[vr a, vd b, ss, vr is, vr ds, vi ow, vi (1 : Int32), vd FP.dconst0, ss, vd FP.dconst0, ss, vr aL6, vi (0 : Int32), uu, uu]
 have kLP : own_G p e below E0 TKY (mkF m 69 zz19 [(.ref is), (.int (0 : Int32))]) := by
  intro tQ kk
  refine kLO tQ ?_
  refine XS.astore XL1.here hx rfl (hH p49_3_61) rfl rfl (l' := #[vr a, vd b, ss, vr is, vr ds, vi ow, vi (1 : Int32), vd FP.dconst0, ss, vd FP.dconst0, ss, vr aL6, uu, uu, uu]) rfl ?_
  refine XS.iconst XL1.here hx rfl (hH p49_3_63) ?_
  refine XS.istore XL1.here hx rfl (hH p49_3_64) rfl (l' := zz19) rfl ?_
  refine XS.iload XL1.here hx rfl (hH p49_3_66) rfl ?_
  refine XS.aloadN XL1.here hx rfl (hH p49_3_68) rfl rfl ?_
  exact kk
 clear kLO
 have stLQ := fun tQ => own_A.len XL1 hx hZ eL2 A5 (g := (mkF m 69 zz19 [(.ref is), (.int (0 : Int32))])) rfl rfl (hH p49_3_69) tQ
 have kLR : own_G p e below E0 TKY (mkF m 70 zz19 [(.int (1 : Int32)), (.int (0 : Int32))]) := fun tQ kk => kLP tQ (stLQ _ kk)
 clear kLP stLQ
 have kLS : own_G p e below E0 TKY (mkF m 76 zz19 [(.int (0 : Int32)), (.ref is)]) := by
  intro tQ kk
  refine kLR tQ ?_
  refine XS.icmpNo XL1.here hx rfl (hH p49_3_70) rfl (own_ic_geN (by decide)) ?_
  refine XS.aloadN XL1.here hx rfl (hH p49_3_73) rfl rfl ?_
  refine XS.iload XL1.here hx rfl (hH p49_3_74) rfl ?_
  exact kk
 clear kLR
 have stLT := fun tQ => own_A.ild XL1 hx hZ eL2 A5 (j := (0 : Int32)) (v := (.int ow)) (by decide) rfl (g := (mkF m 76 zz19 [(.int (0 : Int32)), (.ref is)])) rfl rfl (hH p49_3_76) tQ
 have kLU : own_G p e below E0 TKY (mkF m 77 zz19 [(.int ow)]) := fun tQ kk => kLS tQ (stLT _ kk)
 clear kLS stLT
 let zz20 : Array Slot := #[vr a, vd b, ss, vr is, vr ds, vi ow, vi (1 : Int32), vd FP.dconst0, ss, vd FP.dconst0, ss, vr aL6, vi (0 : Int32), vi ow, uu]
 have kLV : own_G p e below E0 TKY (mkF m 90 zz20 [(.int (0 : Int32)), (.ref ds)]) := by
  intro tQ kk
  refine kLU tQ ?_
  refine XS.istore XL1.here hx rfl (hH p49_3_77) rfl (l' := zz20) rfl ?_
  refine XS.iload XL1.here hx rfl (hH p49_3_79) rfl ?_
  refine XS.iload XL1.here hx rfl (hH p49_3_81) rfl ?_
  refine XS.icmpNo XL1.here hx rfl (hH p49_3_83) rfl (own_ic_neN rfl) ?_
  refine XS.aload XL1.here hx rfl (hH p49_3_86) rfl rfl ?_
  refine XS.iload XL1.here hx rfl (hH p49_3_88) rfl ?_
  exact kk
 clear kLU
 have stLW := fun tQ => own_A.dld XL1 hx hZ eL2 A6 (j := (0 : Int32)) (v := (.double y0)) (by decide) rfl (g := (mkF m 90 zz20 [(.int (0 : Int32)), (.ref ds)])) rfl rfl (hH p49_3_90) tQ
 have kLX : own_G p e below E0 TKY (mkF m 91 zz20 [(.double y0)]) := fun tQ kk => kLV tQ (stLW _ kk)
 clear kLV stLW
 let zz21 : Array Slot := #[vr a, vd b, ss, vr is, vr ds, vi ow, vi (1 : Int32), vd y0, ss, vd FP.dconst0, ss, vr aL6, vi (1 : Int32), vi ow, uu]
 have kLY : own_G p e below E0 TKY (mkF m 69 zz21 [(.ref is), (.int (1 : Int32))]) := by
  intro tQ kk
  refine kLX tQ ?_
  refine XS.dstore XL1.here hx rfl (hH p49_3_91) rfl (l' := #[vr a, vd b, ss, vr is, vr ds, vi ow, vi (1 : Int32), vd y0, ss, vd FP.dconst0, ss, vr aL6, vi (0 : Int32), vi ow, uu]) rfl ?_
  refine XS.goto XL1.here hx rfl (pc0 := 93) (pc' := 144) rfl (hH p49_3_93) (by decide) (by decide) ?_
  refine XS.iinc XL1.here hx rfl (hH p49_3_144) rfl (l' := zz21) rfl ?_
  refine XS.goto XL1.here hx rfl (pc0 := 147) (pc' := 66) rfl (hH p49_3_147) (by decide) (by decide) ?_
  refine XS.iload XL1.here hx rfl (hH p49_3_66) rfl ?_
  refine XS.aloadN XL1.here hx rfl (hH p49_3_68) rfl rfl ?_
  exact kk
 clear kLX
 have stLZ := fun tQ => own_A.len XL1 hx hZ eL2 A5 (g := (mkF m 69 zz21 [(.ref is), (.int (1 : Int32))])) rfl rfl (hH p49_3_69) tQ
 have kM0 : own_G p e below E0 TKY (mkF m 70 zz21 [(.int (1 : Int32)), (.int (1 : Int32))]) := fun tQ kk => kLY tQ (stLZ _ kk)
 clear kLY stLZ
 have kM1 : own_G p e below E0 TKY (mkF m 169 zz21 [(.double y0), (.double (FP.dsub b FP.dconst0))]) := by
  intro tQ kk
  refine kM0 tQ ?_
  refine XS.icmpYes XL1.here hx rfl (pc0 := 70) (pc' := 150) rfl (hH p49_3_70) rfl (own_ic_geY (by decide)) (by decide) (by decide) ?_
  refine XS.dload XL1.here hx rfl (hH p49_3_150) rfl ?_
  refine XS.dconst0 XL1.here hx rfl (hH p49_3_152) rfl ?_
  refine XS.dcmpS (v := (own_c (own_z y0) (own_z FP.dconst0))) XL1.here hx rfl (hH p49_3_153) rfl (own_cE .l (own_cmpz hbE.1.noNaN own_n0)) ?_
  refine XS.ifYes XL1.here hx rfl (pc0 := 154) (pc' := 163) rfl (hH p49_3_154) rfl (own_c_neY (own_bEz hbE)) (by decide) (by decide) ?_
  refine XS.dloadN XL1.here hx rfl (hH p49_3_163) rfl ?_
  refine XS.dload XL1.here hx rfl (hH p49_3_164) rfl ?_
  refine XS.dsubS XL1.here hx rfl (hH p49_3_166) rfl (own_v hbE).1 rfl ?_
  show Steps p.tables e below (TKY.setTop (mkF m 167 zz21 [(.double (FP.dsub b FP.dconst0))])) tQ
  refine XS.dload XL1.here hx rfl (hH p49_3_167) rfl ?_
  exact kk
 clear kM0
 obtain ⟨vq, hvq⟩ : ∃ vA, FP.ddiv (FP.dsub b FP.dconst0) y0 = vA := ⟨_, rfl⟩
 have Dv : Fin64 vq ∧ own_z vq = W * ((2 ^ 1072 : Nat) : Int) := hvq ▸ (own_v hbE).2
 let zz22 : Array Slot := #[vr a, vd b, ss, vr is, vr ds, vi ow, vi (1 : Int32), vd y0, ss, vd FP.dconst0, ss, vr aL6, vd vq, ss, uu]
 have kM2 : own_G p e below E0 TKY (mkF m 174 zz22 [(.double vq)]) := by
  intro tQ kk
  refine kM1 tQ ?_
  refine XS.ddivS XL1.here hx rfl (hH p49_3_169) rfl (own_v hbE).2.1.noNaN hvq ?_
  refine XS.dstore XL1.here hx rfl (hH p49_3_170) rfl (l' := zz22) rfl ?_
  refine XS.dload XL1.here hx rfl (hH p49_3_172) rfl ?_
  exact kk
 clear kM1
 have stM3 := XL1.ldc2DoubleC hx hown (mvT hZ (tw285 hw)) (g := (mkF m 174 zz22 [(.double vq)])) rfl (hH p49_3_174)
 have kM4 : own_G p e below E0 TKY (mkF m 177 zz22 [(.double (13695778570484766357 : UInt64)), (.double vq)]) := fun tQ kk => kM2 tQ (stM3 _ kk)
 clear kM2 stM3
 have kM5 : own_G p e below E0 TKY (mkF m 179 zz22 [(.double b), (.double FP.dconst1), (.double (13695778570484766357 : UInt64)), (.double vq)]) := by
  intro tQ kk
  refine kM4 tQ ?_
  refine XS.dconst1 XL1.here hx rfl (hH p49_3_177) rfl ?_
  refine XS.dloadN XL1.here hx rfl (hH p49_3_178) rfl ?_
  exact kk
 clear kM4
 obtain ⟨TM6, XM7, eM8, stM9⟩ := natS XL1 hx hZ hown (tw286 hw) (tw287 hw) (tw225 hw) (tw288 hw) (by decide) eL2 (W := 6) (fun c4 => Jvm.Free.Fl.Abs.absD_pays b c4 (by decide) (by decide)) (g := (mkF m 179 zz22 [(.double b), (.double FP.dconst1), (.double (13695778570484766357 : UInt64)), (.double vq)])) rfl (by rw [hml]; rfl) (argsL := [(.double b)]) (rest := [(.double FP.dconst1), (.double (13695778570484766357 : UInt64)), (.double vq)]) (lenOf pd_161 rfl) rfl (by show 2 * 0 + _ ≤ _; exact Nat.le_of_eq rfl) (hH p49_3_179) (by decide) (by decide) ⟨rfl, hbE.2.1.noNaN⟩ rfl
 have kMA : own_G p e below E0 TM6 (mkF m 182 zz22 [(.double (b &&& 0x7fffffffffffffff)), (.double FP.dconst1), (.double (13695778570484766357 : UInt64)), (.double vq)]) := fun tQ kk => kM5 tQ (stM9 _ kk)
 clear kM5 stM9
 obtain ⟨TMB, XMC, eMD, stME⟩ := natS XM7 hx hZ hown (tw289 hw) (tw290 hw) (tw225 hw) (tw291 hw) (by decide) eM8 (W := 4) (fun c4 => Jvm.Free.Fl.Abs.maxD_pays FP.dconst1 (b &&& 0x7fffffffffffffff) c4 (by decide) (by decide)) (g := (mkF m 182 zz22 [(.double (b &&& 0x7fffffffffffffff)), (.double FP.dconst1), (.double (13695778570484766357 : UInt64)), (.double vq)])) rfl (by rw [hml]; rfl) (argsL := [(.double FP.dconst1), (.double (b &&& 0x7fffffffffffffff))]) (rest := [(.double (13695778570484766357 : UInt64)), (.double vq)]) (lenOf pd_162 rfl) rfl (by show 2 * 0 + _ ≤ _; exact Nat.le_of_eq rfl) (hH p49_3_182) (by decide) (by decide) ⟨rfl, own_n1, (own_absn hbE.2.1)⟩ rfl
 have kMF : own_G p e below E0 TMB (mkF m 185 zz22 [(.double (Native.java_lang_Math.nans.pick64 true FP.dconst1 (b &&& 0x7fffffffffffffff))), (.double (13695778570484766357 : UInt64)), (.double vq)]) := fun tQ kk => kMA tQ (stME _ kk)
 clear kMA stME
 let zz23 : Array Slot := #[vr a, vd b, ss, vr is, vr ds, vi ow, vi (1 : Int32), vd y0, ss, vd FP.dconst0, ss, vr aL6, vd vq, ss, vi (0 : Int32)]
 have kMG : own_G p e below E0 TMB (mkF m 213 zz23 [(.ref is), (.int (0 : Int32))]) := by
  intro tQ kk
  refine kMF tQ ?_
  refine XS.dmulS XMC.here hx rfl (hH p49_3_185) rfl (own_chz Dv hbE).1 rfl ?_
  refine XS.dcmpS (v := (own_c (own_z vq) (own_z (FP.dmul (13695778570484766357 : UInt64) (Native.java_lang_Math.nans.pick64 true FP.dconst1 (b &&& 0x7fffffffffffffff)))))) XMC.here hx rfl (hH p49_3_186) rfl (own_cE .l (own_cmpz Dv.1.noNaN (own_chz Dv hbE).1)) ?_
  refine XS.ifYes XMC.here hx rfl (pc0 := 187) (pc' := 207) rfl (hH p49_3_187) rfl (own_c_geY (own_chz Dv hbE).2) (by decide) (by decide) ?_
  refine XS.iconst XMC.here hx rfl (hH p49_3_207) ?_
  refine XS.istore XMC.here hx rfl (hH p49_3_208) rfl (l' := zz23) rfl ?_
  refine XS.iload XMC.here hx rfl (hH p49_3_210) rfl ?_
  refine XS.aloadN XMC.here hx rfl (hH p49_3_212) rfl rfl ?_
  exact kk
 clear kMF
 have stMH := fun tQ => own_A.len XMC hx hZ eMD A5 (g := (mkF m 213 zz23 [(.ref is), (.int (0 : Int32))])) rfl rfl (hH p49_3_213) tQ
 have kMI : own_G p e below E0 TMB (mkF m 214 zz23 [(.int (1 : Int32)), (.int (0 : Int32))]) := fun tQ kk => kMG tQ (stMH _ kk)
 clear kMG stMH
 have kMJ : own_G p e below E0 TMB (mkF m 218 zz23 [(.ref a)]) := by
  intro tQ kk
  refine kMI tQ ?_
  refine XS.icmpNo XMC.here hx rfl (hH p49_3_214) rfl (own_ic_geN (by decide)) ?_
  refine XS.aloadN XMC.here hx rfl (hH p49_3_217) rfl rfl ?_
  exact kk
 clear kMI
 obtain ⟨TMK, XML, eMM, stMN⟩ := getF XMC hx hZ hown (host := "") (Or.inl (tw40 hw)) Via.refl eMD S0 (g := (mkF m 218 zz23 [(.ref a)])) rfl rfl (hH p49_3_218)
 have kMO : own_G p e below E0 TMK (mkF m 221 zz23 [(.ref al)]) := fun tQ kk => kMJ tQ (stMN _ kk)
 clear kMJ stMN
 have kMP : own_G p e below E0 TMK (mkF m 224 zz23 [(.int (0 : Int32)), (.ref is), (.ref al)]) := by
  intro tQ kk
  refine kMO tQ ?_
  refine XS.aloadN XML.here hx rfl (hH p49_3_221) rfl rfl ?_
  refine XS.iload XML.here hx rfl (hH p49_3_222) rfl ?_
  exact kk
 clear kMO
 have stMQ := fun tQ => own_A.ild XML hx hZ eMM A5 (j := (0 : Int32)) (v := (.int ow)) (by decide) rfl (g := (mkF m 224 zz23 [(.int (0 : Int32)), (.ref is), (.ref al)])) rfl rfl (hH p49_3_224) tQ
 have kMR : own_G p e below E0 TMK (mkF m 225 zz23 [(.int ow), (.ref al)]) := fun tQ kk => kMP tQ (stMQ _ kk)
 clear kMP stMQ
 obtain ⟨cqN3, kqN4, qaN5, qbN6, qcN7⟩ := isOf hZ eMM E1
 obtain ⟨_, _, ⟨TMS, LMT, kcMU, ncMV⟩, -, XMW, ⟨LcMX, hQMY, lMZ, yN0, zN1⟩, stN2⟩ := XML.interfaceBack hx (xi := mn160) (y := mn150) hown (mvT hZ (tw256 hw)) (mvT hZ (tw257 hw)) (mvT hZ (tw258 hw)) (mvT hZ (tw259 hw)) (mvT hZ (tw260 hw)) (mvT hZ (tw261 hw)) (mvT hZ (tw262 hw)) (mvT hZ (tw183 hw)) (by decide) (backOf (W := 0) (rmGtS l Z a0 hw [] al r x0 x1 x2 xo ow hKZ n0 Z0 E1 L1 L2 AE w0 w3 hxo) hZ (tw263 hw) (tw18 hw) (by decide) (by decide)) qaN5 qbN6 qcN7 (g := (mkF m 225 zz23 [(.int ow), (.ref al)])) rfl (by rw [hml]; rfl) (Steps.refl _) (argsL := [(.int ow)]) (rest := []) (lenOf pd_151 rfl) rfl (by show 2 * 0 + _ ≤ _; exact Nat.le_of_eq rfl) (hH p49_3_225) (fun _ _ => ⟨rfl, eMM, (by decide : 1 + 0 ≤ _), (by decide : 1 + 0 ≤ _)⟩)
 dsimp only [Pt.U, Pt.locs, Pt.cells, Pt.slots] at XMW lMZ yN0 zN1 stN2 hQMY
 subst yN0 zN1
 obtain ⟨rfl, NN8, eN9⟩ := hQMY
 have NNB : Fr n0 LMT := by rw [lMZ]; exact Fr.app NKV NN8
 clear lMZ NN8
 have kNC : own_G p e below E0 TMS (mkF m 230 zz23 [(.ref xo)]) := fun tQ kk => kMR tQ (stN2.trans kk)
 clear kMR stN2
 obtain ⟨TND, XNE, eNF, stNG⟩ := castY XMW hx hZ hown (tw187 hw) eN9 (Ins.of_exa C1 (tw277 hw)) (g := (mkF m 230 zz23 [(.ref xo)])) rfl rfl (hH p49_3_230)
 have kNH : own_G p e below E0 TND (mkF m 233 zz23 [(.ref xo)]) := fun tQ kk => kNC tQ (stNG _ kk)
 clear kNC stNG
 have kNI : own_G p e below E0 TND (mkF m 239 zz23 [(.int (0 : Int32)), (.ref ds), (.int (1 : Int32)), (.ref xo)]) := by
  intro tQ kk
  refine kNH tQ ?_
  refine XS.iload XNE.here hx rfl (hH p49_3_233) rfl ?_
  refine XS.aload XNE.here hx rfl (hH p49_3_235) rfl rfl ?_
  refine XS.iload XNE.here hx rfl (hH p49_3_237) rfl ?_
  exact kk
 clear kNH
 have stNJ := fun tQ => own_A.dld XNE hx hZ eNF A6 (j := (0 : Int32)) (v := (.double y0)) (by decide) rfl (g := (mkF m 239 zz23 [(.int (0 : Int32)), (.ref ds), (.int (1 : Int32)), (.ref xo)])) rfl rfl (hH p49_3_239) tQ
 have kNK : own_G p e below E0 TND (mkF m 240 zz23 [(.double y0), (.int (1 : Int32)), (.ref xo)]) := fun tQ kk => kNI tQ (stNJ _ kk)
 clear kNI stNJ
 obtain ⟨cqNW, kqNX, qaNY, qbNZ, qcP0⟩ := isOf hZ eNF C1
 obtain ⟨_, _, ⟨TNL, LNM, kcNN, ncNO⟩, -, XNP, ⟨LcNQ, hQNR, lNS, yNT, zNU⟩, stNV⟩ := XNE.virtualBack hx (y := mn130) (z := mn130) hown (mvT hZ (tw292 hw)) (mvT hZ (tw293 hw)) (notFace_of_selects (args := #[]) (mvT hZ (tw295 hw))) (mvT hZ (tw295 hw)) (mvT hZ (tw294 hw)) (by decide) (backOf (W := 0) (rmSa l Z a0 hw [] xo ra sa (0 : Int32) (1 : Int32) y0 la ma hKZ n0 Z0 C1 C2 C3 C4 C5 C6 q_xo_ra q_xo_sa q_ra_sa ge_xo ge_ra ge_sa (by rw [la4]; decide) (by decide) (by rw [la4]; decide) (by rw [ma4]; decide)) hZ (tw296 hw) (tw189 hw) (by decide) (by decide)) qaNY qcP0 (g := (mkF m 240 zz23 [(.double y0), (.int (1 : Int32)), (.ref xo)])) rfl (by rw [hml]; rfl) (Steps.refl _) (argsL := [(.int (1 : Int32)), (.double y0)]) (rest := []) (lenOf pd_163 rfl) rfl (by show 2 * 0 + _ ≤ _; exact Nat.le_of_eq rfl) (hH p49_3_240) (fun _ _ => ⟨rfl, eNF, (by decide : 1 + 0 ≤ _), (by decide : 1 + 0 ≤ _)⟩)
 dsimp only [Pt.U, Pt.locs, Pt.cells, Pt.slots] at XNP lNS yNT zNU stNV hQNR
 subst yNT zNU
 obtain ⟨rfl, NP1, KP4, gP5, gP6, gP7, gP8, gP9⟩ := hQNR
 have NPA : Fr n0 LNM := by rw [lNS]; exact Fr.app NNB NP1
 clear lNS NP1
 replace Z0 := Nat.le_trans Z0 KP4.1
 replace EX := EX.keep KP4
 replace S0 := S0.keep KP4 (ninS q_a_xo (ninS q_a_ra (ninS q_a_sa nin0)))
 replace S1 := S1.keep KP4 (ninS q_a_xo (ninS q_a_ra (ninS q_a_sa nin0)))
 replace S2 := S2.keep KP4 (ninS q_a_xo (ninS q_a_ra (ninS q_a_sa nin0)))
 replace S3 := S3.keep KP4 (ninS q_a_xo (ninS q_a_ra (ninS q_a_sa nin0)))
 replace S4 := S4.keep KP4 (ninS q_a_xo (ninS q_a_ra (ninS q_a_sa nin0)))
 replace S5 := S5.keep KP4 (ninS q_a_xo (ninS q_a_ra (ninS q_a_sa nin0)))
 replace S6 := S6.keep KP4 (ninS q_a_xo (ninS q_a_ra (ninS q_a_sa nin0)))
 replace S7 := S7.keep KP4 (ninS q_a_xo (ninS q_a_ra (ninS q_a_sa nin0)))
 replace E1 := E1.keep KP4
 replace L1 := L1.keep KP4 (ninS (fun q => q_xo_al q.symm) (ninS (fun q => q_ra_al q.symm) (ninS (fun q => q_sa_al q.symm) nin0)))
 replace L2 := L2.keep KP4 (ninS (fun q => q_xo_al q.symm) (ninS (fun q => q_ra_al q.symm) (ninS (fun q => q_sa_al q.symm) nin0)))
 replace AE := AE.keep KP4 (ninS (fun q => q_xo_r q.symm) (ninS (fun q => q_ra_r q.symm) (ninS (fun q => q_sa_r q.symm) nin0)))
 replace E3 := E3.keep KP4
 replace L3 := L3.keep KP4 (ninS (fun q => q_xo_fa q.symm) (ninS (fun q => q_ra_fa q.symm) (ninS (fun q => q_sa_fa q.symm) nin0)))
 replace C1 := C1.keep KP4
 clear C2
 clear C3
 clear C4
 clear C5
 clear C6
 replace A1 := A1.keep KP4 (ninS q_ro_xo (ninS q_ro_ra (ninS q_ro_sa nin0)))
 replace A2 := A2.keep KP4 (ninS q_ba_xo (ninS q_ba_ra (ninS q_ba_sa nin0)))
 replace A3 := A3.keep KP4 (ninS q_pA_xo (ninS q_pA_ra (ninS q_pA_sa nin0)))
 replace A4 := A4.keep KP4 (ninS q_va_xo (ninS q_va_ra (ninS q_va_sa nin0)))
 replace A5 := A5.keep KP4 (ninS (fun q => q_xo_is q.symm) (ninS (fun q => q_ra_is q.symm) (ninS (fun q => q_sa_is q.symm) nin0)))
 replace A6 := A6.keep KP4 (ninS (fun q => q_xo_ds q.symm) (ninS (fun q => q_ra_ds q.symm) (ninS (fun q => q_sa_ds q.symm) nin0)))
 replace FLN := FLN.keep KP4 (ninS (Ne.symm nLC) (ninS (Ne.symm nLD) (ninS (Ne.symm nLE) nin0)))
 replace K0 := K0.trans KP4 (allS (Or.inl (List.mem_of_getElem? (i := 5) rfl)) (allS (Or.inl (List.mem_of_getElem? (i := 6) rfl)) (allS (Or.inl (List.mem_of_getElem? (i := 7) rfl)) all0)))
 have kPB : own_G p e below E0 TNL (mkF m 243 zz23 []) := fun tQ kk => kNK tQ (stNV.trans kk)
 clear kNK stNV
 let zz24 : Array Slot := #[vr a, vd b, ss, vr is, vr ds, vi ow, vi (1 : Int32), vd y0, ss, vd FP.dconst0, ss, vr aL6, vd vq, ss, vi (1 : Int32)]
 have kPC : own_G p e below E0 TNL (mkF m 213 zz24 [(.ref is), (.int (1 : Int32))]) := by
  intro tQ kk
  refine kPB tQ ?_
  refine XS.iinc XNP.here hx rfl (hH p49_3_243) rfl (l' := zz24) rfl ?_
  refine XS.goto XNP.here hx rfl (pc0 := 246) (pc' := 210) rfl (hH p49_3_246) (by decide) (by decide) ?_
  refine XS.iload XNP.here hx rfl (hH p49_3_210) rfl ?_
  refine XS.aloadN XNP.here hx rfl (hH p49_3_212) rfl rfl ?_
  exact kk
 clear kPB
 have stPD := fun tQ => own_A.len XNP hx hZ rfl A5 (g := (mkF m 213 zz24 [(.ref is), (.int (1 : Int32))])) rfl rfl (hH p49_3_213) tQ
 have kPE : own_G p e below E0 TNL (mkF m 214 zz24 [(.int (1 : Int32)), (.int (1 : Int32))]) := fun tQ kk => kPC tQ (stPD _ kk)
 clear kPC stPD
 have kPF : own_G p e below E0 TNL (mkF m 251 zz24 [(.ref a), (.ref a)]) := by
  intro tQ kk
  refine kPE tQ ?_
  refine XS.icmpYes XNP.here hx rfl (pc0 := 214) (pc' := 249) rfl (hH p49_3_214) rfl (own_ic_geY (by decide)) (by decide) (by decide) ?_
  refine XS.aloadN XNP.here hx rfl (hH p49_3_249) rfl rfl ?_
  refine XS.aloadN XNP.here hx rfl (hH p49_3_250) rfl rfl ?_
  exact kk
 clear kPE
 obtain ⟨TPG, XPH, ePI, stPJ⟩ := getF XNP hx hZ hown (host := "") (Or.inl (tw44 hw)) Via.refl rfl S2 (g := (mkF m 251 zz24 [(.ref a), (.ref a)])) rfl rfl (hH p49_3_251)
 have kPK : own_G p e below E0 TPG (mkF m 254 zz24 [(.ref ro), (.ref a)]) := fun tQ kk => kPF tQ (stPJ _ kk)
 clear kPF stPJ
 have kPL : own_G p e below E0 TPG (mkF m 258 zz24 [(.int (2 : Int32)), (.ref ro), (.ref a)]) := by
  intro tQ kk
  refine kPK tQ ?_
  refine XS.iload XPH.here hx rfl (hH p49_3_254) rfl ?_
  refine XS.iconst XPH.here hx rfl (hH p49_3_256) ?_
  refine XS.iadd XPH.here hx rfl (hH p49_3_257) rfl ?_
  exact kk
 clear kPK
 obtain ⟨_, _, ⟨TPM, LPN, kcPO, ncPP⟩, -, XPQ, ⟨LcPR, hQPS, lPT, yPU, zPV⟩, stPW⟩ := Jvm.LawKit.callS XPH hx (y := mn118) hown (mvT hZ (tw230 hw)) (mvT hZ (tw231 hw)) (mvT hZ (tw232 hw)) (mvT hZ (tw233 hw)) (by decide) (backOf (W := 1) (rmGd l Z a0 hw [] ro (2 : Int32) rv TNL.heap n0 Z0 A1 (by rw [lr]; decide)) hZ (tw233 hw) (tw232 hw) (by decide) (by decide)) (g := (mkF m 258 zz24 [(.int (2 : Int32)), (.ref ro), (.ref a)])) rfl (by rw [hml]; rfl) (argsL := [(.ref ro), (.int (2 : Int32))]) (rest := [(.ref a)]) (lenOf pd_157 rfl) rfl (by show 2 * 0 + _ ≤ _; exact Nat.le_of_eq rfl) (hH p49_3_258) (fun _ _ => ⟨rfl, ePI, (by decide : 1 + 0 ≤ _), (by decide : 1 + 0 ≤ _)⟩)
 dsimp only [Pt.U, Pt.locs, Pt.cells, Pt.slots] at XPQ lPT yPU zPV stPW hQPS
 subst yPU zPV
 obtain ⟨rfl, NPX, ePY⟩ := hQPS
 have NQ0 : Fr n0 LPN := by rw [lPT]; exact Fr.app NPA NPX
 clear lPT NPX
 have kQ1 : own_G p e below E0 TPM (mkF m 261 zz24 [(.ref ro), (.ref a)]) := fun tQ kk => kPL tQ (stPW _ kk)
 clear kPL stPW
 obtain ⟨TQ2, hQ3, XQ4, eQ5, WQ6, stQ7⟩ := putF XPQ hx hZ hown (host := "") (Or.inl (tw44 hw)) Via.refl ePY S2 EX (Or.inl (tw45 hw)) (tw8 hw) (ty := (.array .double)) (by decide) rfl rfl (g := (mkF m 261 zz24 [(.ref ro), (.ref a)])) rfl rfl (hH p49_3_261)
 have NQ8 := Fr.snoc XQ4 NQ0 ge_a
 have kQ9 : own_G p e below E0 TQ2 (mkF m 264 zz24 []) := fun tQ kk => kQ1 tQ (stQ7 _ kk)
 clear kQ1 stQ7
 replace EX := EX.wr WQ6
 replace S0 := S0.other WQ6 (Or.inr (sn69 hw))
 replace S1 := S1.other WQ6 (Or.inr (sn70 hw))
 replace S2 := S2.same WQ6
 replace S3 := S3.other WQ6 (Or.inr (sn71 hw))
 replace S4 := S4.other WQ6 (Or.inr (sn72 hw))
 replace S5 := S5.other WQ6 (Or.inr (sn73 hw))
 replace S6 := S6.other WQ6 (Or.inr (sn74 hw))
 replace S7 := S7.other WQ6 (Or.inr (sn76 hw))
 replace E1 := E1.wr WQ6
 replace L1 := L1.other WQ6 (Or.inl (fun q => q_a_al q.symm))
 replace L2 := L2.other WQ6 (Or.inl (fun q => q_a_al q.symm))
 replace AE := AE.other WQ6 (fun q => q_a_r q.symm)
 replace E3 := E3.wr WQ6
 replace L3 := L3.other WQ6 (Or.inl (fun q => q_a_fa q.symm))
 replace C1 := C1.wr WQ6
 replace A1 := A1.other WQ6 (fun q => q_a_ro q.symm)
 replace A2 := A2.other WQ6 (fun q => q_a_ba q.symm)
 replace A3 := A3.other WQ6 (fun q => q_a_pA q.symm)
 replace A4 := A4.other WQ6 (fun q => q_a_va q.symm)
 replace A5 := A5.other WQ6 (fun q => q_a_is q.symm)
 replace A6 := A6.other WQ6 (fun q => q_a_ds q.symm)
 replace FLN := FLN.other WQ6 (Ne.symm nL8)
 replace gP5 := gP5.other WQ6 (Or.inl (fun q => q_a_xo q.symm))
 replace gP6 := gP6.other WQ6 (Or.inl (fun q => q_a_xo q.symm))
 replace gP7 := gP7.other WQ6 (Or.inl (fun q => q_a_xo q.symm))
 replace gP8 := gP8.other WQ6 (fun q => q_a_ra q.symm)
 replace gP9 := gP9.other WQ6 (fun q => q_a_sa q.symm)
 replace Z0 := own_wrle WQ6 Z0
 replace K0 := K0.wr WQ6 (Or.inl (List.mem_of_getElem? (i := 0) rfl))
 have kQA : own_G p e below E0 TQ2 (mkF m 265 zz24 [(.ref a)]) := by
  intro tQ kk
  refine kQ9 tQ ?_
  refine XS.aloadN XQ4.here hx rfl (hH p49_3_264) rfl rfl ?_
  exact kk
 clear kQ9
 obtain ⟨TQB, XQC, eQD, stQE⟩ := getF XQ4 hx hZ hown (host := "") (Or.inl (tw44 hw)) Via.refl eQ5 S2 (g := (mkF m 265 zz24 [(.ref a)])) rfl rfl (hH p49_3_265)
 have kQF : own_G p e below E0 TQB (mkF m 268 zz24 [(.ref ro)]) := fun tQ kk => kQA tQ (stQE _ kk)
 clear kQA stQE
 have kQG : own_G p e below E0 TQB (mkF m 271 zz24 [(.double b), (.int (1 : Int32)), (.ref ro)]) := by
  intro tQ kk
  refine kQF tQ ?_
  refine XS.iload XQC.here hx rfl (hH p49_3_268) rfl ?_
  refine XS.dloadN XQC.here hx rfl (hH p49_3_270) rfl ?_
  exact kk
 clear kQF
 obtain ⟨TQH, hQI, XQJ, eQK, WQL, FQM, stQN⟩ := own_A.dst XQC hx hZ eQD A1 (j := (1 : Int32)) (by decide) (List.getElem?_eq_getElem (by rw [lr]; decide)) (g := (mkF m 271 zz24 [(.double b), (.int (1 : Int32)), (.ref ro)])) rfl rfl (hH p49_3_271)
 have NQO := Fr.snoc XQJ NQ8 ge_ro
 have kQP : own_G p e below E0 TQH (mkF m 272 zz24 []) := fun tQ kk => kQG tQ (stQN _ kk)
 clear kQG stQN
 replace EX := EX.wr WQL
 replace S0 := S0.other WQL (Or.inl q_a_ro)
 replace S1 := S1.other WQL (Or.inl q_a_ro)
 replace S2 := S2.other WQL (Or.inl q_a_ro)
 replace S3 := S3.other WQL (Or.inl q_a_ro)
 replace S4 := S4.other WQL (Or.inl q_a_ro)
 replace S5 := S5.other WQL (Or.inl q_a_ro)
 replace S6 := S6.other WQL (Or.inl q_a_ro)
 replace S7 := S7.other WQL (Or.inl q_a_ro)
 replace E1 := E1.wr WQL
 replace L1 := L1.other WQL (Or.inl (fun q => q_ro_al q.symm))
 replace L2 := L2.other WQL (Or.inl (fun q => q_ro_al q.symm))
 replace AE := AE.other WQL (fun q => q_ro_r q.symm)
 replace E3 := E3.wr WQL
 replace L3 := L3.other WQL (Or.inl (fun q => q_ro_fa q.symm))
 replace C1 := C1.wr WQL
 replace A2 := A2.other WQL (fun q => q_ro_ba q.symm)
 replace A3 := A3.other WQL (fun q => q_ro_pA q.symm)
 replace A4 := A4.other WQL (fun q => q_ro_va q.symm)
 replace A5 := A5.other WQL (fun q => q_ro_is q.symm)
 replace A6 := A6.other WQL (fun q => q_ro_ds q.symm)
 replace FLN := FLN.other WQL (Ne.symm nLF)
 replace gP5 := gP5.other WQL (Or.inl (fun q => q_ro_xo q.symm))
 replace gP6 := gP6.other WQL (Or.inl (fun q => q_ro_xo q.symm))
 replace gP7 := gP7.other WQL (Or.inl (fun q => q_ro_xo q.symm))
 replace gP8 := gP8.other WQL (fun q => q_ro_ra q.symm)
 replace gP9 := gP9.other WQL (fun q => q_ro_sa q.symm)
 replace Z0 := own_wrle WQL Z0
 replace K0 := K0.wr WQL (Or.inl (List.mem_of_getElem? (i := 1) rfl))
 have FQQ : own_A Z hQI ro .double (rv.set ((1 : Int32)).toNatClampNeg (.double b)) := FQM
 have kQR : own_G p e below E0 TQH (mkF m 274 zz24 [(.ref a), (.ref a)]) := by
  intro tQ kk
  refine kQP tQ ?_
  refine XS.aloadN XQJ.here hx rfl (hH p49_3_272) rfl rfl ?_
  refine XS.aloadN XQJ.here hx rfl (hH p49_3_273) rfl rfl ?_
  exact kk
 clear kQP
 obtain ⟨TQS, XQT, eQU, stQV⟩ := getF XQJ hx hZ hown (host := "") (Or.inl (tw46 hw)) Via.refl eQK S3 (g := (mkF m 274 zz24 [(.ref a), (.ref a)])) rfl rfl (hH p49_3_274)
 have kQW : own_G p e below E0 TQS (mkF m 277 zz24 [(.ref ba), (.ref a)]) := fun tQ kk => kQR tQ (stQV _ kk)
 clear kQR stQV
 have kQX : own_G p e below E0 TQS (mkF m 281 zz24 [(.int (2 : Int32)), (.ref ba), (.ref a)]) := by
  intro tQ kk
  refine kQW tQ ?_
  refine XS.iload XQT.here hx rfl (hH p49_3_277) rfl ?_
  refine XS.iconst XQT.here hx rfl (hH p49_3_279) ?_
  refine XS.iadd XQT.here hx rfl (hH p49_3_280) rfl ?_
  exact kk
 clear kQW
 obtain ⟨_, _, ⟨TQY, LQZ, kcR0, ncR1⟩, -, XR2, ⟨LcR3, hQR4, lR5, yR6, zR7⟩, stR8⟩ := Jvm.LawKit.callS XQT hx (y := mn119) hown (mvT hZ (tw234 hw)) (mvT hZ (tw235 hw)) (mvT hZ (tw232 hw)) (mvT hZ (tw236 hw)) (by decide) (backOf (W := 1) (rmGi l Z a0 hw [] ba (2 : Int32) bv hQI n0 Z0 A2 (by rw [lbv]; decide)) hZ (tw236 hw) (tw232 hw) (by decide) (by decide)) (g := (mkF m 281 zz24 [(.int (2 : Int32)), (.ref ba), (.ref a)])) rfl (by rw [hml]; rfl) (argsL := [(.ref ba), (.int (2 : Int32))]) (rest := [(.ref a)]) (lenOf pd_158 rfl) rfl (by show 2 * 0 + _ ≤ _; exact Nat.le_of_eq rfl) (hH p49_3_281) (fun _ _ => ⟨rfl, eQU, (by decide : 1 + 0 ≤ _), (by decide : 1 + 0 ≤ _)⟩)
 dsimp only [Pt.U, Pt.locs, Pt.cells, Pt.slots] at XR2 lR5 yR6 zR7 stR8 hQR4
 subst yR6 zR7
 obtain ⟨rfl, NR9, eRA⟩ := hQR4
 have NRC : Fr n0 LQZ := by rw [lR5]; exact Fr.app NQO NR9
 clear lR5 NR9
 have kRD : own_G p e below E0 TQY (mkF m 284 zz24 [(.ref ba), (.ref a)]) := fun tQ kk => kQX tQ (stR8 _ kk)
 clear kQX stR8
 obtain ⟨TRE, hRF, XRG, eRH, WRI, stRJ⟩ := putF XR2 hx hZ hown (host := "") (Or.inl (tw46 hw)) Via.refl eRA S3 EX (Or.inl (tw47 hw)) (tw8 hw) (ty := (.array .int)) (by decide) rfl rfl (g := (mkF m 284 zz24 [(.ref ba), (.ref a)])) rfl rfl (hH p49_3_284)
 have NRK := Fr.snoc XRG NRC ge_a
 have kRL : own_G p e below E0 TRE (mkF m 287 zz24 []) := fun tQ kk => kRD tQ (stRJ _ kk)
 clear kRD stRJ
 replace EX := EX.wr WRI
 replace S0 := S0.other WRI (Or.inr (sn77 hw))
 replace S1 := S1.other WRI (Or.inr (sn78 hw))
 replace S2 := S2.other WRI (Or.inr (sn79 hw))
 replace S3 := S3.same WRI
 replace S4 := S4.other WRI (Or.inr (sn80 hw))
 replace S5 := S5.other WRI (Or.inr (sn81 hw))
 replace S6 := S6.other WRI (Or.inr (sn82 hw))
 replace S7 := S7.other WRI (Or.inr (sn84 hw))
 replace E1 := E1.wr WRI
 replace L1 := L1.other WRI (Or.inl (fun q => q_a_al q.symm))
 replace L2 := L2.other WRI (Or.inl (fun q => q_a_al q.symm))
 replace AE := AE.other WRI (fun q => q_a_r q.symm)
 replace E3 := E3.wr WRI
 replace L3 := L3.other WRI (Or.inl (fun q => q_a_fa q.symm))
 replace C1 := C1.wr WRI
 replace A2 := A2.other WRI (fun q => q_a_ba q.symm)
 replace A3 := A3.other WRI (fun q => q_a_pA q.symm)
 replace A4 := A4.other WRI (fun q => q_a_va q.symm)
 replace A5 := A5.other WRI (fun q => q_a_is q.symm)
 replace A6 := A6.other WRI (fun q => q_a_ds q.symm)
 replace FLN := FLN.other WRI (Ne.symm nL8)
 replace gP5 := gP5.other WRI (Or.inl (fun q => q_a_xo q.symm))
 replace gP6 := gP6.other WRI (Or.inl (fun q => q_a_xo q.symm))
 replace gP7 := gP7.other WRI (Or.inl (fun q => q_a_xo q.symm))
 replace gP8 := gP8.other WRI (fun q => q_a_ra q.symm)
 replace gP9 := gP9.other WRI (fun q => q_a_sa q.symm)
 replace FQQ := FQQ.other WRI (fun q => q_a_ro q.symm)
 replace Z0 := own_wrle WRI Z0
 replace K0 := K0.wr WRI (Or.inl (List.mem_of_getElem? (i := 0) rfl))
 have kRM : own_G p e below E0 TRE (mkF m 288 zz24 [(.ref a)]) := by
  intro tQ kk
  refine kRL tQ ?_
  refine XS.aloadN XRG.here hx rfl (hH p49_3_287) rfl rfl ?_
  exact kk
 clear kRL
 obtain ⟨TRN, XRO, eRP, stRQ⟩ := getF XRG hx hZ hown (host := "") (Or.inl (tw46 hw)) Via.refl eRH S3 (g := (mkF m 288 zz24 [(.ref a)])) rfl rfl (hH p49_3_288)
 have kRR : own_G p e below E0 TRN (mkF m 291 zz24 [(.ref ba)]) := fun tQ kk => kRM tQ (stRQ _ kk)
 clear kRM stRQ
 have kRS : own_G p e below E0 TRN (mkF m 295 zz24 [(.int ow), (.int (1 : Int32)), (.ref ba)]) := by
  intro tQ kk
  refine kRR tQ ?_
  refine XS.iload XRO.here hx rfl (hH p49_3_291) rfl ?_
  refine XS.iload XRO.here hx rfl (hH p49_3_293) rfl ?_
  exact kk
 clear kRR
 obtain ⟨TRT, hRU, XRV, eRW, WRX, FRY, stRZ⟩ := own_A.ist XRO hx hZ eRP A2 (j := (1 : Int32)) (by decide) (List.getElem?_eq_getElem (by rw [lbv]; decide)) (g := (mkF m 295 zz24 [(.int ow), (.int (1 : Int32)), (.ref ba)])) rfl rfl (hH p49_3_295)
 have NS0 := Fr.snoc XRV NRK ge_ba
 have kS1 : own_G p e below E0 TRT (mkF m 296 zz24 []) := fun tQ kk => kRS tQ (stRZ _ kk)
 clear kRS stRZ
 replace EX := EX.wr WRX
 replace S0 := S0.other WRX (Or.inl q_a_ba)
 replace S1 := S1.other WRX (Or.inl q_a_ba)
 replace S2 := S2.other WRX (Or.inl q_a_ba)
 replace S3 := S3.other WRX (Or.inl q_a_ba)
 replace S4 := S4.other WRX (Or.inl q_a_ba)
 replace S5 := S5.other WRX (Or.inl q_a_ba)
 replace S6 := S6.other WRX (Or.inl q_a_ba)
 replace S7 := S7.other WRX (Or.inl q_a_ba)
 replace E1 := E1.wr WRX
 replace L1 := L1.other WRX (Or.inl (fun q => q_ba_al q.symm))
 replace L2 := L2.other WRX (Or.inl (fun q => q_ba_al q.symm))
 replace AE := AE.other WRX (fun q => q_ba_r q.symm)
 replace E3 := E3.wr WRX
 replace L3 := L3.other WRX (Or.inl (fun q => q_ba_fa q.symm))
 replace C1 := C1.wr WRX
 replace A3 := A3.other WRX (fun q => q_ba_pA q.symm)
 replace A4 := A4.other WRX (fun q => q_ba_va q.symm)
 replace A5 := A5.other WRX (fun q => q_ba_is q.symm)
 replace A6 := A6.other WRX (fun q => q_ba_ds q.symm)
 replace FLN := FLN.other WRX (Ne.symm nLG)
 replace gP5 := gP5.other WRX (Or.inl (fun q => q_ba_xo q.symm))
 replace gP6 := gP6.other WRX (Or.inl (fun q => q_ba_xo q.symm))
 replace gP7 := gP7.other WRX (Or.inl (fun q => q_ba_xo q.symm))
 replace gP8 := gP8.other WRX (fun q => q_ba_ra q.symm)
 replace gP9 := gP9.other WRX (fun q => q_ba_sa q.symm)
 replace FQQ := FQQ.other WRX q_ro_ba
 replace Z0 := own_wrle WRX Z0
 replace K0 := K0.wr WRX (Or.inl (List.mem_of_getElem? (i := 2) rfl))
 have FS2 : own_A Z hRU ba .int (bv.set ((1 : Int32)).toNatClampNeg (.int ow)) := FRY
 have kS3 : own_G p e below E0 TRT (mkF m 297 zz24 [(.ref a)]) := by
  intro tQ kk
  refine kS1 tQ ?_
  refine XS.aloadN XRV.here hx rfl (hH p49_3_296) rfl rfl ?_
  exact kk
 clear kS1
 obtain ⟨TS4, XS5, eS6, stS7⟩ := getF XRV hx hZ hown (host := "") (Or.inl (tw48 hw)) Via.refl eRW S4 (g := (mkF m 297 zz24 [(.ref a)])) rfl rfl (hH p49_3_297)
 have kS8 : own_G p e below E0 TS4 (mkF m 300 zz24 [(.ref pA)]) := fun tQ kk => kS3 tQ (stS7 _ kk)
 clear kS3 stS7
 have kS9 : own_G p e below E0 TS4 (mkF m 304 zz24 [(.int (1 : Int32)), (.int ow), (.ref pA)]) := by
  intro tQ kk
  refine kS8 tQ ?_
  refine XS.iload XS5.here hx rfl (hH p49_3_300) rfl ?_
  refine XS.iload XS5.here hx rfl (hH p49_3_302) rfl ?_
  exact kk
 clear kS8
 obtain ⟨TSA, hSB, XSC, eSD, WSE, FSF, stSG⟩ := own_A.ist XS5 hx hZ eS6 A3 (j := ow) w0 hp (g := (mkF m 304 zz24 [(.int (1 : Int32)), (.int ow), (.ref pA)])) rfl rfl (hH p49_3_304)
 have NSH := Fr.snoc XSC NS0 ge_pA
 have kSI : own_G p e below E0 TSA (mkF m 305 zz24 []) := fun tQ kk => kS9 tQ (stSG _ kk)
 clear kS9 stSG
 replace EX := EX.wr WSE
 replace S0 := S0.other WSE (Or.inl q_a_pA)
 replace S1 := S1.other WSE (Or.inl q_a_pA)
 replace S2 := S2.other WSE (Or.inl q_a_pA)
 replace S3 := S3.other WSE (Or.inl q_a_pA)
 replace S4 := S4.other WSE (Or.inl q_a_pA)
 replace S5 := S5.other WSE (Or.inl q_a_pA)
 replace S6 := S6.other WSE (Or.inl q_a_pA)
 replace S7 := S7.other WSE (Or.inl q_a_pA)
 replace E1 := E1.wr WSE
 replace L1 := L1.other WSE (Or.inl (fun q => q_pA_al q.symm))
 replace L2 := L2.other WSE (Or.inl (fun q => q_pA_al q.symm))
 replace AE := AE.other WSE (fun q => q_pA_r q.symm)
 replace E3 := E3.wr WSE
 replace L3 := L3.other WSE (Or.inl (fun q => q_pA_fa q.symm))
 replace C1 := C1.wr WSE
 replace A4 := A4.other WSE (fun q => q_pA_va q.symm)
 replace A5 := A5.other WSE (fun q => q_pA_is q.symm)
 replace A6 := A6.other WSE (fun q => q_pA_ds q.symm)
 replace FLN := FLN.other WSE (Ne.symm nLH)
 replace gP5 := gP5.other WSE (Or.inl (fun q => q_pA_xo q.symm))
 replace gP6 := gP6.other WSE (Or.inl (fun q => q_pA_xo q.symm))
 replace gP7 := gP7.other WSE (Or.inl (fun q => q_pA_xo q.symm))
 replace gP8 := gP8.other WSE (fun q => q_pA_ra q.symm)
 replace gP9 := gP9.other WSE (fun q => q_pA_sa q.symm)
 replace FQQ := FQQ.other WSE q_ro_pA
 replace FS2 := FS2.other WSE q_ba_pA
 replace Z0 := own_wrle WSE Z0
 replace K0 := K0.wr WSE (Or.inl (List.mem_of_getElem? (i := 3) rfl))
 have FSJ : own_A Z hSB pA .int (pv.set ow.toNatClampNeg (.int (1 : Int32))) := FSF
 have kSK : own_G p e below E0 TSA (mkF m 307 zz24 [(.ref a), (.ref a)]) := by
  intro tQ kk
  refine kSI tQ ?_
  refine XS.aloadN XSC.here hx rfl (hH p49_3_305) rfl rfl ?_
  refine XS.aloadN XSC.here hx rfl (hH p49_3_306) rfl rfl ?_
  exact kk
 clear kSI
 obtain ⟨TSL, XSM, eSN, stSO⟩ := getF XSC hx hZ hown (host := "") (Or.inl (tw167 hw)) Via.refl eSD S6 (g := (mkF m 307 zz24 [(.ref a), (.ref a)])) rfl rfl (hH p49_3_307)
 have kSP : own_G p e below E0 TSL (mkF m 310 zz24 [(.ref va), (.ref a)]) := fun tQ kk => kSK tQ (stSO _ kk)
 clear kSK stSO
 have kSQ : own_G p e below E0 TSL (mkF m 314 zz24 [(.int (2 : Int32)), (.ref va), (.ref a)]) := by
  intro tQ kk
  refine kSP tQ ?_
  refine XS.iload XSM.here hx rfl (hH p49_3_310) rfl ?_
  refine XS.iconst XSM.here hx rfl (hH p49_3_312) ?_
  refine XS.iadd XSM.here hx rfl (hH p49_3_313) rfl ?_
  exact kk
 clear kSP
 obtain ⟨_, _, ⟨TSR, LSS, kcST, ncSU⟩, -, XSV, ⟨LcSW, hQSX, lSY, ySZ, zT0⟩, stT1⟩ := Jvm.LawKit.callS XSM hx (y := mn118) hown (mvT hZ (tw230 hw)) (mvT hZ (tw231 hw)) (mvT hZ (tw232 hw)) (mvT hZ (tw233 hw)) (by decide) (backOf (W := 1) (rmGd l Z a0 hw [] va (2 : Int32) vv hSB n0 Z0 A4 (by rw [lv]; decide)) hZ (tw233 hw) (tw232 hw) (by decide) (by decide)) (g := (mkF m 314 zz24 [(.int (2 : Int32)), (.ref va), (.ref a)])) rfl (by rw [hml]; rfl) (argsL := [(.ref va), (.int (2 : Int32))]) (rest := [(.ref a)]) (lenOf pd_157 rfl) rfl (by show 2 * 0 + _ ≤ _; exact Nat.le_of_eq rfl) (hH p49_3_314) (fun _ _ => ⟨rfl, eSN, (by decide : 1 + 0 ≤ _), (by decide : 1 + 0 ≤ _)⟩)
 dsimp only [Pt.U, Pt.locs, Pt.cells, Pt.slots] at XSV lSY ySZ zT0 stT1 hQSX
 subst ySZ zT0
 obtain ⟨rfl, NT2, eT3⟩ := hQSX
 have NT5 : Fr n0 LSS := by rw [lSY]; exact Fr.app NSH NT2
 clear lSY NT2
 have kT6 : own_G p e below E0 TSR (mkF m 317 zz24 [(.ref va), (.ref a)]) := fun tQ kk => kSQ tQ (stT1 _ kk)
 clear kSQ stT1
 obtain ⟨TT7, hT8, XT9, eTA, WTB, stTC⟩ := putF XSV hx hZ hown (host := "") (Or.inl (tw167 hw)) Via.refl eT3 S6 EX (Or.inl (tw168 hw)) (tw8 hw) (ty := (.array .double)) (by decide) rfl rfl (g := (mkF m 317 zz24 [(.ref va), (.ref a)])) rfl rfl (hH p49_3_317)
 have NTD := Fr.snoc XT9 NT5 ge_a
 have kTE : own_G p e below E0 TT7 (mkF m 320 zz24 []) := fun tQ kk => kT6 tQ (stTC _ kk)
 clear kT6 stTC
 replace EX := EX.wr WTB
 replace S0 := S0.other WTB (Or.inr (sn101 hw))
 replace S1 := S1.other WTB (Or.inr (sn102 hw))
 replace S2 := S2.other WTB (Or.inr (sn103 hw))
 replace S3 := S3.other WTB (Or.inr (sn104 hw))
 replace S4 := S4.other WTB (Or.inr (sn105 hw))
 replace S5 := S5.other WTB (Or.inr (sn106 hw))
 replace S6 := S6.same WTB
 replace S7 := S7.other WTB (Or.inr (sn108 hw))
 replace E1 := E1.wr WTB
 replace L1 := L1.other WTB (Or.inl (fun q => q_a_al q.symm))
 replace L2 := L2.other WTB (Or.inl (fun q => q_a_al q.symm))
 replace AE := AE.other WTB (fun q => q_a_r q.symm)
 replace E3 := E3.wr WTB
 replace L3 := L3.other WTB (Or.inl (fun q => q_a_fa q.symm))
 replace C1 := C1.wr WTB
 replace A4 := A4.other WTB (fun q => q_a_va q.symm)
 replace A5 := A5.other WTB (fun q => q_a_is q.symm)
 replace A6 := A6.other WTB (fun q => q_a_ds q.symm)
 replace FLN := FLN.other WTB (Ne.symm nL8)
 replace gP5 := gP5.other WTB (Or.inl (fun q => q_a_xo q.symm))
 replace gP6 := gP6.other WTB (Or.inl (fun q => q_a_xo q.symm))
 replace gP7 := gP7.other WTB (Or.inl (fun q => q_a_xo q.symm))
 replace gP8 := gP8.other WTB (fun q => q_a_ra q.symm)
 replace gP9 := gP9.other WTB (fun q => q_a_sa q.symm)
 replace FQQ := FQQ.other WTB (fun q => q_a_ro q.symm)
 replace FS2 := FS2.other WTB (fun q => q_a_ba q.symm)
 replace FSJ := FSJ.other WTB (fun q => q_a_pA q.symm)
 replace Z0 := own_wrle WTB Z0
 replace K0 := K0.wr WTB (Or.inl (List.mem_of_getElem? (i := 0) rfl))
 have kTF : own_G p e below E0 TT7 (mkF m 321 zz24 [(.ref a)]) := by
  intro tQ kk
  refine kTE tQ ?_
  refine XS.aloadN XT9.here hx rfl (hH p49_3_320) rfl rfl ?_
  exact kk
 clear kTE
 obtain ⟨TTG, XTH, eTI, stTJ⟩ := getF XT9 hx hZ hown (host := "") (Or.inl (tw167 hw)) Via.refl eTA S6 (g := (mkF m 321 zz24 [(.ref a)])) rfl rfl (hH p49_3_321)
 have kTK : own_G p e below E0 TTG (mkF m 324 zz24 [(.ref va)]) := fun tQ kk => kTF tQ (stTJ _ kk)
 clear kTF stTJ
 have kTL : own_G p e below E0 TTG (mkF m 329 zz24 [(.double vq), (.double FP.dconst0), (.int (1 : Int32)), (.ref va)]) := by
  intro tQ kk
  refine kTK tQ ?_
  refine XS.iload XTH.here hx rfl (hH p49_3_324) rfl ?_
  refine XS.dconst0 XTH.here hx rfl (hH p49_3_326) rfl ?_
  refine XS.dload XTH.here hx rfl (hH p49_3_327) rfl ?_
  exact kk
 clear kTK
 obtain ⟨TTM, XTN, eTO, stTP⟩ := natS XTH hx hZ hown (tw289 hw) (tw290 hw) (tw225 hw) (tw291 hw) (by decide) eTI (W := 2) (fun c4 => Jvm.Free.Fl.Abs.maxD_pays FP.dconst0 vq c4 (by decide) (by decide)) (g := (mkF m 329 zz24 [(.double vq), (.double FP.dconst0), (.int (1 : Int32)), (.ref va)])) rfl (by rw [hml]; rfl) (argsL := [(.double FP.dconst0), (.double vq)]) (rest := [(.int (1 : Int32)), (.ref va)]) (lenOf pd_162 rfl) rfl (by show 2 * 0 + _ ≤ _; exact Nat.le_of_eq rfl) (hH p49_3_329) (by decide) (by decide) ⟨rfl, own_n0, Dv.1.noNaN⟩ rfl
 have kTQ : own_G p e below E0 TTM (mkF m 332 zz24 [(.double (Native.java_lang_Math.nans.pick64 true FP.dconst0 vq)), (.int (1 : Int32)), (.ref va)]) := fun tQ kk => kTL tQ (stTP _ kk)
 clear kTL stTP
 obtain ⟨TTR, hTS, XTT, eTU, WTV, FTW, stTX⟩ := own_A.dst XTN hx hZ eTO A4 (j := (1 : Int32)) (by decide) (List.getElem?_eq_getElem (by rw [lv]; decide)) (g := (mkF m 332 zz24 [(.double (Native.java_lang_Math.nans.pick64 true FP.dconst0 vq)), (.int (1 : Int32)), (.ref va)])) rfl rfl (hH p49_3_332)
 have NTY := Fr.snoc XTT NTD ge_va
 have kTZ : own_G p e below E0 TTR (mkF m 333 zz24 []) := fun tQ kk => kTQ tQ (stTX _ kk)
 clear kTQ stTX
 replace EX := EX.wr WTV
 replace S0 := S0.other WTV (Or.inl q_a_va)
 replace S1 := S1.other WTV (Or.inl q_a_va)
 replace S2 := S2.other WTV (Or.inl q_a_va)
 replace S3 := S3.other WTV (Or.inl q_a_va)
 replace S4 := S4.other WTV (Or.inl q_a_va)
 replace S5 := S5.other WTV (Or.inl q_a_va)
 replace S6 := S6.other WTV (Or.inl q_a_va)
 replace S7 := S7.other WTV (Or.inl q_a_va)
 replace E1 := E1.wr WTV
 replace L1 := L1.other WTV (Or.inl (fun q => q_va_al q.symm))
 replace L2 := L2.other WTV (Or.inl (fun q => q_va_al q.symm))
 replace AE := AE.other WTV (fun q => q_va_r q.symm)
 replace E3 := E3.wr WTV
 replace L3 := L3.other WTV (Or.inl (fun q => q_va_fa q.symm))
 replace C1 := C1.wr WTV
 replace A5 := A5.other WTV (fun q => q_va_is q.symm)
 replace A6 := A6.other WTV (fun q => q_va_ds q.symm)
 replace FLN := FLN.other WTV (Ne.symm nLI)
 replace gP5 := gP5.other WTV (Or.inl (fun q => q_va_xo q.symm))
 replace gP6 := gP6.other WTV (Or.inl (fun q => q_va_xo q.symm))
 replace gP7 := gP7.other WTV (Or.inl (fun q => q_va_xo q.symm))
 replace gP8 := gP8.other WTV (fun q => q_va_ra q.symm)
 replace gP9 := gP9.other WTV (fun q => q_va_sa q.symm)
 replace FQQ := FQQ.other WTV q_ro_va
 replace FS2 := FS2.other WTV q_ba_va
 replace FSJ := FSJ.other WTV q_pA_va
 replace Z0 := own_wrle WTV Z0
 replace K0 := K0.wr WTV (Or.inl (List.mem_of_getElem? (i := 4) rfl))
 have FU0 : own_A Z hTS va .double (vv.set ((1 : Int32)).toNatClampNeg (.double (Native.java_lang_Math.nans.pick64 true FP.dconst0 vq))) := FTW
 have kU1 : own_G p e below E0 TTR (mkF m 334 zz24 [(.ref a)]) := by
  intro tQ kk
  refine kTZ tQ ?_
  refine XS.aloadN XTT.here hx rfl (hH p49_3_333) rfl rfl ?_
  exact kk
 clear kTZ
 obtain ⟨TU2, XU3, eU4, stU5⟩ := getF XTT hx hZ hown (host := "") (Or.inl (tw165 hw)) Via.refl eTU S5 (g := (mkF m 334 zz24 [(.ref a)])) rfl rfl (hH p49_3_334)
 have kU6 : own_G p e below E0 TU2 (mkF m 337 zz24 [(.ref fa)]) := fun tQ kk => kU1 tQ (stU5 _ kk)
 clear kU1 stU5
 obtain ⟨cqUI, kqUJ, qaUK, qbUL, qcUM⟩ := isOf hZ eU4 E3
 obtain ⟨_, _, ⟨TU7, LU8, kcU9, ncUA⟩, -, XUB, ⟨LcUC, hQUD, lUE, yUF, zUG⟩, stUH⟩ := XU3.virtualBack hx (y := mn134) (z := mn134) hown (mvT hZ (tw297 hw)) (mvT hZ (tw298 hw)) (notFace_of_selects (args := #[]) (mvT hZ (tw300 hw))) (mvT hZ (tw300 hw)) (mvT hZ (tw299 hw)) (by decide) (backOf (W := 0) (rmBs l Z a0 hw [] fa hTS n0 Z0 L3) hZ (tw301 hw) (tw52 hw) (by decide) (by decide)) qaUK qcUM (g := (mkF m 337 zz24 [(.ref fa)])) rfl (by rw [hml]; rfl) (Steps.refl _) (argsL := []) (rest := []) (lenOf pd_153 rfl) rfl (by show 2 * 0 + _ ≤ _; exact Nat.le_of_eq rfl) (hH p49_3_337) (fun _ _ => ⟨rfl, eU4, (by decide : 1 + 0 ≤ _), (by decide : 1 + 0 ≤ _)⟩)
 dsimp only [Pt.U, Pt.locs, Pt.cells, Pt.slots] at XUB lUE yUF zUG stUH hQUD
 subst yUF zUG
 obtain ⟨rfl, NUN, eUO⟩ := hQUD
 have NUQ : Fr n0 LU8 := by rw [lUE]; exact Fr.app NTY NUN
 clear lUE NUN
 have kUR : own_G p e below E0 TU7 (mkF m 340 zz24 [(.int (-1 : Int32))]) := fun tQ kk => kU6 tQ (stUH.trans kk)
 clear kU6 stUH
 have kUS : own_G p e below E0 TU7 (mkF m 358 zz24 [(.ref a), (.ref a)]) := by
  intro tQ kk
  refine kUR tQ ?_
  refine XS.iload XUB.here hx rfl (hH p49_3_340) rfl ?_
  refine XS.icmpYes XUB.here hx rfl (pc0 := 342) (pc' := 356) rfl (hH p49_3_342) rfl (own_ic_neY (by decide)) (by decide) (by decide) ?_
  refine XS.aloadN XUB.here hx rfl (hH p49_3_356) rfl rfl ?_
  refine XS.dup XUB.here hx rfl (hH p49_3_357) rfl rfl ?_
  exact kk
 clear kUR
 obtain ⟨TUT, XUU, eUV, stUW⟩ := getF XUB hx hZ hown (host := "") (Or.inl (tw247 hw)) Via.refl eUO S7 (g := (mkF m 358 zz24 [(.ref a), (.ref a)])) rfl rfl (hH p49_3_358)
 have kUX : own_G p e below E0 TUT (mkF m 361 zz24 [(.int (1 : Int32)), (.ref a)]) := fun tQ kk => kUS tQ (stUW _ kk)
 clear kUS stUW
 have kUY : own_G p e below E0 TUT (mkF m 363 zz24 [(.int (2 : Int32)), (.ref a)]) := by
  intro tQ kk
  refine kUX tQ ?_
  refine XS.iconst XUU.here hx rfl (hH p49_3_361) ?_
  refine XS.iadd XUU.here hx rfl (hH p49_3_362) rfl ?_
  exact kk
 clear kUX
 obtain ⟨TUZ, hV0, XV1, eV2, WV3, stV4⟩ := putF XUU hx hZ hown (host := "") (Or.inl (tw247 hw)) Via.refl eUV S7 EX (Or.inl (tw248 hw)) (tw8 hw) (ty := .int) (by decide) rfl rfl (g := (mkF m 363 zz24 [(.int (2 : Int32)), (.ref a)])) rfl rfl (hH p49_3_363)
 have NV5 := Fr.snoc XV1 NUQ ge_a
 have kV6 : own_G p e below E0 TUZ (mkF m 366 zz24 []) := fun tQ kk => kUY tQ (stV4 _ kk)
 clear kUY stV4
 replace EX := EX.wr WV3
 replace S0 := S0.other WV3 (Or.inr (sn164 hw))
 replace S1 := S1.other WV3 (Or.inr (sn165 hw))
 replace S2 := S2.other WV3 (Or.inr (sn166 hw))
 replace S3 := S3.other WV3 (Or.inr (sn167 hw))
 replace S4 := S4.other WV3 (Or.inr (sn168 hw))
 replace S5 := S5.other WV3 (Or.inr (sn169 hw))
 replace S6 := S6.other WV3 (Or.inr (sn170 hw))
 replace S7 := S7.same WV3
 replace E1 := E1.wr WV3
 replace L1 := L1.other WV3 (Or.inl (fun q => q_a_al q.symm))
 replace L2 := L2.other WV3 (Or.inl (fun q => q_a_al q.symm))
 replace AE := AE.other WV3 (fun q => q_a_r q.symm)
 replace E3 := E3.wr WV3
 replace L3 := L3.other WV3 (Or.inl (fun q => q_a_fa q.symm))
 replace C1 := C1.wr WV3
 replace A5 := A5.other WV3 (fun q => q_a_is q.symm)
 replace A6 := A6.other WV3 (fun q => q_a_ds q.symm)
 replace FLN := FLN.other WV3 (Ne.symm nL8)
 replace gP5 := gP5.other WV3 (Or.inl (fun q => q_a_xo q.symm))
 replace gP6 := gP6.other WV3 (Or.inl (fun q => q_a_xo q.symm))
 replace gP7 := gP7.other WV3 (Or.inl (fun q => q_a_xo q.symm))
 replace gP8 := gP8.other WV3 (fun q => q_a_ra q.symm)
 replace gP9 := gP9.other WV3 (fun q => q_a_sa q.symm)
 replace FQQ := FQQ.other WV3 (fun q => q_a_ro q.symm)
 replace FS2 := FS2.other WV3 (fun q => q_a_ba q.symm)
 replace FSJ := FSJ.other WV3 (fun q => q_a_pA q.symm)
 replace FU0 := FU0.other WV3 (fun q => q_a_va q.symm)
 replace Z0 := own_wrle WV3 Z0
 replace K0 := K0.wr WV3 (Or.inl (List.mem_of_getElem? (i := 0) rfl))
 have kV7 : own_G p e below E0 TUZ (mkF m 368 zz24 [(.int (1 : Int32))]) := by
  intro tQ kk
  refine kV6 tQ ?_
  refine XS.iload XV1.here hx rfl (hH p49_3_366) rfl ?_
  exact kk
 clear kV6
 obtain ⟨fs, hr, hrun, hended, hW, hsame⟩ := XV1.leave (v := some (.int (1 : Int32))) (fun h => by rw [Bd.returns] at h; cases h)
 have hrun0 := kV7 _ (retOut XV1 hx Bd.returns (t := .int) rfl (Or.inl ⟨rfl, Or.inl rfl, _, rfl⟩) (hH p49_3_368) hr)
 subst hE0
 refine ⟨_, _, hrun0, hrun, hended, _, _, rfl, ?_, ⟨_, rfl⟩, hW, hsame.mono (by decide) (by decide)⟩
 show QrmRs1 Z a is ds al cA ro ba pA fa va r x0 x1 x2 xo ra sa rv bv pv vv la ma b y0 ow W E h0 n0 _ TUZ.heap _
 rw [eV2]
 exact ⟨(Native.java_lang_Math.nans.pick64 true FP.dconst0 vq), rfl, NV5, K0, S0, S1, S2, S3, S4, S5, S6, S7, FQQ, FS2, FSJ, FU0, (own_mz Dv hbE)⟩
def QrmSet (Z : State) (a : Addr) (cA : Addr) (j : Int32) (x : UInt64) (cv : List Value) (h0 : Heap) (n0 : Nat) (vQ : Option Value) (hQ : Heap) (LQ : List Loc) : Prop := vQ = none ∧ Fr n0 LQ ∧ Keep h0 hQ [cA] ∧ (own_A Z hQ cA .double (cv.set j.toNatClampNeg (.double x)))
theorem ef_rmSet (m : MethodId) (a : Addr) (cA : Addr) (j : Int32) (x : UInt64) (cv : List Value) : entryFrame m #[(.ref a), (.int j), (.double x)] 4 = mkF m 0 #[vr a, vi j, vd x, ss] [] := by first | (simp [entryFrame, mkF, argsToLocals, Value.category]; done) | rfl
abbrev mn171 : MethodName := ⟨"com/example/netloom/netloom/embed/Simplex", "setCost", "(ID)V"⟩
theorem p49_4_0 : decode prog_49_method_4_code 0 = .ok (.aload_n 0, 1) := by decide +kernel
theorem p49_4_1 : decode prog_49_method_4_code 1 = .ok (.getfield 16, 3) := by decide +kernel
theorem p49_4_4 : decode prog_49_method_4_code 4 = .ok (.iload_n 1, 1) := by decide +kernel
theorem p49_4_5 : decode prog_49_method_4_code 5 = .ok (.dload_n 2, 1) := by decide +kernel
theorem p49_4_6 : decode prog_49_method_4_code 6 = .ok (.dastore, 1) := by decide +kernel
theorem p49_4_7 : decode prog_49_method_4_code 7 = .ok (.return_, 1) := by decide +kernel
set_option maxRecDepth 65536 in
set_option maxHeartbeats 40000000 in
theorem rmSet (l : Launch) (Z : State) (a0 : Array Value) (hw : ∀ d ∈ tables_1, d.before a0 Z = true) (ws : List Jvm.Cond) (a : Addr) (cA : Addr) (j : Int32) (x : UInt64) (cv : List Value) (h0 : Heap) (n0 : Nat) (Z0 : n0 ≤ h0.size) (F1 : fd42 Z h0 a (.ref cA)) (A1 : own_A Z h0 cA .double cv) (nac : a ≠ cA) (ge_cA : n0 ≤ cA) (hj0 : ¬ j < 0) (h1 : j.toNatClampNeg < cv.length) :
  MetFree l mn171 (head1 (Jvm.Cond.code mn171 prog_49_method_4_code 4 none :: ws) ({ frames := 0, cells := 0, slots := 0, locals := 0 } : Room)) (fun aA U => aA = #[(.ref a), (.int j), (.double x)] ∧ Z.Warmed39 U.vm ∧ U.heap = h0) (fun _ _ _ _ _ => True) (fun _ U o U' => ∃ vR LR, o = .returned vR ∧ QrmSet Z a cA j x cv h0 n0 vR U'.heap LR ∧ FrameEnd U o U' LR ({ frames := 0, cells := 0, slots := 0, locals := 0 } : Room).cells ({ frames := 0, cells := 0, slots := 0, locals := 0 } : Room).slots) := by
 refine MetFree.of_bodySF (plainFor_of_name pn_com_example_netloom_netloom_embed_Simplex) hisR ?_
 intro p e s m args below meth c s₁ Bd hml0 hPre hKk
 obtain ⟨rfl, hZ, hh⟩ := hPre
 have hx := Bd.exec
 have hby := Bd.bytes
 have hH : ∀ {pc r}, decode prog_49_method_4_code pc = r → decode c.code pc = r := fun q => hb hby q
 have hml : c.maxLocals = 4 := hml0
 have hown : s.vm.findClass "com/example/netloom/netloom/embed/Simplex" = some m.cls := findClass_of_methodNamed Bd.named
 have hnm := (name_of_methodNamed Bd.named Bd.method).1
 have X0 : Stand p l e ({ frames := 0, cells := 0, slots := 0, locals := 0 } : Room) s m #[(.ref a), (.int j), (.double x)] below meth c s₁ [] 0 0 := Stand.of_body Bd
 have e0 : s₁.heap = h0 := by rw [← hh, Bd.state]; rfl
 have N0 := Fr.nil n0
 obtain ⟨E0, hE0⟩ : ∃ zE : State, zE = s₁.setTop (entryFrame m #[(.ref a), (.int j), (.double x)] 4) := ⟨_, rfl⟩
 have k0 : own_G p e below E0 s₁ (mkF m 0 #[vr a, vi j, vd x, ss] []) := fun tz kz => hE0 ▸ castTop (ef_rmSet m a cA j x cv) kz
 have K0 : Keep h0 h0 [cA] := Keep.refl _ _
 have kJ0 : own_G p e below E0 s₁ (mkF m 1 #[vr a, vi j, vd x, ss] [(.ref a)]) := by
  intro tQ kk
  refine k0 tQ ?_
  refine XS.aloadN X0.here hx rfl (hH p49_4_0) rfl rfl ?_
  exact kk
 clear k0
 obtain ⟨TJ1, XJ2, eJ3, stJ4⟩ := getF X0 hx hZ hown (host := "") (Or.inl (tw42 hw)) Via.refl e0 F1 (g := (mkF m 1 #[vr a, vi j, vd x, ss] [(.ref a)])) rfl rfl (hH p49_4_1)
 have kJ5 : own_G p e below E0 TJ1 (mkF m 4 #[vr a, vi j, vd x, ss] [(.ref cA)]) := fun tQ kk => kJ0 tQ (stJ4 _ kk)
 clear kJ0 stJ4
 have kJ6 : own_G p e below E0 TJ1 (mkF m 6 #[vr a, vi j, vd x, ss] [(.double x), (.int j), (.ref cA)]) := by
  intro tQ kk
  refine kJ5 tQ ?_
  refine XS.iloadN XJ2.here hx rfl (hH p49_4_4) rfl ?_
  refine XS.dloadN XJ2.here hx rfl (hH p49_4_5) rfl ?_
  exact kk
 clear kJ5
 obtain ⟨TJ7, hJ8, XJ9, eJA, WJB, FJC, stJD⟩ := own_A.dst XJ2 hx hZ eJ3 A1 (j := j) hj0 (List.getElem?_eq_getElem h1) (g := (mkF m 6 #[vr a, vi j, vd x, ss] [(.double x), (.int j), (.ref cA)])) rfl rfl (hH p49_4_6)
 have NJE := Fr.snoc XJ9 N0 ge_cA
 have kJF : own_G p e below E0 TJ7 (mkF m 7 #[vr a, vi j, vd x, ss] []) := fun tQ kk => kJ6 tQ (stJD _ kk)
 clear kJ6 stJD
 replace F1 := F1.other WJB (Or.inl nac)
 replace Z0 := own_wrle WJB Z0
 replace K0 := K0.wr WJB (Or.inl (List.mem_of_getElem? (i := 0) rfl))
 have FJG : own_A Z hJ8 cA .double (cv.set j.toNatClampNeg (.double x)) := FJC
 obtain ⟨fs, hr, hrun, hended, hW, hsame⟩ := XJ9.leave (v := none) (fun _ => rfl)
 have hrun0 := kJF _ (XJ9.returnOut hx Bd.returns (hH p49_4_7) hr)
 subst hE0
 refine ⟨_, _, hrun0, hrun, hended, _, _, rfl, ?_, ⟨_, rfl⟩, hW, hsame.mono (by decide) (by decide)⟩
 show QrmSet Z a cA j x cv h0 n0 _ TJ7.heap _
 rw [eJA]
 exact ⟨rfl, NJE, K0, FJG⟩
def QrmOb0 (Z : State) (a : Addr) (cA : Addr) (ba : Addr) (va : Addr) (cv : List Value) (bv : List Value) (vv : List Value) (h0 : Heap) (n0 : Nat) (vQ : Option Value) (hQ : Heap) (LQ : List Loc) : Prop := ∃ (g : UInt64), vQ = some (.double g) ∧ Fr n0 LQ ∧ hQ = h0 ∧ (own_sm g 0 (0))
theorem ef_rmOb0 (m : MethodId) (a : Addr) (cA : Addr) (ba : Addr) (va : Addr) (cv : List Value) (bv : List Value) (vv : List Value) : entryFrame m #[(.ref a)] 4 = mkF m 0 #[vr a, uu, uu, uu] [] := by first | (simp [entryFrame, mkF, argsToLocals, Value.category]; done) | rfl
abbrev mn172 : MethodName := ⟨"com/example/netloom/netloom/embed/Simplex", "objective", "()D"⟩
theorem p49_8_0 : decode prog_49_method_8_code 0 = .ok (.dconst 0, 1) := by decide +kernel
theorem p49_8_1 : decode prog_49_method_8_code 1 = .ok (.dstore_n 1, 1) := by decide +kernel
theorem p49_8_2 : decode prog_49_method_8_code 2 = .ok (.iconst 0, 1) := by decide +kernel
theorem p49_8_3 : decode prog_49_method_8_code 3 = .ok (.istore_n 3, 1) := by decide +kernel
theorem p49_8_4 : decode prog_49_method_8_code 4 = .ok (.iload_n 3, 1) := by decide +kernel
theorem p49_8_5 : decode prog_49_method_8_code 5 = .ok (.aload_n 0, 1) := by decide +kernel
theorem p49_8_6 : decode prog_49_method_8_code 6 = .ok (.getfield 68, 3) := by decide +kernel
theorem p49_8_9 : decode prog_49_method_8_code 9 = .ok (.if_icmp .ge 30, 3) := by decide +kernel
theorem p49_8_39 : decode prog_49_method_8_code 39 = .ok (.dload_n 1, 1) := by decide +kernel
theorem p49_8_40 : decode prog_49_method_8_code 40 = .ok (.dreturn, 1) := by decide +kernel
set_option maxRecDepth 65536 in
set_option maxHeartbeats 40000000 in
theorem rmOb0 (l : Launch) (Z : State) (a0 : Array Value) (hw : ∀ d ∈ tables_1, d.before a0 Z = true) (ws : List Jvm.Cond) (a : Addr) (cA : Addr) (ba : Addr) (va : Addr) (cv : List Value) (bv : List Value) (vv : List Value) (h0 : Heap) (n0 : Nat) (Z0 : n0 ≤ h0.size) (F0 : fd48 Z h0 a (.int (0 : Int32))) (F1 : fd42 Z h0 a (.ref cA)) (F2 : fd44 Z h0 a (.ref ba)) (F3 : fd47 Z h0 a (.ref va)) (A1 : own_A Z h0 cA .double cv) (A2 : own_A Z h0 ba .int bv) (A3 : own_A Z h0 va .double vv) :
  MetFree l mn172 (head1 (Jvm.Cond.code mn172 prog_49_method_8_code 4 (some .double) :: ws) ({ frames := 0, cells := 0, slots := 0, locals := 0 } : Room)) (fun aA U => aA = #[(.ref a)] ∧ Z.Warmed39 U.vm ∧ U.heap = h0) (fun _ _ _ _ _ => True) (fun _ U o U' => ∃ vR LR, o = .returned vR ∧ QrmOb0 Z a cA ba va cv bv vv h0 n0 vR U'.heap LR ∧ FrameEnd U o U' LR ({ frames := 0, cells := 0, slots := 0, locals := 0 } : Room).cells ({ frames := 0, cells := 0, slots := 0, locals := 0 } : Room).slots) := by
 refine MetFree.of_bodySF (plainFor_of_name pn_com_example_netloom_netloom_embed_Simplex) hisR ?_
 intro p e s m args below meth c s₁ Bd hml0 hPre hKk
 obtain ⟨rfl, hZ, hh⟩ := hPre
 have hx := Bd.exec
 have hby := Bd.bytes
 have hH : ∀ {pc r}, decode prog_49_method_8_code pc = r → decode c.code pc = r := fun q => hb hby q
 have hml : c.maxLocals = 4 := hml0
 have hown : s.vm.findClass "com/example/netloom/netloom/embed/Simplex" = some m.cls := findClass_of_methodNamed Bd.named
 have hnm := (name_of_methodNamed Bd.named Bd.method).1
 have X0 : Stand p l e ({ frames := 0, cells := 0, slots := 0, locals := 0 } : Room) s m #[(.ref a)] below meth c s₁ [] 0 0 := Stand.of_body Bd
 have e0 : s₁.heap = h0 := by rw [← hh, Bd.state]; rfl
 have N0 := Fr.nil n0
 obtain ⟨E0, hE0⟩ : ∃ zE : State, zE = s₁.setTop (entryFrame m #[(.ref a)] 4) := ⟨_, rfl⟩
 have k0 : own_G p e below E0 s₁ (mkF m 0 #[vr a, uu, uu, uu] []) := fun tz kz => hE0 ▸ castTop (ef_rmOb0 m a cA ba va cv bv vv) kz
 have DS0 := own_s0
 have kJ0 : own_G p e below E0 s₁ (mkF m 6 #[vr a, vd FP.dconst0, ss, vi (0 : Int32)] [(.ref a), (.int (0 : Int32))]) := by
  intro tQ kk
  refine k0 tQ ?_
  refine XS.dconst0 X0.here hx rfl (hH p49_8_0) rfl ?_
  refine XS.dstoreN X0.here hx rfl (hH p49_8_1) rfl (l' := #[vr a, vd FP.dconst0, ss, uu]) rfl ?_
  refine XS.iconst X0.here hx rfl (hH p49_8_2) ?_
  refine XS.istoreN X0.here hx rfl (hH p49_8_3) rfl (l' := #[vr a, vd FP.dconst0, ss, vi (0 : Int32)]) rfl ?_
  refine XS.iloadN X0.here hx rfl (hH p49_8_4) rfl ?_
  refine XS.aloadN X0.here hx rfl (hH p49_8_5) rfl rfl ?_
  exact kk
 clear k0
 obtain ⟨TJ1, XJ2, eJ3, stJ4⟩ := getF X0 hx hZ hown (host := "") (Or.inl (tw247 hw)) Via.refl e0 F0 (g := (mkF m 6 #[vr a, vd FP.dconst0, ss, vi (0 : Int32)] [(.ref a), (.int (0 : Int32))])) rfl rfl (hH p49_8_6)
 have kJ5 : own_G p e below E0 TJ1 (mkF m 9 #[vr a, vd FP.dconst0, ss, vi (0 : Int32)] [(.int (0 : Int32)), (.int (0 : Int32))]) := fun tQ kk => kJ0 tQ (stJ4 _ kk)
 clear kJ0 stJ4
 have kJ6 : own_G p e below E0 TJ1 (mkF m 40 #[vr a, vd FP.dconst0, ss, vi (0 : Int32)] [(.double FP.dconst0)]) := by
  intro tQ kk
  refine kJ5 tQ ?_
  refine XS.icmpYes XJ2.here hx rfl (pc0 := 9) (pc' := 39) rfl (hH p49_8_9) rfl (own_ic_geY (by decide)) (by decide) (by decide) ?_
  refine XS.dloadN XJ2.here hx rfl (hH p49_8_39) rfl ?_
  exact kk
 clear kJ5
 obtain ⟨fs, hr, hrun, hended, hW, hsame⟩ := XJ2.leave (v := some (.double FP.dconst0)) (fun h => by rw [Bd.returns] at h; cases h)
 have hrun0 := kJ6 _ (retOut XJ2 hx Bd.returns (t := .double) rfl (Or.inr (Or.inr (Or.inl ⟨rfl, rfl, _, rfl⟩))) (hH p49_8_40) hr)
 subst hE0
 refine ⟨_, _, hrun0, hrun, hended, _, _, rfl, ?_, ⟨_, rfl⟩, hW, hsame.mono (by decide) (by decide)⟩
 show QrmOb0 Z a cA ba va cv bv vv h0 n0 _ TJ1.heap _
 rw [eJ3]
 exact ⟨FP.dconst0, rfl, N0, rfl, DS0⟩
def QrmOb1 (Z : State) (a : Addr) (cA : Addr) (ba : Addr) (va : Addr) (cv : List Value) (bv : List Value) (vv : List Value) (o0 : Int32) (k0 : UInt64) (w0 : UInt64) (c0 : Int) (W0 : Int) (h0 : Heap) (n0 : Nat) (vQ : Option Value) (hQ : Heap) (LQ : List Loc) : Prop := ∃ (g : UInt64), vQ = some (.double g) ∧ Fr n0 LQ ∧ hQ = h0 ∧ (own_sm g 1 (0 + c0 * W0))
theorem ef_rmOb1 (m : MethodId) (a : Addr) (cA : Addr) (ba : Addr) (va : Addr) (cv : List Value) (bv : List Value) (vv : List Value) (o0 : Int32) (k0 : UInt64) (w0 : UInt64) (c0 : Int) (W0 : Int) : entryFrame m #[(.ref a)] 4 = mkF m 0 #[vr a, uu, uu, uu] [] := by first | (simp [entryFrame, mkF, argsToLocals, Value.category]; done) | rfl
theorem p49_8_12 : decode prog_49_method_8_code 12 = .ok (.dload_n 1, 1) := by decide +kernel
theorem p49_8_13 : decode prog_49_method_8_code 13 = .ok (.aload_n 0, 1) := by decide +kernel
theorem p49_8_14 : decode prog_49_method_8_code 14 = .ok (.getfield 16, 3) := by decide +kernel
theorem p49_8_17 : decode prog_49_method_8_code 17 = .ok (.aload_n 0, 1) := by decide +kernel
theorem p49_8_18 : decode prog_49_method_8_code 18 = .ok (.getfield 23, 3) := by decide +kernel
theorem p49_8_21 : decode prog_49_method_8_code 21 = .ok (.iload_n 3, 1) := by decide +kernel
theorem p49_8_22 : decode prog_49_method_8_code 22 = .ok (.iaload, 1) := by decide +kernel
theorem p49_8_23 : decode prog_49_method_8_code 23 = .ok (.daload, 1) := by decide +kernel
theorem p49_8_24 : decode prog_49_method_8_code 24 = .ok (.aload_n 0, 1) := by decide +kernel
theorem p49_8_25 : decode prog_49_method_8_code 25 = .ok (.getfield 37, 3) := by decide +kernel
theorem p49_8_28 : decode prog_49_method_8_code 28 = .ok (.iload_n 3, 1) := by decide +kernel
theorem p49_8_29 : decode prog_49_method_8_code 29 = .ok (.daload, 1) := by decide +kernel
theorem p49_8_30 : decode prog_49_method_8_code 30 = .ok (.dmul, 1) := by decide +kernel
theorem p49_8_31 : decode prog_49_method_8_code 31 = .ok (.dadd, 1) := by decide +kernel
theorem p49_8_32 : decode prog_49_method_8_code 32 = .ok (.dstore_n 1, 1) := by decide +kernel
theorem p49_8_33 : decode prog_49_method_8_code 33 = .ok (.iinc 3 1, 3) := by decide +kernel
theorem p49_8_36 : decode prog_49_method_8_code 36 = .ok (.goto (-32), 3) := by decide +kernel
set_option maxRecDepth 65536 in
set_option maxHeartbeats 40000000 in
theorem rmOb1 (l : Launch) (Z : State) (a0 : Array Value) (hw : ∀ d ∈ tables_1, d.before a0 Z = true) (ws : List Jvm.Cond) (a : Addr) (cA : Addr) (ba : Addr) (va : Addr) (cv : List Value) (bv : List Value) (vv : List Value) (o0 : Int32) (k0 : UInt64) (w0 : UInt64) (c0 : Int) (W0 : Int) (h0 : Heap) (n0 : Nat) (Z0 : n0 ≤ h0.size) (F0 : fd48 Z h0 a (.int (1 : Int32))) (F1 : fd42 Z h0 a (.ref cA)) (F2 : fd44 Z h0 a (.ref ba)) (F3 : fd47 Z h0 a (.ref va)) (A1 : own_A Z h0 cA .double cv) (A2 : own_A Z h0 ba .int bv) (A3 : own_A Z h0 va .double vv) (h0a : bv[((0 : Int32)).toNatClampNeg]? = some (.int o0)) (h0b : ¬ o0 < 0) (h0c : cv[o0.toNatClampNeg]? = some (.double k0)) (h0d : vv[((0 : Int32)).toNatClampNeg]? = some (.double w0)) (h0e : own_cw k0 w0 c0 W0) :
  MetFree l mn172 (head1 (Jvm.Cond.code mn172 prog_49_method_8_code 4 (some .double) :: ws) ({ frames := 0, cells := 0, slots := 0, locals := 0 } : Room)) (fun aA U => aA = #[(.ref a)] ∧ Z.Warmed39 U.vm ∧ U.heap = h0) (fun _ _ _ _ _ => True) (fun _ U o U' => ∃ vR LR, o = .returned vR ∧ QrmOb1 Z a cA ba va cv bv vv o0 k0 w0 c0 W0 h0 n0 vR U'.heap LR ∧ FrameEnd U o U' LR ({ frames := 0, cells := 0, slots := 0, locals := 0 } : Room).cells ({ frames := 0, cells := 0, slots := 0, locals := 0 } : Room).slots) := by
 refine MetFree.of_bodySF (plainFor_of_name pn_com_example_netloom_netloom_embed_Simplex) hisR ?_
 intro p e s m args below meth c s₁ Bd hml0 hPre hKk
 obtain ⟨rfl, hZ, hh⟩ := hPre
 have hx := Bd.exec
 have hby := Bd.bytes
 have hH : ∀ {pc r}, decode prog_49_method_8_code pc = r → decode c.code pc = r := fun q => hb hby q
 have hml : c.maxLocals = 4 := hml0
 have hown : s.vm.findClass "com/example/netloom/netloom/embed/Simplex" = some m.cls := findClass_of_methodNamed Bd.named
 have hnm := (name_of_methodNamed Bd.named Bd.method).1
 have X0 : Stand p l e ({ frames := 0, cells := 0, slots := 0, locals := 0 } : Room) s m #[(.ref a)] below meth c s₁ [] 0 0 := Stand.of_body Bd
 have e0 : s₁.heap = h0 := by rw [← hh, Bd.state]; rfl
 have N0 := Fr.nil n0
 obtain ⟨E0, hE0⟩ : ∃ zE : State, zE = s₁.setTop (entryFrame m #[(.ref a)] 4) := ⟨_, rfl⟩
 have k0 : own_G p e below E0 s₁ (mkF m 0 #[vr a, uu, uu, uu] []) := fun tz kz => hE0 ▸ castTop (ef_rmOb1 m a cA ba va cv bv vv o0 k0 w0 c0 W0) kz
 have DS0 := own_s0
 have kJ0 : own_G p e below E0 s₁ (mkF m 6 #[vr a, vd FP.dconst0, ss, vi (0 : Int32)] [(.ref a), (.int (0 : Int32))]) := by
  intro tQ kk
  refine k0 tQ ?_
  refine XS.dconst0 X0.here hx rfl (hH p49_8_0) rfl ?_
  refine XS.dstoreN X0.here hx rfl (hH p49_8_1) rfl (l' := #[vr a, vd FP.dconst0, ss, uu]) rfl ?_
  refine XS.iconst X0.here hx rfl (hH p49_8_2) ?_
  refine XS.istoreN X0.here hx rfl (hH p49_8_3) rfl (l' := #[vr a, vd FP.dconst0, ss, vi (0 : Int32)]) rfl ?_
  refine XS.iloadN X0.here hx rfl (hH p49_8_4) rfl ?_
  refine XS.aloadN X0.here hx rfl (hH p49_8_5) rfl rfl ?_
  exact kk
 clear k0
 obtain ⟨TJ1, XJ2, eJ3, stJ4⟩ := getF X0 hx hZ hown (host := "") (Or.inl (tw247 hw)) Via.refl e0 F0 (g := (mkF m 6 #[vr a, vd FP.dconst0, ss, vi (0 : Int32)] [(.ref a), (.int (0 : Int32))])) rfl rfl (hH p49_8_6)
 have kJ5 : own_G p e below E0 TJ1 (mkF m 9 #[vr a, vd FP.dconst0, ss, vi (0 : Int32)] [(.int (1 : Int32)), (.int (0 : Int32))]) := fun tQ kk => kJ0 tQ (stJ4 _ kk)
 clear kJ0 stJ4
 have kJ6 : own_G p e below E0 TJ1 (mkF m 14 #[vr a, vd FP.dconst0, ss, vi (0 : Int32)] [(.ref a), (.double FP.dconst0)]) := by
  intro tQ kk
  refine kJ5 tQ ?_
  refine XS.icmpNo XJ2.here hx rfl (hH p49_8_9) rfl (own_ic_geN (by decide)) ?_
  refine XS.dloadN XJ2.here hx rfl (hH p49_8_12) rfl ?_
  refine XS.aloadN XJ2.here hx rfl (hH p49_8_13) rfl rfl ?_
  exact kk
 clear kJ5
 obtain ⟨TJ7, XJ8, eJ9, stJA⟩ := getF XJ2 hx hZ hown (host := "") (Or.inl (tw42 hw)) Via.refl eJ3 F1 (g := (mkF m 14 #[vr a, vd FP.dconst0, ss, vi (0 : Int32)] [(.ref a), (.double FP.dconst0)])) rfl rfl (hH p49_8_14)
 have kJB : own_G p e below E0 TJ7 (mkF m 17 #[vr a, vd FP.dconst0, ss, vi (0 : Int32)] [(.ref cA), (.double FP.dconst0)]) := fun tQ kk => kJ6 tQ (stJA _ kk)
 clear kJ6 stJA
 have kJC : own_G p e below E0 TJ7 (mkF m 18 #[vr a, vd FP.dconst0, ss, vi (0 : Int32)] [(.ref a), (.ref cA), (.double FP.dconst0)]) := by
  intro tQ kk
  refine kJB tQ ?_
  refine XS.aloadN XJ8.here hx rfl (hH p49_8_17) rfl rfl ?_
  exact kk
 clear kJB
 obtain ⟨TJD, XJE, eJF, stJG⟩ := getF XJ8 hx hZ hown (host := "") (Or.inl (tw46 hw)) Via.refl eJ9 F2 (g := (mkF m 18 #[vr a, vd FP.dconst0, ss, vi (0 : Int32)] [(.ref a), (.ref cA), (.double FP.dconst0)])) rfl rfl (hH p49_8_18)
 have kJH : own_G p e below E0 TJD (mkF m 21 #[vr a, vd FP.dconst0, ss, vi (0 : Int32)] [(.ref ba), (.ref cA), (.double FP.dconst0)]) := fun tQ kk => kJC tQ (stJG _ kk)
 clear kJC stJG
 have kJI : own_G p e below E0 TJD (mkF m 22 #[vr a, vd FP.dconst0, ss, vi (0 : Int32)] [(.int (0 : Int32)), (.ref ba), (.ref cA), (.double FP.dconst0)]) := by
  intro tQ kk
  refine kJH tQ ?_
  refine XS.iloadN XJE.here hx rfl (hH p49_8_21) rfl ?_
  exact kk
 clear kJH
 have stJJ := fun tQ => own_A.ild XJE hx hZ eJF A2 (j := (0 : Int32)) (v := (.int o0)) (by decide) h0a (g := (mkF m 22 #[vr a, vd FP.dconst0, ss, vi (0 : Int32)] [(.int (0 : Int32)), (.ref ba), (.ref cA), (.double FP.dconst0)])) rfl rfl (hH p49_8_22) tQ
 have kJK : own_G p e below E0 TJD (mkF m 23 #[vr a, vd FP.dconst0, ss, vi (0 : Int32)] [(.int o0), (.ref cA), (.double FP.dconst0)]) := fun tQ kk => kJI tQ (stJJ _ kk)
 clear kJI stJJ
 have stJL := fun tQ => own_A.dld XJE hx hZ eJF A1 (j := o0) (v := (.double k0)) h0b h0c (g := (mkF m 23 #[vr a, vd FP.dconst0, ss, vi (0 : Int32)] [(.int o0), (.ref cA), (.double FP.dconst0)])) rfl rfl (hH p49_8_23) tQ
 have kJM : own_G p e below E0 TJD (mkF m 24 #[vr a, vd FP.dconst0, ss, vi (0 : Int32)] [(.double k0), (.double FP.dconst0)]) := fun tQ kk => kJK tQ (stJL _ kk)
 clear kJK stJL
 have kJN : own_G p e below E0 TJD (mkF m 25 #[vr a, vd FP.dconst0, ss, vi (0 : Int32)] [(.ref a), (.double k0), (.double FP.dconst0)]) := by
  intro tQ kk
  refine kJM tQ ?_
  refine XS.aloadN XJE.here hx rfl (hH p49_8_24) rfl rfl ?_
  exact kk
 clear kJM
 obtain ⟨TJO, XJP, eJQ, stJR⟩ := getF XJE hx hZ hown (host := "") (Or.inl (tw167 hw)) Via.refl eJF F3 (g := (mkF m 25 #[vr a, vd FP.dconst0, ss, vi (0 : Int32)] [(.ref a), (.double k0), (.double FP.dconst0)])) rfl rfl (hH p49_8_25)
 have kJS : own_G p e below E0 TJO (mkF m 28 #[vr a, vd FP.dconst0, ss, vi (0 : Int32)] [(.ref va), (.double k0), (.double FP.dconst0)]) := fun tQ kk => kJN tQ (stJR _ kk)
 clear kJN stJR
 have kJT : own_G p e below E0 TJO (mkF m 29 #[vr a, vd FP.dconst0, ss, vi (0 : Int32)] [(.int (0 : Int32)), (.ref va), (.double k0), (.double FP.dconst0)]) := by
  intro tQ kk
  refine kJS tQ ?_
  refine XS.iloadN XJP.here hx rfl (hH p49_8_28) rfl ?_
  exact kk
 clear kJS
 have stJU := fun tQ => own_A.dld XJP hx hZ eJQ A3 (j := (0 : Int32)) (v := (.double w0)) (by decide) h0d (g := (mkF m 29 #[vr a, vd FP.dconst0, ss, vi (0 : Int32)] [(.int (0 : Int32)), (.ref va), (.double k0), (.double FP.dconst0)])) rfl rfl (hH p49_8_29) tQ
 have kJV : own_G p e below E0 TJO (mkF m 30 #[vr a, vd FP.dconst0, ss, vi (0 : Int32)] [(.double w0), (.double k0), (.double FP.dconst0)]) := fun tQ kk => kJT tQ (stJU _ kk)
 clear kJT stJU
 have kJW : own_G p e below E0 TJO (mkF m 31 #[vr a, vd FP.dconst0, ss, vi (0 : Int32)] [(.double (FP.dmul k0 w0)), (.double FP.dconst0)]) := by
  intro tQ kk
  refine kJV tQ ?_
  refine XS.dmulS XJP.here hx rfl (hH p49_8_30) rfl (own_cwm h0e).1.noNaN rfl ?_
  exact kk
 clear kJV
 obtain ⟨sm0, hsm0⟩ : ∃ vA, FP.dadd FP.dconst0 (FP.dmul k0 w0) = vA := ⟨_, rfl⟩
 have DS1 : own_sm sm0 1 (0 + c0 * W0) := hsm0 ▸ own_sad DS0 h0e (by decide)
 have kJX : own_G p e below E0 TJO (mkF m 6 #[vr a, vd sm0, ss, vi (1 : Int32)] [(.ref a), (.int (1 : Int32))]) := by
  intro tQ kk
  refine kJW tQ ?_
  refine XS.daddS XJP.here hx rfl (hH p49_8_31) rfl (own_sad DS0 h0e (by decide)).1.noNaN hsm0 ?_
  refine XS.dstoreN XJP.here hx rfl (hH p49_8_32) rfl (l' := #[vr a, vd sm0, ss, vi (0 : Int32)]) rfl ?_
  refine XS.iinc XJP.here hx rfl (hH p49_8_33) rfl (l' := #[vr a, vd sm0, ss, vi (1 : Int32)]) rfl ?_
  refine XS.goto XJP.here hx rfl (pc0 := 36) (pc' := 4) rfl (hH p49_8_36) (by decide) (by decide) ?_
  refine XS.iloadN XJP.here hx rfl (hH p49_8_4) rfl ?_
  refine XS.aloadN XJP.here hx rfl (hH p49_8_5) rfl rfl ?_
  exact kk
 clear kJW
 obtain ⟨TJY, XJZ, eK0, stK1⟩ := getF XJP hx hZ hown (host := "") (Or.inl (tw247 hw)) Via.refl eJQ F0 (g := (mkF m 6 #[vr a, vd sm0, ss, vi (1 : Int32)] [(.ref a), (.int (1 : Int32))])) rfl rfl (hH p49_8_6)
 have kK2 : own_G p e below E0 TJY (mkF m 9 #[vr a, vd sm0, ss, vi (1 : Int32)] [(.int (1 : Int32)), (.int (1 : Int32))]) := fun tQ kk => kJX tQ (stK1 _ kk)
 clear kJX stK1
 have kK3 : own_G p e below E0 TJY (mkF m 40 #[vr a, vd sm0, ss, vi (1 : Int32)] [(.double sm0)]) := by
  intro tQ kk
  refine kK2 tQ ?_
  refine XS.icmpYes XJZ.here hx rfl (pc0 := 9) (pc' := 39) rfl (hH p49_8_9) rfl (own_ic_geY (by decide)) (by decide) (by decide) ?_
  refine XS.dloadN XJZ.here hx rfl (hH p49_8_39) rfl ?_
  exact kk
 clear kK2
 obtain ⟨fs, hr, hrun, hended, hW, hsame⟩ := XJZ.leave (v := some (.double sm0)) (fun h => by rw [Bd.returns] at h; cases h)
 have hrun0 := kK3 _ (retOut XJZ hx Bd.returns (t := .double) rfl (Or.inr (Or.inr (Or.inl ⟨rfl, rfl, _, rfl⟩))) (hH p49_8_40) hr)
 subst hE0
 refine ⟨_, _, hrun0, hrun, hended, _, _, rfl, ?_, ⟨_, rfl⟩, hW, hsame.mono (by decide) (by decide)⟩
 show QrmOb1 Z a cA ba va cv bv vv o0 k0 w0 c0 W0 h0 n0 _ TJY.heap _
 rw [eK0]
 exact ⟨sm0, rfl, N0, rfl, DS1⟩
def QrmOb2 (Z : State) (a : Addr) (cA : Addr) (ba : Addr) (va : Addr) (cv : List Value) (bv : List Value) (vv : List Value) (o0 : Int32) (k0 : UInt64) (w0 : UInt64) (c0 : Int) (W0 : Int) (o1 : Int32) (k1 : UInt64) (w1 : UInt64) (c1 : Int) (W1 : Int) (h0 : Heap) (n0 : Nat) (vQ : Option Value) (hQ : Heap) (LQ : List Loc) : Prop := ∃ (g : UInt64), vQ = some (.double g) ∧ Fr n0 LQ ∧ hQ = h0 ∧ (own_sm g 2 (0 + c0 * W0 + c1 * W1))
theorem ef_rmOb2 (m : MethodId) (a : Addr) (cA : Addr) (ba : Addr) (va : Addr) (cv : List Value) (bv : List Value) (vv : List Value) (o0 : Int32) (k0 : UInt64) (w0 : UInt64) (c0 : Int) (W0 : Int) (o1 : Int32) (k1 : UInt64) (w1 : UInt64) (c1 : Int) (W1 : Int) : entryFrame m #[(.ref a)] 4 = mkF m 0 #[vr a, uu, uu, uu] [] := by first | (simp [entryFrame, mkF, argsToLocals, Value.category]; done) | rfl
set_option maxRecDepth 65536 in
set_option maxHeartbeats 40000000 in
theorem rmOb2 (l : Launch) (Z : State) (a0 : Array Value) (hw : ∀ d ∈ tables_1, d.before a0 Z = true) (ws : List Jvm.Cond) (a : Addr) (cA : Addr) (ba : Addr) (va : Addr) (cv : List Value) (bv : List Value) (vv : List Value) (o0 : Int32) (k0 : UInt64) (w0 : UInt64) (c0 : Int) (W0 : Int) (o1 : Int32) (k1 : UInt64) (w1 : UInt64) (c1 : Int) (W1 : Int) (h0 : Heap) (n0 : Nat) (Z0 : n0 ≤ h0.size) (F0 : fd48 Z h0 a (.int (2 : Int32))) (F1 : fd42 Z h0 a (.ref cA)) (F2 : fd44 Z h0 a (.ref ba)) (F3 : fd47 Z h0 a (.ref va)) (A1 : own_A Z h0 cA .double cv) (A2 : own_A Z h0 ba .int bv) (A3 : own_A Z h0 va .double vv) (h0a : bv[((0 : Int32)).toNatClampNeg]? = some (.int o0)) (h0b : ¬ o0 < 0) (h0c : cv[o0.toNatClampNeg]? = some (.double k0)) (h0d : vv[((0 : Int32)).toNatClampNeg]? = some (.double w0)) (h0e : own_cw k0 w0 c0 W0) (h1a : bv[((1 : Int32)).toNatClampNeg]? = some (.int o1)) (h1b : ¬ o1 < 0) (h1c : cv[o1.toNatClampNeg]? = some (.double k1)) (h1d : vv[((1 : Int32)).toNatClampNeg]? = some (.double w1)) (h1e : own_cw k1 w1 c1 W1) :
  MetFree l mn172 (head1 (Jvm.Cond.code mn172 prog_49_method_8_code 4 (some .double) :: ws) ({ frames := 0, cells := 0, slots := 0, locals := 0 } : Room)) (fun aA U => aA = #[(.ref a)] ∧ Z.Warmed39 U.vm ∧ U.heap = h0) (fun _ _ _ _ _ => True) (fun _ U o U' => ∃ vR LR, o = .returned vR ∧ QrmOb2 Z a cA ba va cv bv vv o0 k0 w0 c0 W0 o1 k1 w1 c1 W1 h0 n0 vR U'.heap LR ∧ FrameEnd U o U' LR ({ frames := 0, cells := 0, slots := 0, locals := 0 } : Room).cells ({ frames := 0, cells := 0, slots := 0, locals := 0 } : Room).slots) := by
 refine MetFree.of_bodySF (plainFor_of_name pn_com_example_netloom_netloom_embed_Simplex) hisR ?_
 intro p e s m args below meth c s₁ Bd hml0 hPre hKk
 obtain ⟨rfl, hZ, hh⟩ := hPre
 have hx := Bd.exec
 have hby := Bd.bytes
 have hH : ∀ {pc r}, decode prog_49_method_8_code pc = r → decode c.code pc = r := fun q => hb hby q
 have hml : c.maxLocals = 4 := hml0
 have hown : s.vm.findClass "com/example/netloom/netloom/embed/Simplex" = some m.cls := findClass_of_methodNamed Bd.named
 have hnm := (name_of_methodNamed Bd.named Bd.method).1
 have X0 : Stand p l e ({ frames := 0, cells := 0, slots := 0, locals := 0 } : Room) s m #[(.ref a)] below meth c s₁ [] 0 0 := Stand.of_body Bd
 have e0 : s₁.heap = h0 := by rw [← hh, Bd.state]; rfl
 have N0 := Fr.nil n0
 obtain ⟨E0, hE0⟩ : ∃ zE : State, zE = s₁.setTop (entryFrame m #[(.ref a)] 4) := ⟨_, rfl⟩
 have k0 : own_G p e below E0 s₁ (mkF m 0 #[vr a, uu, uu, uu] []) := fun tz kz => hE0 ▸ castTop (ef_rmOb2 m a cA ba va cv bv vv o0 k0 w0 c0 W0 o1 k1 w1 c1 W1) kz
 have DS0 := own_s0
 have kJ0 : own_G p e below E0 s₁ (mkF m 6 #[vr a, vd FP.dconst0, ss, vi (0 : Int32)] [(.ref a), (.int (0 : Int32))]) := by
  intro tQ kk
  refine k0 tQ ?_
  refine XS.dconst0 X0.here hx rfl (hH p49_8_0) rfl ?_
  refine XS.dstoreN X0.here hx rfl (hH p49_8_1) rfl (l' := #[vr a, vd FP.dconst0, ss, uu]) rfl ?_
  refine XS.iconst X0.here hx rfl (hH p49_8_2) ?_
  refine XS.istoreN X0.here hx rfl (hH p49_8_3) rfl (l' := #[vr a, vd FP.dconst0, ss, vi (0 : Int32)]) rfl ?_
  refine XS.iloadN X0.here hx rfl (hH p49_8_4) rfl ?_
  refine XS.aloadN X0.here hx rfl (hH p49_8_5) rfl rfl ?_
  exact kk
 clear k0
 obtain ⟨TJ1, XJ2, eJ3, stJ4⟩ := getF X0 hx hZ hown (host := "") (Or.inl (tw247 hw)) Via.refl e0 F0 (g := (mkF m 6 #[vr a, vd FP.dconst0, ss, vi (0 : Int32)] [(.ref a), (.int (0 : Int32))])) rfl rfl (hH p49_8_6)
 have kJ5 : own_G p e below E0 TJ1 (mkF m 9 #[vr a, vd FP.dconst0, ss, vi (0 : Int32)] [(.int (2 : Int32)), (.int (0 : Int32))]) := fun tQ kk => kJ0 tQ (stJ4 _ kk)
 clear kJ0 stJ4
 have kJ6 : own_G p e below E0 TJ1 (mkF m 14 #[vr a, vd FP.dconst0, ss, vi (0 : Int32)] [(.ref a), (.double FP.dconst0)]) := by
  intro tQ kk
  refine kJ5 tQ ?_
  refine XS.icmpNo XJ2.here hx rfl (hH p49_8_9) rfl (own_ic_geN (by decide)) ?_
  refine XS.dloadN XJ2.here hx rfl (hH p49_8_12) rfl ?_
  refine XS.aloadN XJ2.here hx rfl (hH p49_8_13) rfl rfl ?_
  exact kk
 clear kJ5
 obtain ⟨TJ7, XJ8, eJ9, stJA⟩ := getF XJ2 hx hZ hown (host := "") (Or.inl (tw42 hw)) Via.refl eJ3 F1 (g := (mkF m 14 #[vr a, vd FP.dconst0, ss, vi (0 : Int32)] [(.ref a), (.double FP.dconst0)])) rfl rfl (hH p49_8_14)
 have kJB : own_G p e below E0 TJ7 (mkF m 17 #[vr a, vd FP.dconst0, ss, vi (0 : Int32)] [(.ref cA), (.double FP.dconst0)]) := fun tQ kk => kJ6 tQ (stJA _ kk)
 clear kJ6 stJA
 have kJC : own_G p e below E0 TJ7 (mkF m 18 #[vr a, vd FP.dconst0, ss, vi (0 : Int32)] [(.ref a), (.ref cA), (.double FP.dconst0)]) := by
  intro tQ kk
  refine kJB tQ ?_
  refine XS.aloadN XJ8.here hx rfl (hH p49_8_17) rfl rfl ?_
  exact kk
 clear kJB
 obtain ⟨TJD, XJE, eJF, stJG⟩ := getF XJ8 hx hZ hown (host := "") (Or.inl (tw46 hw)) Via.refl eJ9 F2 (g := (mkF m 18 #[vr a, vd FP.dconst0, ss, vi (0 : Int32)] [(.ref a), (.ref cA), (.double FP.dconst0)])) rfl rfl (hH p49_8_18)
 have kJH : own_G p e below E0 TJD (mkF m 21 #[vr a, vd FP.dconst0, ss, vi (0 : Int32)] [(.ref ba), (.ref cA), (.double FP.dconst0)]) := fun tQ kk => kJC tQ (stJG _ kk)
 clear kJC stJG
 have kJI : own_G p e below E0 TJD (mkF m 22 #[vr a, vd FP.dconst0, ss, vi (0 : Int32)] [(.int (0 : Int32)), (.ref ba), (.ref cA), (.double FP.dconst0)]) := by
  intro tQ kk
  refine kJH tQ ?_
  refine XS.iloadN XJE.here hx rfl (hH p49_8_21) rfl ?_
  exact kk
 clear kJH
 have stJJ := fun tQ => own_A.ild XJE hx hZ eJF A2 (j := (0 : Int32)) (v := (.int o0)) (by decide) h0a (g := (mkF m 22 #[vr a, vd FP.dconst0, ss, vi (0 : Int32)] [(.int (0 : Int32)), (.ref ba), (.ref cA), (.double FP.dconst0)])) rfl rfl (hH p49_8_22) tQ
 have kJK : own_G p e below E0 TJD (mkF m 23 #[vr a, vd FP.dconst0, ss, vi (0 : Int32)] [(.int o0), (.ref cA), (.double FP.dconst0)]) := fun tQ kk => kJI tQ (stJJ _ kk)
 clear kJI stJJ
 have stJL := fun tQ => own_A.dld XJE hx hZ eJF A1 (j := o0) (v := (.double k0)) h0b h0c (g := (mkF m 23 #[vr a, vd FP.dconst0, ss, vi (0 : Int32)] [(.int o0), (.ref cA), (.double FP.dconst0)])) rfl rfl (hH p49_8_23) tQ
 have kJM : own_G p e below E0 TJD (mkF m 24 #[vr a, vd FP.dconst0, ss, vi (0 : Int32)] [(.double k0), (.double FP.dconst0)]) := fun tQ kk => kJK tQ (stJL _ kk)
 clear kJK stJL
 have kJN : own_G p e below E0 TJD (mkF m 25 #[vr a, vd FP.dconst0, ss, vi (0 : Int32)] [(.ref a), (.double k0), (.double FP.dconst0)]) := by
  intro tQ kk
  refine kJM tQ ?_
  refine XS.aloadN XJE.here hx rfl (hH p49_8_24) rfl rfl ?_
  exact kk
 clear kJM
 obtain ⟨TJO, XJP, eJQ, stJR⟩ := getF XJE hx hZ hown (host := "") (Or.inl (tw167 hw)) Via.refl eJF F3 (g := (mkF m 25 #[vr a, vd FP.dconst0, ss, vi (0 : Int32)] [(.ref a), (.double k0), (.double FP.dconst0)])) rfl rfl (hH p49_8_25)
 have kJS : own_G p e below E0 TJO (mkF m 28 #[vr a, vd FP.dconst0, ss, vi (0 : Int32)] [(.ref va), (.double k0), (.double FP.dconst0)]) := fun tQ kk => kJN tQ (stJR _ kk)
 clear kJN stJR
 have kJT : own_G p e below E0 TJO (mkF m 29 #[vr a, vd FP.dconst0, ss, vi (0 : Int32)] [(.int (0 : Int32)), (.ref va), (.double k0), (.double FP.dconst0)]) := by
  intro tQ kk
  refine kJS tQ ?_
  refine XS.iloadN XJP.here hx rfl (hH p49_8_28) rfl ?_
  exact kk
 clear kJS
 have stJU := fun tQ => own_A.dld XJP hx hZ eJQ A3 (j := (0 : Int32)) (v := (.double w0)) (by decide) h0d (g := (mkF m 29 #[vr a, vd FP.dconst0, ss, vi (0 : Int32)] [(.int (0 : Int32)), (.ref va), (.double k0), (.double FP.dconst0)])) rfl rfl (hH p49_8_29) tQ
 have kJV : own_G p e below E0 TJO (mkF m 30 #[vr a, vd FP.dconst0, ss, vi (0 : Int32)] [(.double w0), (.double k0), (.double FP.dconst0)]) := fun tQ kk => kJT tQ (stJU _ kk)
 clear kJT stJU
 have kJW : own_G p e below E0 TJO (mkF m 31 #[vr a, vd FP.dconst0, ss, vi (0 : Int32)] [(.double (FP.dmul k0 w0)), (.double FP.dconst0)]) := by
  intro tQ kk
  refine kJV tQ ?_
  refine XS.dmulS XJP.here hx rfl (hH p49_8_30) rfl (own_cwm h0e).1.noNaN rfl ?_
  exact kk
 clear kJV
 obtain ⟨sm0, hsm0⟩ : ∃ vA, FP.dadd FP.dconst0 (FP.dmul k0 w0) = vA := ⟨_, rfl⟩
 have DS1 : own_sm sm0 1 (0 + c0 * W0) := hsm0 ▸ own_sad DS0 h0e (by decide)
 have kJX : own_G p e below E0 TJO (mkF m 6 #[vr a, vd sm0, ss, vi (1 : Int32)] [(.ref a), (.int (1 : Int32))]) := by
  intro tQ kk
  refine kJW tQ ?_
  refine XS.daddS XJP.here hx rfl (hH p49_8_31) rfl (own_sad DS0 h0e (by decide)).1.noNaN hsm0 ?_
  refine XS.dstoreN XJP.here hx rfl (hH p49_8_32) rfl (l' := #[vr a, vd sm0, ss, vi (0 : Int32)]) rfl ?_
  refine XS.iinc XJP.here hx rfl (hH p49_8_33) rfl (l' := #[vr a, vd sm0, ss, vi (1 : Int32)]) rfl ?_
  refine XS.goto XJP.here hx rfl (pc0 := 36) (pc' := 4) rfl (hH p49_8_36) (by decide) (by decide) ?_
  refine XS.iloadN XJP.here hx rfl (hH p49_8_4) rfl ?_
  refine XS.aloadN XJP.here hx rfl (hH p49_8_5) rfl rfl ?_
  exact kk
 clear kJW
 obtain ⟨TJY, XJZ, eK0, stK1⟩ := getF XJP hx hZ hown (host := "") (Or.inl (tw247 hw)) Via.refl eJQ F0 (g := (mkF m 6 #[vr a, vd sm0, ss, vi (1 : Int32)] [(.ref a), (.int (1 : Int32))])) rfl rfl (hH p49_8_6)
 have kK2 : own_G p e below E0 TJY (mkF m 9 #[vr a, vd sm0, ss, vi (1 : Int32)] [(.int (2 : Int32)), (.int (1 : Int32))]) := fun tQ kk => kJX tQ (stK1 _ kk)
 clear kJX stK1
 have kK3 : own_G p e below E0 TJY (mkF m 14 #[vr a, vd sm0, ss, vi (1 : Int32)] [(.ref a), (.double sm0)]) := by
  intro tQ kk
  refine kK2 tQ ?_
  refine XS.icmpNo XJZ.here hx rfl (hH p49_8_9) rfl (own_ic_geN (by decide)) ?_
  refine XS.dloadN XJZ.here hx rfl (hH p49_8_12) rfl ?_
  refine XS.aloadN XJZ.here hx rfl (hH p49_8_13) rfl rfl ?_
  exact kk
 clear kK2
 obtain ⟨TK4, XK5, eK6, stK7⟩ := getF XJZ hx hZ hown (host := "") (Or.inl (tw42 hw)) Via.refl eK0 F1 (g := (mkF m 14 #[vr a, vd sm0, ss, vi (1 : Int32)] [(.ref a), (.double sm0)])) rfl rfl (hH p49_8_14)
 have kK8 : own_G p e below E0 TK4 (mkF m 17 #[vr a, vd sm0, ss, vi (1 : Int32)] [(.ref cA), (.double sm0)]) := fun tQ kk => kK3 tQ (stK7 _ kk)
 clear kK3 stK7
 have kK9 : own_G p e below E0 TK4 (mkF m 18 #[vr a, vd sm0, ss, vi (1 : Int32)] [(.ref a), (.ref cA), (.double sm0)]) := by
  intro tQ kk
  refine kK8 tQ ?_
  refine XS.aloadN XK5.here hx rfl (hH p49_8_17) rfl rfl ?_
  exact kk
 clear kK8
 obtain ⟨TKA, XKB, eKC, stKD⟩ := getF XK5 hx hZ hown (host := "") (Or.inl (tw46 hw)) Via.refl eK6 F2 (g := (mkF m 18 #[vr a, vd sm0, ss, vi (1 : Int32)] [(.ref a), (.ref cA), (.double sm0)])) rfl rfl (hH p49_8_18)
 have kKE : own_G p e below E0 TKA (mkF m 21 #[vr a, vd sm0, ss, vi (1 : Int32)] [(.ref ba), (.ref cA), (.double sm0)]) := fun tQ kk => kK9 tQ (stKD _ kk)
 clear kK9 stKD
 have kKF : own_G p e below E0 TKA (mkF m 22 #[vr a, vd sm0, ss, vi (1 : Int32)] [(.int (1 : Int32)), (.ref ba), (.ref cA), (.double sm0)]) := by
  intro tQ kk
  refine kKE tQ ?_
  refine XS.iloadN XKB.here hx rfl (hH p49_8_21) rfl ?_
  exact kk
 clear kKE
 have stKG := fun tQ => own_A.ild XKB hx hZ eKC A2 (j := (1 : Int32)) (v := (.int o1)) (by decide) h1a (g := (mkF m 22 #[vr a, vd sm0, ss, vi (1 : Int32)] [(.int (1 : Int32)), (.ref ba), (.ref cA), (.double sm0)])) rfl rfl (hH p49_8_22) tQ
 have kKH : own_G p e below E0 TKA (mkF m 23 #[vr a, vd sm0, ss, vi (1 : Int32)] [(.int o1), (.ref cA), (.double sm0)]) := fun tQ kk => kKF tQ (stKG _ kk)
 clear kKF stKG
 have stKI := fun tQ => own_A.dld XKB hx hZ eKC A1 (j := o1) (v := (.double k1)) h1b h1c (g := (mkF m 23 #[vr a, vd sm0, ss, vi (1 : Int32)] [(.int o1), (.ref cA), (.double sm0)])) rfl rfl (hH p49_8_23) tQ
 have kKJ : own_G p e below E0 TKA (mkF m 24 #[vr a, vd sm0, ss, vi (1 : Int32)] [(.double k1), (.double sm0)]) := fun tQ kk => kKH tQ (stKI _ kk)
 clear kKH stKI
 have kKK : own_G p e below E0 TKA (mkF m 25 #[vr a, vd sm0, ss, vi (1 : Int32)] [(.ref a), (.double k1), (.double sm0)]) := by
  intro tQ kk
  refine kKJ tQ ?_
  refine XS.aloadN XKB.here hx rfl (hH p49_8_24) rfl rfl ?_
  exact kk
 clear kKJ
 obtain ⟨TKL, XKM, eKN, stKO⟩ := getF XKB hx hZ hown (host := "") (Or.inl (tw167 hw)) Via.refl eKC F3 (g := (mkF m 25 #[vr a, vd sm0, ss, vi (1 : Int32)] [(.ref a), (.double k1), (.double sm0)])) rfl rfl (hH p49_8_25)
 have kKP : own_G p e below E0 TKL (mkF m 28 #[vr a, vd sm0, ss, vi (1 : Int32)] [(.ref va), (.double k1), (.double sm0)]) := fun tQ kk => kKK tQ (stKO _ kk)
 clear kKK stKO
 have kKQ : own_G p e below E0 TKL (mkF m 29 #[vr a, vd sm0, ss, vi (1 : Int32)] [(.int (1 : Int32)), (.ref va), (.double k1), (.double sm0)]) := by
  intro tQ kk
  refine kKP tQ ?_
  refine XS.iloadN XKM.here hx rfl (hH p49_8_28) rfl ?_
  exact kk
 clear kKP
 have stKR := fun tQ => own_A.dld XKM hx hZ eKN A3 (j := (1 : Int32)) (v := (.double w1)) (by decide) h1d (g := (mkF m 29 #[vr a, vd sm0, ss, vi (1 : Int32)] [(.int (1 : Int32)), (.ref va), (.double k1), (.double sm0)])) rfl rfl (hH p49_8_29) tQ
 have kKS : own_G p e below E0 TKL (mkF m 30 #[vr a, vd sm0, ss, vi (1 : Int32)] [(.double w1), (.double k1), (.double sm0)]) := fun tQ kk => kKQ tQ (stKR _ kk)
 clear kKQ stKR
 have kKT : own_G p e below E0 TKL (mkF m 31 #[vr a, vd sm0, ss, vi (1 : Int32)] [(.double (FP.dmul k1 w1)), (.double sm0)]) := by
  intro tQ kk
  refine kKS tQ ?_
  refine XS.dmulS XKM.here hx rfl (hH p49_8_30) rfl (own_cwm h1e).1.noNaN rfl ?_
  exact kk
 clear kKS
 obtain ⟨sm1, hsm1⟩ : ∃ vA, FP.dadd sm0 (FP.dmul k1 w1) = vA := ⟨_, rfl⟩
 have DS2 : own_sm sm1 2 (0 + c0 * W0 + c1 * W1) := hsm1 ▸ own_sad DS1 h1e (by decide)
 have kKU : own_G p e below E0 TKL (mkF m 6 #[vr a, vd sm1, ss, vi (2 : Int32)] [(.ref a), (.int (2 : Int32))]) := by
  intro tQ kk
  refine kKT tQ ?_
  refine XS.daddS XKM.here hx rfl (hH p49_8_31) rfl (own_sad DS1 h1e (by decide)).1.noNaN hsm1 ?_
  refine XS.dstoreN XKM.here hx rfl (hH p49_8_32) rfl (l' := #[vr a, vd sm1, ss, vi (1 : Int32)]) rfl ?_
  refine XS.iinc XKM.here hx rfl (hH p49_8_33) rfl (l' := #[vr a, vd sm1, ss, vi (2 : Int32)]) rfl ?_
  refine XS.goto XKM.here hx rfl (pc0 := 36) (pc' := 4) rfl (hH p49_8_36) (by decide) (by decide) ?_
  refine XS.iloadN XKM.here hx rfl (hH p49_8_4) rfl ?_
  refine XS.aloadN XKM.here hx rfl (hH p49_8_5) rfl rfl ?_
  exact kk
 clear kKT
 obtain ⟨TKV, XKW, eKX, stKY⟩ := getF XKM hx hZ hown (host := "") (Or.inl (tw247 hw)) Via.refl eKN F0 (g := (mkF m 6 #[vr a, vd sm1, ss, vi (2 : Int32)] [(.ref a), (.int (2 : Int32))])) rfl rfl (hH p49_8_6)
 have kKZ : own_G p e below E0 TKV (mkF m 9 #[vr a, vd sm1, ss, vi (2 : Int32)] [(.int (2 : Int32)), (.int (2 : Int32))]) := fun tQ kk => kKU tQ (stKY _ kk)
 clear kKU stKY
 have kL0 : own_G p e below E0 TKV (mkF m 40 #[vr a, vd sm1, ss, vi (2 : Int32)] [(.double sm1)]) := by
  intro tQ kk
  refine kKZ tQ ?_
  refine XS.icmpYes XKW.here hx rfl (pc0 := 9) (pc' := 39) rfl (hH p49_8_9) rfl (own_ic_geY (by decide)) (by decide) (by decide) ?_
  refine XS.dloadN XKW.here hx rfl (hH p49_8_39) rfl ?_
  exact kk
 clear kKZ
 obtain ⟨fs, hr, hrun, hended, hW, hsame⟩ := XKW.leave (v := some (.double sm1)) (fun h => by rw [Bd.returns] at h; cases h)
 have hrun0 := kL0 _ (retOut XKW hx Bd.returns (t := .double) rfl (Or.inr (Or.inr (Or.inl ⟨rfl, rfl, _, rfl⟩))) (hH p49_8_40) hr)
 subst hE0
 refine ⟨_, _, hrun0, hrun, hended, _, _, rfl, ?_, ⟨_, rfl⟩, hW, hsame.mono (by decide) (by decide)⟩
 show QrmOb2 Z a cA ba va cv bv vv o0 k0 w0 c0 W0 o1 k1 w1 c1 W1 h0 n0 _ TKV.heap _
 rw [eKX]
 exact ⟨sm1, rfl, N0, rfl, DS2⟩
def QrmEnt (Z : State) (i : Int32) (h0 : Heap) (n0 : Nat) (vQ : Option Value) (hQ : Heap) (LQ : List Loc) : Prop := vQ = some (.double (own_entry i)) ∧ Fr n0 LQ ∧ hQ = h0
theorem ef_rmEnt (m : MethodId) (i : Int32) : entryFrame m #[(.int i)] 1 = mkF m 0 #[vi i] [] := by first | (simp [entryFrame, mkF, argsToLocals, Value.category]; done) | rfl
abbrev mn173 : MethodName := ⟨"com/example/netloom/netloom/embed/SimplexObjectivePinLaw", "entry", "(I)D"⟩
theorem pn_com_example_netloom_netloom_embed_SimplexObjectivePinLaw : plainName "com/example/netloom/netloom/embed/SimplexObjectivePinLaw" = true := by first | (simp [plainName, overriddenIn]; done) | decide +kernel
theorem d_method_2_code_0 : decode method_2_code 0 = .ok (.iload_n 0, 1) := by decide +kernel
theorem d_method_2_code_1 : decode method_2_code 1 = .ok (.ifCond .ne 5, 3) := by decide +kernel
theorem d_method_2_code_4 : decode method_2_code 4 = .ok (.dconst 1, 1) := by decide +kernel
theorem d_method_2_code_5 : decode method_2_code 5 = .ok (.dreturn, 1) := by decide +kernel
theorem d_method_2_code_6 : decode method_2_code 6 = .ok (.iload_n 0, 1) := by decide +kernel
theorem d_method_2_code_7 : decode method_2_code 7 = .ok (.iconst 1, 1) := by decide +kernel
theorem d_method_2_code_8 : decode method_2_code 8 = .ok (.if_icmp .ne 7, 3) := by decide +kernel
theorem d_method_2_code_11 : decode method_2_code 11 = .ok (.ldc2_w 7, 3) := by decide +kernel
def tw250 {Z a0} (hw : HW Z a0) := hw _ (List.mem_of_getElem? (i := 250) rfl)
theorem d_method_2_code_14 : decode method_2_code 14 = .ok (.dreturn, 1) := by decide +kernel
theorem d_method_2_code_15 : decode method_2_code 15 = .ok (.iload_n 0, 1) := by decide +kernel
theorem d_method_2_code_16 : decode method_2_code 16 = .ok (.iconst 2, 1) := by decide +kernel
theorem d_method_2_code_17 : decode method_2_code 17 = .ok (.if_icmp .ne 7, 3) := by decide +kernel
theorem d_method_2_code_20 : decode method_2_code 20 = .ok (.ldc2_w 9, 3) := by decide +kernel
def tw309 {Z a0} (hw : HW Z a0) := hw _ (List.mem_of_getElem? (i := 309) rfl)
theorem d_method_2_code_23 : decode method_2_code 23 = .ok (.dreturn, 1) := by decide +kernel
theorem d_method_2_code_24 : decode method_2_code 24 = .ok (.ldc2_w 11, 3) := by decide +kernel
def tw310 {Z a0} (hw : HW Z a0) := hw _ (List.mem_of_getElem? (i := 310) rfl)
theorem d_method_2_code_27 : decode method_2_code 27 = .ok (.dreturn, 1) := by decide +kernel
set_option maxRecDepth 65536 in
set_option maxHeartbeats 40000000 in
theorem rmEnt (l : Launch) (Z : State) (a0 : Array Value) (hw : ∀ d ∈ tables_1, d.before a0 Z = true) (ws : List Jvm.Cond) (i : Int32) (h0 : Heap) (n0 : Nat) (Z0 : n0 ≤ h0.size)  :
  MetFree l mn173 (head1 (Jvm.Cond.code mn173 method_2_code 1 (some .double) :: ws) ({ frames := 0, cells := 0, slots := 0, locals := 0 } : Room)) (fun aA U => aA = #[(.int i)] ∧ Z.Warmed39 U.vm ∧ U.heap = h0) (fun _ _ _ _ _ => True) (fun _ U o U' => ∃ vR LR, o = .returned vR ∧ QrmEnt Z i h0 n0 vR U'.heap LR ∧ FrameEnd U o U' LR ({ frames := 0, cells := 0, slots := 0, locals := 0 } : Room).cells ({ frames := 0, cells := 0, slots := 0, locals := 0 } : Room).slots) := by
 refine MetFree.of_bodySF (plainFor_of_name pn_com_example_netloom_netloom_embed_SimplexObjectivePinLaw) hisR ?_
 intro p e s m args below meth c s₁ Bd hml0 hPre hKk
 obtain ⟨rfl, hZ, hh⟩ := hPre
 have hx := Bd.exec
 have hby := Bd.bytes
 have hH : ∀ {pc r}, decode method_2_code pc = r → decode c.code pc = r := fun q => hb hby q
 have hml : c.maxLocals = 1 := hml0
 have hown : s.vm.findClass "com/example/netloom/netloom/embed/SimplexObjectivePinLaw" = some m.cls := findClass_of_methodNamed Bd.named
 have hnm := (name_of_methodNamed Bd.named Bd.method).1
 have X0 : Stand p l e ({ frames := 0, cells := 0, slots := 0, locals := 0 } : Room) s m #[(.int i)] below meth c s₁ [] 0 0 := Stand.of_body Bd
 have e0 : s₁.heap = h0 := by rw [← hh, Bd.state]; rfl
 have N0 := Fr.nil n0
 obtain ⟨E0, hE0⟩ : ∃ zE : State, zE = s₁.setTop (entryFrame m #[(.int i)] 1) := ⟨_, rfl⟩
 have k0 : own_G p e below E0 s₁ (mkF m 0 #[vi i] []) := fun tz kz => hE0 ▸ castTop (ef_rmEnt m i) kz
 have kJ0 : own_G p e below E0 s₁ (mkF m 1 #[vi i] [(.int i)]) := by
  intro tQ kk
  refine k0 tQ ?_
  refine XS.iloadN X0.here hx rfl (hH d_method_2_code_0) rfl ?_
  exact kk
 clear k0
 by_cases cJ1 : i = 0
 ·skip
  have kJ2 : own_G p e below E0 s₁ (mkF m 5 #[vi i] [(.double FP.dconst1)]) := by
   intro tQ kk
   refine kJ0 tQ ?_
   refine XS.ifNo X0.here hx rfl (hH d_method_2_code_1) rfl (own_if_neN cJ1) ?_
   refine XS.dconst1 X0.here hx rfl (hH d_method_2_code_4) rfl ?_
   exact kk
  clear kJ0
  obtain ⟨fs, hr, hrun, hended, hW, hsame⟩ := X0.leave (v := some (.double FP.dconst1)) (fun h => by rw [Bd.returns] at h; cases h)
  have hrun0 := kJ2 _ (retOut X0 hx Bd.returns (t := .double) rfl (Or.inr (Or.inr (Or.inl ⟨rfl, rfl, _, rfl⟩))) (hH d_method_2_code_5) hr)
  subst hE0
  refine ⟨_, _, hrun0, hrun, hended, _, _, rfl, ?_, ⟨_, rfl⟩, hW, hsame.mono (by decide) (by decide)⟩
  show QrmEnt Z i h0 n0 _ s₁.heap _
  rw [e0]
  exact ⟨(congrArg (fun z => some (Value.double z)) (own_entry0 cJ1)), N0, rfl⟩
 ·skip
  have kJ3 : own_G p e below E0 s₁ (mkF m 8 #[vi i] [(.int (1 : Int32)), (.int i)]) := by
   intro tQ kk
   refine kJ0 tQ ?_
   refine XS.ifYes X0.here hx rfl (pc0 := 1) (pc' := 6) rfl (hH d_method_2_code_1) rfl (own_if_neY cJ1) (by decide) (by decide) ?_
   refine XS.iloadN X0.here hx rfl (hH d_method_2_code_6) rfl ?_
   refine XS.iconst X0.here hx rfl (hH d_method_2_code_7) ?_
   exact kk
  clear kJ0
  by_cases cJ4 : i = (1 : Int32)
  ·skip
   have kJ5 : own_G p e below E0 s₁ (mkF m 11 #[vi i] []) := by
    intro tQ kk
    refine kJ3 tQ ?_
    refine XS.icmpNo X0.here hx rfl (hH d_method_2_code_8) rfl (own_ic_neN cJ4) ?_
    exact kk
   clear kJ3
   have stJ6 := X0.ldc2DoubleC hx hown (mvT hZ (tw250 hw)) (g := (mkF m 11 #[vi i] [])) rfl (hH d_method_2_code_11)
   have kJ7 : own_G p e below E0 s₁ (mkF m 14 #[vi i] [(.double (4611686018427387904 : UInt64))]) := fun tQ kk => kJ5 tQ (stJ6 _ kk)
   clear kJ5 stJ6
   obtain ⟨fs, hr, hrun, hended, hW, hsame⟩ := X0.leave (v := some (.double (4611686018427387904 : UInt64))) (fun h => by rw [Bd.returns] at h; cases h)
   have hrun0 := kJ7 _ (retOut X0 hx Bd.returns (t := .double) rfl (Or.inr (Or.inr (Or.inl ⟨rfl, rfl, _, rfl⟩))) (hH d_method_2_code_14) hr)
   subst hE0
   refine ⟨_, _, hrun0, hrun, hended, _, _, rfl, ?_, ⟨_, rfl⟩, hW, hsame.mono (by decide) (by decide)⟩
   show QrmEnt Z i h0 n0 _ s₁.heap _
   rw [e0]
   exact ⟨(congrArg (fun z => some (Value.double z)) (own_entry1 cJ1 cJ4)), N0, rfl⟩
  ·skip
   have kJ8 : own_G p e below E0 s₁ (mkF m 17 #[vi i] [(.int (2 : Int32)), (.int i)]) := by
    intro tQ kk
    refine kJ3 tQ ?_
    refine XS.icmpYes X0.here hx rfl (pc0 := 8) (pc' := 15) rfl (hH d_method_2_code_8) rfl (own_ic_neY cJ4) (by decide) (by decide) ?_
    refine XS.iloadN X0.here hx rfl (hH d_method_2_code_15) rfl ?_
    refine XS.iconst X0.here hx rfl (hH d_method_2_code_16) ?_
    exact kk
   clear kJ3
   by_cases cJ9 : i = (2 : Int32)
   ·skip
    have kJA : own_G p e below E0 s₁ (mkF m 20 #[vi i] []) := by
     intro tQ kk
     refine kJ8 tQ ?_
     refine XS.icmpNo X0.here hx rfl (hH d_method_2_code_17) rfl (own_ic_neN cJ9) ?_
     exact kk
    clear kJ8
    have stJB := X0.ldc2DoubleC hx hown (mvT hZ (tw309 hw)) (g := (mkF m 20 #[vi i] [])) rfl (hH d_method_2_code_20)
    have kJC : own_G p e below E0 s₁ (mkF m 23 #[vi i] [(.double (13830554455654793216 : UInt64))]) := fun tQ kk => kJA tQ (stJB _ kk)
    clear kJA stJB
    obtain ⟨fs, hr, hrun, hended, hW, hsame⟩ := X0.leave (v := some (.double (13830554455654793216 : UInt64))) (fun h => by rw [Bd.returns] at h; cases h)
    have hrun0 := kJC _ (retOut X0 hx Bd.returns (t := .double) rfl (Or.inr (Or.inr (Or.inl ⟨rfl, rfl, _, rfl⟩))) (hH d_method_2_code_23) hr)
    subst hE0
    refine ⟨_, _, hrun0, hrun, hended, _, _, rfl, ?_, ⟨_, rfl⟩, hW, hsame.mono (by decide) (by decide)⟩
    show QrmEnt Z i h0 n0 _ s₁.heap _
    rw [e0]
    exact ⟨(congrArg (fun z => some (Value.double z)) (own_entry2 cJ1 cJ4 cJ9)), N0, rfl⟩
   ·skip
    have kJD : own_G p e below E0 s₁ (mkF m 24 #[vi i] []) := by
     intro tQ kk
     refine kJ8 tQ ?_
     refine XS.icmpYes X0.here hx rfl (pc0 := 17) (pc' := 24) rfl (hH d_method_2_code_17) rfl (own_ic_neY cJ9) (by decide) (by decide) ?_
     exact kk
    clear kJ8
    have stJE := X0.ldc2DoubleC hx hown (mvT hZ (tw310 hw)) (g := (mkF m 24 #[vi i] [])) rfl (hH d_method_2_code_24)
    have kJF : own_G p e below E0 s₁ (mkF m 27 #[vi i] [(.double (13839561654909534208 : UInt64))]) := fun tQ kk => kJD tQ (stJE _ kk)
    clear kJD stJE
    obtain ⟨fs, hr, hrun, hended, hW, hsame⟩ := X0.leave (v := some (.double (13839561654909534208 : UInt64))) (fun h => by rw [Bd.returns] at h; cases h)
    have hrun0 := kJF _ (retOut X0 hx Bd.returns (t := .double) rfl (Or.inr (Or.inr (Or.inl ⟨rfl, rfl, _, rfl⟩))) (hH d_method_2_code_27) hr)
    subst hE0
    refine ⟨_, _, hrun0, hrun, hended, _, _, rfl, ?_, ⟨_, rfl⟩, hW, hsame.mono (by decide) (by decide)⟩
    show QrmEnt Z i h0 n0 _ s₁.heap _
    rw [e0]
    exact ⟨(congrArg (fun z => some (Value.double z)) (own_entry3 cJ1 cJ4 cJ9)), N0, rfl⟩
def QrmQua (Z : State) (i : Int32) (h0 : Heap) (n0 : Nat) (vQ : Option Value) (hQ : Heap) (LQ : List Loc) : Prop := vQ = some (.long (own_quarter i)) ∧ Fr n0 LQ ∧ hQ = h0
theorem ef_rmQua (m : MethodId) (i : Int32) : entryFrame m #[(.int i)] 1 = mkF m 0 #[vi i] [] := by first | (simp [entryFrame, mkF, argsToLocals, Value.category]; done) | rfl
abbrev mn174 : MethodName := ⟨"com/example/netloom/netloom/embed/SimplexObjectivePinLaw", "quarter", "(I)J"⟩
theorem d_method_3_code_0 : decode method_3_code 0 = .ok (.iload_n 0, 1) := by decide +kernel
theorem d_method_3_code_1 : decode method_3_code 1 = .ok (.ifCond .ne 7, 3) := by decide +kernel
theorem d_method_3_code_4 : decode method_3_code 4 = .ok (.ldc2_w 13, 3) := by decide +kernel
def tw308 {Z a0} (hw : HW Z a0) := hw _ (List.mem_of_getElem? (i := 308) rfl)
theorem d_method_3_code_7 : decode method_3_code 7 = .ok (.lreturn, 1) := by decide +kernel
theorem d_method_3_code_8 : decode method_3_code 8 = .ok (.iload_n 0, 1) := by decide +kernel
theorem d_method_3_code_9 : decode method_3_code 9 = .ok (.iconst 1, 1) := by decide +kernel
theorem d_method_3_code_10 : decode method_3_code 10 = .ok (.if_icmp .ne 7, 3) := by decide +kernel
theorem d_method_3_code_13 : decode method_3_code 13 = .ok (.ldc2_w 15, 3) := by decide +kernel
def tw311 {Z a0} (hw : HW Z a0) := hw _ (List.mem_of_getElem? (i := 311) rfl)
theorem d_method_3_code_16 : decode method_3_code 16 = .ok (.lreturn, 1) := by decide +kernel
theorem d_method_3_code_17 : decode method_3_code 17 = .ok (.iload_n 0, 1) := by decide +kernel
theorem d_method_3_code_18 : decode method_3_code 18 = .ok (.iconst 2, 1) := by decide +kernel
theorem d_method_3_code_19 : decode method_3_code 19 = .ok (.if_icmp .ne 7, 3) := by decide +kernel
theorem d_method_3_code_22 : decode method_3_code 22 = .ok (.ldc2_w 13, 3) := by decide +kernel
theorem d_method_3_code_25 : decode method_3_code 25 = .ok (.lreturn, 1) := by decide +kernel
theorem d_method_3_code_26 : decode method_3_code 26 = .ok (.lconst 1, 1) := by decide +kernel
theorem d_method_3_code_27 : decode method_3_code 27 = .ok (.lreturn, 1) := by decide +kernel
set_option maxRecDepth 65536 in
set_option maxHeartbeats 40000000 in
theorem rmQua (l : Launch) (Z : State) (a0 : Array Value) (hw : ∀ d ∈ tables_1, d.before a0 Z = true) (ws : List Jvm.Cond) (i : Int32) (h0 : Heap) (n0 : Nat) (Z0 : n0 ≤ h0.size)  :
  MetFree l mn174 (head1 (Jvm.Cond.code mn174 method_3_code 1 (some .long) :: ws) ({ frames := 0, cells := 0, slots := 0, locals := 0 } : Room)) (fun aA U => aA = #[(.int i)] ∧ Z.Warmed39 U.vm ∧ U.heap = h0) (fun _ _ _ _ _ => True) (fun _ U o U' => ∃ vR LR, o = .returned vR ∧ QrmQua Z i h0 n0 vR U'.heap LR ∧ FrameEnd U o U' LR ({ frames := 0, cells := 0, slots := 0, locals := 0 } : Room).cells ({ frames := 0, cells := 0, slots := 0, locals := 0 } : Room).slots) := by
 refine MetFree.of_bodySF (plainFor_of_name pn_com_example_netloom_netloom_embed_SimplexObjectivePinLaw) hisR ?_
 intro p e s m args below meth c s₁ Bd hml0 hPre hKk
 obtain ⟨rfl, hZ, hh⟩ := hPre
 have hx := Bd.exec
 have hby := Bd.bytes
 have hH : ∀ {pc r}, decode method_3_code pc = r → decode c.code pc = r := fun q => hb hby q
 have hml : c.maxLocals = 1 := hml0
 have hown : s.vm.findClass "com/example/netloom/netloom/embed/SimplexObjectivePinLaw" = some m.cls := findClass_of_methodNamed Bd.named
 have hnm := (name_of_methodNamed Bd.named Bd.method).1
 have X0 : Stand p l e ({ frames := 0, cells := 0, slots := 0, locals := 0 } : Room) s m #[(.int i)] below meth c s₁ [] 0 0 := Stand.of_body Bd
 have e0 : s₁.heap = h0 := by rw [← hh, Bd.state]; rfl
 have N0 := Fr.nil n0
 obtain ⟨E0, hE0⟩ : ∃ zE : State, zE = s₁.setTop (entryFrame m #[(.int i)] 1) := ⟨_, rfl⟩
 have k0 : own_G p e below E0 s₁ (mkF m 0 #[vi i] []) := fun tz kz => hE0 ▸ castTop (ef_rmQua m i) kz
 have kJ0 : own_G p e below E0 s₁ (mkF m 1 #[vi i] [(.int i)]) := by
  intro tQ kk
  refine k0 tQ ?_
  refine XS.iloadN X0.here hx rfl (hH d_method_3_code_0) rfl ?_
  exact kk
 clear k0
 by_cases cJ1 : i = 0
 ·skip
  have kJ2 : own_G p e below E0 s₁ (mkF m 4 #[vi i] []) := by
   intro tQ kk
   refine kJ0 tQ ?_
   refine XS.ifNo X0.here hx rfl (hH d_method_3_code_1) rfl (own_if_neN cJ1) ?_
   exact kk
  clear kJ0
  have stJ3 := X0.ldc2Long hx hown (mvT hZ (tw308 hw)) (g := (mkF m 4 #[vi i] [])) rfl (hH d_method_3_code_4)
  have kJ4 : own_G p e below E0 s₁ (mkF m 7 #[vi i] [(.long (4 : Int64))]) := fun tQ kk => kJ2 tQ (stJ3 _ kk)
  clear kJ2 stJ3
  obtain ⟨fs, hr, hrun, hended, hW, hsame⟩ := X0.leave (v := some (.long (4 : Int64))) (fun h => by rw [Bd.returns] at h; cases h)
  have hrun0 := kJ4 _ (retOut X0 hx Bd.returns (t := .long) rfl (Or.inr (Or.inl ⟨rfl, rfl, _, rfl⟩)) (hH d_method_3_code_7) hr)
  subst hE0
  refine ⟨_, _, hrun0, hrun, hended, _, _, rfl, ?_, ⟨_, rfl⟩, hW, hsame.mono (by decide) (by decide)⟩
  show QrmQua Z i h0 n0 _ s₁.heap _
  rw [e0]
  exact ⟨(congrArg (fun z => some (Value.long z)) (own_quarter0 cJ1)), N0, rfl⟩
 ·skip
  have kJ5 : own_G p e below E0 s₁ (mkF m 10 #[vi i] [(.int (1 : Int32)), (.int i)]) := by
   intro tQ kk
   refine kJ0 tQ ?_
   refine XS.ifYes X0.here hx rfl (pc0 := 1) (pc' := 8) rfl (hH d_method_3_code_1) rfl (own_if_neY cJ1) (by decide) (by decide) ?_
   refine XS.iloadN X0.here hx rfl (hH d_method_3_code_8) rfl ?_
   refine XS.iconst X0.here hx rfl (hH d_method_3_code_9) ?_
   exact kk
  clear kJ0
  by_cases cJ6 : i = (1 : Int32)
  ·skip
   have kJ7 : own_G p e below E0 s₁ (mkF m 13 #[vi i] []) := by
    intro tQ kk
    refine kJ5 tQ ?_
    refine XS.icmpNo X0.here hx rfl (hH d_method_3_code_10) rfl (own_ic_neN cJ6) ?_
    exact kk
   clear kJ5
   have stJ8 := X0.ldc2Long hx hown (mvT hZ (tw311 hw)) (g := (mkF m 13 #[vi i] [])) rfl (hH d_method_3_code_13)
   have kJ9 : own_G p e below E0 s₁ (mkF m 16 #[vi i] [(.long (2 : Int64))]) := fun tQ kk => kJ7 tQ (stJ8 _ kk)
   clear kJ7 stJ8
   obtain ⟨fs, hr, hrun, hended, hW, hsame⟩ := X0.leave (v := some (.long (2 : Int64))) (fun h => by rw [Bd.returns] at h; cases h)
   have hrun0 := kJ9 _ (retOut X0 hx Bd.returns (t := .long) rfl (Or.inr (Or.inl ⟨rfl, rfl, _, rfl⟩)) (hH d_method_3_code_16) hr)
   subst hE0
   refine ⟨_, _, hrun0, hrun, hended, _, _, rfl, ?_, ⟨_, rfl⟩, hW, hsame.mono (by decide) (by decide)⟩
   show QrmQua Z i h0 n0 _ s₁.heap _
   rw [e0]
   exact ⟨(congrArg (fun z => some (Value.long z)) (own_quarter1 cJ1 cJ6)), N0, rfl⟩
  ·skip
   have kJA : own_G p e below E0 s₁ (mkF m 19 #[vi i] [(.int (2 : Int32)), (.int i)]) := by
    intro tQ kk
    refine kJ5 tQ ?_
    refine XS.icmpYes X0.here hx rfl (pc0 := 10) (pc' := 17) rfl (hH d_method_3_code_10) rfl (own_ic_neY cJ6) (by decide) (by decide) ?_
    refine XS.iloadN X0.here hx rfl (hH d_method_3_code_17) rfl ?_
    refine XS.iconst X0.here hx rfl (hH d_method_3_code_18) ?_
    exact kk
   clear kJ5
   by_cases cJB : i = (2 : Int32)
   ·skip
    have kJC : own_G p e below E0 s₁ (mkF m 22 #[vi i] []) := by
     intro tQ kk
     refine kJA tQ ?_
     refine XS.icmpNo X0.here hx rfl (hH d_method_3_code_19) rfl (own_ic_neN cJB) ?_
     exact kk
    clear kJA
    have stJD := X0.ldc2Long hx hown (mvT hZ (tw308 hw)) (g := (mkF m 22 #[vi i] [])) rfl (hH d_method_3_code_22)
    have kJE : own_G p e below E0 s₁ (mkF m 25 #[vi i] [(.long (4 : Int64))]) := fun tQ kk => kJC tQ (stJD _ kk)
    clear kJC stJD
    obtain ⟨fs, hr, hrun, hended, hW, hsame⟩ := X0.leave (v := some (.long (4 : Int64))) (fun h => by rw [Bd.returns] at h; cases h)
    have hrun0 := kJE _ (retOut X0 hx Bd.returns (t := .long) rfl (Or.inr (Or.inl ⟨rfl, rfl, _, rfl⟩)) (hH d_method_3_code_25) hr)
    subst hE0
    refine ⟨_, _, hrun0, hrun, hended, _, _, rfl, ?_, ⟨_, rfl⟩, hW, hsame.mono (by decide) (by decide)⟩
    show QrmQua Z i h0 n0 _ s₁.heap _
    rw [e0]
    exact ⟨(congrArg (fun z => some (Value.long z)) (own_quarter2 cJ1 cJ6 cJB)), N0, rfl⟩
   ·skip
    have kJF : own_G p e below E0 s₁ (mkF m 27 #[vi i] [(.long (1 : Int64))]) := by
     intro tQ kk
     refine kJA tQ ?_
     refine XS.icmpYes X0.here hx rfl (pc0 := 19) (pc' := 26) rfl (hH d_method_3_code_19) rfl (own_ic_neY cJB) (by decide) (by decide) ?_
     refine XT.lconst X0.here hx rfl (hH d_method_3_code_26) ?_
     exact kk
    clear kJA
    obtain ⟨fs, hr, hrun, hended, hW, hsame⟩ := X0.leave (v := some (.long (1 : Int64))) (fun h => by rw [Bd.returns] at h; cases h)
    have hrun0 := kJF _ (retOut X0 hx Bd.returns (t := .long) rfl (Or.inr (Or.inl ⟨rfl, rfl, _, rfl⟩)) (hH d_method_3_code_27) hr)
    subst hE0
    refine ⟨_, _, hrun0, hrun, hended, _, _, rfl, ?_, ⟨_, rfl⟩, hW, hsame.mono (by decide) (by decide)⟩
    show QrmQua Z i h0 n0 _ s₁.heap _
    rw [e0]
    exact ⟨(congrArg (fun z => some (Value.long z)) (own_quarter3 cJ1 cJ6 cJB)), N0, rfl⟩
def QrmEff (Z : State) (i : Int32) (t : Int32) (nn : Int32) (c0 : Int32) (c1 : Int32) (c2 : Int32) (h0 : Heap) (n0 : Nat) (vQ : Option Value) (hQ : Heap) (LQ : List Loc) : Prop := vQ = some (.long ((own_effi i t nn c0 c1 c2).toInt64)) ∧ Fr n0 LQ ∧ hQ = h0
theorem ef_rmEff (m : MethodId) (i : Int32) (t : Int32) (nn : Int32) (c0 : Int32) (c1 : Int32) (c2 : Int32) : entryFrame m #[(.int i), (.int t), (.int nn), (.int c0), (.int c1), (.int c2)] 6 = mkF m 0 #[vi i, vi t, vi nn, vi c0, vi c1, vi c2] [] := by first | (simp [entryFrame, mkF, argsToLocals, Value.category]; done) | rfl
abbrev mn175 : MethodName := ⟨"com/example/netloom/netloom/embed/SimplexObjectivePinLaw", "eff", "(IIIIII)J"⟩
theorem d_method_4_code_0 : decode method_4_code 0 = .ok (.iload_n 0, 1) := by decide +kernel
theorem d_method_4_code_1 : decode method_4_code 1 = .ok (.iload_n 1, 1) := by decide +kernel
theorem d_method_4_code_2 : decode method_4_code 2 = .ok (.if_icmp .ne 6, 3) := by decide +kernel
theorem d_method_4_code_5 : decode method_4_code 5 = .ok (.iload_n 2, 1) := by decide +kernel
theorem d_method_4_code_6 : decode method_4_code 6 = .ok (.i2l, 1) := by decide +kernel
theorem d_method_4_code_7 : decode method_4_code 7 = .ok (.lreturn, 1) := by decide +kernel
theorem d_method_4_code_8 : decode method_4_code 8 = .ok (.iload_n 0, 1) := by decide +kernel
theorem d_method_4_code_9 : decode method_4_code 9 = .ok (.ifCond .ne 6, 3) := by decide +kernel
theorem d_method_4_code_12 : decode method_4_code 12 = .ok (.iload_n 3, 1) := by decide +kernel
theorem d_method_4_code_13 : decode method_4_code 13 = .ok (.i2l, 1) := by decide +kernel
theorem d_method_4_code_14 : decode method_4_code 14 = .ok (.lreturn, 1) := by decide +kernel
theorem d_method_4_code_15 : decode method_4_code 15 = .ok (.iload_n 0, 1) := by decide +kernel
theorem d_method_4_code_16 : decode method_4_code 16 = .ok (.iconst 1, 1) := by decide +kernel
theorem d_method_4_code_17 : decode method_4_code 17 = .ok (.if_icmp .ne 7, 3) := by decide +kernel
theorem d_method_4_code_20 : decode method_4_code 20 = .ok (.iload 4, 2) := by decide +kernel
theorem d_method_4_code_22 : decode method_4_code 22 = .ok (.i2l, 1) := by decide +kernel
theorem d_method_4_code_23 : decode method_4_code 23 = .ok (.lreturn, 1) := by decide +kernel
theorem d_method_4_code_24 : decode method_4_code 24 = .ok (.iload 5, 2) := by decide +kernel
theorem d_method_4_code_26 : decode method_4_code 26 = .ok (.i2l, 1) := by decide +kernel
theorem d_method_4_code_27 : decode method_4_code 27 = .ok (.lreturn, 1) := by decide +kernel
set_option maxRecDepth 65536 in
set_option maxHeartbeats 40000000 in
theorem rmEff (l : Launch) (Z : State) (a0 : Array Value) (hw : ∀ d ∈ tables_1, d.before a0 Z = true) (ws : List Jvm.Cond) (i : Int32) (t : Int32) (nn : Int32) (c0 : Int32) (c1 : Int32) (c2 : Int32) (h0 : Heap) (n0 : Nat) (Z0 : n0 ≤ h0.size)  :
  MetFree l mn175 (head1 (Jvm.Cond.code mn175 method_4_code 6 (some .long) :: ws) ({ frames := 0, cells := 0, slots := 0, locals := 0 } : Room)) (fun aA U => aA = #[(.int i), (.int t), (.int nn), (.int c0), (.int c1), (.int c2)] ∧ Z.Warmed39 U.vm ∧ U.heap = h0) (fun _ _ _ _ _ => True) (fun _ U o U' => ∃ vR LR, o = .returned vR ∧ QrmEff Z i t nn c0 c1 c2 h0 n0 vR U'.heap LR ∧ FrameEnd U o U' LR ({ frames := 0, cells := 0, slots := 0, locals := 0 } : Room).cells ({ frames := 0, cells := 0, slots := 0, locals := 0 } : Room).slots) := by
 refine MetFree.of_bodySF (plainFor_of_name pn_com_example_netloom_netloom_embed_SimplexObjectivePinLaw) hisR ?_
 intro p e s m args below meth c s₁ Bd hml0 hPre hKk
 obtain ⟨rfl, hZ, hh⟩ := hPre
 have hx := Bd.exec
 have hby := Bd.bytes
 have hH : ∀ {pc r}, decode method_4_code pc = r → decode c.code pc = r := fun q => hb hby q
 have hml : c.maxLocals = 6 := hml0
 have hown : s.vm.findClass "com/example/netloom/netloom/embed/SimplexObjectivePinLaw" = some m.cls := findClass_of_methodNamed Bd.named
 have hnm := (name_of_methodNamed Bd.named Bd.method).1
 have X0 : Stand p l e ({ frames := 0, cells := 0, slots := 0, locals := 0 } : Room) s m #[(.int i), (.int t), (.int nn), (.int c0), (.int c1), (.int c2)] below meth c s₁ [] 0 0 := Stand.of_body Bd
 have e0 : s₁.heap = h0 := by rw [← hh, Bd.state]; rfl
 have N0 := Fr.nil n0
 obtain ⟨E0, hE0⟩ : ∃ zE : State, zE = s₁.setTop (entryFrame m #[(.int i), (.int t), (.int nn), (.int c0), (.int c1), (.int c2)] 6) := ⟨_, rfl⟩
 have k0 : own_G p e below E0 s₁ (mkF m 0 #[vi i, vi t, vi nn, vi c0, vi c1, vi c2] []) := fun tz kz => hE0 ▸ castTop (ef_rmEff m i t nn c0 c1 c2) kz
 have kJ0 : own_G p e below E0 s₁ (mkF m 2 #[vi i, vi t, vi nn, vi c0, vi c1, vi c2] [(.int t), (.int i)]) := by
  intro tQ kk
  refine k0 tQ ?_
  refine XS.iloadN X0.here hx rfl (hH d_method_4_code_0) rfl ?_
  refine XS.iloadN X0.here hx rfl (hH d_method_4_code_1) rfl ?_
  exact kk
 clear k0
 by_cases cJ1 : i = t
 ·skip
  have kJ2 : own_G p e below E0 s₁ (mkF m 7 #[vi i, vi t, vi nn, vi c0, vi c1, vi c2] [(.long (nn.toInt64))]) := by
   intro tQ kk
   refine kJ0 tQ ?_
   refine XS.icmpNo X0.here hx rfl (hH d_method_4_code_2) rfl (own_ic_neN cJ1) ?_
   refine XS.iloadN X0.here hx rfl (hH d_method_4_code_5) rfl ?_
   refine XT.i2l X0.here hx rfl (hH d_method_4_code_6) rfl ?_
   exact kk
  clear kJ0
  obtain ⟨fs, hr, hrun, hended, hW, hsame⟩ := X0.leave (v := some (.long (nn.toInt64))) (fun h => by rw [Bd.returns] at h; cases h)
  have hrun0 := kJ2 _ (retOut X0 hx Bd.returns (t := .long) rfl (Or.inr (Or.inl ⟨rfl, rfl, _, rfl⟩)) (hH d_method_4_code_7) hr)
  subst hE0
  refine ⟨_, _, hrun0, hrun, hended, _, _, rfl, ?_, ⟨_, rfl⟩, hW, hsame.mono (by decide) (by decide)⟩
  show QrmEff Z i t nn c0 c1 c2 h0 n0 _ s₁.heap _
  rw [e0]
  exact ⟨(congrArg (fun z => some (Value.long z.toInt64)) (own_effi0 cJ1)), N0, rfl⟩
 ·skip
  have kJ3 : own_G p e below E0 s₁ (mkF m 9 #[vi i, vi t, vi nn, vi c0, vi c1, vi c2] [(.int i)]) := by
   intro tQ kk
   refine kJ0 tQ ?_
   refine XS.icmpYes X0.here hx rfl (pc0 := 2) (pc' := 8) rfl (hH d_method_4_code_2) rfl (own_ic_neY cJ1) (by decide) (by decide) ?_
   refine XS.iloadN X0.here hx rfl (hH d_method_4_code_8) rfl ?_
   exact kk
  clear kJ0
  by_cases cJ4 : i = 0
  ·skip
   have kJ5 : own_G p e below E0 s₁ (mkF m 14 #[vi i, vi t, vi nn, vi c0, vi c1, vi c2] [(.long (c0.toInt64))]) := by
    intro tQ kk
    refine kJ3 tQ ?_
    refine XS.ifNo X0.here hx rfl (hH d_method_4_code_9) rfl (own_if_neN cJ4) ?_
    refine XS.iloadN X0.here hx rfl (hH d_method_4_code_12) rfl ?_
    refine XT.i2l X0.here hx rfl (hH d_method_4_code_13) rfl ?_
    exact kk
   clear kJ3
   obtain ⟨fs, hr, hrun, hended, hW, hsame⟩ := X0.leave (v := some (.long (c0.toInt64))) (fun h => by rw [Bd.returns] at h; cases h)
   have hrun0 := kJ5 _ (retOut X0 hx Bd.returns (t := .long) rfl (Or.inr (Or.inl ⟨rfl, rfl, _, rfl⟩)) (hH d_method_4_code_14) hr)
   subst hE0
   refine ⟨_, _, hrun0, hrun, hended, _, _, rfl, ?_, ⟨_, rfl⟩, hW, hsame.mono (by decide) (by decide)⟩
   show QrmEff Z i t nn c0 c1 c2 h0 n0 _ s₁.heap _
   rw [e0]
   exact ⟨(congrArg (fun z => some (Value.long z.toInt64)) (own_effi1 cJ1 cJ4)), N0, rfl⟩
  ·skip
   have kJ6 : own_G p e below E0 s₁ (mkF m 17 #[vi i, vi t, vi nn, vi c0, vi c1, vi c2] [(.int (1 : Int32)), (.int i)]) := by
    intro tQ kk
    refine kJ3 tQ ?_
    refine XS.ifYes X0.here hx rfl (pc0 := 9) (pc' := 15) rfl (hH d_method_4_code_9) rfl (own_if_neY cJ4) (by decide) (by decide) ?_
    refine XS.iloadN X0.here hx rfl (hH d_method_4_code_15) rfl ?_
    refine XS.iconst X0.here hx rfl (hH d_method_4_code_16) ?_
    exact kk
   clear kJ3
   by_cases cJ7 : i = (1 : Int32)
   ·skip
    have kJ8 : own_G p e below E0 s₁ (mkF m 23 #[vi i, vi t, vi nn, vi c0, vi c1, vi c2] [(.long (c1.toInt64))]) := by
     intro tQ kk
     refine kJ6 tQ ?_
     refine XS.icmpNo X0.here hx rfl (hH d_method_4_code_17) rfl (own_ic_neN cJ7) ?_
     refine XS.iload X0.here hx rfl (hH d_method_4_code_20) rfl ?_
     refine XT.i2l X0.here hx rfl (hH d_method_4_code_22) rfl ?_
     exact kk
    clear kJ6
    obtain ⟨fs, hr, hrun, hended, hW, hsame⟩ := X0.leave (v := some (.long (c1.toInt64))) (fun h => by rw [Bd.returns] at h; cases h)
    have hrun0 := kJ8 _ (retOut X0 hx Bd.returns (t := .long) rfl (Or.inr (Or.inl ⟨rfl, rfl, _, rfl⟩)) (hH d_method_4_code_23) hr)
    subst hE0
    refine ⟨_, _, hrun0, hrun, hended, _, _, rfl, ?_, ⟨_, rfl⟩, hW, hsame.mono (by decide) (by decide)⟩
    show QrmEff Z i t nn c0 c1 c2 h0 n0 _ s₁.heap _
    rw [e0]
    exact ⟨(congrArg (fun z => some (Value.long z.toInt64)) (own_effi2 cJ1 cJ4 cJ7)), N0, rfl⟩
   ·skip
    have kJ9 : own_G p e below E0 s₁ (mkF m 27 #[vi i, vi t, vi nn, vi c0, vi c1, vi c2] [(.long (c2.toInt64))]) := by
     intro tQ kk
     refine kJ6 tQ ?_
     refine XS.icmpYes X0.here hx rfl (pc0 := 17) (pc' := 24) rfl (hH d_method_4_code_17) rfl (own_ic_neY cJ7) (by decide) (by decide) ?_
     refine XS.iload X0.here hx rfl (hH d_method_4_code_24) rfl ?_
     refine XT.i2l X0.here hx rfl (hH d_method_4_code_26) rfl ?_
     exact kk
    clear kJ6
    obtain ⟨fs, hr, hrun, hended, hW, hsame⟩ := X0.leave (v := some (.long (c2.toInt64))) (fun h => by rw [Bd.returns] at h; cases h)
    have hrun0 := kJ9 _ (retOut X0 hx Bd.returns (t := .long) rfl (Or.inr (Or.inl ⟨rfl, rfl, _, rfl⟩)) (hH d_method_4_code_27) hr)
    subst hE0
    refine ⟨_, _, hrun0, hrun, hended, _, _, rfl, ?_, ⟨_, rfl⟩, hW, hsame.mono (by decide) (by decide)⟩
    show QrmEff Z i t nn c0 c1 c2 h0 n0 _ s₁.heap _
    rw [e0]
    exact ⟨(congrArg (fun z => some (Value.long z.toInt64)) (own_effi3 cJ1 cJ4 cJ7)), N0, rfl⟩
def Qrm0 (Z : State) (p0 : Int32) (p1 : Int32) (p2 : Int32) (p3 : Int64) (p4 : Int32) (dE : Addr) (h0 : Heap) (n0 : Nat) (vQ : Option Value) (hQ : Heap) (LQ : List Loc) : Prop := vQ = some (.int (1 : Int32)) ∧ Fr n0 LQ
theorem ef_rm0 (m : MethodId) (p0 : Int32) (p1 : Int32) (p2 : Int32) (p3 : Int64) (p4 : Int32) (dE : Addr) : entryFrame m #[(.int p0), (.int p1), (.int p2), (.long p3), (.int p4)] maxLocals = mkF m 0 #[vi p0, vi p1, vi p2, vj p3, ss, vi p4, uu, uu, uu, uu, uu, uu, uu, uu, uu, uu, uu, uu, uu, uu, uu, uu, uu, uu, uu, uu, uu, uu, uu, uu, uu, uu, uu, uu, uu, uu] [] := by first | (simp [entryFrame, mkF, argsToLocals, Value.category, maxLocals]; done) | rfl
def tw0 {Z a0} (hw : HW Z a0) := hw _ (List.mem_of_getElem? (i := 0) rfl)
def tw1 {Z a0} (hw : HW Z a0) := hw _ (List.mem_of_getElem? (i := 1) rfl)
def tw4 {Z a0} (hw : HW Z a0) := hw _ (List.mem_of_getElem? (i := 4) rfl)
def tw3 {Z a0} (hw : HW Z a0) := hw _ (List.mem_of_getElem? (i := 3) rfl)
theorem pd_176 : parseMethodDescriptor "(I)D" = some ⟨[.int], some .double⟩ := by decide +kernel
def tw2 {Z a0} (hw : HW Z a0) := hw _ (List.mem_of_getElem? (i := 2) rfl)
def tw7 {Z a0} (hw : HW Z a0) := hw _ (List.mem_of_getElem? (i := 7) rfl)
def tw9 {Z a0} (hw : HW Z a0) := hw _ (List.mem_of_getElem? (i := 9) rfl)
def tw10 {Z a0} (hw : HW Z a0) := hw _ (List.mem_of_getElem? (i := 10) rfl)
def tw12 {Z a0} (hw : HW Z a0) := hw _ (List.mem_of_getElem? (i := 12) rfl)
def tw11 {Z a0} (hw : HW Z a0) := hw _ (List.mem_of_getElem? (i := 11) rfl)
def tw171 {Z a0} (hw : HW Z a0) := hw _ (List.mem_of_getElem? (i := 171) rfl)
def tw174 {Z a0} (hw : HW Z a0) := hw _ (List.mem_of_getElem? (i := 174) rfl)
def tw175 {Z a0} (hw : HW Z a0) := hw _ (List.mem_of_getElem? (i := 175) rfl)
theorem pd_177 : parseMethodDescriptor "(D[I[D)I" = some ⟨[.double, (.array .int), (.array .double)], some .int⟩ := by decide +kernel
def tw172 {Z a0} (hw : HW Z a0) := hw _ (List.mem_of_getElem? (i := 172) rfl)
def tw173 {Z a0} (hw : HW Z a0) := hw _ (List.mem_of_getElem? (i := 173) rfl)
def tw237 {Z a0} (hw : HW Z a0) := hw _ (List.mem_of_getElem? (i := 237) rfl)
def tw240 {Z a0} (hw : HW Z a0) := hw _ (List.mem_of_getElem? (i := 240) rfl)
def tw241 {Z a0} (hw : HW Z a0) := hw _ (List.mem_of_getElem? (i := 241) rfl)
def tw238 {Z a0} (hw : HW Z a0) := hw _ (List.mem_of_getElem? (i := 238) rfl)
def tw239 {Z a0} (hw : HW Z a0) := hw _ (List.mem_of_getElem? (i := 239) rfl)
def tw242 {Z a0} (hw : HW Z a0) := hw _ (List.mem_of_getElem? (i := 242) rfl)
def tw245 {Z a0} (hw : HW Z a0) := hw _ (List.mem_of_getElem? (i := 245) rfl)
def tw246 {Z a0} (hw : HW Z a0) := hw _ (List.mem_of_getElem? (i := 246) rfl)
theorem pd_178 : parseMethodDescriptor "()D" = some ⟨[], some .double⟩ := by decide +kernel
def tw243 {Z a0} (hw : HW Z a0) := hw _ (List.mem_of_getElem? (i := 243) rfl)
def tw244 {Z a0} (hw : HW Z a0) := hw _ (List.mem_of_getElem? (i := 244) rfl)
def tw249 {Z a0} (hw : HW Z a0) := hw _ (List.mem_of_getElem? (i := 249) rfl)
def tw251 {Z a0} (hw : HW Z a0) := hw _ (List.mem_of_getElem? (i := 251) rfl)
def tw254 {Z a0} (hw : HW Z a0) := hw _ (List.mem_of_getElem? (i := 254) rfl)
def tw255 {Z a0} (hw : HW Z a0) := hw _ (List.mem_of_getElem? (i := 255) rfl)
theorem pd_179 : parseMethodDescriptor "(D[I[DI)I" = some ⟨[.double, (.array .int), (.array .double), .int], some .int⟩ := by decide +kernel
def tw252 {Z a0} (hw : HW Z a0) := hw _ (List.mem_of_getElem? (i := 252) rfl)
def tw253 {Z a0} (hw : HW Z a0) := hw _ (List.mem_of_getElem? (i := 253) rfl)
def tw302 {Z a0} (hw : HW Z a0) := hw _ (List.mem_of_getElem? (i := 302) rfl)
def tw304 {Z a0} (hw : HW Z a0) := hw _ (List.mem_of_getElem? (i := 304) rfl)
theorem pd_180 : parseMethodDescriptor "(IIIIII)J" = some ⟨[.int, .int, .int, .int, .int, .int], some .long⟩ := by decide +kernel
def tw303 {Z a0} (hw : HW Z a0) := hw _ (List.mem_of_getElem? (i := 303) rfl)
def tw305 {Z a0} (hw : HW Z a0) := hw _ (List.mem_of_getElem? (i := 305) rfl)
def tw307 {Z a0} (hw : HW Z a0) := hw _ (List.mem_of_getElem? (i := 307) rfl)
theorem pd_181 : parseMethodDescriptor "(I)J" = some ⟨[.int], some .long⟩ := by decide +kernel
def tw306 {Z a0} (hw : HW Z a0) := hw _ (List.mem_of_getElem? (i := 306) rfl)
set_option maxRecDepth 65536 in
set_option maxHeartbeats 40000000 in
theorem rm0 (l : Launch) (Z : State) (a0 : Array Value) (hw : ∀ d ∈ tables_1, d.before a0 Z = true) (ws : List Jvm.Cond) (p0 : Int32) (p1 : Int32) (p2 : Int32) (p3 : Int64) (p4 : Int32) (dE : Addr) (h0 : Heap) (n0 : Nat) (Z0 : n0 ≤ h0.size) (O1 : Old Z n0 h0) (AE : own_A Z h0 dE (.object "java/lang/Object") []) (oD : Sta Z Z.heap "java/util/ArrayList" "DEFAULTCAPACITY_EMPTY_ELEMENTDATA" "[Ljava/lang/Object;" (.ref dE)) :
  MetFree l x (head1 (Jvm.Cond.code x code maxLocals ret :: ws) room_1) (fun aA U => aA = #[(.int p0), (.int p1), (.int p2), (.long p3), (.int p4)] ∧ Z.Warmed39 U.vm ∧ U.heap = h0) (fun _ _ _ _ _ => True) (fun _ U o U' => ∃ vR LR, o = .returned vR ∧ Qrm0 Z p0 p1 p2 p3 p4 dE h0 n0 vR U'.heap LR ∧ FrameEnd U o U' LR 160 1344) := by
 refine MetFree.of_bodySF (plainFor_of_name pn_com_example_netloom_netloom_embed_SimplexObjectivePinLaw) hisR ?_
 intro p e s m args below meth c s₁ Bd hml0 hPre hKk
 obtain ⟨rfl, hZ, hh⟩ := hPre
 have hx := Bd.exec
 have hby := Bd.bytes
 have hH : ∀ {pc r}, decode code pc = r → decode c.code pc = r := fun q => hb hby q
 have hml : c.maxLocals = 36 := hml0
 have hown : s.vm.findClass "com/example/netloom/netloom/embed/SimplexObjectivePinLaw" = some m.cls := findClass_of_methodNamed Bd.named
 have hnm := (name_of_methodNamed Bd.named Bd.method).1
 have X0 : Stand p l e room_1 s m #[(.int p0), (.int p1), (.int p2), (.long p3), (.int p4)] below meth c s₁ [] 0 0 := Stand.of_body Bd
 have e0 : s₁.heap = h0 := by rw [← hh, Bd.state]; rfl
 have N0 := Fr.nil n0
 obtain ⟨E0, hE0⟩ : ∃ zE : State, zE = s₁.setTop (entryFrame m #[(.int p0), (.int p1), (.int p2), (.long p3), (.int p4)] maxLocals) := ⟨_, rfl⟩
 have k0 : own_G p e below E0 s₁ (mkF m 0 #[vi p0, vi p1, vi p2, vj p3, ss, vi p4, uu, uu, uu, uu, uu, uu, uu, uu, uu, uu, uu, uu, uu, uu, uu, uu, uu, uu, uu, uu, uu, uu, uu, uu, uu, uu, uu, uu, uu, uu] []) := fun tz kz => hE0 ▸ castTop (ef_rm0 m p0 p1 p2 p3 p4 dE) kz
 let zz25 : Array Slot := #[vi p0, vi p1, vi p2, vj p3, ss, vi p4, uu, uu, uu, uu, uu, uu, uu, uu, uu, uu, uu, uu, uu, uu, uu, uu, uu, uu, uu, uu, uu, uu, uu, uu, uu, uu, uu, uu, uu, uu]
 have kJ0 : own_G p e below E0 s₁ (mkF m 6 zz25 [(.int ((p4 &&& (3 : Int32)) % (3 : Int32)))]) := by
  intro tQ kk
  refine k0 tQ ?_
  refine XS.iload X0.here hx rfl (hH at_0) rfl ?_
  refine XS.iconst X0.here hx rfl (hH at_2) ?_
  refine XS.iand X0.here hx rfl (hH at_3) rfl ?_
  refine XS.iconst X0.here hx rfl (hH at_4) ?_
  refine iremM X0 hx rfl (hH at_5) rfl (by decide) ?_
  exact kk
 clear k0
 obtain ⟨N, hN⟩ : ∃ vA, vA = ((p4 &&& (3 : Int32)) % (3 : Int32)) := ⟨_, rfl⟩
 have kJ1 : own_G p e below E0 s₁ (mkF m 6 zz25 [(.int N)]) := by rw [hN]; exact kJ0
 let zz26 : Array Slot := #[vi p0, vi p1, vi p2, vj p3, ss, vi p4, vi N, uu, uu, uu, uu, uu, uu, uu, uu, uu, uu, uu, uu, uu, uu, uu, uu, uu, uu, uu, uu, uu, uu, uu, uu, uu, uu, uu, uu, uu]
 have kJ2 : own_G p e below E0 s₁ (mkF m 16 zz26 [(.int (((XT.ushr p4 (2 : Int32)) &&& (3 : Int32)) % (3 : Int32)))]) := by
  intro tQ kk
  refine kJ1 tQ ?_
  refine XS.istore X0.here hx rfl (hH at_6) rfl (l' := zz26) rfl ?_
  refine XS.iload X0.here hx rfl (hH at_8) rfl ?_
  refine XS.iconst X0.here hx rfl (hH at_10) ?_
  refine XT.iushr X0.here hx rfl (hH at_11) rfl ?_
  refine XS.iconst X0.here hx rfl (hH at_12) ?_
  refine XS.iand X0.here hx rfl (hH at_13) rfl ?_
  refine XS.iconst X0.here hx rfl (hH at_14) ?_
  refine iremM X0 hx rfl (hH at_15) rfl (by decide) ?_
  exact kk
 clear kJ1
 obtain ⟨o0, ho0⟩ : ∃ vA, vA = (((XT.ushr p4 (2 : Int32)) &&& (3 : Int32)) % (3 : Int32)) := ⟨_, rfl⟩
 have kJ3 : own_G p e below E0 s₁ (mkF m 16 zz26 [(.int o0)]) := by rw [ho0]; exact kJ2
 let zz27 : Array Slot := #[vi p0, vi p1, vi p2, vj p3, ss, vi p4, vi N, vi o0, uu, uu, uu, uu, uu, uu, uu, uu, uu, uu, uu, uu, uu, uu, uu, uu, uu, uu, uu, uu, uu, uu, uu, uu, uu, uu, uu, uu]
 have kJ4 : own_G p e below E0 s₁ (mkF m 31 zz27 [(.int (((o0 + (1 : Int32)) + ((XT.ushr p4 (4 : Int32)) &&& (1 : Int32))) % (3 : Int32)))]) := by
  intro tQ kk
  refine kJ3 tQ ?_
  refine XS.istore X0.here hx rfl (hH at_16) rfl (l' := zz27) rfl ?_
  refine XS.iload X0.here hx rfl (hH at_18) rfl ?_
  refine XS.iconst X0.here hx rfl (hH at_20) ?_
  refine XS.iadd X0.here hx rfl (hH at_21) rfl ?_
  refine XS.iload X0.here hx rfl (hH at_22) rfl ?_
  refine XS.iconst X0.here hx rfl (hH at_24) ?_
  refine XT.iushr X0.here hx rfl (hH at_25) rfl ?_
  refine XS.iconst X0.here hx rfl (hH at_26) ?_
  show Steps p.tables e below (s₁.setTop (mkF m 27 zz27 [(.int (1 : Int32)), (.int (XT.ushr p4 (4 : Int32))), (.int (o0 + (1 : Int32)))])) tQ
  refine XS.iand X0.here hx rfl (hH at_27) rfl ?_
  refine XS.iadd X0.here hx rfl (hH at_28) rfl ?_
  refine XS.iconst X0.here hx rfl (hH at_29) ?_
  refine iremM X0 hx rfl (hH at_30) rfl (by decide) ?_
  exact kk
 clear kJ3
 obtain ⟨o1, ho1⟩ : ∃ vA, vA = (((o0 + (1 : Int32)) + ((XT.ushr p4 (4 : Int32)) &&& (1 : Int32))) % (3 : Int32)) := ⟨_, rfl⟩
 have kJ5 : own_G p e below E0 s₁ (mkF m 31 zz27 [(.int o1)]) := by rw [ho1]; exact kJ4
 let zz28 : Array Slot := #[vi p0, vi p1, vi p2, vj p3, ss, vi p4, vi N, vi o0, vi o1, uu, uu, uu, uu, uu, uu, uu, uu, uu, uu, uu, uu, uu, uu, uu, uu, uu, uu, uu, uu, uu, uu, uu, uu, uu, uu, uu]
 have kJ6 : own_G p e below E0 s₁ (mkF m 39 zz28 [(.int ((XT.ushr p4 (5 : Int32)) &&& (3 : Int32)))]) := by
  intro tQ kk
  refine kJ5 tQ ?_
  refine XS.istore X0.here hx rfl (hH at_31) rfl (l' := zz28) rfl ?_
  refine XS.iload X0.here hx rfl (hH at_33) rfl ?_
  refine XS.iconst X0.here hx rfl (hH at_35) ?_
  refine XT.iushr X0.here hx rfl (hH at_36) rfl ?_
  refine XS.iconst X0.here hx rfl (hH at_37) ?_
  refine XS.iand X0.here hx rfl (hH at_38) rfl ?_
  exact kk
 clear kJ5
 obtain ⟨i0, hi0⟩ : ∃ vA, vA = ((XT.ushr p4 (5 : Int32)) &&& (3 : Int32)) := ⟨_, rfl⟩
 have kJ7 : own_G p e below E0 s₁ (mkF m 39 zz28 [(.int i0)]) := by rw [hi0]; exact kJ6
 let zz29 : Array Slot := #[vi p0, vi p1, vi p2, vj p3, ss, vi p4, vi N, vi o0, vi o1, vi i0, uu, uu, uu, uu, uu, uu, uu, uu, uu, uu, uu, uu, uu, uu, uu, uu, uu, uu, uu, uu, uu, uu, uu, uu, uu, uu]
 have kJ8 : own_G p e below E0 s₁ (mkF m 48 zz29 [(.int ((XT.ushr p4 (7 : Int32)) &&& (3 : Int32)))]) := by
  intro tQ kk
  refine kJ7 tQ ?_
  refine XS.istore X0.here hx rfl (hH at_39) rfl (l' := zz29) rfl ?_
  refine XS.iload X0.here hx rfl (hH at_41) rfl ?_
  refine XS.bipush X0.here hx rfl (hH at_43) ?_
  refine XT.iushr X0.here hx rfl (hH at_45) rfl ?_
  refine XS.iconst X0.here hx rfl (hH at_46) ?_
  refine XS.iand X0.here hx rfl (hH at_47) rfl ?_
  exact kk
 clear kJ7
 obtain ⟨i1, hi1⟩ : ∃ vA, vA = ((XT.ushr p4 (7 : Int32)) &&& (3 : Int32)) := ⟨_, rfl⟩
 have kJ9 : own_G p e below E0 s₁ (mkF m 48 zz29 [(.int i1)]) := by rw [hi1]; exact kJ8
 let zz30 : Array Slot := #[vi p0, vi p1, vi p2, vj p3, ss, vi p4, vi N, vi o0, vi o1, vi i0, vi i1, uu, uu, uu, uu, uu, uu, uu, uu, uu, uu, uu, uu, uu, uu, uu, uu, uu, uu, uu, uu, uu, uu, uu, uu, uu]
 have kJA : own_G p e below E0 s₁ (mkF m 57 zz30 [(.int ((XT.ushr p4 (9 : Int32)) &&& (3 : Int32)))]) := by
  intro tQ kk
  refine kJ9 tQ ?_
  refine XS.istore X0.here hx rfl (hH at_48) rfl (l' := zz30) rfl ?_
  refine XS.iload X0.here hx rfl (hH at_50) rfl ?_
  refine XS.bipush X0.here hx rfl (hH at_52) ?_
  refine XT.iushr X0.here hx rfl (hH at_54) rfl ?_
  refine XS.iconst X0.here hx rfl (hH at_55) ?_
  refine XS.iand X0.here hx rfl (hH at_56) rfl ?_
  exact kk
 clear kJ9
 obtain ⟨tg, htg⟩ : ∃ vA, vA = ((XT.ushr p4 (9 : Int32)) &&& (3 : Int32)) := ⟨_, rfl⟩
 have kJB : own_G p e below E0 s₁ (mkF m 57 zz30 [(.int tg)]) := by rw [htg]; exact kJA
 let zz31 : Array Slot := #[vi p0, vi p1, vi p2, vj p3, ss, vi p4, vi N, vi o0, vi o1, vi i0, vi i1, vi tg, uu, uu, uu, uu, uu, uu, uu, uu, uu, uu, uu, uu, uu, uu, uu, uu, uu, uu, uu, uu, uu, uu, uu, uu]
 have kJC : own_G p e below E0 s₁ (mkF m 64 zz31 [(.int ((p3 >>> ((32 : Int32).toInt64 &&& 63)).toInt32))]) := by
  intro tQ kk
  refine kJB tQ ?_
  refine XS.istore X0.here hx rfl (hH at_57) rfl (l' := zz31) rfl ?_
  refine XT.lloadN X0.here hx rfl (hH at_59) rfl ?_
  refine XS.bipush X0.here hx rfl (hH at_60) ?_
  refine XT.lshr X0.here hx rfl (hH at_62) rfl ?_
  refine XT.l2i X0.here hx rfl (hH at_63) rfl ?_
  exact kk
 clear kJB
 obtain ⟨nc, hnc⟩ : ∃ vA, vA = ((p3 >>> ((32 : Int32).toInt64 &&& 63)).toInt32) := ⟨_, rfl⟩
 have kJD : own_G p e below E0 s₁ (mkF m 64 zz31 [(.int nc)]) := by rw [hnc]; exact kJC
 let zz32 : Array Slot := #[vi p0, vi p1, vi p2, vj p3, ss, vi p4, vi N, vi o0, vi o1, vi i0, vi i1, vi tg, vi nc, uu, uu, uu, uu, uu, uu, uu, uu, uu, uu, uu, uu, uu, uu, uu, uu, uu, uu, uu, uu, uu, uu, uu]
 have kJE : own_G p e below E0 s₁ (mkF m 67 zz32 [(.long p3)]) := by
  intro tQ kk
  refine kJD tQ ?_
  refine XS.istore X0.here hx rfl (hH at_64) rfl (l' := zz32) rfl ?_
  refine XT.lloadN X0.here hx rfl (hH at_66) rfl ?_
  exact kk
 clear kJD
 have stJF := X0.ldc2Long hx hown (mvT hZ (tw0 hw)) (g := (mkF m 67 zz32 [(.long p3)])) rfl (hH at_67)
 have kJG : own_G p e below E0 s₁ (mkF m 70 zz32 [(.long (65535 : Int64)), (.long p3)]) := fun tQ kk => kJE tQ (stJF _ kk)
 clear kJE stJF
 have kJH : own_G p e below E0 s₁ (mkF m 71 zz32 [(.long (p3 &&& (65535 : Int64)))]) := by
  intro tQ kk
  refine kJG tQ ?_
  refine XT.land X0.here hx rfl (hH at_70) rfl ?_
  exact kk
 clear kJG
 obtain ⟨m0, hm0⟩ : ∃ vA, vA = (p3 &&& (65535 : Int64)) := ⟨_, rfl⟩
 have kJI : own_G p e below E0 s₁ (mkF m 71 zz32 [(.long m0)]) := by rw [hm0]; exact kJH
 let zz33 : Array Slot := #[vi p0, vi p1, vi p2, vj p3, ss, vi p4, vi N, vi o0, vi o1, vi i0, vi i1, vi tg, vi nc, vj m0, ss, uu, uu, uu, uu, uu, uu, uu, uu, uu, uu, uu, uu, uu, uu, uu, uu, uu, uu, uu, uu, uu]
 have kJJ : own_G p e below E0 s₁ (mkF m 77 zz33 [(.long (XT.ushrL p3 (16 : Int32)))]) := by
  intro tQ kk
  refine kJI tQ ?_
  refine XT.lstore X0.here hx rfl (hH at_71) rfl (l' := zz33) rfl ?_
  refine XT.lloadN X0.here hx rfl (hH at_73) rfl ?_
  refine XS.bipush X0.here hx rfl (hH at_74) ?_
  refine XT.lushr X0.here hx rfl (hH at_76) rfl ?_
  exact kk
 clear kJI
 have stJK := X0.ldc2Long hx hown (mvT hZ (tw0 hw)) (g := (mkF m 77 zz33 [(.long (XT.ushrL p3 (16 : Int32)))])) rfl (hH at_77)
 have kJL : own_G p e below E0 s₁ (mkF m 80 zz33 [(.long (65535 : Int64)), (.long (XT.ushrL p3 (16 : Int32)))]) := fun tQ kk => kJJ tQ (stJK _ kk)
 clear kJJ stJK
 have kJM : own_G p e below E0 s₁ (mkF m 81 zz33 [(.long ((XT.ushrL p3 (16 : Int32)) &&& (65535 : Int64)))]) := by
  intro tQ kk
  refine kJL tQ ?_
  refine XT.land X0.here hx rfl (hH at_80) rfl ?_
  exact kk
 clear kJL
 obtain ⟨m1, hm1⟩ : ∃ vA, vA = ((XT.ushrL p3 (16 : Int32)) &&& (65535 : Int64)) := ⟨_, rfl⟩
 have kJN : own_G p e below E0 s₁ (mkF m 81 zz33 [(.long m1)]) := by rw [hm1]; exact kJM
 let zz34 : Array Slot := #[vi p0, vi p1, vi p2, vj p3, ss, vi p4, vi N, vi o0, vi o1, vi i0, vi i1, vi tg, vi nc, vj m0, ss, vj m1, ss, uu, uu, uu, uu, uu, uu, uu, uu, uu, uu, uu, uu, uu, uu, uu, uu, uu, uu, uu]
 have kJO : own_G p e below E0 s₁ (mkF m 85 zz34 [(.int i0)]) := by
  intro tQ kk
  refine kJN tQ ?_
  refine XT.lstore X0.here hx rfl (hH at_81) rfl (l' := zz34) rfl ?_
  refine XS.iload X0.here hx rfl (hH at_83) rfl ?_
  exact kk
 clear kJN
 obtain ⟨_, _, ⟨TJP, LJQ, kcJR, ncJS⟩, -, XJT, ⟨LcJU, hQJV, lJW, yJX, zJY⟩, stJZ⟩ := Jvm.LawKit.callS X0 hx (y := mn173) hown (mvT hZ (tw1 hw)) (mvT hZ (tw2 hw)) (mvT hZ (tw3 hw)) (mvT hZ (tw4 hw)) (by decide) (backOf (W := 0) (rmEnt l Z a0 hw [] i0 h0 n0 Z0 ) hZ (tw4 hw) (tw3 hw) (by decide) (by decide)) (g := (mkF m 85 zz34 [(.int i0)])) rfl (by rw [hml]; rfl) (argsL := [(.int i0)]) (rest := []) (lenOf pd_176 rfl) rfl (by show 2 * 0 + _ ≤ _; exact Nat.le_of_eq rfl) (hH at_85) (fun _ _ => ⟨rfl, e0, (by decide : 0 + 0 ≤ _), (by decide : 0 + 0 ≤ _)⟩)
 dsimp only [Pt.U, Pt.locs, Pt.cells, Pt.slots] at XJT lJW yJX zJY stJZ hQJV
 subst yJX zJY
 obtain ⟨rfl, NK0, eK1⟩ := hQJV
 have NK3 : Fr n0 LJQ := by rw [lJW]; exact Fr.app N0 NK0
 clear lJW NK0
 have kK4 : own_G p e below E0 TJP (mkF m 88 zz34 [(.double (own_entry i0))]) := fun tQ kk => kJO tQ (stJZ _ kk)
 clear kJO stJZ
 let zz35 : Array Slot := #[vi p0, vi p1, vi p2, vj p3, ss, vi p4, vi N, vi o0, vi o1, vi i0, vi i1, vi tg, vi nc, vj m0, ss, vj m1, ss, vd (own_entry i0), ss, uu, uu, uu, uu, uu, uu, uu, uu, uu, uu, uu, uu, uu, uu, uu, uu, uu]
 have kK5 : own_G p e below E0 TJP (mkF m 92 zz35 [(.int i1)]) := by
  intro tQ kk
  refine kK4 tQ ?_
  refine XS.dstore XJT.here hx rfl (hH at_88) rfl (l' := zz35) rfl ?_
  refine XS.iload XJT.here hx rfl (hH at_90) rfl ?_
  exact kk
 clear kK4
 obtain ⟨_, _, ⟨TK6, LK7, kcK8, ncK9⟩, -, XKA, ⟨LcKB, hQKC, lKD, yKE, zKF⟩, stKG⟩ := Jvm.LawKit.callS XJT hx (y := mn173) hown (mvT hZ (tw1 hw)) (mvT hZ (tw2 hw)) (mvT hZ (tw3 hw)) (mvT hZ (tw4 hw)) (by decide) (backOf (W := 0) (rmEnt l Z a0 hw [] i1 h0 n0 Z0 ) hZ (tw4 hw) (tw3 hw) (by decide) (by decide)) (g := (mkF m 92 zz35 [(.int i1)])) rfl (by rw [hml]; rfl) (argsL := [(.int i1)]) (rest := []) (lenOf pd_176 rfl) rfl (by show 2 * 0 + _ ≤ _; exact Nat.le_of_eq rfl) (hH at_92) (fun _ _ => ⟨rfl, eK1, (by decide : 0 + 0 ≤ _), (by decide : 0 + 0 ≤ _)⟩)
 dsimp only [Pt.U, Pt.locs, Pt.cells, Pt.slots] at XKA lKD yKE zKF stKG hQKC
 subst yKE zKF
 obtain ⟨rfl, NKH, eKI⟩ := hQKC
 have NKK : Fr n0 LK7 := by rw [lKD]; exact Fr.app NK3 NKH
 clear lKD NKH
 have kKL : own_G p e below E0 TK6 (mkF m 95 zz35 [(.double (own_entry i1))]) := fun tQ kk => kK5 tQ (stKG _ kk)
 clear kK5 stKG
 let zz36 : Array Slot := #[vi p0, vi p1, vi p2, vj p3, ss, vi p4, vi N, vi o0, vi o1, vi i0, vi i1, vi tg, vi nc, vj m0, ss, vj m1, ss, vd (own_entry i0), ss, vd (own_entry i1), ss, uu, uu, uu, uu, uu, uu, uu, uu, uu, uu, uu, uu, uu, uu, uu]
 have kKM : own_G p e below E0 TK6 (mkF m 97 zz36 []) := by
  intro tQ kk
  refine kKL tQ ?_
  refine XS.dstore XKA.here hx rfl (hH at_95) rfl (l' := zz36) rfl ?_
  exact kk
 clear kKL
 have jnKS : ∃ (b0 : UInt64), (own_bs i0 b0 m0) ∧ (own_G p e below E0 TK6 (mkF m 114 #[vi p0, vi p1, vi p2, vj p3, ss, vi p4, vi N, vi o0, vi o1, vi i0, vi i1, vi tg, vi nc, vj m0, ss, vj m1, ss, vd (own_entry i0), ss, vd (own_entry i1), ss, uu, uu, uu, uu, uu, uu, uu, uu, uu, uu, uu, uu, uu, uu, uu] [(.double b0)])) := by
  have kKN : own_G p e below E0 TK6 (mkF m 101 zz36 [(.int (own_c (own_z (own_entry i0)) (own_z FP.dconst0)))]) := by
   intro tQ kk
   refine kKM tQ ?_
   refine XS.dload XKA.here hx rfl (hH at_97) rfl ?_
   refine XS.dconst0 XKA.here hx rfl (hH at_99) rfl ?_
   refine XS.dcmpS (v := (own_c (own_z (own_entry i0)) (own_z FP.dconst0))) XKA.here hx rfl (hH at_100) rfl (own_cE .g (own_cmpz (own_enf i0).noNaN own_n0)) ?_
   exact kk
  clear kKM
  by_cases ce : (own_z (own_entry i0)) < (own_z FP.dconst0)
  ·skip
   have kKP : own_G p e below E0 TK6 (mkF m 114 zz36 [(.double (FP.dneg (FP.l2d m0)))]) := by
    intro tQ kk
    refine kKN tQ ?_
    refine XS.ifNo XKA.here hx rfl (hH at_101) rfl (own_c_geN ce) ?_
    refine XT.lload XKA.here hx rfl (hH at_104) rfl ?_
    refine XS.l2dS XKA.here hx rfl (hH at_106) rfl rfl ?_
    refine XS.dnegS XKA.here hx rfl (hH at_107) rfl rfl ?_
    refine XS.goto XKA.here hx rfl (pc0 := 108) (pc' := 114) rfl (hH at_108) (by decide) (by decide) ?_
    exact kk
   clear kKN
   exact ⟨(FP.dneg (FP.l2d m0)), ((own_bsN ce)), kKP⟩
  ·skip
   have kKQ : own_G p e below E0 TK6 (mkF m 114 zz36 [(.double (FP.l2d m0))]) := by
    intro tQ kk
    refine kKN tQ ?_
    refine XS.ifYes XKA.here hx rfl (pc0 := 101) (pc' := 111) rfl (hH at_101) rfl (own_c_geY ce) (by decide) (by decide) ?_
    refine XT.lload XKA.here hx rfl (hH at_111) rfl ?_
    refine XS.l2dS XKA.here hx rfl (hH at_113) rfl rfl ?_
    exact kk
   clear kKN
   exact ⟨(FP.l2d m0), ((own_bsP ce)), kKQ⟩
 obtain ⟨b0, hDKT, kKR⟩ := jnKS
 have hb0 := hDKT
 let zz37 : Array Slot := #[vi p0, vi p1, vi p2, vj p3, ss, vi p4, vi N, vi o0, vi o1, vi i0, vi i1, vi tg, vi nc, vj m0, ss, vj m1, ss, vd (own_entry i0), ss, vd (own_entry i1), ss, vd b0, ss, uu, uu, uu, uu, uu, uu, uu, uu, uu, uu, uu, uu, uu]
 have kKU : own_G p e below E0 TK6 (mkF m 116 zz37 []) := by
  intro tQ kk
  refine kKR tQ ?_
  refine XS.dstore XKA.here hx rfl (hH at_114) rfl (l' := zz37) rfl ?_
  exact kk
 clear kKR
 have jnL0 : ∃ (b1 : UInt64), (own_bs i1 b1 m1) ∧ (own_G p e below E0 TK6 (mkF m 133 #[vi p0, vi p1, vi p2, vj p3, ss, vi p4, vi N, vi o0, vi o1, vi i0, vi i1, vi tg, vi nc, vj m0, ss, vj m1, ss, vd (own_entry i0), ss, vd (own_entry i1), ss, vd b0, ss, uu, uu, uu, uu, uu, uu, uu, uu, uu, uu, uu, uu, uu] [(.double b1)])) := by
  have kKV : own_G p e below E0 TK6 (mkF m 120 zz37 [(.int (own_c (own_z (own_entry i1)) (own_z FP.dconst0)))]) := by
   intro tQ kk
   refine kKU tQ ?_
   refine XS.dload XKA.here hx rfl (hH at_116) rfl ?_
   refine XS.dconst0 XKA.here hx rfl (hH at_118) rfl ?_
   refine XS.dcmpS (v := (own_c (own_z (own_entry i1)) (own_z FP.dconst0))) XKA.here hx rfl (hH at_119) rfl (own_cE .g (own_cmpz (own_enf i1).noNaN own_n0)) ?_
   exact kk
  clear kKU
  by_cases ce : (own_z (own_entry i1)) < (own_z FP.dconst0)
  ·skip
   have kKX : own_G p e below E0 TK6 (mkF m 133 zz37 [(.double (FP.dneg (FP.l2d m1)))]) := by
    intro tQ kk
    refine kKV tQ ?_
    refine XS.ifNo XKA.here hx rfl (hH at_120) rfl (own_c_geN ce) ?_
    refine XT.lload XKA.here hx rfl (hH at_123) rfl ?_
    refine XS.l2dS XKA.here hx rfl (hH at_125) rfl rfl ?_
    refine XS.dnegS XKA.here hx rfl (hH at_126) rfl rfl ?_
    refine XS.goto XKA.here hx rfl (pc0 := 127) (pc' := 133) rfl (hH at_127) (by decide) (by decide) ?_
    exact kk
   clear kKV
   exact ⟨(FP.dneg (FP.l2d m1)), ((own_bsN ce)), kKX⟩
  ·skip
   have kKY : own_G p e below E0 TK6 (mkF m 133 zz37 [(.double (FP.l2d m1))]) := by
    intro tQ kk
    refine kKV tQ ?_
    refine XS.ifYes XKA.here hx rfl (pc0 := 120) (pc' := 130) rfl (hH at_120) rfl (own_c_geY ce) (by decide) (by decide) ?_
    refine XT.lload XKA.here hx rfl (hH at_130) rfl ?_
    refine XS.l2dS XKA.here hx rfl (hH at_132) rfl rfl ?_
    exact kk
   clear kKV
   exact ⟨(FP.l2d m1), ((own_bsP ce)), kKY⟩
 obtain ⟨b1, hDL1, kKZ⟩ := jnL0
 have hb1 := hDL1
 have bm0 := own_m0 hm0
 have bm1 := own_m1 hm1
 have bo0 := own_o0 ho0
 have bo1 := own_o1 ho0 ho1
 have bt := own_tg htg
 let zz38 : Array Slot := #[vi p0, vi p1, vi p2, vj p3, ss, vi p4, vi N, vi o0, vi o1, vi i0, vi i1, vi tg, vi nc, vj m0, ss, vj m1, ss, vd (own_entry i0), ss, vd (own_entry i1), ss, vd b0, ss, vd b1, ss, uu, uu, uu, uu, uu, uu, uu, uu, uu, uu, uu]
 have kL2 : own_G p e below E0 TK6 (mkF m 136 zz38 [(.int (0 : Int32))]) := by
  intro tQ kk
  refine kKZ tQ ?_
  refine XS.dstore XKA.here hx rfl (hH at_133) rfl (l' := zz38) rfl ?_
  refine XS.iconst XKA.here hx rfl (hH at_135) ?_
  exact kk
 clear kKZ
 obtain ⟨TL3, hL4, cAL5, XL6, eL7, EL8, AL9, stLA⟩ := newP (aty := .int) XKA hx hZ (tw5 hw) eKI (g := (mkF m 136 zz38 [(.int (0 : Int32))])) rfl (hH at_136) rfl (by decide) (cap := 0) (by decide) (by decide) (by decide) (by decide)
 obtain ⟨aLB, gLC⟩ : ∃ zA : Nat, zA = h0.size := ⟨_, rfl⟩
 rw [← gLC] at AL9 stLA
 have nLD := own_lt_ne AE.lt gLC
 have geLE : n0 ≤ aLB := own_ge_of Z0 gLC
 replace Z0 := Nat.le_trans Z0 EL8.1
 replace O1 := O1.ext EL8
 replace AE := AE.ext EL8
 have FLF : own_A Z hL4 aLB .int [] := own_A.new AL9
 have kLG : own_G p e below E0 TL3 (mkF m 138 zz38 [(.ref aLB)]) := fun tQ kk => kL2 tQ (stLA _ kk)
 clear kL2 stLA
 let zz39 : Array Slot := #[vi p0, vi p1, vi p2, vj p3, ss, vi p4, vi N, vi o0, vi o1, vi i0, vi i1, vi tg, vi nc, vj m0, ss, vj m1, ss, vd (own_entry i0), ss, vd (own_entry i1), ss, vd b0, ss, vd b1, ss, vr aLB, uu, uu, uu, uu, uu, uu, uu, uu, uu, uu]
 have kLH : own_G p e below E0 TL3 (mkF m 141 zz39 [(.int (0 : Int32))]) := by
  intro tQ kk
  refine kLG tQ ?_
  refine XS.astore XL6.here hx rfl (hH at_138) rfl rfl (l' := zz39) rfl ?_
  refine XS.iconst XL6.here hx rfl (hH at_140) ?_
  exact kk
 clear kLG
 obtain ⟨TLI, hLJ, cALK, XLL, eLM, ELN, ALO, stLP⟩ := newP (aty := .double) XL6 hx hZ (tw6 hw) eL7 (g := (mkF m 141 zz39 [(.int (0 : Int32))])) rfl (hH at_141) rfl (by decide) (cap := 0) (by decide) (by decide) (by decide) (by decide)
 obtain ⟨aLQ, gLR⟩ : ∃ zA : Nat, zA = hL4.size := ⟨_, rfl⟩
 rw [← gLR] at ALO stLP
 have nLS := own_lt_ne AE.lt gLR
 have nLT := own_lt_ne FLF.lt gLR
 have geLU : n0 ≤ aLQ := own_ge_of Z0 gLR
 replace Z0 := Nat.le_trans Z0 ELN.1
 replace O1 := O1.ext ELN
 replace AE := AE.ext ELN
 replace FLF := FLF.ext ELN
 have FLV : own_A Z hLJ aLQ .double [] := own_A.new ALO
 have kLW : own_G p e below E0 TLI (mkF m 143 zz39 [(.ref aLQ)]) := fun tQ kk => kLH tQ (stLP _ kk)
 clear kLH stLP
 let zz40 : Array Slot := #[vi p0, vi p1, vi p2, vj p3, ss, vi p4, vi N, vi o0, vi o1, vi i0, vi i1, vi tg, vi nc, vj m0, ss, vj m1, ss, vd (own_entry i0), ss, vd (own_entry i1), ss, vd b0, ss, vd b1, ss, vr aLB, vr aLQ, uu, uu, uu, uu, uu, uu, uu, uu, uu]
 have kLX : own_G p e below E0 TLI (mkF m 146 zz40 [(.int (1 : Int32))]) := by
  intro tQ kk
  refine kLW tQ ?_
  refine XS.astore XLL.here hx rfl (hH at_143) rfl rfl (l' := zz40) rfl ?_
  refine XS.iconst XLL.here hx rfl (hH at_145) ?_
  exact kk
 clear kLW
 obtain ⟨TLY, hLZ, cAM0, XM1, eM2, EM3, AM4, stM5⟩ := newP (aty := .int) XLL hx hZ (tw5 hw) eLM (g := (mkF m 146 zz40 [(.int (1 : Int32))])) rfl (hH at_146) rfl (by decide) (cap := 1) (by decide) (by decide) (by decide) (by decide)
 obtain ⟨aM6, gM7⟩ : ∃ zA : Nat, zA = hLJ.size := ⟨_, rfl⟩
 rw [← gM7] at AM4 stM5
 have nM8 := own_lt_ne AE.lt gM7
 have nM9 := own_lt_ne FLF.lt gM7
 have nMA := own_lt_ne FLV.lt gM7
 have geMB : n0 ≤ aM6 := own_ge_of Z0 gM7
 replace Z0 := Nat.le_trans Z0 EM3.1
 replace O1 := O1.ext EM3
 replace AE := AE.ext EM3
 replace FLF := FLF.ext EM3
 replace FLV := FLV.ext EM3
 have FMC : own_A Z hLZ aM6 .int [(.int (0 : Int32))] := own_A.new AM4
 have kMD : own_G p e below E0 TLY (mkF m 148 zz40 [(.ref aM6)]) := fun tQ kk => kLX tQ (stM5 _ kk)
 clear kLX stM5
 have kME : own_G p e below E0 TLY (mkF m 152 zz40 [(.int o0), (.int (0 : Int32)), (.ref aM6), (.ref aM6)]) := by
  intro tQ kk
  refine kMD tQ ?_
  refine XS.dup XM1.here hx rfl (hH at_148) rfl rfl ?_
  refine XS.iconst XM1.here hx rfl (hH at_149) ?_
  refine XS.iload XM1.here hx rfl (hH at_150) rfl ?_
  exact kk
 clear kMD
 obtain ⟨TMF, hMG, XMH, eMI, WMJ, FMK, stML⟩ := own_A.ist XM1 hx hZ eM2 FMC (j := (0 : Int32)) (by decide) rfl (g := (mkF m 152 zz40 [(.int o0), (.int (0 : Int32)), (.ref aM6), (.ref aM6)])) rfl rfl (hH at_152)
 have NMM := Fr.snoc XMH NKK geMB
 have kMN : own_G p e below E0 TMF (mkF m 153 zz40 [(.ref aM6)]) := fun tQ kk => kME tQ (stML _ kk)
 clear kME stML
 replace O1 := O1.wr WMJ geMB
 replace AE := AE.other WMJ nM8
 replace FLF := FLF.other WMJ nM9
 replace FLV := FLV.other WMJ nMA
 replace Z0 := own_wrle WMJ Z0
 have FMO : own_A Z hMG aM6 .int [(.int o0)] := FMK
 let zz41 : Array Slot := #[vi p0, vi p1, vi p2, vj p3, ss, vi p4, vi N, vi o0, vi o1, vi i0, vi i1, vi tg, vi nc, vj m0, ss, vj m1, ss, vd (own_entry i0), ss, vd (own_entry i1), ss, vd b0, ss, vd b1, ss, vr aLB, vr aLQ, vr aM6, uu, uu, uu, uu, uu, uu, uu, uu]
 have kMP : own_G p e below E0 TMF (mkF m 156 zz41 [(.int (1 : Int32))]) := by
  intro tQ kk
  refine kMN tQ ?_
  refine XS.astore XMH.here hx rfl (hH at_153) rfl rfl (l' := zz41) rfl ?_
  refine XS.iconst XMH.here hx rfl (hH at_155) ?_
  exact kk
 clear kMN
 obtain ⟨TMQ, hMR, cAMS, XMT, eMU, EMV, AMW, stMX⟩ := newP (aty := .double) XMH hx hZ (tw6 hw) eMI (g := (mkF m 156 zz41 [(.int (1 : Int32))])) rfl (hH at_156) rfl (by decide) (cap := 1) (by decide) (by decide) (by decide) (by decide)
 obtain ⟨aMY, gMZ⟩ : ∃ zA : Nat, zA = hMG.size := ⟨_, rfl⟩
 rw [← gMZ] at AMW stMX
 have nN0 := own_lt_ne AE.lt gMZ
 have nN1 := own_lt_ne FLF.lt gMZ
 have nN2 := own_lt_ne FLV.lt gMZ
 have nN3 := own_lt_ne FMO.lt gMZ
 have geN4 : n0 ≤ aMY := own_ge_of Z0 gMZ
 replace Z0 := Nat.le_trans Z0 EMV.1
 replace O1 := O1.ext EMV
 replace AE := AE.ext EMV
 replace FLF := FLF.ext EMV
 replace FLV := FLV.ext EMV
 replace FMO := FMO.ext EMV
 have FN5 : own_A Z hMR aMY .double [(.double (0 : UInt64))] := own_A.new AMW
 have kN6 : own_G p e below E0 TMQ (mkF m 158 zz41 [(.ref aMY)]) := fun tQ kk => kMP tQ (stMX _ kk)
 clear kMP stMX
 have kN7 : own_G p e below E0 TMQ (mkF m 162 zz41 [(.double (own_entry i0)), (.int (0 : Int32)), (.ref aMY), (.ref aMY)]) := by
  intro tQ kk
  refine kN6 tQ ?_
  refine XS.dup XMT.here hx rfl (hH at_158) rfl rfl ?_
  refine XS.iconst XMT.here hx rfl (hH at_159) ?_
  refine XS.dload XMT.here hx rfl (hH at_160) rfl ?_
  exact kk
 clear kN6
 obtain ⟨TN8, hN9, XNA, eNB, WNC, FND, stNE⟩ := own_A.dst XMT hx hZ eMU FN5 (j := (0 : Int32)) (by decide) rfl (g := (mkF m 162 zz41 [(.double (own_entry i0)), (.int (0 : Int32)), (.ref aMY), (.ref aMY)])) rfl rfl (hH at_162)
 have NNF := Fr.snoc XNA NMM geN4
 have kNG : own_G p e below E0 TN8 (mkF m 163 zz41 [(.ref aMY)]) := fun tQ kk => kN7 tQ (stNE _ kk)
 clear kN7 stNE
 replace O1 := O1.wr WNC geN4
 replace AE := AE.other WNC nN0
 replace FLF := FLF.other WNC nN1
 replace FLV := FLV.other WNC nN2
 replace FMO := FMO.other WNC nN3
 replace Z0 := own_wrle WNC Z0
 have FNH : own_A Z hN9 aMY .double [(.double (own_entry i0))] := FND
 let zz42 : Array Slot := #[vi p0, vi p1, vi p2, vj p3, ss, vi p4, vi N, vi o0, vi o1, vi i0, vi i1, vi tg, vi nc, vj m0, ss, vj m1, ss, vd (own_entry i0), ss, vd (own_entry i1), ss, vd b0, ss, vd b1, ss, vr aLB, vr aLQ, vr aM6, vr aMY, uu, uu, uu, uu, uu, uu, uu]
 have kNI : own_G p e below E0 TN8 (mkF m 166 zz42 [(.int (1 : Int32))]) := by
  intro tQ kk
  refine kNG tQ ?_
  refine XS.astore XNA.here hx rfl (hH at_163) rfl rfl (l' := zz42) rfl ?_
  refine XS.iconst XNA.here hx rfl (hH at_165) ?_
  exact kk
 clear kNG
 obtain ⟨TNJ, hNK, cANL, XNM, eNN, ENO, ANP, stNQ⟩ := newP (aty := .int) XNA hx hZ (tw5 hw) eNB (g := (mkF m 166 zz42 [(.int (1 : Int32))])) rfl (hH at_166) rfl (by decide) (cap := 1) (by decide) (by decide) (by decide) (by decide)
 obtain ⟨aNR, gNS⟩ : ∃ zA : Nat, zA = hN9.size := ⟨_, rfl⟩
 rw [← gNS] at ANP stNQ
 have nNT := own_lt_ne AE.lt gNS
 have nNU := own_lt_ne FLF.lt gNS
 have nNV := own_lt_ne FLV.lt gNS
 have nNW := own_lt_ne FMO.lt gNS
 have nNX := own_lt_ne FNH.lt gNS
 have geNY : n0 ≤ aNR := own_ge_of Z0 gNS
 replace Z0 := Nat.le_trans Z0 ENO.1
 replace O1 := O1.ext ENO
 replace AE := AE.ext ENO
 replace FLF := FLF.ext ENO
 replace FLV := FLV.ext ENO
 replace FMO := FMO.ext ENO
 replace FNH := FNH.ext ENO
 have FNZ : own_A Z hNK aNR .int [(.int (0 : Int32))] := own_A.new ANP
 have kP0 : own_G p e below E0 TNJ (mkF m 168 zz42 [(.ref aNR)]) := fun tQ kk => kNI tQ (stNQ _ kk)
 clear kNI stNQ
 have kP1 : own_G p e below E0 TNJ (mkF m 172 zz42 [(.int o1), (.int (0 : Int32)), (.ref aNR), (.ref aNR)]) := by
  intro tQ kk
  refine kP0 tQ ?_
  refine XS.dup XNM.here hx rfl (hH at_168) rfl rfl ?_
  refine XS.iconst XNM.here hx rfl (hH at_169) ?_
  refine XS.iload XNM.here hx rfl (hH at_170) rfl ?_
  exact kk
 clear kP0
 obtain ⟨TP2, hP3, XP4, eP5, WP6, FP7, stP8⟩ := own_A.ist XNM hx hZ eNN FNZ (j := (0 : Int32)) (by decide) rfl (g := (mkF m 172 zz42 [(.int o1), (.int (0 : Int32)), (.ref aNR), (.ref aNR)])) rfl rfl (hH at_172)
 have NP9 := Fr.snoc XP4 NNF geNY
 have kPA : own_G p e below E0 TP2 (mkF m 173 zz42 [(.ref aNR)]) := fun tQ kk => kP1 tQ (stP8 _ kk)
 clear kP1 stP8
 replace O1 := O1.wr WP6 geNY
 replace AE := AE.other WP6 nNT
 replace FLF := FLF.other WP6 nNU
 replace FLV := FLV.other WP6 nNV
 replace FMO := FMO.other WP6 nNW
 replace FNH := FNH.other WP6 nNX
 replace Z0 := own_wrle WP6 Z0
 have FPB : own_A Z hP3 aNR .int [(.int o1)] := FP7
 let zz43 : Array Slot := #[vi p0, vi p1, vi p2, vj p3, ss, vi p4, vi N, vi o0, vi o1, vi i0, vi i1, vi tg, vi nc, vj m0, ss, vj m1, ss, vd (own_entry i0), ss, vd (own_entry i1), ss, vd b0, ss, vd b1, ss, vr aLB, vr aLQ, vr aM6, vr aMY, vr aNR, uu, uu, uu, uu, uu, uu]
 have kPC : own_G p e below E0 TP2 (mkF m 176 zz43 [(.int (1 : Int32))]) := by
  intro tQ kk
  refine kPA tQ ?_
  refine XS.astore XP4.here hx rfl (hH at_173) rfl rfl (l' := zz43) rfl ?_
  refine XS.iconst XP4.here hx rfl (hH at_175) ?_
  exact kk
 clear kPA
 obtain ⟨TPD, hPE, cAPF, XPG, ePH, EPI, APJ, stPK⟩ := newP (aty := .double) XP4 hx hZ (tw6 hw) eP5 (g := (mkF m 176 zz43 [(.int (1 : Int32))])) rfl (hH at_176) rfl (by decide) (cap := 1) (by decide) (by decide) (by decide) (by decide)
 obtain ⟨aPL, gPM⟩ : ∃ zA : Nat, zA = hP3.size := ⟨_, rfl⟩
 rw [← gPM] at APJ stPK
 have nPN := own_lt_ne AE.lt gPM
 have nPO := own_lt_ne FLF.lt gPM
 have nPP := own_lt_ne FLV.lt gPM
 have nPQ := own_lt_ne FMO.lt gPM
 have nPR := own_lt_ne FNH.lt gPM
 have nPS := own_lt_ne FPB.lt gPM
 have gePT : n0 ≤ aPL := own_ge_of Z0 gPM
 replace Z0 := Nat.le_trans Z0 EPI.1
 replace O1 := O1.ext EPI
 replace AE := AE.ext EPI
 replace FLF := FLF.ext EPI
 replace FLV := FLV.ext EPI
 replace FMO := FMO.ext EPI
 replace FNH := FNH.ext EPI
 replace FPB := FPB.ext EPI
 have FPU : own_A Z hPE aPL .double [(.double (0 : UInt64))] := own_A.new APJ
 have kPV : own_G p e below E0 TPD (mkF m 178 zz43 [(.ref aPL)]) := fun tQ kk => kPC tQ (stPK _ kk)
 clear kPC stPK
 have kPW : own_G p e below E0 TPD (mkF m 182 zz43 [(.double (own_entry i1)), (.int (0 : Int32)), (.ref aPL), (.ref aPL)]) := by
  intro tQ kk
  refine kPV tQ ?_
  refine XS.dup XPG.here hx rfl (hH at_178) rfl rfl ?_
  refine XS.iconst XPG.here hx rfl (hH at_179) ?_
  refine XS.dload XPG.here hx rfl (hH at_180) rfl ?_
  exact kk
 clear kPV
 obtain ⟨TPX, hPY, XPZ, eQ0, WQ1, FQ2, stQ3⟩ := own_A.dst XPG hx hZ ePH FPU (j := (0 : Int32)) (by decide) rfl (g := (mkF m 182 zz43 [(.double (own_entry i1)), (.int (0 : Int32)), (.ref aPL), (.ref aPL)])) rfl rfl (hH at_182)
 have NQ4 := Fr.snoc XPZ NP9 gePT
 have kQ5 : own_G p e below E0 TPX (mkF m 183 zz43 [(.ref aPL)]) := fun tQ kk => kPW tQ (stQ3 _ kk)
 clear kPW stQ3
 replace O1 := O1.wr WQ1 gePT
 replace AE := AE.other WQ1 nPN
 replace FLF := FLF.other WQ1 nPO
 replace FLV := FLV.other WQ1 nPP
 replace FMO := FMO.other WQ1 nPQ
 replace FNH := FNH.other WQ1 nPR
 replace FPB := FPB.other WQ1 nPS
 replace Z0 := own_wrle WQ1 Z0
 have FQ6 : own_A Z hPY aPL .double [(.double (own_entry i1))] := FQ2
 let zz44 : Array Slot := #[vi p0, vi p1, vi p2, vj p3, ss, vi p4, vi N, vi o0, vi o1, vi i0, vi i1, vi tg, vi nc, vj m0, ss, vj m1, ss, vd (own_entry i0), ss, vd (own_entry i1), ss, vd b0, ss, vd b1, ss, vr aLB, vr aLQ, vr aM6, vr aMY, vr aNR, vr aPL, uu, uu, uu, uu, uu]
 have kQ7 : own_G p e below E0 TPX (mkF m 185 zz44 []) := by
  intro tQ kk
  refine kQ5 tQ ?_
  refine XS.astore XPZ.here hx rfl (hH at_183) rfl rfl (l' := zz44) rfl ?_
  exact kk
 clear kQ5
 obtain ⟨TQ8, hQ9, XQA, eQB, EQC, AQD, DQE, UnQI, stQF⟩ := newO XPZ hx hZ hown (tw7 hw) (tw8 hw) (tw9 hw) eQ0 (g := (mkF m 185 zz44 [])) rfl (hH at_185) (by decide) (by decide)
 obtain ⟨aQG, gQH⟩ : ∃ zA : Nat, zA = hPY.size := ⟨_, rfl⟩
 rw [← gQH] at AQD DQE stQF UnQI
 have nQJ := own_lt_ne AE.lt gQH
 have nQK := own_lt_ne FLF.lt gQH
 have nQL := own_lt_ne FLV.lt gQH
 have nQM := own_lt_ne FMO.lt gQH
 have nQN := own_lt_ne FNH.lt gQH
 have nQO := own_lt_ne FPB.lt gQH
 have nQP := own_lt_ne FQ6.lt gQH
 have geQQ : n0 ≤ aQG := own_ge_of Z0 gQH
 replace Z0 := Nat.le_trans Z0 EQC.1
 replace O1 := O1.ext EQC
 replace AE := AE.ext EQC
 replace FLF := FLF.ext EQC
 replace FLV := FLV.ext EQC
 replace FMO := FMO.ext EQC
 replace FNH := FNH.ext EQC
 replace FPB := FPB.ext EQC
 replace FQ6 := FQ6.ext EQC
 have UnQR : Unt hQ9 aQG := UnQI
 have FQS : Fld Z hQ9 aQG "com/example/netloom/netloom/embed/Simplex" "columns" "Ljava/util/List;" .null := (DQE (Or.inr (tw41 hw)) (ty := (.object "java/util/List")) (by decide))
 have FQT : Fld Z hQ9 aQG "com/example/netloom/netloom/embed/Simplex" "cost" "[D" .null := (DQE (Or.inl (tw43 hw)) (ty := (.array .double)) (by decide))
 have FQU : Fld Z hQ9 aQG "com/example/netloom/netloom/embed/Simplex" "rhs" "[D" .null := (DQE (Or.inl (tw45 hw)) (ty := (.array .double)) (by decide))
 have FQV : Fld Z hQ9 aQG "com/example/netloom/netloom/embed/Simplex" "basic" "[I" .null := (DQE (Or.inl (tw47 hw)) (ty := (.array .int)) (by decide))
 have FQW : Fld Z hQ9 aQG "com/example/netloom/netloom/embed/Simplex" "positionOf" "[I" .null := (DQE (Or.inl (tw49 hw)) (ty := (.array .int)) (by decide))
 have FQX : Fld Z hQ9 aQG "com/example/netloom/netloom/embed/Simplex" "factor" "Lcom/example/netloom/netloom/embed/BasisFactor;" .null := (DQE (Or.inr (tw166 hw)) (ty := (.object "com/example/netloom/netloom/embed/BasisFactor")) (by decide))
 have FQY : Fld Z hQ9 aQG "com/example/netloom/netloom/embed/Simplex" "value" "[D" .null := (DQE (Or.inl (tw168 hw)) (ty := (.array .double)) (by decide))
 have FQZ : Fld Z hQ9 aQG "com/example/netloom/netloom/embed/Simplex" "dual" "[D" .null := (DQE (Or.inl (tw170 hw)) (ty := (.array .double)) (by decide))
 have FR0 : Fld Z hQ9 aQG "com/example/netloom/netloom/embed/Simplex" "rowCount" "I" (.int (0 : Int32)) := (DQE (Or.inl (tw248 hw)) (ty := .int) (by decide))
 have kR1 : own_G p e below E0 TQ8 (mkF m 188 zz44 [(.ref aQG)]) := fun tQ kk => kQ7 tQ (stQF _ kk)
 clear kQ7 stQF
 have kR2 : own_G p e below E0 TQ8 (mkF m 189 zz44 [(.ref aQG), (.ref aQG)]) := by
  intro tQ kk
  refine kR1 tQ ?_
  refine XS.dup XQA.here hx rfl (hH at_188) rfl rfl ?_
  exact kk
 clear kR1
 obtain ⟨_, _, ⟨TR3, LR4, kcR5, ncR6⟩, -, XR7, ⟨LcR8, hQR9, lRA, yRB, zRC⟩, stRD⟩ := XQA.specialBack hx (y := mn51) rfl hown (mvT hZ (tw10 hw)) (mvT hZ (tw11 hw)) (mvT hZ (tw12 hw)) (by decide) (backOf (W := 1) (rmSx l Z a0 hw [] aQG dE hQ9 n0 Z0 O1 AQD FQS FQT FQU FQV FQW FQX FQY FQZ FR0 geQQ oD) hZ (tw12 hw) (tw9 hw) (by decide) (by decide)) (g := (mkF m 189 zz44 [(.ref aQG), (.ref aQG)])) rfl (by rw [hml]; rfl) (Steps.refl _) (a := aQG) (argsL := []) (rest := [(.ref aQG)]) (lenOf pd_8 rfl) rfl (by show 2 * 0 + _ ≤ _; exact Nat.le_of_eq rfl) (hH at_189) (fun _ _ => ⟨rfl, eQB, (by decide : 7 + 55 ≤ _), (by decide : 16 + 576 ≤ _)⟩)
 dsimp only [Pt.U, Pt.locs, Pt.cells, Pt.slots] at XR7 lRA yRB zRC stRD hQR9
 subst yRB zRC
 obtain ⟨alRH, cARI, roRJ, baRK, pARL, faRM, vaRN, rfl, NRE, KRO, gRP, gRQ, gRR, gRS, gRT, gRU, gRV, gRW, gRX, gRY, gRZ, gS0, gS1, gS2, gS3, gS4, gS5, gS6, gS7, nwS8, nwS9, nwSA, nwSB, nwSC, nwSD, nwSE, nSF, nSG, nSH, nSI, nSJ, nSK, nSL, nSM, nSN, nSO, nSP, nSQ, nSR, nSS, nST, nSU, nSV, nSW, nSX, nSY, nSZ⟩ := hQR9
 have NT0 : Fr n0 LR4 := by rw [lRA]; exact Fr.app NQ4 NRE
 clear lRA NRE
 have geT1 : n0 ≤ alRH := Nat.le_trans Z0 nwS8
 have nT2 : dE ≠ alRH := own_lt_ne2 AE.lt nwS8
 have nT3 : aLB ≠ alRH := own_lt_ne2 FLF.lt nwS8
 have nT4 : aLQ ≠ alRH := own_lt_ne2 FLV.lt nwS8
 have nT5 : aM6 ≠ alRH := own_lt_ne2 FMO.lt nwS8
 have nT6 : aMY ≠ alRH := own_lt_ne2 FNH.lt nwS8
 have nT7 : aNR ≠ alRH := own_lt_ne2 FPB.lt nwS8
 have nT8 : aPL ≠ alRH := own_lt_ne2 FQ6.lt nwS8
 have nT9 : aQG ≠ alRH := own_lt_ne2 AQD.lt nwS8
 have geTA : n0 ≤ cARI := Nat.le_trans Z0 nwS9
 have nTB : dE ≠ cARI := own_lt_ne2 AE.lt nwS9
 have nTC : aLB ≠ cARI := own_lt_ne2 FLF.lt nwS9
 have nTD : aLQ ≠ cARI := own_lt_ne2 FLV.lt nwS9
 have nTE : aM6 ≠ cARI := own_lt_ne2 FMO.lt nwS9
 have nTF : aMY ≠ cARI := own_lt_ne2 FNH.lt nwS9
 have nTG : aNR ≠ cARI := own_lt_ne2 FPB.lt nwS9
 have nTH : aPL ≠ cARI := own_lt_ne2 FQ6.lt nwS9
 have nTI : aQG ≠ cARI := own_lt_ne2 AQD.lt nwS9
 have geTJ : n0 ≤ roRJ := Nat.le_trans Z0 nwSA
 have nTK : dE ≠ roRJ := own_lt_ne2 AE.lt nwSA
 have nTL : aLB ≠ roRJ := own_lt_ne2 FLF.lt nwSA
 have nTM : aLQ ≠ roRJ := own_lt_ne2 FLV.lt nwSA
 have nTN : aM6 ≠ roRJ := own_lt_ne2 FMO.lt nwSA
 have nTO : aMY ≠ roRJ := own_lt_ne2 FNH.lt nwSA
 have nTP : aNR ≠ roRJ := own_lt_ne2 FPB.lt nwSA
 have nTQ : aPL ≠ roRJ := own_lt_ne2 FQ6.lt nwSA
 have nTR : aQG ≠ roRJ := own_lt_ne2 AQD.lt nwSA
 have geTS : n0 ≤ baRK := Nat.le_trans Z0 nwSB
 have nTT : dE ≠ baRK := own_lt_ne2 AE.lt nwSB
 have nTU : aLB ≠ baRK := own_lt_ne2 FLF.lt nwSB
 have nTV : aLQ ≠ baRK := own_lt_ne2 FLV.lt nwSB
 have nTW : aM6 ≠ baRK := own_lt_ne2 FMO.lt nwSB
 have nTX : aMY ≠ baRK := own_lt_ne2 FNH.lt nwSB
 have nTY : aNR ≠ baRK := own_lt_ne2 FPB.lt nwSB
 have nTZ : aPL ≠ baRK := own_lt_ne2 FQ6.lt nwSB
 have nU0 : aQG ≠ baRK := own_lt_ne2 AQD.lt nwSB
 have geU1 : n0 ≤ pARL := Nat.le_trans Z0 nwSC
 have nU2 : dE ≠ pARL := own_lt_ne2 AE.lt nwSC
 have nU3 : aLB ≠ pARL := own_lt_ne2 FLF.lt nwSC
 have nU4 : aLQ ≠ pARL := own_lt_ne2 FLV.lt nwSC
 have nU5 : aM6 ≠ pARL := own_lt_ne2 FMO.lt nwSC
 have nU6 : aMY ≠ pARL := own_lt_ne2 FNH.lt nwSC
 have nU7 : aNR ≠ pARL := own_lt_ne2 FPB.lt nwSC
 have nU8 : aPL ≠ pARL := own_lt_ne2 FQ6.lt nwSC
 have nU9 : aQG ≠ pARL := own_lt_ne2 AQD.lt nwSC
 have geUA : n0 ≤ faRM := Nat.le_trans Z0 nwSD
 have nUB : dE ≠ faRM := own_lt_ne2 AE.lt nwSD
 have nUC : aLB ≠ faRM := own_lt_ne2 FLF.lt nwSD
 have nUD : aLQ ≠ faRM := own_lt_ne2 FLV.lt nwSD
 have nUE : aM6 ≠ faRM := own_lt_ne2 FMO.lt nwSD
 have nUF : aMY ≠ faRM := own_lt_ne2 FNH.lt nwSD
 have nUG : aNR ≠ faRM := own_lt_ne2 FPB.lt nwSD
 have nUH : aPL ≠ faRM := own_lt_ne2 FQ6.lt nwSD
 have nUI : aQG ≠ faRM := own_lt_ne2 AQD.lt nwSD
 have geUJ : n0 ≤ vaRN := Nat.le_trans Z0 nwSE
 have nUK : dE ≠ vaRN := own_lt_ne2 AE.lt nwSE
 have nUL : aLB ≠ vaRN := own_lt_ne2 FLF.lt nwSE
 have nUM : aLQ ≠ vaRN := own_lt_ne2 FLV.lt nwSE
 have nUN : aM6 ≠ vaRN := own_lt_ne2 FMO.lt nwSE
 have nUO : aMY ≠ vaRN := own_lt_ne2 FNH.lt nwSE
 have nUP : aNR ≠ vaRN := own_lt_ne2 FPB.lt nwSE
 have nUQ : aPL ≠ vaRN := own_lt_ne2 FQ6.lt nwSE
 have nUR : aQG ≠ vaRN := own_lt_ne2 AQD.lt nwSE
 replace Z0 := Nat.le_trans Z0 KRO.1
 replace O1 := O1.keep KRO (allS geQQ all0)
 replace AE := AE.keep KRO (ninS nQJ nin0)
 replace FLF := FLF.keep KRO (ninS nQK nin0)
 replace FLV := FLV.keep KRO (ninS nQL nin0)
 replace FMO := FMO.keep KRO (ninS nQM nin0)
 replace FNH := FNH.keep KRO (ninS nQN nin0)
 replace FPB := FPB.keep KRO (ninS nQO nin0)
 replace FQ6 := FQ6.keep KRO (ninS nQP nin0)
 replace AQD := AQD.keep KRO
 clear UnQR
 clear FQS
 clear FQT
 clear FQU
 clear FQV
 clear FQW
 clear FQX
 clear FQY
 clear FQZ
 clear FR0
 have kUS : own_G p e below E0 TR3 (mkF m 192 zz44 [(.ref aQG)]) := fun tQ kk => kR2 tQ (stRD.trans kk)
 clear kR2 stRD
 let zz45 : Array Slot := #[vi p0, vi p1, vi p2, vj p3, ss, vi p4, vi N, vi o0, vi o1, vi i0, vi i1, vi tg, vi nc, vj m0, ss, vj m1, ss, vd (own_entry i0), ss, vd (own_entry i1), ss, vd b0, ss, vd b1, ss, vr aLB, vr aLQ, vr aM6, vr aMY, vr aNR, vr aPL, vr aQG, uu, uu, uu, uu]
 have kUT : own_G p e below E0 TR3 (mkF m 202 zz45 [(.ref aLQ), (.ref aLB), (.double (FP.i2d p0)), (.ref aQG)]) := by
  intro tQ kk
  refine kUS tQ ?_
  refine XS.astore XR7.here hx rfl (hH at_192) rfl rfl (l' := zz45) rfl ?_
  refine XS.aload XR7.here hx rfl (hH at_194) rfl rfl ?_
  refine XS.iloadN XR7.here hx rfl (hH at_196) rfl ?_
  refine XS.i2dS XR7.here hx rfl (hH at_197) rfl rfl ?_
  refine XS.aload XR7.here hx rfl (hH at_198) rfl rfl ?_
  refine XS.aload XR7.here hx rfl (hH at_200) rfl rfl ?_
  exact kk
 clear kUS
 obtain ⟨cqV5, kqV6, qaV7, qbV8, qcV9⟩ := isOf hZ rfl AQD
 obtain ⟨_, _, ⟨TUU, LUV, kcUW, ncUX⟩, -, XUY, ⟨LcUZ, hQV0, lV1, yV2, zV3⟩, stV4⟩ := XR7.virtualBack hx (y := mn152) (z := mn152) hown (mvT hZ (tw171 hw)) (mvT hZ (tw172 hw)) (notFace_of_selects (args := #[]) (mvT hZ (tw174 hw))) (mvT hZ (tw174 hw)) (mvT hZ (tw173 hw)) (by decide) (backOf (W := 0) (rmCo0 l Z a0 hw [] aQG aLB aLQ alRH cARI roRJ baRK pARL faRM vaRN dE own_d16 own_i16 (FP.i2d p0) TR3.heap n0 Z0 AQD gRP gRQ gRR gRS gRT gRU gRV gRW gRX gRZ gS0 gRY O1 AE gS3 gS6 FLF FLV nT9 nTI nU9 (Ne.symm nQK) (Ne.symm nQL) (Ne.symm nQJ) nSF nSI (Ne.symm nT3) (Ne.symm nT4) (Ne.symm nT2) nSN (Ne.symm nTC) (Ne.symm nTD) (Ne.symm nTB) (Ne.symm nU3) (Ne.symm nU4) (Ne.symm nU2) geQQ geT1 geTA geU1 rfl rfl oD) hZ (tw175 hw) (tw9 hw) (by decide) (by decide)) qaV7 qcV9 (g := (mkF m 202 zz45 [(.ref aLQ), (.ref aLB), (.double (FP.i2d p0)), (.ref aQG)])) rfl (by rw [hml]; rfl) (Steps.refl _) (argsL := [(.double (FP.i2d p0)), (.ref aLB), (.ref aLQ)]) (rest := []) (lenOf pd_177 rfl) rfl (by show 2 * 0 + _ ≤ _; exact Nat.le_of_eq rfl) (hH at_202) (fun _ _ => ⟨rfl, rfl, (by decide : 62 + 4 ≤ _), (by decide : 592 + 21 ≤ _)⟩)
 dsimp only [Pt.U, Pt.locs, Pt.cells, Pt.slots] at XUY lV1 yV2 zV3 stV4 hQV0
 subst yV2 zV3
 obtain ⟨rVD, scVE, r1VF, r2VG, rfl, NVA, KVH, gVI, gVJ, gVK, gVL, gVM, gVN, gVO, gVP, gVQ, gVR, gVS, gVT, gVU, gVV, gVW, gVX, gVY, gVZ, gW0, gW1, nwW2, nwW3, nwW4, nwW5, nW6, nW7, nW8, nW9, nWA, nWB⟩ := hQV0
 have NWC : Fr n0 LUV := by rw [lV1]; exact Fr.app NT0 NVA
 clear lV1 NVA
 have geWD : n0 ≤ rVD := Nat.le_trans Z0 nwW2
 have nWE : dE ≠ rVD := own_lt_ne2 AE.lt nwW2
 have nWF : aLB ≠ rVD := own_lt_ne2 FLF.lt nwW2
 have nWG : aLQ ≠ rVD := own_lt_ne2 FLV.lt nwW2
 have nWH : aM6 ≠ rVD := own_lt_ne2 FMO.lt nwW2
 have nWI : aMY ≠ rVD := own_lt_ne2 FNH.lt nwW2
 have nWJ : aNR ≠ rVD := own_lt_ne2 FPB.lt nwW2
 have nWK : aPL ≠ rVD := own_lt_ne2 FQ6.lt nwW2
 have nWL : aQG ≠ rVD := own_lt_ne2 AQD.lt nwW2
 have nWM : alRH ≠ rVD := own_lt_ne2 gRX.lt nwW2
 have nWN : faRM ≠ rVD := own_lt_ne2 gS1.lt nwW2
 have nWO : cARI ≠ rVD := own_lt_ne2 gS3.lt nwW2
 have nWP : roRJ ≠ rVD := own_lt_ne2 gS4.lt nwW2
 have nWQ : baRK ≠ rVD := own_lt_ne2 gS5.lt nwW2
 have nWR : pARL ≠ rVD := own_lt_ne2 gS6.lt nwW2
 have nWS : vaRN ≠ rVD := own_lt_ne2 gS7.lt nwW2
 have geWT : n0 ≤ scVE := Nat.le_trans Z0 nwW3
 have nWU : dE ≠ scVE := own_lt_ne2 AE.lt nwW3
 have nWV : aLB ≠ scVE := own_lt_ne2 FLF.lt nwW3
 have nWW : aLQ ≠ scVE := own_lt_ne2 FLV.lt nwW3
 have nWX : aM6 ≠ scVE := own_lt_ne2 FMO.lt nwW3
 have nWY : aMY ≠ scVE := own_lt_ne2 FNH.lt nwW3
 have nWZ : aNR ≠ scVE := own_lt_ne2 FPB.lt nwW3
 have nX0 : aPL ≠ scVE := own_lt_ne2 FQ6.lt nwW3
 have nX1 : aQG ≠ scVE := own_lt_ne2 AQD.lt nwW3
 have nX2 : alRH ≠ scVE := own_lt_ne2 gRX.lt nwW3
 have nX3 : faRM ≠ scVE := own_lt_ne2 gS1.lt nwW3
 have nX4 : cARI ≠ scVE := own_lt_ne2 gS3.lt nwW3
 have nX5 : roRJ ≠ scVE := own_lt_ne2 gS4.lt nwW3
 have nX6 : baRK ≠ scVE := own_lt_ne2 gS5.lt nwW3
 have nX7 : pARL ≠ scVE := own_lt_ne2 gS6.lt nwW3
 have nX8 : vaRN ≠ scVE := own_lt_ne2 gS7.lt nwW3
 have geX9 : n0 ≤ r1VF := Nat.le_trans Z0 nwW4
 have nXA : dE ≠ r1VF := own_lt_ne2 AE.lt nwW4
 have nXB : aLB ≠ r1VF := own_lt_ne2 FLF.lt nwW4
 have nXC : aLQ ≠ r1VF := own_lt_ne2 FLV.lt nwW4
 have nXD : aM6 ≠ r1VF := own_lt_ne2 FMO.lt nwW4
 have nXE : aMY ≠ r1VF := own_lt_ne2 FNH.lt nwW4
 have nXF : aNR ≠ r1VF := own_lt_ne2 FPB.lt nwW4
 have nXG : aPL ≠ r1VF := own_lt_ne2 FQ6.lt nwW4
 have nXH : aQG ≠ r1VF := own_lt_ne2 AQD.lt nwW4
 have nXI : alRH ≠ r1VF := own_lt_ne2 gRX.lt nwW4
 have nXJ : faRM ≠ r1VF := own_lt_ne2 gS1.lt nwW4
 have nXK : cARI ≠ r1VF := own_lt_ne2 gS3.lt nwW4
 have nXL : roRJ ≠ r1VF := own_lt_ne2 gS4.lt nwW4
 have nXM : baRK ≠ r1VF := own_lt_ne2 gS5.lt nwW4
 have nXN : pARL ≠ r1VF := own_lt_ne2 gS6.lt nwW4
 have nXO : vaRN ≠ r1VF := own_lt_ne2 gS7.lt nwW4
 have geXP : n0 ≤ r2VG := Nat.le_trans Z0 nwW5
 have nXQ : dE ≠ r2VG := own_lt_ne2 AE.lt nwW5
 have nXR : aLB ≠ r2VG := own_lt_ne2 FLF.lt nwW5
 have nXS : aLQ ≠ r2VG := own_lt_ne2 FLV.lt nwW5
 have nXT : aM6 ≠ r2VG := own_lt_ne2 FMO.lt nwW5
 have nXU : aMY ≠ r2VG := own_lt_ne2 FNH.lt nwW5
 have nXV : aNR ≠ r2VG := own_lt_ne2 FPB.lt nwW5
 have nXW : aPL ≠ r2VG := own_lt_ne2 FQ6.lt nwW5
 have nXX : aQG ≠ r2VG := own_lt_ne2 AQD.lt nwW5
 have nXY : alRH ≠ r2VG := own_lt_ne2 gRX.lt nwW5
 have nXZ : faRM ≠ r2VG := own_lt_ne2 gS1.lt nwW5
 have nY0 : cARI ≠ r2VG := own_lt_ne2 gS3.lt nwW5
 have nY1 : roRJ ≠ r2VG := own_lt_ne2 gS4.lt nwW5
 have nY2 : baRK ≠ r2VG := own_lt_ne2 gS5.lt nwW5
 have nY3 : pARL ≠ r2VG := own_lt_ne2 gS6.lt nwW5
 have nY4 : vaRN ≠ r2VG := own_lt_ne2 gS7.lt nwW5
 replace Z0 := Nat.le_trans Z0 KVH.1
 replace O1 := O1.keep KVH (allS geQQ (allS geT1 (allS geTA (allS geU1 all0))))
 replace AE := AE.keep KVH (ninS nQJ (ninS nT2 (ninS nTB (ninS nU2 nin0))))
 replace FLF := FLF.keep KVH (ninS nQK (ninS nT3 (ninS nTC (ninS nU3 nin0))))
 replace FLV := FLV.keep KVH (ninS nQL (ninS nT4 (ninS nTD (ninS nU4 nin0))))
 replace FMO := FMO.keep KVH (ninS nQM (ninS nT5 (ninS nTE (ninS nU5 nin0))))
 replace FNH := FNH.keep KVH (ninS nQN (ninS nT6 (ninS nTF (ninS nU6 nin0))))
 replace FPB := FPB.keep KVH (ninS nQO (ninS nT7 (ninS nTG (ninS nU7 nin0))))
 replace FQ6 := FQ6.keep KVH (ninS nQP (ninS nT8 (ninS nTH (ninS nU8 nin0))))
 replace AQD := AQD.keep KVH
 clear gRP
 clear gRQ
 clear gRR
 clear gRS
 clear gRT
 clear gRU
 clear gRV
 clear gRW
 replace gRX := gRX.keep KVH
 clear gRY
 clear gRZ
 clear gS0
 replace gS1 := gS1.keep KVH
 replace gS2 := gS2.keep KVH (ninS (Ne.symm nUI) (ninS (Ne.symm nSJ) (ninS (Ne.symm nSO) (ninS (Ne.symm nSX) nin0))))
 clear gS3
 replace gS4 := gS4.keep KVH (ninS (Ne.symm nTR) (ninS (Ne.symm nSG) (ninS (Ne.symm nSL) (ninS nSR nin0))))
 replace gS5 := gS5.keep KVH (ninS (Ne.symm nU0) (ninS (Ne.symm nSH) (ninS (Ne.symm nSM) (ninS nSU nin0))))
 clear gS6
 replace gS7 := gS7.keep KVH (ninS (Ne.symm nUR) (ninS (Ne.symm nSK) (ninS (Ne.symm nSP) (ninS (Ne.symm nSY) nin0))))
 have kY5 : own_G p e below E0 TUU (mkF m 205 zz45 [(.int (0 : Int32))]) := fun tQ kk => kUT tQ (stV4.trans kk)
 clear kUT stV4
 have kY6 : own_G p e below E0 TUU (mkF m 214 zz45 [(.ref aLQ), (.ref aLB), (.double (FP.i2d p1)), (.ref aQG)]) := by
  intro tQ kk
  refine kY5 tQ ?_
  refine XT.pop XUY.here hx rfl (hH at_205) rfl rfl ?_
  refine XS.aload XUY.here hx rfl (hH at_206) rfl rfl ?_
  refine XS.iloadN XUY.here hx rfl (hH at_208) rfl ?_
  refine XS.i2dS XUY.here hx rfl (hH at_209) rfl rfl ?_
  refine XS.aload XUY.here hx rfl (hH at_210) rfl rfl ?_
  refine XS.aload XUY.here hx rfl (hH at_212) rfl rfl ?_
  exact kk
 clear kY5
 obtain ⟨cqYI, kqYJ, qaYK, qbYL, qcYM⟩ := isOf hZ rfl AQD
 obtain ⟨_, _, ⟨TY7, LY8, kcY9, ncYA⟩, -, XYB, ⟨LcYC, hQYD, lYE, yYF, zYG⟩, stYH⟩ := XUY.virtualBack hx (y := mn152) (z := mn152) hown (mvT hZ (tw171 hw)) (mvT hZ (tw172 hw)) (notFace_of_selects (args := #[]) (mvT hZ (tw174 hw))) (mvT hZ (tw174 hw)) (mvT hZ (tw173 hw)) (by decide) (backOf (W := 0) (rmCo1 l Z a0 hw [] aQG aLB aLQ alRH cARI roRJ baRK pARL faRM vaRN rVD scVE (own_d16.set ((0 : Int32)).toNatClampNeg (.double (FP.i2d p0))) (own_i16.set ((0 : Int32)).toNatClampNeg (.int (-1 : Int32))) (FP.i2d p1) TUU.heap n0 Z0 AQD gVI gVJ gVK gVL gVM gVN gVO gVP gRX gVQ gVR gVS gVT gVU gVV FLF FLV nT9 nTI nU9 nWL (Ne.symm nQK) (Ne.symm nQL) nSF nSI nWM (Ne.symm nT3) (Ne.symm nT4) nSN nWO (Ne.symm nTC) (Ne.symm nTD) nWR (Ne.symm nU3) (Ne.symm nU4) (Ne.symm nWF) (Ne.symm nWG) geQQ geT1 geTA geU1 geWD rfl rfl) hZ (tw175 hw) (tw9 hw) (by decide) (by decide)) qaYK qcYM (g := (mkF m 214 zz45 [(.ref aLQ), (.ref aLB), (.double (FP.i2d p1)), (.ref aQG)])) rfl (by rw [hml]; rfl) (Steps.refl _) (argsL := [(.double (FP.i2d p1)), (.ref aLB), (.ref aLQ)]) (rest := []) (lenOf pd_177 rfl) rfl (by show 2 * 0 + _ ≤ _; exact Nat.le_of_eq rfl) (hH at_214) (fun _ _ => ⟨rfl, rfl, (by decide : 66 + 3 ≤ _), (by decide : 613 + 11 ≤ _)⟩)
 dsimp only [Pt.U, Pt.locs, Pt.cells, Pt.slots] at XYB lYE yYF zYG stYH hQYD
 subst yYF zYG
 obtain ⟨scYQ, r1YR, r2YS, rfl, NYN, KYT, gYU, gYV, gYW, gYX, gYY, gYZ, gZ0, gZ1, gZ2, gZ3, gZ4, gZ5, gZ6, gZ7, gZ8, gZ9, gZA, gZB, gZC, gZD, nwZE, nwZF, nwZG, nZH, nZI, nZJ⟩ := hQYD
 have NZK : Fr n0 LY8 := by rw [lYE]; exact Fr.app NWC NYN
 clear lYE NYN
 have geZL : n0 ≤ scYQ := Nat.le_trans Z0 nwZE
 have nZM : aLB ≠ scYQ := own_lt_ne2 FLF.lt nwZE
 have nZN : aLQ ≠ scYQ := own_lt_ne2 FLV.lt nwZE
 have nZO : aM6 ≠ scYQ := own_lt_ne2 FMO.lt nwZE
 have nZP : aMY ≠ scYQ := own_lt_ne2 FNH.lt nwZE
 have nZQ : aNR ≠ scYQ := own_lt_ne2 FPB.lt nwZE
 have nZR : aPL ≠ scYQ := own_lt_ne2 FQ6.lt nwZE
 have nZS : aQG ≠ scYQ := own_lt_ne2 AQD.lt nwZE
 have nZT : alRH ≠ scYQ := own_lt_ne2 gRX.lt nwZE
 have nZU : faRM ≠ scYQ := own_lt_ne2 gS1.lt nwZE
 have nZV : roRJ ≠ scYQ := own_lt_ne2 gS4.lt nwZE
 have nZW : baRK ≠ scYQ := own_lt_ne2 gS5.lt nwZE
 have nZX : vaRN ≠ scYQ := own_lt_ne2 gS7.lt nwZE
 have nZY : rVD ≠ scYQ := own_lt_ne2 gVT.lt nwZE
 have nZZ : cARI ≠ scYQ := own_lt_ne2 gVU.lt nwZE
 have nJ00 : pARL ≠ scYQ := own_lt_ne2 gVV.lt nwZE
 have nJ01 : scVE ≠ scYQ := own_lt_ne2 gVW.lt nwZE
 have nJ02 : r1VF ≠ scYQ := own_lt_ne2 gW0.lt nwZE
 have nJ03 : r2VG ≠ scYQ := own_lt_ne2 gW1.lt nwZE
 have geJ04 : n0 ≤ r1YR := Nat.le_trans Z0 nwZF
 have nJ05 : aLB ≠ r1YR := own_lt_ne2 FLF.lt nwZF
 have nJ06 : aLQ ≠ r1YR := own_lt_ne2 FLV.lt nwZF
 have nJ07 : aM6 ≠ r1YR := own_lt_ne2 FMO.lt nwZF
 have nJ08 : aMY ≠ r1YR := own_lt_ne2 FNH.lt nwZF
 have nJ09 : aNR ≠ r1YR := own_lt_ne2 FPB.lt nwZF
 have nJ0A : aPL ≠ r1YR := own_lt_ne2 FQ6.lt nwZF
 have nJ0B : aQG ≠ r1YR := own_lt_ne2 AQD.lt nwZF
 have nJ0C : alRH ≠ r1YR := own_lt_ne2 gRX.lt nwZF
 have nJ0D : faRM ≠ r1YR := own_lt_ne2 gS1.lt nwZF
 have nJ0E : roRJ ≠ r1YR := own_lt_ne2 gS4.lt nwZF
 have nJ0F : baRK ≠ r1YR := own_lt_ne2 gS5.lt nwZF
 have nJ0G : vaRN ≠ r1YR := own_lt_ne2 gS7.lt nwZF
 have nJ0H : rVD ≠ r1YR := own_lt_ne2 gVT.lt nwZF
 have nJ0I : cARI ≠ r1YR := own_lt_ne2 gVU.lt nwZF
 have nJ0J : pARL ≠ r1YR := own_lt_ne2 gVV.lt nwZF
 have nJ0K : scVE ≠ r1YR := own_lt_ne2 gVW.lt nwZF
 have nJ0L : r1VF ≠ r1YR := own_lt_ne2 gW0.lt nwZF
 have nJ0M : r2VG ≠ r1YR := own_lt_ne2 gW1.lt nwZF
 have geJ0N : n0 ≤ r2YS := Nat.le_trans Z0 nwZG
 have nJ0O : aLB ≠ r2YS := own_lt_ne2 FLF.lt nwZG
 have nJ0P : aLQ ≠ r2YS := own_lt_ne2 FLV.lt nwZG
 have nJ0Q : aM6 ≠ r2YS := own_lt_ne2 FMO.lt nwZG
 have nJ0R : aMY ≠ r2YS := own_lt_ne2 FNH.lt nwZG
 have nJ0S : aNR ≠ r2YS := own_lt_ne2 FPB.lt nwZG
 have nJ0T : aPL ≠ r2YS := own_lt_ne2 FQ6.lt nwZG
 have nJ0U : aQG ≠ r2YS := own_lt_ne2 AQD.lt nwZG
 have nJ0V : alRH ≠ r2YS := own_lt_ne2 gRX.lt nwZG
 have nJ0W : faRM ≠ r2YS := own_lt_ne2 gS1.lt nwZG
 have nJ0X : roRJ ≠ r2YS := own_lt_ne2 gS4.lt nwZG
 have nJ0Y : baRK ≠ r2YS := own_lt_ne2 gS5.lt nwZG
 have nJ0Z : vaRN ≠ r2YS := own_lt_ne2 gS7.lt nwZG
 have nJ10 : rVD ≠ r2YS := own_lt_ne2 gVT.lt nwZG
 have nJ11 : cARI ≠ r2YS := own_lt_ne2 gVU.lt nwZG
 have nJ12 : pARL ≠ r2YS := own_lt_ne2 gVV.lt nwZG
 have nJ13 : scVE ≠ r2YS := own_lt_ne2 gVW.lt nwZG
 have nJ14 : r1VF ≠ r2YS := own_lt_ne2 gW0.lt nwZG
 have nJ15 : r2VG ≠ r2YS := own_lt_ne2 gW1.lt nwZG
 replace Z0 := Nat.le_trans Z0 KYT.1
 replace FLF := FLF.keep KYT (ninS nQK (ninS nT3 (ninS nTC (ninS nU3 (ninS nWF nin0)))))
 replace FLV := FLV.keep KYT (ninS nQL (ninS nT4 (ninS nTD (ninS nU4 (ninS nWG nin0)))))
 replace FMO := FMO.keep KYT (ninS nQM (ninS nT5 (ninS nTE (ninS nU5 (ninS nWH nin0)))))
 replace FNH := FNH.keep KYT (ninS nQN (ninS nT6 (ninS nTF (ninS nU6 (ninS nWI nin0)))))
 replace FPB := FPB.keep KYT (ninS nQO (ninS nT7 (ninS nTG (ninS nU7 (ninS nWJ nin0)))))
 replace FQ6 := FQ6.keep KYT (ninS nQP (ninS nT8 (ninS nTH (ninS nU8 (ninS nWK nin0)))))
 replace AQD := AQD.keep KYT
 replace gRX := gRX.keep KYT
 replace gS1 := gS1.keep KYT
 replace gS2 := gS2.keep KYT (ninS (Ne.symm nUI) (ninS (Ne.symm nSJ) (ninS (Ne.symm nSO) (ninS (Ne.symm nSX) (ninS nWN nin0)))))
 replace gS4 := gS4.keep KYT (ninS (Ne.symm nTR) (ninS (Ne.symm nSG) (ninS (Ne.symm nSL) (ninS nSR (ninS nWP nin0)))))
 replace gS5 := gS5.keep KYT (ninS (Ne.symm nU0) (ninS (Ne.symm nSH) (ninS (Ne.symm nSM) (ninS nSU (ninS nWQ nin0)))))
 replace gS7 := gS7.keep KYT (ninS (Ne.symm nUR) (ninS (Ne.symm nSK) (ninS (Ne.symm nSP) (ninS (Ne.symm nSY) (ninS nWS nin0)))))
 clear gVI
 clear gVJ
 clear gVK
 clear gVL
 clear gVM
 clear gVN
 clear gVO
 clear gVP
 clear gVQ
 clear gVR
 clear gVS
 clear gVT
 clear gVU
 clear gVV
 replace gVW := gVW.keep KYT
 replace gVX := gVX.keep KYT (ninS (Ne.symm nX1) (ninS (Ne.symm nX2) (ninS (Ne.symm nX4) (ninS (Ne.symm nX7) (ninS (Ne.symm nW6) nin0)))))
 replace gVY := gVY.keep KYT (ninS (Ne.symm nX1) (ninS (Ne.symm nX2) (ninS (Ne.symm nX4) (ninS (Ne.symm nX7) (ninS (Ne.symm nW6) nin0)))))
 replace gVZ := gVZ.keep KYT (ninS (Ne.symm nX1) (ninS (Ne.symm nX2) (ninS (Ne.symm nX4) (ninS (Ne.symm nX7) (ninS (Ne.symm nW6) nin0)))))
 replace gW0 := gW0.keep KYT (ninS (Ne.symm nXH) (ninS (Ne.symm nXI) (ninS (Ne.symm nXK) (ninS (Ne.symm nXN) (ninS (Ne.symm nW7) nin0)))))
 replace gW1 := gW1.keep KYT (ninS (Ne.symm nXX) (ninS (Ne.symm nXY) (ninS (Ne.symm nY0) (ninS (Ne.symm nY3) (ninS (Ne.symm nW8) nin0)))))
 have kJ16 : own_G p e below E0 TY7 (mkF m 217 zz45 [(.int (1 : Int32))]) := fun tQ kk => kY6 tQ (stYH.trans kk)
 clear kY6 stYH
 have kJ17 : own_G p e below E0 TY7 (mkF m 226 zz45 [(.ref aLQ), (.ref aLB), (.double (FP.i2d p2)), (.ref aQG)]) := by
  intro tQ kk
  refine kJ16 tQ ?_
  refine XT.pop XYB.here hx rfl (hH at_217) rfl rfl ?_
  refine XS.aload XYB.here hx rfl (hH at_218) rfl rfl ?_
  refine XS.iloadN XYB.here hx rfl (hH at_220) rfl ?_
  refine XS.i2dS XYB.here hx rfl (hH at_221) rfl rfl ?_
  refine XS.aload XYB.here hx rfl (hH at_222) rfl rfl ?_
  refine XS.aload XYB.here hx rfl (hH at_224) rfl rfl ?_
  exact kk
 clear kJ16
 obtain ⟨cqJ1J, kqJ1K, qaJ1L, qbJ1M, qcJ1N⟩ := isOf hZ rfl AQD
 obtain ⟨_, _, ⟨TJ18, LJ19, kcJ1A, ncJ1B⟩, -, XJ1C, ⟨LcJ1D, hQJ1E, lJ1F, yJ1G, zJ1H⟩, stJ1I⟩ := XYB.virtualBack hx (y := mn152) (z := mn152) hown (mvT hZ (tw171 hw)) (mvT hZ (tw172 hw)) (notFace_of_selects (args := #[]) (mvT hZ (tw174 hw))) (mvT hZ (tw174 hw)) (mvT hZ (tw173 hw)) (by decide) (backOf (W := 0) (rmCo2 l Z a0 hw [] aQG aLB aLQ alRH cARI roRJ baRK pARL faRM vaRN rVD scVE scYQ ((own_d16.set ((0 : Int32)).toNatClampNeg (.double (FP.i2d p0))).set ((1 : Int32)).toNatClampNeg (.double (FP.i2d p1))) ((own_i16.set ((0 : Int32)).toNatClampNeg (.int (-1 : Int32))).set ((1 : Int32)).toNatClampNeg (.int (-1 : Int32))) (FP.i2d p2) TY7.heap n0 Z0 AQD gYU gYV gYW gYX gYY gYZ gZ0 gZ1 gRX gZ2 gZ3 gZ4 gZ5 gZ6 gZ7 FLF FLV nT9 nTI nU9 nWL (Ne.symm nQK) (Ne.symm nQL) nSF nSI nWM (Ne.symm nT3) (Ne.symm nT4) nSN nWO (Ne.symm nTC) (Ne.symm nTD) nWR (Ne.symm nU3) (Ne.symm nU4) (Ne.symm nWF) (Ne.symm nWG) geQQ geT1 geTA geU1 geWD rfl rfl) hZ (tw175 hw) (tw9 hw) (by decide) (by decide)) qaJ1L qcJ1N (g := (mkF m 226 zz45 [(.ref aLQ), (.ref aLB), (.double (FP.i2d p2)), (.ref aQG)])) rfl (by rw [hml]; rfl) (Steps.refl _) (argsL := [(.double (FP.i2d p2)), (.ref aLB), (.ref aLQ)]) (rest := []) (lenOf pd_177 rfl) rfl (by show 2 * 0 + _ ≤ _; exact Nat.le_of_eq rfl) (hH at_226) (fun _ _ => ⟨rfl, rfl, (by decide : 69 + 3 ≤ _), (by decide : 624 + 11 ≤ _)⟩)
 dsimp only [Pt.U, Pt.locs, Pt.cells, Pt.slots] at XJ1C lJ1F yJ1G zJ1H stJ1I hQJ1E
 subst yJ1G zJ1H
 obtain ⟨scJ1R, r1J1S, r2J1T, rfl, NJ1O, KJ1U, gJ1V, gJ1W, gJ1X, gJ1Y, gJ1Z, gJ20, gJ21, gJ22, gJ23, gJ24, gJ25, gJ26, gJ27, gJ28, gJ29, gJ2A, gJ2B, gJ2C, gJ2D, gJ2E, nwJ2F, nwJ2G, nwJ2H, nJ2I, nJ2J, nJ2K⟩ := hQJ1E
 have NJ2L : Fr n0 LJ19 := by rw [lJ1F]; exact Fr.app NZK NJ1O
 clear lJ1F NJ1O
 have geJ2M : n0 ≤ scJ1R := Nat.le_trans Z0 nwJ2F
 have nJ2N : aLB ≠ scJ1R := own_lt_ne2 FLF.lt nwJ2F
 have nJ2O : aLQ ≠ scJ1R := own_lt_ne2 FLV.lt nwJ2F
 have nJ2P : aM6 ≠ scJ1R := own_lt_ne2 FMO.lt nwJ2F
 have nJ2Q : aMY ≠ scJ1R := own_lt_ne2 FNH.lt nwJ2F
 have nJ2R : aNR ≠ scJ1R := own_lt_ne2 FPB.lt nwJ2F
 have nJ2S : aPL ≠ scJ1R := own_lt_ne2 FQ6.lt nwJ2F
 have nJ2T : aQG ≠ scJ1R := own_lt_ne2 AQD.lt nwJ2F
 have nJ2U : alRH ≠ scJ1R := own_lt_ne2 gRX.lt nwJ2F
 have nJ2V : faRM ≠ scJ1R := own_lt_ne2 gS1.lt nwJ2F
 have nJ2W : roRJ ≠ scJ1R := own_lt_ne2 gS4.lt nwJ2F
 have nJ2X : baRK ≠ scJ1R := own_lt_ne2 gS5.lt nwJ2F
 have nJ2Y : vaRN ≠ scJ1R := own_lt_ne2 gS7.lt nwJ2F
 have nJ2Z : scVE ≠ scJ1R := own_lt_ne2 gVW.lt nwJ2F
 have nJ30 : r1VF ≠ scJ1R := own_lt_ne2 gW0.lt nwJ2F
 have nJ31 : r2VG ≠ scJ1R := own_lt_ne2 gW1.lt nwJ2F
 have nJ32 : rVD ≠ scJ1R := own_lt_ne2 gZ5.lt nwJ2F
 have nJ33 : cARI ≠ scJ1R := own_lt_ne2 gZ6.lt nwJ2F
 have nJ34 : pARL ≠ scJ1R := own_lt_ne2 gZ7.lt nwJ2F
 have nJ35 : scYQ ≠ scJ1R := own_lt_ne2 gZ8.lt nwJ2F
 have nJ36 : r1YR ≠ scJ1R := own_lt_ne2 gZC.lt nwJ2F
 have nJ37 : r2YS ≠ scJ1R := own_lt_ne2 gZD.lt nwJ2F
 have geJ38 : n0 ≤ r1J1S := Nat.le_trans Z0 nwJ2G
 have nJ39 : aLB ≠ r1J1S := own_lt_ne2 FLF.lt nwJ2G
 have nJ3A : aLQ ≠ r1J1S := own_lt_ne2 FLV.lt nwJ2G
 have nJ3B : aM6 ≠ r1J1S := own_lt_ne2 FMO.lt nwJ2G
 have nJ3C : aMY ≠ r1J1S := own_lt_ne2 FNH.lt nwJ2G
 have nJ3D : aNR ≠ r1J1S := own_lt_ne2 FPB.lt nwJ2G
 have nJ3E : aPL ≠ r1J1S := own_lt_ne2 FQ6.lt nwJ2G
 have nJ3F : aQG ≠ r1J1S := own_lt_ne2 AQD.lt nwJ2G
 have nJ3G : alRH ≠ r1J1S := own_lt_ne2 gRX.lt nwJ2G
 have nJ3H : faRM ≠ r1J1S := own_lt_ne2 gS1.lt nwJ2G
 have nJ3I : roRJ ≠ r1J1S := own_lt_ne2 gS4.lt nwJ2G
 have nJ3J : baRK ≠ r1J1S := own_lt_ne2 gS5.lt nwJ2G
 have nJ3K : vaRN ≠ r1J1S := own_lt_ne2 gS7.lt nwJ2G
 have nJ3L : scVE ≠ r1J1S := own_lt_ne2 gVW.lt nwJ2G
 have nJ3M : r1VF ≠ r1J1S := own_lt_ne2 gW0.lt nwJ2G
 have nJ3N : r2VG ≠ r1J1S := own_lt_ne2 gW1.lt nwJ2G
 have nJ3O : rVD ≠ r1J1S := own_lt_ne2 gZ5.lt nwJ2G
 have nJ3P : cARI ≠ r1J1S := own_lt_ne2 gZ6.lt nwJ2G
 have nJ3Q : pARL ≠ r1J1S := own_lt_ne2 gZ7.lt nwJ2G
 have nJ3R : scYQ ≠ r1J1S := own_lt_ne2 gZ8.lt nwJ2G
 have nJ3S : r1YR ≠ r1J1S := own_lt_ne2 gZC.lt nwJ2G
 have nJ3T : r2YS ≠ r1J1S := own_lt_ne2 gZD.lt nwJ2G
 have geJ3U : n0 ≤ r2J1T := Nat.le_trans Z0 nwJ2H
 have nJ3V : aLB ≠ r2J1T := own_lt_ne2 FLF.lt nwJ2H
 have nJ3W : aLQ ≠ r2J1T := own_lt_ne2 FLV.lt nwJ2H
 have nJ3X : aM6 ≠ r2J1T := own_lt_ne2 FMO.lt nwJ2H
 have nJ3Y : aMY ≠ r2J1T := own_lt_ne2 FNH.lt nwJ2H
 have nJ3Z : aNR ≠ r2J1T := own_lt_ne2 FPB.lt nwJ2H
 have nJ40 : aPL ≠ r2J1T := own_lt_ne2 FQ6.lt nwJ2H
 have nJ41 : aQG ≠ r2J1T := own_lt_ne2 AQD.lt nwJ2H
 have nJ42 : alRH ≠ r2J1T := own_lt_ne2 gRX.lt nwJ2H
 have nJ43 : faRM ≠ r2J1T := own_lt_ne2 gS1.lt nwJ2H
 have nJ44 : roRJ ≠ r2J1T := own_lt_ne2 gS4.lt nwJ2H
 have nJ45 : baRK ≠ r2J1T := own_lt_ne2 gS5.lt nwJ2H
 have nJ46 : vaRN ≠ r2J1T := own_lt_ne2 gS7.lt nwJ2H
 have nJ47 : scVE ≠ r2J1T := own_lt_ne2 gVW.lt nwJ2H
 have nJ48 : r1VF ≠ r2J1T := own_lt_ne2 gW0.lt nwJ2H
 have nJ49 : r2VG ≠ r2J1T := own_lt_ne2 gW1.lt nwJ2H
 have nJ4A : rVD ≠ r2J1T := own_lt_ne2 gZ5.lt nwJ2H
 have nJ4B : cARI ≠ r2J1T := own_lt_ne2 gZ6.lt nwJ2H
 have nJ4C : pARL ≠ r2J1T := own_lt_ne2 gZ7.lt nwJ2H
 have nJ4D : scYQ ≠ r2J1T := own_lt_ne2 gZ8.lt nwJ2H
 have nJ4E : r1YR ≠ r2J1T := own_lt_ne2 gZC.lt nwJ2H
 have nJ4F : r2YS ≠ r2J1T := own_lt_ne2 gZD.lt nwJ2H
 replace Z0 := Nat.le_trans Z0 KJ1U.1
 replace FLF := FLF.keep KJ1U (ninS nQK (ninS nT3 (ninS nTC (ninS nU3 (ninS nWF nin0)))))
 replace FLV := FLV.keep KJ1U (ninS nQL (ninS nT4 (ninS nTD (ninS nU4 (ninS nWG nin0)))))
 replace FMO := FMO.keep KJ1U (ninS nQM (ninS nT5 (ninS nTE (ninS nU5 (ninS nWH nin0)))))
 replace FNH := FNH.keep KJ1U (ninS nQN (ninS nT6 (ninS nTF (ninS nU6 (ninS nWI nin0)))))
 replace FPB := FPB.keep KJ1U (ninS nQO (ninS nT7 (ninS nTG (ninS nU7 (ninS nWJ nin0)))))
 replace FQ6 := FQ6.keep KJ1U (ninS nQP (ninS nT8 (ninS nTH (ninS nU8 (ninS nWK nin0)))))
 replace AQD := AQD.keep KJ1U
 replace gRX := gRX.keep KJ1U
 replace gS1 := gS1.keep KJ1U
 replace gS2 := gS2.keep KJ1U (ninS (Ne.symm nUI) (ninS (Ne.symm nSJ) (ninS (Ne.symm nSO) (ninS (Ne.symm nSX) (ninS nWN nin0)))))
 replace gS4 := gS4.keep KJ1U (ninS (Ne.symm nTR) (ninS (Ne.symm nSG) (ninS (Ne.symm nSL) (ninS nSR (ninS nWP nin0)))))
 replace gS5 := gS5.keep KJ1U (ninS (Ne.symm nU0) (ninS (Ne.symm nSH) (ninS (Ne.symm nSM) (ninS nSU (ninS nWQ nin0)))))
 replace gS7 := gS7.keep KJ1U (ninS (Ne.symm nUR) (ninS (Ne.symm nSK) (ninS (Ne.symm nSP) (ninS (Ne.symm nSY) (ninS nWS nin0)))))
 replace gVW := gVW.keep KJ1U
 replace gVX := gVX.keep KJ1U (ninS (Ne.symm nX1) (ninS (Ne.symm nX2) (ninS (Ne.symm nX4) (ninS (Ne.symm nX7) (ninS (Ne.symm nW6) nin0)))))
 replace gVY := gVY.keep KJ1U (ninS (Ne.symm nX1) (ninS (Ne.symm nX2) (ninS (Ne.symm nX4) (ninS (Ne.symm nX7) (ninS (Ne.symm nW6) nin0)))))
 replace gVZ := gVZ.keep KJ1U (ninS (Ne.symm nX1) (ninS (Ne.symm nX2) (ninS (Ne.symm nX4) (ninS (Ne.symm nX7) (ninS (Ne.symm nW6) nin0)))))
 replace gW0 := gW0.keep KJ1U (ninS (Ne.symm nXH) (ninS (Ne.symm nXI) (ninS (Ne.symm nXK) (ninS (Ne.symm nXN) (ninS (Ne.symm nW7) nin0)))))
 replace gW1 := gW1.keep KJ1U (ninS (Ne.symm nXX) (ninS (Ne.symm nXY) (ninS (Ne.symm nY0) (ninS (Ne.symm nY3) (ninS (Ne.symm nW8) nin0)))))
 clear gYU
 clear gYV
 clear gYW
 clear gYX
 clear gYY
 clear gYZ
 clear gZ0
 clear gZ1
 clear gZ2
 clear gZ3
 clear gZ4
 clear gZ5
 clear gZ6
 clear gZ7
 replace gZ8 := gZ8.keep KJ1U
 replace gZ9 := gZ9.keep KJ1U (ninS (Ne.symm nZS) (ninS (Ne.symm nZT) (ninS (Ne.symm nZZ) (ninS (Ne.symm nJ00) (ninS (Ne.symm nZY) nin0)))))
 replace gZA := gZA.keep KJ1U (ninS (Ne.symm nZS) (ninS (Ne.symm nZT) (ninS (Ne.symm nZZ) (ninS (Ne.symm nJ00) (ninS (Ne.symm nZY) nin0)))))
 replace gZB := gZB.keep KJ1U (ninS (Ne.symm nZS) (ninS (Ne.symm nZT) (ninS (Ne.symm nZZ) (ninS (Ne.symm nJ00) (ninS (Ne.symm nZY) nin0)))))
 replace gZC := gZC.keep KJ1U (ninS (Ne.symm nJ0B) (ninS (Ne.symm nJ0C) (ninS (Ne.symm nJ0I) (ninS (Ne.symm nJ0J) (ninS (Ne.symm nJ0H) nin0)))))
 replace gZD := gZD.keep KJ1U (ninS (Ne.symm nJ0U) (ninS (Ne.symm nJ0V) (ninS (Ne.symm nJ11) (ninS (Ne.symm nJ12) (ninS (Ne.symm nJ10) nin0)))))
 have kJ4G : own_G p e below E0 TJ18 (mkF m 229 zz45 [(.int (2 : Int32))]) := fun tQ kk => kJ17 tQ (stJ1I.trans kk)
 clear kJ17 stJ1I
 obtain ⟨xo, ra, sa, xp, rb, sb, hxo, hxp, FJ4H, FJ4I, FJ4J, FJ4K, FJ4L, FJ4M, FJ4N, FJ4O, FJ4P, FJ4Q, FJ4R, FJ4S, ge_xo, ge_ra, ge_sa, ge_xp, ge_rb, ge_sb, nJ4T, nJ4U, nJ4V, nJ4W, nJ4X, nJ4Y, nJ4Z, nJ50, nJ51, nJ52, nJ53, nJ54, nJ55, nJ56, nJ57, nJ58, nJ59, nJ5A, nJ5B, nJ5C, nJ5D, nJ5E, nJ5F, nJ5G, nJ5H, nJ5I, nJ5J, nJ5K, nJ5L, nJ5M, nJ5N, nJ5O, nJ5P, nJ5Q, nJ5R, nJ5S, nJ5T, nJ5U, nJ5V, nJ5W, nJ5X, nJ5Y, nJ5Z, nJ60, nJ61, nJ62, nJ63, nJ64, nJ65, nJ66, nJ67, nJ68, nJ69, nJ6A, nJ6B, nJ6C, nJ6D, nJ6E, nJ6F, nJ6G, nJ6H, nJ6I, nJ6J, nJ6K, nJ6L, nJ6M, nJ6N, nJ6O, nJ6P, nJ6Q, nJ6R, nJ6S, nJ6T, nJ6U, nJ6V, nJ6W, nJ6X, nJ6Y, nJ6Z, nJ70, nJ71, nJ72, nJ73, nJ74, nJ75, nJ76, nJ77, nJ78, nJ79, nJ7A, nJ7B, nJ7C, nJ7D⟩ : ∃ (xo ra sa xp rb sb : Addr), (([.ref scVE, .ref scYQ, .ref scJ1R, .null, .null, .null, .null, .null, .null, .null] : List Value)[o0.toNatClampNeg]? = some (.ref xo)) ∧ (([.ref scVE, .ref scYQ, .ref scJ1R, .null, .null, .null, .null, .null, .null, .null] : List Value)[o1.toNatClampNeg]? = some (.ref xp)) ∧ (xa123 Z TJ18.heap xo) ∧ (fd120 Z TJ18.heap xo (.ref ra)) ∧ (fd121 Z TJ18.heap xo (.ref sa)) ∧ (fd122 Z TJ18.heap xo (.int (0 : Int32))) ∧ (own_A Z TJ18.heap ra .int own_i4) ∧ (own_A Z TJ18.heap sa .double own_d4) ∧ (xa123 Z TJ18.heap xp) ∧ (fd120 Z TJ18.heap xp (.ref rb)) ∧ (fd121 Z TJ18.heap xp (.ref sb)) ∧ (fd122 Z TJ18.heap xp (.int (0 : Int32))) ∧ (own_A Z TJ18.heap rb .int own_i4) ∧ (own_A Z TJ18.heap sb .double own_d4) ∧ (n0 ≤ xo) ∧ (n0 ≤ ra) ∧ (n0 ≤ sa) ∧ (n0 ≤ xp) ∧ (n0 ≤ rb) ∧ (n0 ≤ sb) ∧ (xo ≠ aM6) ∧ (xo ≠ aMY) ∧ (xo ≠ aNR) ∧ (xo ≠ aPL) ∧ (xo ≠ aQG) ∧ (xo ≠ alRH) ∧ (xo ≠ faRM) ∧ (xo ≠ roRJ) ∧ (xo ≠ baRK) ∧ (xo ≠ vaRN) ∧ (xo ≠ rVD) ∧ (xo ≠ cARI) ∧ (xo ≠ pARL) ∧ (ra ≠ aM6) ∧ (ra ≠ aMY) ∧ (ra ≠ aNR) ∧ (ra ≠ aPL) ∧ (ra ≠ aQG) ∧ (ra ≠ alRH) ∧ (ra ≠ faRM) ∧ (ra ≠ roRJ) ∧ (ra ≠ baRK) ∧ (ra ≠ vaRN) ∧ (ra ≠ rVD) ∧ (ra ≠ cARI) ∧ (ra ≠ pARL) ∧ (sa ≠ aM6) ∧ (sa ≠ aMY) ∧ (sa ≠ aNR) ∧ (sa ≠ aPL) ∧ (sa ≠ aQG) ∧ (sa ≠ alRH) ∧ (sa ≠ faRM) ∧ (sa ≠ roRJ) ∧ (sa ≠ baRK) ∧ (sa ≠ vaRN) ∧ (sa ≠ rVD) ∧ (sa ≠ cARI) ∧ (sa ≠ pARL) ∧ (xp ≠ aM6) ∧ (xp ≠ aMY) ∧ (xp ≠ aNR) ∧ (xp ≠ aPL) ∧ (xp ≠ aQG) ∧ (xp ≠ alRH) ∧ (xp ≠ faRM) ∧ (xp ≠ roRJ) ∧ (xp ≠ baRK) ∧ (xp ≠ vaRN) ∧ (xp ≠ rVD) ∧ (xp ≠ cARI) ∧ (xp ≠ pARL) ∧ (rb ≠ aM6) ∧ (rb ≠ aMY) ∧ (rb ≠ aNR) ∧ (rb ≠ aPL) ∧ (rb ≠ aQG) ∧ (rb ≠ alRH) ∧ (rb ≠ faRM) ∧ (rb ≠ roRJ) ∧ (rb ≠ baRK) ∧ (rb ≠ vaRN) ∧ (rb ≠ rVD) ∧ (rb ≠ cARI) ∧ (rb ≠ pARL) ∧ (sb ≠ aM6) ∧ (sb ≠ aMY) ∧ (sb ≠ aNR) ∧ (sb ≠ aPL) ∧ (sb ≠ aQG) ∧ (sb ≠ alRH) ∧ (sb ≠ faRM) ∧ (sb ≠ roRJ) ∧ (sb ≠ baRK) ∧ (sb ≠ vaRN) ∧ (sb ≠ rVD) ∧ (sb ≠ cARI) ∧ (sb ≠ pARL) ∧ (xo ≠ ra) ∧ (xo ≠ sa) ∧ (xo ≠ xp) ∧ (xo ≠ rb) ∧ (xo ≠ sb) ∧ (ra ≠ sa) ∧ (ra ≠ xp) ∧ (ra ≠ rb) ∧ (ra ≠ sb) ∧ (sa ≠ xp) ∧ (sa ≠ rb) ∧ (sa ≠ sb) ∧ (xp ≠ rb) ∧ (xp ≠ sb) ∧ (rb ≠ sb) := by
  rcases own_perm ho0 ho1 with ⟨q0, q1⟩ | ⟨q0, q1⟩ | ⟨q0, q1⟩ | ⟨q0, q1⟩ | ⟨q0, q1⟩ | ⟨q0, q1⟩
  · exact ⟨scVE, r1VF, r2VG, scYQ, r1YR, r2YS, (by rw [q0]; rfl), (by rw [q1]; rfl), gVW, gVX, gVY, gVZ, gW0, gW1, gZ8, gZ9, gZA, gZB, gZC, gZD, geWT, geX9, geXP, geZL, geJ04, geJ0N, (Ne.symm nWX), (Ne.symm nWY), (Ne.symm nWZ), (Ne.symm nX0), (Ne.symm nX1), (Ne.symm nX2), (Ne.symm nX3), (Ne.symm nX5), (Ne.symm nX6), (Ne.symm nX8), (Ne.symm nW6), (Ne.symm nX4), (Ne.symm nX7), (Ne.symm nXD), (Ne.symm nXE), (Ne.symm nXF), (Ne.symm nXG), (Ne.symm nXH), (Ne.symm nXI), (Ne.symm nXJ), (Ne.symm nXL), (Ne.symm nXM), (Ne.symm nXO), (Ne.symm nW7), (Ne.symm nXK), (Ne.symm nXN), (Ne.symm nXT), (Ne.symm nXU), (Ne.symm nXV), (Ne.symm nXW), (Ne.symm nXX), (Ne.symm nXY), (Ne.symm nXZ), (Ne.symm nY1), (Ne.symm nY2), (Ne.symm nY4), (Ne.symm nW8), (Ne.symm nY0), (Ne.symm nY3), (Ne.symm nZO), (Ne.symm nZP), (Ne.symm nZQ), (Ne.symm nZR), (Ne.symm nZS), (Ne.symm nZT), (Ne.symm nZU), (Ne.symm nZV), (Ne.symm nZW), (Ne.symm nZX), (Ne.symm nZY), (Ne.symm nZZ), (Ne.symm nJ00), (Ne.symm nJ07), (Ne.symm nJ08), (Ne.symm nJ09), (Ne.symm nJ0A), (Ne.symm nJ0B), (Ne.symm nJ0C), (Ne.symm nJ0D), (Ne.symm nJ0E), (Ne.symm nJ0F), (Ne.symm nJ0G), (Ne.symm nJ0H), (Ne.symm nJ0I), (Ne.symm nJ0J), (Ne.symm nJ0Q), (Ne.symm nJ0R), (Ne.symm nJ0S), (Ne.symm nJ0T), (Ne.symm nJ0U), (Ne.symm nJ0V), (Ne.symm nJ0W), (Ne.symm nJ0X), (Ne.symm nJ0Y), (Ne.symm nJ0Z), (Ne.symm nJ10), (Ne.symm nJ11), (Ne.symm nJ12), nW9, nWA, nJ01, nJ0K, nJ13, nWB, nJ02, nJ0L, nJ14, nJ03, nJ0M, nJ15, nZH, nZI, nZJ⟩
  · exact ⟨scVE, r1VF, r2VG, scJ1R, r1J1S, r2J1T, (by rw [q0]; rfl), (by rw [q1]; rfl), gVW, gVX, gVY, gVZ, gW0, gW1, gJ29, gJ2A, gJ2B, gJ2C, gJ2D, gJ2E, geWT, geX9, geXP, geJ2M, geJ38, geJ3U, (Ne.symm nWX), (Ne.symm nWY), (Ne.symm nWZ), (Ne.symm nX0), (Ne.symm nX1), (Ne.symm nX2), (Ne.symm nX3), (Ne.symm nX5), (Ne.symm nX6), (Ne.symm nX8), (Ne.symm nW6), (Ne.symm nX4), (Ne.symm nX7), (Ne.symm nXD), (Ne.symm nXE), (Ne.symm nXF), (Ne.symm nXG), (Ne.symm nXH), (Ne.symm nXI), (Ne.symm nXJ), (Ne.symm nXL), (Ne.symm nXM), (Ne.symm nXO), (Ne.symm nW7), (Ne.symm nXK), (Ne.symm nXN), (Ne.symm nXT), (Ne.symm nXU), (Ne.symm nXV), (Ne.symm nXW), (Ne.symm nXX), (Ne.symm nXY), (Ne.symm nXZ), (Ne.symm nY1), (Ne.symm nY2), (Ne.symm nY4), (Ne.symm nW8), (Ne.symm nY0), (Ne.symm nY3), (Ne.symm nJ2P), (Ne.symm nJ2Q), (Ne.symm nJ2R), (Ne.symm nJ2S), (Ne.symm nJ2T), (Ne.symm nJ2U), (Ne.symm nJ2V), (Ne.symm nJ2W), (Ne.symm nJ2X), (Ne.symm nJ2Y), (Ne.symm nJ32), (Ne.symm nJ33), (Ne.symm nJ34), (Ne.symm nJ3B), (Ne.symm nJ3C), (Ne.symm nJ3D), (Ne.symm nJ3E), (Ne.symm nJ3F), (Ne.symm nJ3G), (Ne.symm nJ3H), (Ne.symm nJ3I), (Ne.symm nJ3J), (Ne.symm nJ3K), (Ne.symm nJ3O), (Ne.symm nJ3P), (Ne.symm nJ3Q), (Ne.symm nJ3X), (Ne.symm nJ3Y), (Ne.symm nJ3Z), (Ne.symm nJ40), (Ne.symm nJ41), (Ne.symm nJ42), (Ne.symm nJ43), (Ne.symm nJ44), (Ne.symm nJ45), (Ne.symm nJ46), (Ne.symm nJ4A), (Ne.symm nJ4B), (Ne.symm nJ4C), nW9, nWA, nJ2Z, nJ3L, nJ47, nWB, nJ30, nJ3M, nJ48, nJ31, nJ3N, nJ49, nJ2I, nJ2J, nJ2K⟩
  · exact ⟨scYQ, r1YR, r2YS, scVE, r1VF, r2VG, (by rw [q0]; rfl), (by rw [q1]; rfl), gZ8, gZ9, gZA, gZB, gZC, gZD, gVW, gVX, gVY, gVZ, gW0, gW1, geZL, geJ04, geJ0N, geWT, geX9, geXP, (Ne.symm nZO), (Ne.symm nZP), (Ne.symm nZQ), (Ne.symm nZR), (Ne.symm nZS), (Ne.symm nZT), (Ne.symm nZU), (Ne.symm nZV), (Ne.symm nZW), (Ne.symm nZX), (Ne.symm nZY), (Ne.symm nZZ), (Ne.symm nJ00), (Ne.symm nJ07), (Ne.symm nJ08), (Ne.symm nJ09), (Ne.symm nJ0A), (Ne.symm nJ0B), (Ne.symm nJ0C), (Ne.symm nJ0D), (Ne.symm nJ0E), (Ne.symm nJ0F), (Ne.symm nJ0G), (Ne.symm nJ0H), (Ne.symm nJ0I), (Ne.symm nJ0J), (Ne.symm nJ0Q), (Ne.symm nJ0R), (Ne.symm nJ0S), (Ne.symm nJ0T), (Ne.symm nJ0U), (Ne.symm nJ0V), (Ne.symm nJ0W), (Ne.symm nJ0X), (Ne.symm nJ0Y), (Ne.symm nJ0Z), (Ne.symm nJ10), (Ne.symm nJ11), (Ne.symm nJ12), (Ne.symm nWX), (Ne.symm nWY), (Ne.symm nWZ), (Ne.symm nX0), (Ne.symm nX1), (Ne.symm nX2), (Ne.symm nX3), (Ne.symm nX5), (Ne.symm nX6), (Ne.symm nX8), (Ne.symm nW6), (Ne.symm nX4), (Ne.symm nX7), (Ne.symm nXD), (Ne.symm nXE), (Ne.symm nXF), (Ne.symm nXG), (Ne.symm nXH), (Ne.symm nXI), (Ne.symm nXJ), (Ne.symm nXL), (Ne.symm nXM), (Ne.symm nXO), (Ne.symm nW7), (Ne.symm nXK), (Ne.symm nXN), (Ne.symm nXT), (Ne.symm nXU), (Ne.symm nXV), (Ne.symm nXW), (Ne.symm nXX), (Ne.symm nXY), (Ne.symm nXZ), (Ne.symm nY1), (Ne.symm nY2), (Ne.symm nY4), (Ne.symm nW8), (Ne.symm nY0), (Ne.symm nY3), nZH, nZI, (Ne.symm nJ01), (Ne.symm nJ02), (Ne.symm nJ03), nZJ, (Ne.symm nJ0K), (Ne.symm nJ0L), (Ne.symm nJ0M), (Ne.symm nJ13), (Ne.symm nJ14), (Ne.symm nJ15), nW9, nWA, nWB⟩
  · exact ⟨scYQ, r1YR, r2YS, scJ1R, r1J1S, r2J1T, (by rw [q0]; rfl), (by rw [q1]; rfl), gZ8, gZ9, gZA, gZB, gZC, gZD, gJ29, gJ2A, gJ2B, gJ2C, gJ2D, gJ2E, geZL, geJ04, geJ0N, geJ2M, geJ38, geJ3U, (Ne.symm nZO), (Ne.symm nZP), (Ne.symm nZQ), (Ne.symm nZR), (Ne.symm nZS), (Ne.symm nZT), (Ne.symm nZU), (Ne.symm nZV), (Ne.symm nZW), (Ne.symm nZX), (Ne.symm nZY), (Ne.symm nZZ), (Ne.symm nJ00), (Ne.symm nJ07), (Ne.symm nJ08), (Ne.symm nJ09), (Ne.symm nJ0A), (Ne.symm nJ0B), (Ne.symm nJ0C), (Ne.symm nJ0D), (Ne.symm nJ0E), (Ne.symm nJ0F), (Ne.symm nJ0G), (Ne.symm nJ0H), (Ne.symm nJ0I), (Ne.symm nJ0J), (Ne.symm nJ0Q), (Ne.symm nJ0R), (Ne.symm nJ0S), (Ne.symm nJ0T), (Ne.symm nJ0U), (Ne.symm nJ0V), (Ne.symm nJ0W), (Ne.symm nJ0X), (Ne.symm nJ0Y), (Ne.symm nJ0Z), (Ne.symm nJ10), (Ne.symm nJ11), (Ne.symm nJ12), (Ne.symm nJ2P), (Ne.symm nJ2Q), (Ne.symm nJ2R), (Ne.symm nJ2S), (Ne.symm nJ2T), (Ne.symm nJ2U), (Ne.symm nJ2V), (Ne.symm nJ2W), (Ne.symm nJ2X), (Ne.symm nJ2Y), (Ne.symm nJ32), (Ne.symm nJ33), (Ne.symm nJ34), (Ne.symm nJ3B), (Ne.symm nJ3C), (Ne.symm nJ3D), (Ne.symm nJ3E), (Ne.symm nJ3F), (Ne.symm nJ3G), (Ne.symm nJ3H), (Ne.symm nJ3I), (Ne.symm nJ3J), (Ne.symm nJ3K), (Ne.symm nJ3O), (Ne.symm nJ3P), (Ne.symm nJ3Q), (Ne.symm nJ3X), (Ne.symm nJ3Y), (Ne.symm nJ3Z), (Ne.symm nJ40), (Ne.symm nJ41), (Ne.symm nJ42), (Ne.symm nJ43), (Ne.symm nJ44), (Ne.symm nJ45), (Ne.symm nJ46), (Ne.symm nJ4A), (Ne.symm nJ4B), (Ne.symm nJ4C), nZH, nZI, nJ35, nJ3R, nJ4D, nZJ, nJ36, nJ3S, nJ4E, nJ37, nJ3T, nJ4F, nJ2I, nJ2J, nJ2K⟩
  · exact ⟨scJ1R, r1J1S, r2J1T, scVE, r1VF, r2VG, (by rw [q0]; rfl), (by rw [q1]; rfl), gJ29, gJ2A, gJ2B, gJ2C, gJ2D, gJ2E, gVW, gVX, gVY, gVZ, gW0, gW1, geJ2M, geJ38, geJ3U, geWT, geX9, geXP, (Ne.symm nJ2P), (Ne.symm nJ2Q), (Ne.symm nJ2R), (Ne.symm nJ2S), (Ne.symm nJ2T), (Ne.symm nJ2U), (Ne.symm nJ2V), (Ne.symm nJ2W), (Ne.symm nJ2X), (Ne.symm nJ2Y), (Ne.symm nJ32), (Ne.symm nJ33), (Ne.symm nJ34), (Ne.symm nJ3B), (Ne.symm nJ3C), (Ne.symm nJ3D), (Ne.symm nJ3E), (Ne.symm nJ3F), (Ne.symm nJ3G), (Ne.symm nJ3H), (Ne.symm nJ3I), (Ne.symm nJ3J), (Ne.symm nJ3K), (Ne.symm nJ3O), (Ne.symm nJ3P), (Ne.symm nJ3Q), (Ne.symm nJ3X), (Ne.symm nJ3Y), (Ne.symm nJ3Z), (Ne.symm nJ40), (Ne.symm nJ41), (Ne.symm nJ42), (Ne.symm nJ43), (Ne.symm nJ44), (Ne.symm nJ45), (Ne.symm nJ46), (Ne.symm nJ4A), (Ne.symm nJ4B), (Ne.symm nJ4C), (Ne.symm nWX), (Ne.symm nWY), (Ne.symm nWZ), (Ne.symm nX0), (Ne.symm nX1), (Ne.symm nX2), (Ne.symm nX3), (Ne.symm nX5), (Ne.symm nX6), (Ne.symm nX8), (Ne.symm nW6), (Ne.symm nX4), (Ne.symm nX7), (Ne.symm nXD), (Ne.symm nXE), (Ne.symm nXF), (Ne.symm nXG), (Ne.symm nXH), (Ne.symm nXI), (Ne.symm nXJ), (Ne.symm nXL), (Ne.symm nXM), (Ne.symm nXO), (Ne.symm nW7), (Ne.symm nXK), (Ne.symm nXN), (Ne.symm nXT), (Ne.symm nXU), (Ne.symm nXV), (Ne.symm nXW), (Ne.symm nXX), (Ne.symm nXY), (Ne.symm nXZ), (Ne.symm nY1), (Ne.symm nY2), (Ne.symm nY4), (Ne.symm nW8), (Ne.symm nY0), (Ne.symm nY3), nJ2I, nJ2J, (Ne.symm nJ2Z), (Ne.symm nJ30), (Ne.symm nJ31), nJ2K, (Ne.symm nJ3L), (Ne.symm nJ3M), (Ne.symm nJ3N), (Ne.symm nJ47), (Ne.symm nJ48), (Ne.symm nJ49), nW9, nWA, nWB⟩
  · exact ⟨scJ1R, r1J1S, r2J1T, scYQ, r1YR, r2YS, (by rw [q0]; rfl), (by rw [q1]; rfl), gJ29, gJ2A, gJ2B, gJ2C, gJ2D, gJ2E, gZ8, gZ9, gZA, gZB, gZC, gZD, geJ2M, geJ38, geJ3U, geZL, geJ04, geJ0N, (Ne.symm nJ2P), (Ne.symm nJ2Q), (Ne.symm nJ2R), (Ne.symm nJ2S), (Ne.symm nJ2T), (Ne.symm nJ2U), (Ne.symm nJ2V), (Ne.symm nJ2W), (Ne.symm nJ2X), (Ne.symm nJ2Y), (Ne.symm nJ32), (Ne.symm nJ33), (Ne.symm nJ34), (Ne.symm nJ3B), (Ne.symm nJ3C), (Ne.symm nJ3D), (Ne.symm nJ3E), (Ne.symm nJ3F), (Ne.symm nJ3G), (Ne.symm nJ3H), (Ne.symm nJ3I), (Ne.symm nJ3J), (Ne.symm nJ3K), (Ne.symm nJ3O), (Ne.symm nJ3P), (Ne.symm nJ3Q), (Ne.symm nJ3X), (Ne.symm nJ3Y), (Ne.symm nJ3Z), (Ne.symm nJ40), (Ne.symm nJ41), (Ne.symm nJ42), (Ne.symm nJ43), (Ne.symm nJ44), (Ne.symm nJ45), (Ne.symm nJ46), (Ne.symm nJ4A), (Ne.symm nJ4B), (Ne.symm nJ4C), (Ne.symm nZO), (Ne.symm nZP), (Ne.symm nZQ), (Ne.symm nZR), (Ne.symm nZS), (Ne.symm nZT), (Ne.symm nZU), (Ne.symm nZV), (Ne.symm nZW), (Ne.symm nZX), (Ne.symm nZY), (Ne.symm nZZ), (Ne.symm nJ00), (Ne.symm nJ07), (Ne.symm nJ08), (Ne.symm nJ09), (Ne.symm nJ0A), (Ne.symm nJ0B), (Ne.symm nJ0C), (Ne.symm nJ0D), (Ne.symm nJ0E), (Ne.symm nJ0F), (Ne.symm nJ0G), (Ne.symm nJ0H), (Ne.symm nJ0I), (Ne.symm nJ0J), (Ne.symm nJ0Q), (Ne.symm nJ0R), (Ne.symm nJ0S), (Ne.symm nJ0T), (Ne.symm nJ0U), (Ne.symm nJ0V), (Ne.symm nJ0W), (Ne.symm nJ0X), (Ne.symm nJ0Y), (Ne.symm nJ0Z), (Ne.symm nJ10), (Ne.symm nJ11), (Ne.symm nJ12), nJ2I, nJ2J, (Ne.symm nJ35), (Ne.symm nJ36), (Ne.symm nJ37), nJ2K, (Ne.symm nJ3R), (Ne.symm nJ3S), (Ne.symm nJ3T), (Ne.symm nJ4D), (Ne.symm nJ4E), (Ne.symm nJ4F), nZH, nZI, nZJ⟩
 have kJ7E : own_G p e below E0 TJ18 (mkF m 230 zz45 []) := by
  intro tQ kk
  refine kJ4G tQ ?_
  refine XT.pop XJ1C.here hx rfl (hH at_229) rfl rfl ?_
  exact kk
 clear kJ4G
 rcases (own_rw hN) with rfl | rfl | rfl
 ·skip
  let zz46 : Array Slot := #[vi p0, vi p1, vi p2, vj p3, ss, vi p4, vi (0 : Int32), vi o0, vi o1, vi i0, vi i1, vi tg, vi nc, vj m0, ss, vj m1, ss, vd (own_entry i0), ss, vd (own_entry i1), ss, vd b0, ss, vd b1, ss, vr aLB, vr aLQ, vr aM6, vr aMY, vr aNR, vr aPL, vr aQG, uu, uu, uu, uu]
  have kJ7F : own_G p e below E0 TJ18 (mkF m 273 zz46 [(.int (3 : Int32)), (.int tg)]) := by
   intro tQ kk
   refine kJ7E tQ ?_
   refine XS.iload XJ1C.here hx rfl (hH at_230) rfl ?_
   refine XS.iconst XJ1C.here hx rfl (hH at_232) ?_
   refine XS.icmpYes XJ1C.here hx rfl (pc0 := 233) (pc' := 250) rfl (hH at_233) rfl (own_ic_ltY (by decide)) (by decide) (by decide) ?_
   refine XS.iload XJ1C.here hx rfl (hH at_250) rfl ?_
   refine XS.iconst XJ1C.here hx rfl (hH at_252) ?_
   refine XS.icmpYes XJ1C.here hx rfl (pc0 := 253) (pc' := 270) rfl (hH at_253) rfl (own_ic_ltY (by decide)) (by decide) (by decide) ?_
   refine XS.iload XJ1C.here hx rfl (hH at_270) rfl ?_
   refine XS.iconst XJ1C.here hx rfl (hH at_272) ?_
   exact kk
  clear kJ7E
  by_cases ct : tg < (3 : Int32)
  ·skip
   have kJ7H : own_G p e below E0 TJ18 (mkF m 283 zz46 [(.double (FP.i2d nc)), (.int tg), (.ref aQG)]) := by
    intro tQ kk
    refine kJ7F tQ ?_
    refine XS.icmpNo XJ1C.here hx rfl (hH at_273) rfl (own_ic_geN ct) ?_
    refine XS.aload XJ1C.here hx rfl (hH at_276) rfl rfl ?_
    refine XS.iload XJ1C.here hx rfl (hH at_278) rfl ?_
    refine XS.iload XJ1C.here hx rfl (hH at_280) rfl ?_
    refine XS.i2dS XJ1C.here hx rfl (hH at_282) rfl rfl ?_
    exact kk
   clear kJ7F
   obtain ⟨cqJ7T, kqJ7U, qaJ7V, qbJ7W, qcJ7X⟩ := isOf hZ rfl AQD
   obtain ⟨_, _, ⟨TJ7I, LJ7J, kcJ7K, ncJ7L⟩, -, XJ7M, ⟨LcJ7N, hQJ7O, lJ7P, yJ7Q, zJ7R⟩, stJ7S⟩ := XJ1C.virtualBack hx (y := mn171) (z := mn171) hown (mvT hZ (tw237 hw)) (mvT hZ (tw238 hw)) (notFace_of_selects (args := #[]) (mvT hZ (tw240 hw))) (mvT hZ (tw240 hw)) (mvT hZ (tw239 hw)) (by decide) (backOf (W := 0) (rmSet l Z a0 hw [] aQG cARI tg (FP.i2d nc) (((own_d16.set ((0 : Int32)).toNatClampNeg (.double (FP.i2d p0))).set ((1 : Int32)).toNatClampNeg (.double (FP.i2d p1))).set ((2 : Int32)).toNatClampNeg (.double (FP.i2d p2))) TJ18.heap n0 Z0 gJ1W gJ27 nTI geTA (own_tn bt).1 (own_tl bt ct (by (try simp only [List.length_set]); rfl))) hZ (tw241 hw) (tw9 hw) (by decide) (by decide)) qaJ7V qcJ7X (g := (mkF m 283 zz46 [(.double (FP.i2d nc)), (.int tg), (.ref aQG)])) rfl (by rw [hml]; rfl) (Steps.refl _) (argsL := [(.int tg), (.double (FP.i2d nc))]) (rest := []) (lenOf pd_163 rfl) rfl (by show 2 * 0 + _ ≤ _; exact Nat.le_of_eq rfl) (hH at_283) (fun _ _ => ⟨rfl, rfl, (by decide : 72 + 0 ≤ _), (by decide : 635 + 0 ≤ _)⟩)
   dsimp only [Pt.U, Pt.locs, Pt.cells, Pt.slots] at XJ7M lJ7P yJ7Q zJ7R stJ7S hQJ7O
   subst yJ7Q zJ7R
   obtain ⟨rfl, NJ7Y, KJ81, gJ82⟩ := hQJ7O
   have NJ83 : Fr n0 LJ7J := by rw [lJ7P]; exact Fr.app NJ2L NJ7Y
   clear lJ7P NJ7Y
   replace Z0 := Nat.le_trans Z0 KJ81.1
   replace FMO := FMO.keep KJ81 (ninS nTE nin0)
   replace FNH := FNH.keep KJ81 (ninS nTF nin0)
   replace FPB := FPB.keep KJ81 (ninS nTG nin0)
   replace FQ6 := FQ6.keep KJ81 (ninS nTH nin0)
   replace AQD := AQD.keep KJ81
   replace gRX := gRX.keep KJ81
   replace gS1 := gS1.keep KJ81
   replace gS2 := gS2.keep KJ81 (ninS (Ne.symm nSO) nin0)
   replace gS4 := gS4.keep KJ81 (ninS (Ne.symm nSL) nin0)
   replace gS5 := gS5.keep KJ81 (ninS (Ne.symm nSM) nin0)
   replace gS7 := gS7.keep KJ81 (ninS (Ne.symm nSP) nin0)
   replace gJ1V := gJ1V.keep KJ81 (ninS nTI nin0)
   replace gJ1W := gJ1W.keep KJ81 (ninS nTI nin0)
   replace gJ1X := gJ1X.keep KJ81 (ninS nTI nin0)
   replace gJ1Y := gJ1Y.keep KJ81 (ninS nTI nin0)
   replace gJ1Z := gJ1Z.keep KJ81 (ninS nTI nin0)
   replace gJ20 := gJ20.keep KJ81 (ninS nTI nin0)
   replace gJ21 := gJ21.keep KJ81 (ninS nTI nin0)
   replace gJ22 := gJ22.keep KJ81 (ninS nTI nin0)
   replace gJ23 := gJ23.keep KJ81 (ninS nSF nin0)
   replace gJ24 := gJ24.keep KJ81 (ninS nSF nin0)
   replace gJ26 := gJ26.keep KJ81 (ninS (Ne.symm nWO) nin0)
   clear gJ27
   replace gJ28 := gJ28.keep KJ81 (ninS (Ne.symm nSN) nin0)
   replace FJ4H := FJ4H.keep KJ81
   replace FJ4I := FJ4I.keep KJ81 (ninS nJ54 nin0)
   replace FJ4J := FJ4J.keep KJ81 (ninS nJ54 nin0)
   replace FJ4K := FJ4K.keep KJ81 (ninS nJ54 nin0)
   replace FJ4L := FJ4L.keep KJ81 (ninS nJ5H nin0)
   replace FJ4M := FJ4M.keep KJ81 (ninS nJ5U nin0)
   replace FJ4N := FJ4N.keep KJ81
   replace FJ4O := FJ4O.keep KJ81 (ninS nJ67 nin0)
   replace FJ4P := FJ4P.keep KJ81 (ninS nJ67 nin0)
   replace FJ4Q := FJ4Q.keep KJ81 (ninS nJ67 nin0)
   replace FJ4R := FJ4R.keep KJ81 (ninS nJ6K nin0)
   replace FJ4S := FJ4S.keep KJ81 (ninS nJ6X nin0)
   have kJ84 : own_G p e below E0 TJ7I (mkF m 286 zz46 []) := fun tQ kk => kJ7H tQ (stJ7S.trans kk)
   clear kJ7H stJ7S
   have kJ85 : own_G p e below E0 TJ7I (mkF m 288 zz46 [(.ref aQG)]) := by
    intro tQ kk
    refine kJ84 tQ ?_
    refine XS.aload XJ7M.here hx rfl (hH at_286) rfl rfl ?_
    exact kk
   clear kJ84
   obtain ⟨cqJ8H, kqJ8I, qaJ8J, qbJ8K, qcJ8L⟩ := isOf hZ rfl AQD
   obtain ⟨_, _, ⟨TJ86, LJ87, kcJ88, ncJ89⟩, -, XJ8A, ⟨LcJ8B, hQJ8C, lJ8D, yJ8E, zJ8F⟩, stJ8G⟩ := XJ7M.virtualBack hx (y := mn172) (z := mn172) hown (mvT hZ (tw242 hw)) (mvT hZ (tw243 hw)) (notFace_of_selects (args := #[]) (mvT hZ (tw245 hw))) (mvT hZ (tw245 hw)) (mvT hZ (tw244 hw)) (by decide) (backOf (W := 0) (rmOb0 l Z a0 hw [] aQG cARI baRK vaRN ((((own_d16.set ((0 : Int32)).toNatClampNeg (.double (FP.i2d p0))).set ((1 : Int32)).toNatClampNeg (.double (FP.i2d p1))).set ((2 : Int32)).toNatClampNeg (.double (FP.i2d p2))).set tg.toNatClampNeg (.double (FP.i2d nc))) own_i16 own_d16 TJ7I.heap n0 Z0 gJ22 gJ1W gJ1Y gJ21 gJ82 gS5 gS7) hZ (tw246 hw) (tw9 hw) (by decide) (by decide)) qaJ8J qcJ8L (g := (mkF m 288 zz46 [(.ref aQG)])) rfl (by rw [hml]; rfl) (Steps.refl _) (argsL := []) (rest := []) (lenOf pd_178 rfl) rfl (by show 2 * 0 + _ ≤ _; exact Nat.le_of_eq rfl) (hH at_288) (fun _ _ => ⟨rfl, rfl, (by decide : 72 + 0 ≤ _), (by decide : 635 + 0 ≤ _)⟩)
   dsimp only [Pt.U, Pt.locs, Pt.cells, Pt.slots] at XJ8A lJ8D yJ8E zJ8F stJ8G hQJ8C
   subst yJ8E zJ8F
   obtain ⟨gJ8P, rfl, NJ8M, eJ8N, gJ8Q⟩ := hQJ8C
   have NJ8R : Fr n0 LJ87 := by rw [lJ8D]; exact Fr.app NJ83 NJ8M
   clear lJ8D NJ8M
   have kJ8S : own_G p e below E0 TJ86 (mkF m 291 zz46 [(.double gJ8P)]) := fun tQ kk => kJ85 tQ (stJ8G.trans kk)
   clear kJ85 stJ8G
   let zz47 : Array Slot := #[vi p0, vi p1, vi p2, vj p3, ss, vi p4, vi (0 : Int32), vi o0, vi o1, vi i0, vi i1, vi tg, vi nc, vj m0, ss, vj m1, ss, vd (own_entry i0), ss, vd (own_entry i1), ss, vd b0, ss, vd b1, ss, vr aLB, vr aLQ, vr aM6, vr aMY, vr aNR, vr aPL, vr aQG, vd gJ8P, ss, vj (0 : Int64), ss]
   have kJ8T : own_G p e below E0 TJ86 (mkF m 362 zz47 [(.double gJ8P)]) := by
    intro tQ kk
    refine kJ8S tQ ?_
    refine XS.dstore XJ8A.here hx rfl (hH at_291) rfl (l' := #[vi p0, vi p1, vi p2, vj p3, ss, vi p4, vi (0 : Int32), vi o0, vi o1, vi i0, vi i1, vi tg, vi nc, vj m0, ss, vj m1, ss, vd (own_entry i0), ss, vd (own_entry i1), ss, vd b0, ss, vd b1, ss, vr aLB, vr aLQ, vr aM6, vr aMY, vr aNR, vr aPL, vr aQG, vd gJ8P, ss, uu, uu]) rfl ?_
    refine XT.lconst XJ8A.here hx rfl (hH at_293) ?_
    refine XT.lstore XJ8A.here hx rfl (hH at_294) rfl (l' := zz47) rfl ?_
    refine XS.iload XJ8A.here hx rfl (hH at_296) rfl ?_
    refine XS.iconst XJ8A.here hx rfl (hH at_298) ?_
    refine XS.icmpYes XJ8A.here hx rfl (pc0 := 299) (pc' := 328) rfl (hH at_299) rfl (own_ic_ltY (by decide)) (by decide) (by decide) ?_
    refine XS.iload XJ8A.here hx rfl (hH at_328) rfl ?_
    refine XS.iconst XJ8A.here hx rfl (hH at_330) ?_
    show Steps p.tables e below (TJ86.setTop (mkF m 331 zz47 [(.int (2 : Int32)), (.int (0 : Int32))])) tQ
    refine XS.icmpYes XJ8A.here hx rfl (pc0 := 331) (pc' := 360) rfl (hH at_331) rfl (own_ic_ltY (by decide)) (by decide) (by decide) ?_
    refine XS.dload XJ8A.here hx rfl (hH at_360) rfl ?_
    exact kk
   clear kJ8S
   have stJ8U := XJ8A.ldc2DoubleC hx hown (mvT hZ (tw249 hw)) (g := (mkF m 362 zz47 [(.double gJ8P)])) rfl (hH at_362)
   have kJ8V : own_G p e below E0 TJ86 (mkF m 365 zz47 [(.double (4616189618054758400 : UInt64)), (.double gJ8P)]) := fun tQ kk => kJ8T tQ (stJ8U _ kk)
   clear kJ8T stJ8U
   have kJ8W : own_G p e below E0 TJ86 (mkF m 378 zz47 [(.int (1 : Int32))]) := by
    intro tQ kk
    refine kJ8V tQ ?_
    refine XS.dmulS XJ8A.here hx rfl (hH at_365) rfl (own_g4 gJ8Q (by decide)).1.noNaN rfl ?_
    refine XT.lload XJ8A.here hx rfl (hH at_366) rfl ?_
    refine XS.l2dS XJ8A.here hx rfl (hH at_368) rfl rfl ?_
    refine XS.dcmpS (v := (0 : Int32)) XJ8A.here hx rfl (hH at_369) rfl (own_end gJ8Q (by decide) own_ref0) ?_
    refine XS.ifNo XJ8A.here hx rfl (hH at_370) rfl (own_if_neN (by decide)) ?_
    refine XS.iconst XJ8A.here hx rfl (hH at_373) ?_
    refine XS.goto XJ8A.here hx rfl (pc0 := 374) (pc' := 378) rfl (hH at_374) (by decide) (by decide) ?_
    exact kk
   clear kJ8V
   obtain ⟨fs, hr, hrun, hended, hW, hsame⟩ := XJ8A.leave (v := some (.int (1 : Int32))) (fun h => by rw [Bd.returns] at h; cases h)
   have hrun0 := kJ8W _ (retOut XJ8A hx Bd.returns (t := .boolean) rfl (Or.inl ⟨rfl, Or.inr (Or.inl rfl), _, rfl⟩) (hH at_378) hr)
   subst hE0
   refine ⟨_, _, hrun0, hrun, hended, _, _, rfl, ?_, ⟨_, rfl⟩, hW, hsame.mono (by decide) (by decide)⟩
   show Qrm0 Z p0 p1 p2 p3 p4 dE h0 n0 _ TJ86.heap _
   rw [eJ8N]
   exact ⟨rfl, NJ8R⟩
  ·skip
   have kJ8X : own_G p e below E0 TJ18 (mkF m 288 zz46 [(.ref aQG)]) := by
    intro tQ kk
    refine kJ7F tQ ?_
    refine XS.icmpYes XJ1C.here hx rfl (pc0 := 273) (pc' := 286) rfl (hH at_273) rfl (own_ic_geY ct) (by decide) (by decide) ?_
    refine XS.aload XJ1C.here hx rfl (hH at_286) rfl rfl ?_
    exact kk
   clear kJ7F
   obtain ⟨cqJ99, kqJ9A, qaJ9B, qbJ9C, qcJ9D⟩ := isOf hZ rfl AQD
   obtain ⟨_, _, ⟨TJ8Y, LJ8Z, kcJ90, ncJ91⟩, -, XJ92, ⟨LcJ93, hQJ94, lJ95, yJ96, zJ97⟩, stJ98⟩ := XJ1C.virtualBack hx (y := mn172) (z := mn172) hown (mvT hZ (tw242 hw)) (mvT hZ (tw243 hw)) (notFace_of_selects (args := #[]) (mvT hZ (tw245 hw))) (mvT hZ (tw245 hw)) (mvT hZ (tw244 hw)) (by decide) (backOf (W := 0) (rmOb0 l Z a0 hw [] aQG cARI baRK vaRN (((own_d16.set ((0 : Int32)).toNatClampNeg (.double (FP.i2d p0))).set ((1 : Int32)).toNatClampNeg (.double (FP.i2d p1))).set ((2 : Int32)).toNatClampNeg (.double (FP.i2d p2))) own_i16 own_d16 TJ18.heap n0 Z0 gJ22 gJ1W gJ1Y gJ21 gJ27 gS5 gS7) hZ (tw246 hw) (tw9 hw) (by decide) (by decide)) qaJ9B qcJ9D (g := (mkF m 288 zz46 [(.ref aQG)])) rfl (by rw [hml]; rfl) (Steps.refl _) (argsL := []) (rest := []) (lenOf pd_178 rfl) rfl (by show 2 * 0 + _ ≤ _; exact Nat.le_of_eq rfl) (hH at_288) (fun _ _ => ⟨rfl, rfl, (by decide : 72 + 0 ≤ _), (by decide : 635 + 0 ≤ _)⟩)
   dsimp only [Pt.U, Pt.locs, Pt.cells, Pt.slots] at XJ92 lJ95 yJ96 zJ97 stJ98 hQJ94
   subst yJ96 zJ97
   obtain ⟨gJ9H, rfl, NJ9E, eJ9F, gJ9I⟩ := hQJ94
   have NJ9J : Fr n0 LJ8Z := by rw [lJ95]; exact Fr.app NJ2L NJ9E
   clear lJ95 NJ9E
   have kJ9K : own_G p e below E0 TJ8Y (mkF m 291 zz46 [(.double gJ9H)]) := fun tQ kk => kJ8X tQ (stJ98.trans kk)
   clear kJ8X stJ98
   let zz48 : Array Slot := #[vi p0, vi p1, vi p2, vj p3, ss, vi p4, vi (0 : Int32), vi o0, vi o1, vi i0, vi i1, vi tg, vi nc, vj m0, ss, vj m1, ss, vd (own_entry i0), ss, vd (own_entry i1), ss, vd b0, ss, vd b1, ss, vr aLB, vr aLQ, vr aM6, vr aMY, vr aNR, vr aPL, vr aQG, vd gJ9H, ss, vj (0 : Int64), ss]
   have kJ9L : own_G p e below E0 TJ8Y (mkF m 362 zz48 [(.double gJ9H)]) := by
    intro tQ kk
    refine kJ9K tQ ?_
    refine XS.dstore XJ92.here hx rfl (hH at_291) rfl (l' := #[vi p0, vi p1, vi p2, vj p3, ss, vi p4, vi (0 : Int32), vi o0, vi o1, vi i0, vi i1, vi tg, vi nc, vj m0, ss, vj m1, ss, vd (own_entry i0), ss, vd (own_entry i1), ss, vd b0, ss, vd b1, ss, vr aLB, vr aLQ, vr aM6, vr aMY, vr aNR, vr aPL, vr aQG, vd gJ9H, ss, uu, uu]) rfl ?_
    refine XT.lconst XJ92.here hx rfl (hH at_293) ?_
    refine XT.lstore XJ92.here hx rfl (hH at_294) rfl (l' := zz48) rfl ?_
    refine XS.iload XJ92.here hx rfl (hH at_296) rfl ?_
    refine XS.iconst XJ92.here hx rfl (hH at_298) ?_
    refine XS.icmpYes XJ92.here hx rfl (pc0 := 299) (pc' := 328) rfl (hH at_299) rfl (own_ic_ltY (by decide)) (by decide) (by decide) ?_
    refine XS.iload XJ92.here hx rfl (hH at_328) rfl ?_
    refine XS.iconst XJ92.here hx rfl (hH at_330) ?_
    show Steps p.tables e below (TJ8Y.setTop (mkF m 331 zz48 [(.int (2 : Int32)), (.int (0 : Int32))])) tQ
    refine XS.icmpYes XJ92.here hx rfl (pc0 := 331) (pc' := 360) rfl (hH at_331) rfl (own_ic_ltY (by decide)) (by decide) (by decide) ?_
    refine XS.dload XJ92.here hx rfl (hH at_360) rfl ?_
    exact kk
   clear kJ9K
   have stJ9M := XJ92.ldc2DoubleC hx hown (mvT hZ (tw249 hw)) (g := (mkF m 362 zz48 [(.double gJ9H)])) rfl (hH at_362)
   have kJ9N : own_G p e below E0 TJ8Y (mkF m 365 zz48 [(.double (4616189618054758400 : UInt64)), (.double gJ9H)]) := fun tQ kk => kJ9L tQ (stJ9M _ kk)
   clear kJ9L stJ9M
   have kJ9O : own_G p e below E0 TJ8Y (mkF m 378 zz48 [(.int (1 : Int32))]) := by
    intro tQ kk
    refine kJ9N tQ ?_
    refine XS.dmulS XJ92.here hx rfl (hH at_365) rfl (own_g4 gJ9I (by decide)).1.noNaN rfl ?_
    refine XT.lload XJ92.here hx rfl (hH at_366) rfl ?_
    refine XS.l2dS XJ92.here hx rfl (hH at_368) rfl rfl ?_
    refine XS.dcmpS (v := (0 : Int32)) XJ92.here hx rfl (hH at_369) rfl (own_end gJ9I (by decide) own_ref0) ?_
    refine XS.ifNo XJ92.here hx rfl (hH at_370) rfl (own_if_neN (by decide)) ?_
    refine XS.iconst XJ92.here hx rfl (hH at_373) ?_
    refine XS.goto XJ92.here hx rfl (pc0 := 374) (pc' := 378) rfl (hH at_374) (by decide) (by decide) ?_
    exact kk
   clear kJ9N
   obtain ⟨fs, hr, hrun, hended, hW, hsame⟩ := XJ92.leave (v := some (.int (1 : Int32))) (fun h => by rw [Bd.returns] at h; cases h)
   have hrun0 := kJ9O _ (retOut XJ92 hx Bd.returns (t := .boolean) rfl (Or.inl ⟨rfl, Or.inr (Or.inl rfl), _, rfl⟩) (hH at_378) hr)
   subst hE0
   refine ⟨_, _, hrun0, hrun, hended, _, _, rfl, ?_, ⟨_, rfl⟩, hW, hsame.mono (by decide) (by decide)⟩
   show Qrm0 Z p0 p1 p2 p3 p4 dE h0 n0 _ TJ8Y.heap _
   rw [eJ9F]
   exact ⟨rfl, NJ9J⟩
 ·skip
  obtain ⟨EE0, hB0⟩ := own_prep hb0 bm0
  let zz49 : Array Slot := #[vi p0, vi p1, vi p2, vj p3, ss, vi p4, vi (1 : Int32), vi o0, vi o1, vi i0, vi i1, vi tg, vi nc, vj m0, ss, vj m1, ss, vd (own_entry i0), ss, vd (own_entry i1), ss, vd b0, ss, vd b1, ss, vr aLB, vr aLQ, vr aM6, vr aMY, vr aNR, vr aPL, vr aQG, uu, uu, uu, uu]
  have kJ9P : own_G p e below E0 TJ18 (mkF m 246 zz49 [(.int o0), (.ref aMY), (.ref aM6), (.double b0), (.ref aQG)]) := by
   intro tQ kk
   refine kJ7E tQ ?_
   refine XS.iload XJ1C.here hx rfl (hH at_230) rfl ?_
   refine XS.iconst XJ1C.here hx rfl (hH at_232) ?_
   refine XS.icmpNo XJ1C.here hx rfl (hH at_233) rfl (own_ic_ltN (by decide)) ?_
   refine XS.aload XJ1C.here hx rfl (hH at_236) rfl rfl ?_
   refine XS.dload XJ1C.here hx rfl (hH at_238) rfl ?_
   refine XS.aload XJ1C.here hx rfl (hH at_240) rfl rfl ?_
   refine XS.aload XJ1C.here hx rfl (hH at_242) rfl rfl ?_
   refine XS.iload XJ1C.here hx rfl (hH at_244) rfl ?_
   exact kk
  clear kJ7E
  obtain ⟨cqJA1, kqJA2, qaJA3, qbJA4, qcJA5⟩ := isOf hZ rfl AQD
  obtain ⟨_, _, ⟨TJ9Q, LJ9R, kcJ9S, ncJ9T⟩, -, XJ9U, ⟨LcJ9V, hQJ9W, lJ9X, yJ9Y, zJ9Z⟩, stJA0⟩ := XJ1C.virtualBack hx (y := mn159) (z := mn159) hown (mvT hZ (tw251 hw)) (mvT hZ (tw252 hw)) (notFace_of_selects (args := #[]) (mvT hZ (tw254 hw))) (mvT hZ (tw254 hw)) (mvT hZ (tw253 hw)) (by decide) (backOf (W := 0) (rmRs0 l Z a0 hw [] aQG aM6 aMY alRH cARI roRJ baRK pARL faRM vaRN rVD scVE scYQ scJ1R xo ra sa own_d16 own_i16 (((own_i16.set ((0 : Int32)).toNatClampNeg (.int (-1 : Int32))).set ((1 : Int32)).toNatClampNeg (.int (-1 : Int32))).set ((2 : Int32)).toNatClampNeg (.int (-1 : Int32))) own_d16 own_i4 own_d4 b0 (own_entry i0) o0 (m0.toInt * (own_quarter i0).toInt) EE0 TJ18.heap n0 Z0 AQD gJ1V gJ1W gJ1X gJ1Y gJ1Z gJ20 gJ21 gJ22 gRX gJ23 gJ24 gJ26 gS1 gS2 FJ4H FJ4I FJ4J FJ4K FJ4L FJ4M gS4 gS5 gJ28 gS7 FMO FNH nTR nU0 nU9 nUR (Ne.symm nJ4X) (Ne.symm nJ5A) (Ne.symm nJ5N) (Ne.symm nQM) (Ne.symm nQN) nT9 nWL nUI nSQ nSR nST (Ne.symm nJ50) (Ne.symm nJ5D) (Ne.symm nJ5Q) (Ne.symm nTN) (Ne.symm nTO) (Ne.symm nSG) nWP nSS nSU nSW (Ne.symm nJ51) (Ne.symm nJ5E) (Ne.symm nJ5R) (Ne.symm nTW) (Ne.symm nTX) (Ne.symm nSH) nWQ nSV nSY (Ne.symm nJ55) (Ne.symm nJ5I) (Ne.symm nJ5V) (Ne.symm nU5) (Ne.symm nU6) (Ne.symm nSI) nWR nSX (Ne.symm nJ52) (Ne.symm nJ5F) (Ne.symm nJ5S) (Ne.symm nUN) (Ne.symm nUO) (Ne.symm nSK) nWS (Ne.symm nSZ) nJ6Z nJ70 nJ4T nJ4U nJ4Y nJ53 nJ4Z nJ74 nJ56 nJ57 nJ5B nJ5G nJ5C nJ5J nJ5K nJ5O nJ5T nJ5P geQQ geTJ geTS geU1 geUJ ge_xo ge_ra ge_sa (by (try simp only [List.length_set]); rfl) (by (try simp only [List.length_set]); rfl) (by (try simp only [List.length_set]); rfl) (by (try simp only [List.length_set]); rfl) (by (try simp only [List.length_set]); rfl) (by (try simp only [List.length_set]); rfl) (own_oo bo0).1 (own_oo bo0).2 hxo (own_pv0 bo0) hB0) hZ (tw255 hw) (tw9 hw) (by decide) (by decide)) qaJA3 qcJA5 (g := (mkF m 246 zz49 [(.int o0), (.ref aMY), (.ref aM6), (.double b0), (.ref aQG)])) rfl (by rw [hml]; rfl) (Steps.refl _) (argsL := [(.double b0), (.ref aM6), (.ref aMY), (.int o0)]) (rest := []) (lenOf pd_179 rfl) rfl (by show 2 * 0 + _ ≤ _; exact Nat.le_of_eq rfl) (hH at_246) (fun _ _ => ⟨rfl, rfl, (by decide : 72 + 1 ≤ _), (by decide : 635 + 0 ≤ _)⟩)
  dsimp only [Pt.U, Pt.locs, Pt.cells, Pt.slots] at XJ9U lJ9X yJ9Y zJ9Z stJA0 hQJ9W
  subst yJ9Y zJ9Z
  obtain ⟨mqJA9, rfl, NJA6, KJAA, gJAB, gJAC, gJAD, gJAE, gJAF, gJAG, gJAH, gJAI, gJAJ, gJAK, gJAL, gJAM, gJAN⟩ := hQJ9W
  have NJAO : Fr n0 LJ9R := by rw [lJ9X]; exact Fr.app NJ2L NJA6
  clear lJ9X NJA6
  replace Z0 := Nat.le_trans Z0 KJAA.1
  replace FMO := FMO.keep KJAA (ninS nQM (ninS nTN (ninS nTW (ninS nU5 (ninS nUN (ninS (Ne.symm nJ4T) (ninS (Ne.symm nJ56) (ninS (Ne.symm nJ5J) nin0))))))))
  replace FNH := FNH.keep KJAA (ninS nQN (ninS nTO (ninS nTX (ninS nU6 (ninS nUO (ninS (Ne.symm nJ4U) (ninS (Ne.symm nJ57) (ninS (Ne.symm nJ5K) nin0))))))))
  replace FPB := FPB.keep KJAA (ninS nQO (ninS nTP (ninS nTY (ninS nU7 (ninS nUP (ninS (Ne.symm nJ4V) (ninS (Ne.symm nJ58) (ninS (Ne.symm nJ5L) nin0))))))))
  replace FQ6 := FQ6.keep KJAA (ninS nQP (ninS nTQ (ninS nTZ (ninS nU8 (ninS nUQ (ninS (Ne.symm nJ4W) (ninS (Ne.symm nJ59) (ninS (Ne.symm nJ5M) nin0))))))))
  replace AQD := AQD.keep KJAA
  replace gRX := gRX.keep KJAA
  replace gS1 := gS1.keep KJAA
  replace gS2 := gS2.keep KJAA (ninS (Ne.symm nUI) (ninS (Ne.symm nSS) (ninS (Ne.symm nSV) (ninS (Ne.symm nSX) (ninS nSZ (ninS (Ne.symm nJ4Z) (ninS (Ne.symm nJ5C) (ninS (Ne.symm nJ5P) nin0))))))))
  clear gS4
  clear gS5
  clear gS7
  clear gJ1V
  clear gJ1W
  clear gJ1X
  clear gJ1Y
  clear gJ1Z
  clear gJ20
  clear gJ21
  clear gJ22
  replace gJ23 := gJ23.keep KJAA (ninS (Ne.symm nT9) (ninS nSG (ninS nSH (ninS nSI (ninS nSK (ninS (Ne.symm nJ4Y) (ninS (Ne.symm nJ5B) (ninS (Ne.symm nJ5O) nin0))))))))
  replace gJ24 := gJ24.keep KJAA (ninS (Ne.symm nT9) (ninS nSG (ninS nSH (ninS nSI (ninS nSK (ninS (Ne.symm nJ4Y) (ninS (Ne.symm nJ5B) (ninS (Ne.symm nJ5O) nin0))))))))
  replace gJ26 := gJ26.keep KJAA (ninS (Ne.symm nWL) (ninS (Ne.symm nWP) (ninS (Ne.symm nWQ) (ninS (Ne.symm nWR) (ninS (Ne.symm nWS) (ninS (Ne.symm nJ53) (ninS (Ne.symm nJ5G) (ninS (Ne.symm nJ5T) nin0))))))))
  replace gJ27 := gJ27.keep KJAA (ninS (Ne.symm nTI) (ninS nSL (ninS nSM (ninS nSN (ninS nSP (ninS (Ne.symm nJ54) (ninS (Ne.symm nJ5H) (ninS (Ne.symm nJ5U) nin0))))))))
  clear gJ28
  replace FJ4H := FJ4H.keep KJAA
  clear FJ4I
  clear FJ4J
  clear FJ4K
  clear FJ4L
  clear FJ4M
  replace FJ4N := FJ4N.keep KJAA
  replace FJ4O := FJ4O.keep KJAA (ninS nJ60 (ninS nJ63 (ninS nJ64 (ninS nJ68 (ninS nJ65 (ninS (Ne.symm nJ71) (ninS (Ne.symm nJ75) (ninS (Ne.symm nJ78) nin0))))))))
  replace FJ4P := FJ4P.keep KJAA (ninS nJ60 (ninS nJ63 (ninS nJ64 (ninS nJ68 (ninS nJ65 (ninS (Ne.symm nJ71) (ninS (Ne.symm nJ75) (ninS (Ne.symm nJ78) nin0))))))))
  replace FJ4Q := FJ4Q.keep KJAA (ninS nJ60 (ninS nJ63 (ninS nJ64 (ninS nJ68 (ninS nJ65 (ninS (Ne.symm nJ71) (ninS (Ne.symm nJ75) (ninS (Ne.symm nJ78) nin0))))))))
  replace FJ4R := FJ4R.keep KJAA (ninS nJ6D (ninS nJ6G (ninS nJ6H (ninS nJ6L (ninS nJ6I (ninS (Ne.symm nJ72) (ninS (Ne.symm nJ76) (ninS (Ne.symm nJ79) nin0))))))))
  replace FJ4S := FJ4S.keep KJAA (ninS nJ6Q (ninS nJ6T (ninS nJ6U (ninS nJ6Y (ninS nJ6V (ninS (Ne.symm nJ73) (ninS (Ne.symm nJ77) (ninS (Ne.symm nJ7A) nin0))))))))
  have kJAP : own_G p e below E0 TJ9Q (mkF m 249 zz49 [(.int (0 : Int32))]) := fun tQ kk => kJ9P tQ (stJA0.trans kk)
  clear kJ9P stJA0
  have kJAQ : own_G p e below E0 TJ9Q (mkF m 273 zz49 [(.int (3 : Int32)), (.int tg)]) := by
   intro tQ kk
   refine kJAP tQ ?_
   refine XT.pop XJ9U.here hx rfl (hH at_249) rfl rfl ?_
   refine XS.iload XJ9U.here hx rfl (hH at_250) rfl ?_
   refine XS.iconst XJ9U.here hx rfl (hH at_252) ?_
   refine XS.icmpYes XJ9U.here hx rfl (pc0 := 253) (pc' := 270) rfl (hH at_253) rfl (own_ic_ltY (by decide)) (by decide) (by decide) ?_
   refine XS.iload XJ9U.here hx rfl (hH at_270) rfl ?_
   refine XS.iconst XJ9U.here hx rfl (hH at_272) ?_
   exact kk
  clear kJAP
  by_cases ct : tg < (3 : Int32)
  ·skip
   have kJAS : own_G p e below E0 TJ9Q (mkF m 283 zz49 [(.double (FP.i2d nc)), (.int tg), (.ref aQG)]) := by
    intro tQ kk
    refine kJAQ tQ ?_
    refine XS.icmpNo XJ9U.here hx rfl (hH at_273) rfl (own_ic_geN ct) ?_
    refine XS.aload XJ9U.here hx rfl (hH at_276) rfl rfl ?_
    refine XS.iload XJ9U.here hx rfl (hH at_278) rfl ?_
    refine XS.iload XJ9U.here hx rfl (hH at_280) rfl ?_
    refine XS.i2dS XJ9U.here hx rfl (hH at_282) rfl rfl ?_
    exact kk
   clear kJAQ
   obtain ⟨cqJB4, kqJB5, qaJB6, qbJB7, qcJB8⟩ := isOf hZ rfl AQD
   obtain ⟨_, _, ⟨TJAT, LJAU, kcJAV, ncJAW⟩, -, XJAX, ⟨LcJAY, hQJAZ, lJB0, yJB1, zJB2⟩, stJB3⟩ := XJ9U.virtualBack hx (y := mn171) (z := mn171) hown (mvT hZ (tw237 hw)) (mvT hZ (tw238 hw)) (notFace_of_selects (args := #[]) (mvT hZ (tw240 hw))) (mvT hZ (tw240 hw)) (mvT hZ (tw239 hw)) (by decide) (backOf (W := 0) (rmSet l Z a0 hw [] aQG cARI tg (FP.i2d nc) (((own_d16.set ((0 : Int32)).toNatClampNeg (.double (FP.i2d p0))).set ((1 : Int32)).toNatClampNeg (.double (FP.i2d p1))).set ((2 : Int32)).toNatClampNeg (.double (FP.i2d p2))) TJ9Q.heap n0 Z0 gJAC gJ27 nTI geTA (own_tn bt).1 (own_tl bt ct (by (try simp only [List.length_set]); rfl))) hZ (tw241 hw) (tw9 hw) (by decide) (by decide)) qaJB6 qcJB8 (g := (mkF m 283 zz49 [(.double (FP.i2d nc)), (.int tg), (.ref aQG)])) rfl (by rw [hml]; rfl) (Steps.refl _) (argsL := [(.int tg), (.double (FP.i2d nc))]) (rest := []) (lenOf pd_163 rfl) rfl (by show 2 * 0 + _ ≤ _; exact Nat.le_of_eq rfl) (hH at_283) (fun _ _ => ⟨rfl, rfl, (by decide : 73 + 0 ≤ _), (by decide : 635 + 0 ≤ _)⟩)
   dsimp only [Pt.U, Pt.locs, Pt.cells, Pt.slots] at XJAX lJB0 yJB1 zJB2 stJB3 hQJAZ
   subst yJB1 zJB2
   obtain ⟨rfl, NJB9, KJBC, gJBD⟩ := hQJAZ
   have NJBE : Fr n0 LJAU := by rw [lJB0]; exact Fr.app NJAO NJB9
   clear lJB0 NJB9
   replace Z0 := Nat.le_trans Z0 KJBC.1
   replace FPB := FPB.keep KJBC (ninS nTG nin0)
   replace FQ6 := FQ6.keep KJBC (ninS nTH nin0)
   replace AQD := AQD.keep KJBC
   replace gRX := gRX.keep KJBC
   replace gS1 := gS1.keep KJBC
   replace gS2 := gS2.keep KJBC (ninS (Ne.symm nSO) nin0)
   replace gJ23 := gJ23.keep KJBC (ninS nSF nin0)
   replace gJ24 := gJ24.keep KJBC (ninS nSF nin0)
   replace gJ26 := gJ26.keep KJBC (ninS (Ne.symm nWO) nin0)
   clear gJ27
   replace FJ4H := FJ4H.keep KJBC
   replace FJ4N := FJ4N.keep KJBC
   replace FJ4O := FJ4O.keep KJBC (ninS nJ67 nin0)
   replace FJ4P := FJ4P.keep KJBC (ninS nJ67 nin0)
   replace FJ4Q := FJ4Q.keep KJBC (ninS nJ67 nin0)
   replace FJ4R := FJ4R.keep KJBC (ninS nJ6K nin0)
   replace FJ4S := FJ4S.keep KJBC (ninS nJ6X nin0)
   replace gJAB := gJAB.keep KJBC (ninS nTI nin0)
   replace gJAC := gJAC.keep KJBC (ninS nTI nin0)
   replace gJAD := gJAD.keep KJBC (ninS nTI nin0)
   replace gJAE := gJAE.keep KJBC (ninS nTI nin0)
   replace gJAF := gJAF.keep KJBC (ninS nTI nin0)
   replace gJAG := gJAG.keep KJBC (ninS nTI nin0)
   replace gJAH := gJAH.keep KJBC (ninS nTI nin0)
   replace gJAI := gJAI.keep KJBC (ninS nTI nin0)
   replace gJAJ := gJAJ.keep KJBC (ninS (Ne.symm nSL) nin0)
   replace gJAK := gJAK.keep KJBC (ninS (Ne.symm nSM) nin0)
   replace gJAL := gJAL.keep KJBC (ninS (Ne.symm nSN) nin0)
   replace gJAM := gJAM.keep KJBC (ninS (Ne.symm nSP) nin0)
   have kJBF : own_G p e below E0 TJAT (mkF m 286 zz49 []) := fun tQ kk => kJAS tQ (stJB3.trans kk)
   clear kJAS stJB3
   have kJBG : own_G p e below E0 TJAT (mkF m 288 zz49 [(.ref aQG)]) := by
    intro tQ kk
    refine kJBF tQ ?_
    refine XS.aload XJAX.here hx rfl (hH at_286) rfl rfl ?_
    exact kk
   clear kJBF
   obtain ⟨cqJBS, kqJBT, qaJBU, qbJBV, qcJBW⟩ := isOf hZ rfl AQD
   obtain ⟨_, _, ⟨TJBH, LJBI, kcJBJ, ncJBK⟩, -, XJBL, ⟨LcJBM, hQJBN, lJBO, yJBP, zJBQ⟩, stJBR⟩ := XJAX.virtualBack hx (y := mn172) (z := mn172) hown (mvT hZ (tw242 hw)) (mvT hZ (tw243 hw)) (notFace_of_selects (args := #[]) (mvT hZ (tw245 hw))) (mvT hZ (tw245 hw)) (mvT hZ (tw244 hw)) (by decide) (backOf (W := 0) (rmOb1 l Z a0 hw [] aQG cARI baRK vaRN ((((own_d16.set ((0 : Int32)).toNatClampNeg (.double (FP.i2d p0))).set ((1 : Int32)).toNatClampNeg (.double (FP.i2d p1))).set ((2 : Int32)).toNatClampNeg (.double (FP.i2d p2))).set tg.toNatClampNeg (.double (FP.i2d nc))) (own_i16.set ((0 : Int32)).toNatClampNeg (.int o0)) (own_d16.set ((0 : Int32)).toNatClampNeg (.double mqJA9)) o0 (FP.i2d (own_effi o0 tg nc p0 p1 p2)) mqJA9 (own_effi o0 tg nc p0 p1 p2).toInt (m0.toInt * (own_quarter i0).toInt) TJAT.heap n0 Z0 gJAI gJAC gJAE gJAH gJBD gJAK gJAM rfl (own_oo bo0).1 (own_cl1 bo0 bt ct p0 p1 p2) rfl (own_cwI (own_effi o0 tg nc p0 p1 p2) gJAN bm0)) hZ (tw246 hw) (tw9 hw) (by decide) (by decide)) qaJBU qcJBW (g := (mkF m 288 zz49 [(.ref aQG)])) rfl (by rw [hml]; rfl) (Steps.refl _) (argsL := []) (rest := []) (lenOf pd_178 rfl) rfl (by show 2 * 0 + _ ≤ _; exact Nat.le_of_eq rfl) (hH at_288) (fun _ _ => ⟨rfl, rfl, (by decide : 73 + 0 ≤ _), (by decide : 635 + 0 ≤ _)⟩)
   dsimp only [Pt.U, Pt.locs, Pt.cells, Pt.slots] at XJBL lJBO yJBP zJBQ stJBR hQJBN
   subst yJBP zJBQ
   obtain ⟨gJC0, rfl, NJBX, eJBY, gJC1⟩ := hQJBN
   have NJC2 : Fr n0 LJBI := by rw [lJBO]; exact Fr.app NJBE NJBX
   clear lJBO NJBX
   have kJC3 : own_G p e below E0 TJBH (mkF m 291 zz49 [(.double gJC0)]) := fun tQ kk => kJBG tQ (stJBR.trans kk)
   clear kJBG stJBR
   let zz50 : Array Slot := #[vi p0, vi p1, vi p2, vj p3, ss, vi p4, vi (1 : Int32), vi o0, vi o1, vi i0, vi i1, vi tg, vi nc, vj m0, ss, vj m1, ss, vd (own_entry i0), ss, vd (own_entry i1), ss, vd b0, ss, vd b1, ss, vr aLB, vr aLQ, vr aM6, vr aMY, vr aNR, vr aPL, vr aQG, vd gJC0, ss, vj (0 : Int64), ss]
   have kJC4 : own_G p e below E0 TJBH (mkF m 313 zz50 [(.int p2), (.int p1), (.int p0), (.int nc), (.int tg), (.int o0), (.long (0 : Int64))]) := by
    intro tQ kk
    refine kJC3 tQ ?_
    refine XS.dstore XJBL.here hx rfl (hH at_291) rfl (l' := #[vi p0, vi p1, vi p2, vj p3, ss, vi p4, vi (1 : Int32), vi o0, vi o1, vi i0, vi i1, vi tg, vi nc, vj m0, ss, vj m1, ss, vd (own_entry i0), ss, vd (own_entry i1), ss, vd b0, ss, vd b1, ss, vr aLB, vr aLQ, vr aM6, vr aMY, vr aNR, vr aPL, vr aQG, vd gJC0, ss, uu, uu]) rfl ?_
    refine XT.lconst XJBL.here hx rfl (hH at_293) ?_
    refine XT.lstore XJBL.here hx rfl (hH at_294) rfl (l' := zz50) rfl ?_
    refine XS.iload XJBL.here hx rfl (hH at_296) rfl ?_
    refine XS.iconst XJBL.here hx rfl (hH at_298) ?_
    refine XS.icmpNo XJBL.here hx rfl (hH at_299) rfl (own_ic_ltN (by decide)) ?_
    refine XT.lload XJBL.here hx rfl (hH at_302) rfl ?_
    refine XS.iload XJBL.here hx rfl (hH at_304) rfl ?_
    show Steps p.tables e below (TJBH.setTop (mkF m 306 zz50 [(.int o0), (.long (0 : Int64))])) tQ
    refine XS.iload XJBL.here hx rfl (hH at_306) rfl ?_
    refine XS.iload XJBL.here hx rfl (hH at_308) rfl ?_
    refine XS.iloadN XJBL.here hx rfl (hH at_310) rfl ?_
    refine XS.iloadN XJBL.here hx rfl (hH at_311) rfl ?_
    refine XS.iloadN XJBL.here hx rfl (hH at_312) rfl ?_
    exact kk
   clear kJC3
   obtain ⟨_, _, ⟨TJC5, LJC6, kcJC7, ncJC8⟩, -, XJC9, ⟨LcJCA, hQJCB, lJCC, yJCD, zJCE⟩, stJCF⟩ := Jvm.LawKit.callS XJBL hx (y := mn175) hown (mvT hZ (tw302 hw)) (mvT hZ (tw303 hw)) (mvT hZ (tw3 hw)) (mvT hZ (tw304 hw)) (by decide) (backOf (W := 2) (rmEff l Z a0 hw [] o0 tg nc p0 p1 p2 TJAT.heap n0 Z0 ) hZ (tw304 hw) (tw3 hw) (by decide) (by decide)) (g := (mkF m 313 zz50 [(.int p2), (.int p1), (.int p0), (.int nc), (.int tg), (.int o0), (.long (0 : Int64))])) rfl (by rw [hml]; rfl) (argsL := [(.int o0), (.int tg), (.int nc), (.int p0), (.int p1), (.int p2)]) (rest := [(.long (0 : Int64))]) (lenOf pd_180 rfl) rfl (by show 2 * 0 + _ ≤ _; exact Nat.le_of_eq rfl) (hH at_313) (fun _ _ => ⟨rfl, eJBY, (by decide : 73 + 0 ≤ _), (by decide : 635 + 0 ≤ _)⟩)
   dsimp only [Pt.U, Pt.locs, Pt.cells, Pt.slots] at XJC9 lJCC yJCD zJCE stJCF hQJCB
   subst yJCD zJCE
   obtain ⟨rfl, NJCG, eJCH⟩ := hQJCB
   have NJCJ : Fr n0 LJC6 := by rw [lJCC]; exact Fr.app NJC2 NJCG
   clear lJCC NJCG
   have kJCK : own_G p e below E0 TJC5 (mkF m 316 zz50 [(.long ((own_effi o0 tg nc p0 p1 p2).toInt64)), (.long (0 : Int64))]) := fun tQ kk => kJC4 tQ (stJCF _ kk)
   clear kJC4 stJCF
   have kJCL : own_G p e below E0 TJC5 (mkF m 320 zz50 [(.int i0), (.long m0), (.long ((own_effi o0 tg nc p0 p1 p2).toInt64)), (.long (0 : Int64))]) := by
    intro tQ kk
    refine kJCK tQ ?_
    refine XT.lload XJC9.here hx rfl (hH at_316) rfl ?_
    refine XS.iload XJC9.here hx rfl (hH at_318) rfl ?_
    exact kk
   clear kJCK
   obtain ⟨_, _, ⟨TJCM, LJCN, kcJCO, ncJCP⟩, -, XJCQ, ⟨LcJCR, hQJCS, lJCT, yJCU, zJCV⟩, stJCW⟩ := Jvm.LawKit.callS XJC9 hx (y := mn174) hown (mvT hZ (tw305 hw)) (mvT hZ (tw306 hw)) (mvT hZ (tw3 hw)) (mvT hZ (tw307 hw)) (by decide) (backOf (W := 6) (rmQua l Z a0 hw [] i0 TJAT.heap n0 Z0 ) hZ (tw307 hw) (tw3 hw) (by decide) (by decide)) (g := (mkF m 320 zz50 [(.int i0), (.long m0), (.long ((own_effi o0 tg nc p0 p1 p2).toInt64)), (.long (0 : Int64))])) rfl (by rw [hml]; rfl) (argsL := [(.int i0)]) (rest := [(.long m0), (.long ((own_effi o0 tg nc p0 p1 p2).toInt64)), (.long (0 : Int64))]) (lenOf pd_181 rfl) rfl (by show 2 * 0 + _ ≤ _; exact Nat.le_of_eq rfl) (hH at_320) (fun _ _ => ⟨rfl, eJCH, (by decide : 73 + 0 ≤ _), (by decide : 635 + 0 ≤ _)⟩)
   dsimp only [Pt.U, Pt.locs, Pt.cells, Pt.slots] at XJCQ lJCT yJCU zJCV stJCW hQJCS
   subst yJCU zJCV
   obtain ⟨rfl, NJCX, eJCY⟩ := hQJCS
   have NJD0 : Fr n0 LJCN := by rw [lJCT]; exact Fr.app NJCJ NJCX
   clear lJCT NJCX
   have kJD1 : own_G p e below E0 TJCM (mkF m 323 zz50 [(.long (own_quarter i0)), (.long m0), (.long ((own_effi o0 tg nc p0 p1 p2).toInt64)), (.long (0 : Int64))]) := fun tQ kk => kJCL tQ (stJCW _ kk)
   clear kJCL stJCW
   let zz51 : Array Slot := #[vi p0, vi p1, vi p2, vj p3, ss, vi p4, vi (1 : Int32), vi o0, vi o1, vi i0, vi i1, vi tg, vi nc, vj m0, ss, vj m1, ss, vd (own_entry i0), ss, vd (own_entry i1), ss, vd b0, ss, vd b1, ss, vr aLB, vr aLQ, vr aM6, vr aMY, vr aNR, vr aPL, vr aQG, vd gJC0, ss, vj ((0 : Int64) + (((own_effi o0 tg nc p0 p1 p2).toInt64) * (m0 * (own_quarter i0)))), ss]
   have kJD2 : own_G p e below E0 TJCM (mkF m 362 zz51 [(.double gJC0)]) := by
    intro tQ kk
    refine kJD1 tQ ?_
    refine XT.lmul XJCQ.here hx rfl (hH at_323) rfl ?_
    refine XT.lmul XJCQ.here hx rfl (hH at_324) rfl ?_
    refine XT.ladd XJCQ.here hx rfl (hH at_325) rfl ?_
    refine XT.lstore XJCQ.here hx rfl (hH at_326) rfl (l' := zz51) rfl ?_
    refine XS.iload XJCQ.here hx rfl (hH at_328) rfl ?_
    refine XS.iconst XJCQ.here hx rfl (hH at_330) ?_
    refine XS.icmpYes XJCQ.here hx rfl (pc0 := 331) (pc' := 360) rfl (hH at_331) rfl (own_ic_ltY (by decide)) (by decide) (by decide) ?_
    refine XS.dload XJCQ.here hx rfl (hH at_360) rfl ?_
    exact kk
   clear kJD1
   have stJD3 := XJCQ.ldc2DoubleC hx hown (mvT hZ (tw249 hw)) (g := (mkF m 362 zz51 [(.double gJC0)])) rfl (hH at_362)
   have kJD4 : own_G p e below E0 TJCM (mkF m 365 zz51 [(.double (4616189618054758400 : UInt64)), (.double gJC0)]) := fun tQ kk => kJD2 tQ (stJD3 _ kk)
   clear kJD2 stJD3
   have kJD5 : own_G p e below E0 TJCM (mkF m 378 zz51 [(.int (1 : Int32))]) := by
    intro tQ kk
    refine kJD4 tQ ?_
    refine XS.dmulS XJCQ.here hx rfl (hH at_365) rfl (own_g4 gJC1 (by decide)).1.noNaN rfl ?_
    refine XT.lload XJCQ.here hx rfl (hH at_366) rfl ?_
    refine XS.l2dS XJCQ.here hx rfl (hH at_368) rfl rfl ?_
    refine XS.dcmpS (v := (0 : Int32)) XJCQ.here hx rfl (hH at_369) rfl (own_end gJC1 (by decide) (own_ref1 (own_effi o0 tg nc p0 p1 p2) bm0 i0)) ?_
    refine XS.ifNo XJCQ.here hx rfl (hH at_370) rfl (own_if_neN (by decide)) ?_
    refine XS.iconst XJCQ.here hx rfl (hH at_373) ?_
    refine XS.goto XJCQ.here hx rfl (pc0 := 374) (pc' := 378) rfl (hH at_374) (by decide) (by decide) ?_
    exact kk
   clear kJD4
   obtain ⟨fs, hr, hrun, hended, hW, hsame⟩ := XJCQ.leave (v := some (.int (1 : Int32))) (fun h => by rw [Bd.returns] at h; cases h)
   have hrun0 := kJD5 _ (retOut XJCQ hx Bd.returns (t := .boolean) rfl (Or.inl ⟨rfl, Or.inr (Or.inl rfl), _, rfl⟩) (hH at_378) hr)
   subst hE0
   refine ⟨_, _, hrun0, hrun, hended, _, _, rfl, ?_, ⟨_, rfl⟩, hW, hsame.mono (by decide) (by decide)⟩
   show Qrm0 Z p0 p1 p2 p3 p4 dE h0 n0 _ TJCM.heap _
   rw [eJCY]
   exact ⟨rfl, NJD0⟩
  ·skip
   have kJD6 : own_G p e below E0 TJ9Q (mkF m 288 zz49 [(.ref aQG)]) := by
    intro tQ kk
    refine kJAQ tQ ?_
    refine XS.icmpYes XJ9U.here hx rfl (pc0 := 273) (pc' := 286) rfl (hH at_273) rfl (own_ic_geY ct) (by decide) (by decide) ?_
    refine XS.aload XJ9U.here hx rfl (hH at_286) rfl rfl ?_
    exact kk
   clear kJAQ
   obtain ⟨cqJDI, kqJDJ, qaJDK, qbJDL, qcJDM⟩ := isOf hZ rfl AQD
   obtain ⟨_, _, ⟨TJD7, LJD8, kcJD9, ncJDA⟩, -, XJDB, ⟨LcJDC, hQJDD, lJDE, yJDF, zJDG⟩, stJDH⟩ := XJ9U.virtualBack hx (y := mn172) (z := mn172) hown (mvT hZ (tw242 hw)) (mvT hZ (tw243 hw)) (notFace_of_selects (args := #[]) (mvT hZ (tw245 hw))) (mvT hZ (tw245 hw)) (mvT hZ (tw244 hw)) (by decide) (backOf (W := 0) (rmOb1 l Z a0 hw [] aQG cARI baRK vaRN (((own_d16.set ((0 : Int32)).toNatClampNeg (.double (FP.i2d p0))).set ((1 : Int32)).toNatClampNeg (.double (FP.i2d p1))).set ((2 : Int32)).toNatClampNeg (.double (FP.i2d p2))) (own_i16.set ((0 : Int32)).toNatClampNeg (.int o0)) (own_d16.set ((0 : Int32)).toNatClampNeg (.double mqJA9)) o0 (FP.i2d (own_effi o0 tg nc p0 p1 p2)) mqJA9 (own_effi o0 tg nc p0 p1 p2).toInt (m0.toInt * (own_quarter i0).toInt) TJ9Q.heap n0 Z0 gJAI gJAC gJAE gJAH gJ27 gJAK gJAM rfl (own_oo bo0).1 (own_cl0 bo0 ct p0 p1 p2) rfl (own_cwI (own_effi o0 tg nc p0 p1 p2) gJAN bm0)) hZ (tw246 hw) (tw9 hw) (by decide) (by decide)) qaJDK qcJDM (g := (mkF m 288 zz49 [(.ref aQG)])) rfl (by rw [hml]; rfl) (Steps.refl _) (argsL := []) (rest := []) (lenOf pd_178 rfl) rfl (by show 2 * 0 + _ ≤ _; exact Nat.le_of_eq rfl) (hH at_288) (fun _ _ => ⟨rfl, rfl, (by decide : 73 + 0 ≤ _), (by decide : 635 + 0 ≤ _)⟩)
   dsimp only [Pt.U, Pt.locs, Pt.cells, Pt.slots] at XJDB lJDE yJDF zJDG stJDH hQJDD
   subst yJDF zJDG
   obtain ⟨gJDQ, rfl, NJDN, eJDO, gJDR⟩ := hQJDD
   have NJDS : Fr n0 LJD8 := by rw [lJDE]; exact Fr.app NJAO NJDN
   clear lJDE NJDN
   have kJDT : own_G p e below E0 TJD7 (mkF m 291 zz49 [(.double gJDQ)]) := fun tQ kk => kJD6 tQ (stJDH.trans kk)
   clear kJD6 stJDH
   let zz52 : Array Slot := #[vi p0, vi p1, vi p2, vj p3, ss, vi p4, vi (1 : Int32), vi o0, vi o1, vi i0, vi i1, vi tg, vi nc, vj m0, ss, vj m1, ss, vd (own_entry i0), ss, vd (own_entry i1), ss, vd b0, ss, vd b1, ss, vr aLB, vr aLQ, vr aM6, vr aMY, vr aNR, vr aPL, vr aQG, vd gJDQ, ss, vj (0 : Int64), ss]
   have kJDU : own_G p e below E0 TJD7 (mkF m 313 zz52 [(.int p2), (.int p1), (.int p0), (.int nc), (.int tg), (.int o0), (.long (0 : Int64))]) := by
    intro tQ kk
    refine kJDT tQ ?_
    refine XS.dstore XJDB.here hx rfl (hH at_291) rfl (l' := #[vi p0, vi p1, vi p2, vj p3, ss, vi p4, vi (1 : Int32), vi o0, vi o1, vi i0, vi i1, vi tg, vi nc, vj m0, ss, vj m1, ss, vd (own_entry i0), ss, vd (own_entry i1), ss, vd b0, ss, vd b1, ss, vr aLB, vr aLQ, vr aM6, vr aMY, vr aNR, vr aPL, vr aQG, vd gJDQ, ss, uu, uu]) rfl ?_
    refine XT.lconst XJDB.here hx rfl (hH at_293) ?_
    refine XT.lstore XJDB.here hx rfl (hH at_294) rfl (l' := zz52) rfl ?_
    refine XS.iload XJDB.here hx rfl (hH at_296) rfl ?_
    refine XS.iconst XJDB.here hx rfl (hH at_298) ?_
    refine XS.icmpNo XJDB.here hx rfl (hH at_299) rfl (own_ic_ltN (by decide)) ?_
    refine XT.lload XJDB.here hx rfl (hH at_302) rfl ?_
    refine XS.iload XJDB.here hx rfl (hH at_304) rfl ?_
    show Steps p.tables e below (TJD7.setTop (mkF m 306 zz52 [(.int o0), (.long (0 : Int64))])) tQ
    refine XS.iload XJDB.here hx rfl (hH at_306) rfl ?_
    refine XS.iload XJDB.here hx rfl (hH at_308) rfl ?_
    refine XS.iloadN XJDB.here hx rfl (hH at_310) rfl ?_
    refine XS.iloadN XJDB.here hx rfl (hH at_311) rfl ?_
    refine XS.iloadN XJDB.here hx rfl (hH at_312) rfl ?_
    exact kk
   clear kJDT
   obtain ⟨_, _, ⟨TJDV, LJDW, kcJDX, ncJDY⟩, -, XJDZ, ⟨LcJE0, hQJE1, lJE2, yJE3, zJE4⟩, stJE5⟩ := Jvm.LawKit.callS XJDB hx (y := mn175) hown (mvT hZ (tw302 hw)) (mvT hZ (tw303 hw)) (mvT hZ (tw3 hw)) (mvT hZ (tw304 hw)) (by decide) (backOf (W := 2) (rmEff l Z a0 hw [] o0 tg nc p0 p1 p2 TJ9Q.heap n0 Z0 ) hZ (tw304 hw) (tw3 hw) (by decide) (by decide)) (g := (mkF m 313 zz52 [(.int p2), (.int p1), (.int p0), (.int nc), (.int tg), (.int o0), (.long (0 : Int64))])) rfl (by rw [hml]; rfl) (argsL := [(.int o0), (.int tg), (.int nc), (.int p0), (.int p1), (.int p2)]) (rest := [(.long (0 : Int64))]) (lenOf pd_180 rfl) rfl (by show 2 * 0 + _ ≤ _; exact Nat.le_of_eq rfl) (hH at_313) (fun _ _ => ⟨rfl, eJDO, (by decide : 73 + 0 ≤ _), (by decide : 635 + 0 ≤ _)⟩)
   dsimp only [Pt.U, Pt.locs, Pt.cells, Pt.slots] at XJDZ lJE2 yJE3 zJE4 stJE5 hQJE1
   subst yJE3 zJE4
   obtain ⟨rfl, NJE6, eJE7⟩ := hQJE1
   have NJE9 : Fr n0 LJDW := by rw [lJE2]; exact Fr.app NJDS NJE6
   clear lJE2 NJE6
   have kJEA : own_G p e below E0 TJDV (mkF m 316 zz52 [(.long ((own_effi o0 tg nc p0 p1 p2).toInt64)), (.long (0 : Int64))]) := fun tQ kk => kJDU tQ (stJE5 _ kk)
   clear kJDU stJE5
   have kJEB : own_G p e below E0 TJDV (mkF m 320 zz52 [(.int i0), (.long m0), (.long ((own_effi o0 tg nc p0 p1 p2).toInt64)), (.long (0 : Int64))]) := by
    intro tQ kk
    refine kJEA tQ ?_
    refine XT.lload XJDZ.here hx rfl (hH at_316) rfl ?_
    refine XS.iload XJDZ.here hx rfl (hH at_318) rfl ?_
    exact kk
   clear kJEA
   obtain ⟨_, _, ⟨TJEC, LJED, kcJEE, ncJEF⟩, -, XJEG, ⟨LcJEH, hQJEI, lJEJ, yJEK, zJEL⟩, stJEM⟩ := Jvm.LawKit.callS XJDZ hx (y := mn174) hown (mvT hZ (tw305 hw)) (mvT hZ (tw306 hw)) (mvT hZ (tw3 hw)) (mvT hZ (tw307 hw)) (by decide) (backOf (W := 6) (rmQua l Z a0 hw [] i0 TJ9Q.heap n0 Z0 ) hZ (tw307 hw) (tw3 hw) (by decide) (by decide)) (g := (mkF m 320 zz52 [(.int i0), (.long m0), (.long ((own_effi o0 tg nc p0 p1 p2).toInt64)), (.long (0 : Int64))])) rfl (by rw [hml]; rfl) (argsL := [(.int i0)]) (rest := [(.long m0), (.long ((own_effi o0 tg nc p0 p1 p2).toInt64)), (.long (0 : Int64))]) (lenOf pd_181 rfl) rfl (by show 2 * 0 + _ ≤ _; exact Nat.le_of_eq rfl) (hH at_320) (fun _ _ => ⟨rfl, eJE7, (by decide : 73 + 0 ≤ _), (by decide : 635 + 0 ≤ _)⟩)
   dsimp only [Pt.U, Pt.locs, Pt.cells, Pt.slots] at XJEG lJEJ yJEK zJEL stJEM hQJEI
   subst yJEK zJEL
   obtain ⟨rfl, NJEN, eJEO⟩ := hQJEI
   have NJEQ : Fr n0 LJED := by rw [lJEJ]; exact Fr.app NJE9 NJEN
   clear lJEJ NJEN
   have kJER : own_G p e below E0 TJEC (mkF m 323 zz52 [(.long (own_quarter i0)), (.long m0), (.long ((own_effi o0 tg nc p0 p1 p2).toInt64)), (.long (0 : Int64))]) := fun tQ kk => kJEB tQ (stJEM _ kk)
   clear kJEB stJEM
   let zz53 : Array Slot := #[vi p0, vi p1, vi p2, vj p3, ss, vi p4, vi (1 : Int32), vi o0, vi o1, vi i0, vi i1, vi tg, vi nc, vj m0, ss, vj m1, ss, vd (own_entry i0), ss, vd (own_entry i1), ss, vd b0, ss, vd b1, ss, vr aLB, vr aLQ, vr aM6, vr aMY, vr aNR, vr aPL, vr aQG, vd gJDQ, ss, vj ((0 : Int64) + (((own_effi o0 tg nc p0 p1 p2).toInt64) * (m0 * (own_quarter i0)))), ss]
   have kJES : own_G p e below E0 TJEC (mkF m 362 zz53 [(.double gJDQ)]) := by
    intro tQ kk
    refine kJER tQ ?_
    refine XT.lmul XJEG.here hx rfl (hH at_323) rfl ?_
    refine XT.lmul XJEG.here hx rfl (hH at_324) rfl ?_
    refine XT.ladd XJEG.here hx rfl (hH at_325) rfl ?_
    refine XT.lstore XJEG.here hx rfl (hH at_326) rfl (l' := zz53) rfl ?_
    refine XS.iload XJEG.here hx rfl (hH at_328) rfl ?_
    refine XS.iconst XJEG.here hx rfl (hH at_330) ?_
    refine XS.icmpYes XJEG.here hx rfl (pc0 := 331) (pc' := 360) rfl (hH at_331) rfl (own_ic_ltY (by decide)) (by decide) (by decide) ?_
    refine XS.dload XJEG.here hx rfl (hH at_360) rfl ?_
    exact kk
   clear kJER
   have stJET := XJEG.ldc2DoubleC hx hown (mvT hZ (tw249 hw)) (g := (mkF m 362 zz53 [(.double gJDQ)])) rfl (hH at_362)
   have kJEU : own_G p e below E0 TJEC (mkF m 365 zz53 [(.double (4616189618054758400 : UInt64)), (.double gJDQ)]) := fun tQ kk => kJES tQ (stJET _ kk)
   clear kJES stJET
   have kJEV : own_G p e below E0 TJEC (mkF m 378 zz53 [(.int (1 : Int32))]) := by
    intro tQ kk
    refine kJEU tQ ?_
    refine XS.dmulS XJEG.here hx rfl (hH at_365) rfl (own_g4 gJDR (by decide)).1.noNaN rfl ?_
    refine XT.lload XJEG.here hx rfl (hH at_366) rfl ?_
    refine XS.l2dS XJEG.here hx rfl (hH at_368) rfl rfl ?_
    refine XS.dcmpS (v := (0 : Int32)) XJEG.here hx rfl (hH at_369) rfl (own_end gJDR (by decide) (own_ref1 (own_effi o0 tg nc p0 p1 p2) bm0 i0)) ?_
    refine XS.ifNo XJEG.here hx rfl (hH at_370) rfl (own_if_neN (by decide)) ?_
    refine XS.iconst XJEG.here hx rfl (hH at_373) ?_
    refine XS.goto XJEG.here hx rfl (pc0 := 374) (pc' := 378) rfl (hH at_374) (by decide) (by decide) ?_
    exact kk
   clear kJEU
   obtain ⟨fs, hr, hrun, hended, hW, hsame⟩ := XJEG.leave (v := some (.int (1 : Int32))) (fun h => by rw [Bd.returns] at h; cases h)
   have hrun0 := kJEV _ (retOut XJEG hx Bd.returns (t := .boolean) rfl (Or.inl ⟨rfl, Or.inr (Or.inl rfl), _, rfl⟩) (hH at_378) hr)
   subst hE0
   refine ⟨_, _, hrun0, hrun, hended, _, _, rfl, ?_, ⟨_, rfl⟩, hW, hsame.mono (by decide) (by decide)⟩
   show Qrm0 Z p0 p1 p2 p3 p4 dE h0 n0 _ TJEC.heap _
   rw [eJEO]
   exact ⟨rfl, NJEQ⟩
 ·skip
  obtain ⟨EE0, hB0⟩ := own_prep hb0 bm0
  let zz54 : Array Slot := #[vi p0, vi p1, vi p2, vj p3, ss, vi p4, vi (2 : Int32), vi o0, vi o1, vi i0, vi i1, vi tg, vi nc, vj m0, ss, vj m1, ss, vd (own_entry i0), ss, vd (own_entry i1), ss, vd b0, ss, vd b1, ss, vr aLB, vr aLQ, vr aM6, vr aMY, vr aNR, vr aPL, vr aQG, uu, uu, uu, uu]
  have kJEW : own_G p e below E0 TJ18 (mkF m 246 zz54 [(.int o0), (.ref aMY), (.ref aM6), (.double b0), (.ref aQG)]) := by
   intro tQ kk
   refine kJ7E tQ ?_
   refine XS.iload XJ1C.here hx rfl (hH at_230) rfl ?_
   refine XS.iconst XJ1C.here hx rfl (hH at_232) ?_
   refine XS.icmpNo XJ1C.here hx rfl (hH at_233) rfl (own_ic_ltN (by decide)) ?_
   refine XS.aload XJ1C.here hx rfl (hH at_236) rfl rfl ?_
   refine XS.dload XJ1C.here hx rfl (hH at_238) rfl ?_
   refine XS.aload XJ1C.here hx rfl (hH at_240) rfl rfl ?_
   refine XS.aload XJ1C.here hx rfl (hH at_242) rfl rfl ?_
   refine XS.iload XJ1C.here hx rfl (hH at_244) rfl ?_
   exact kk
  clear kJ7E
  obtain ⟨cqJF8, kqJF9, qaJFA, qbJFB, qcJFC⟩ := isOf hZ rfl AQD
  obtain ⟨_, _, ⟨TJEX, LJEY, kcJEZ, ncJF0⟩, -, XJF1, ⟨LcJF2, hQJF3, lJF4, yJF5, zJF6⟩, stJF7⟩ := XJ1C.virtualBack hx (y := mn159) (z := mn159) hown (mvT hZ (tw251 hw)) (mvT hZ (tw252 hw)) (notFace_of_selects (args := #[]) (mvT hZ (tw254 hw))) (mvT hZ (tw254 hw)) (mvT hZ (tw253 hw)) (by decide) (backOf (W := 0) (rmRs0 l Z a0 hw [] aQG aM6 aMY alRH cARI roRJ baRK pARL faRM vaRN rVD scVE scYQ scJ1R xo ra sa own_d16 own_i16 (((own_i16.set ((0 : Int32)).toNatClampNeg (.int (-1 : Int32))).set ((1 : Int32)).toNatClampNeg (.int (-1 : Int32))).set ((2 : Int32)).toNatClampNeg (.int (-1 : Int32))) own_d16 own_i4 own_d4 b0 (own_entry i0) o0 (m0.toInt * (own_quarter i0).toInt) EE0 TJ18.heap n0 Z0 AQD gJ1V gJ1W gJ1X gJ1Y gJ1Z gJ20 gJ21 gJ22 gRX gJ23 gJ24 gJ26 gS1 gS2 FJ4H FJ4I FJ4J FJ4K FJ4L FJ4M gS4 gS5 gJ28 gS7 FMO FNH nTR nU0 nU9 nUR (Ne.symm nJ4X) (Ne.symm nJ5A) (Ne.symm nJ5N) (Ne.symm nQM) (Ne.symm nQN) nT9 nWL nUI nSQ nSR nST (Ne.symm nJ50) (Ne.symm nJ5D) (Ne.symm nJ5Q) (Ne.symm nTN) (Ne.symm nTO) (Ne.symm nSG) nWP nSS nSU nSW (Ne.symm nJ51) (Ne.symm nJ5E) (Ne.symm nJ5R) (Ne.symm nTW) (Ne.symm nTX) (Ne.symm nSH) nWQ nSV nSY (Ne.symm nJ55) (Ne.symm nJ5I) (Ne.symm nJ5V) (Ne.symm nU5) (Ne.symm nU6) (Ne.symm nSI) nWR nSX (Ne.symm nJ52) (Ne.symm nJ5F) (Ne.symm nJ5S) (Ne.symm nUN) (Ne.symm nUO) (Ne.symm nSK) nWS (Ne.symm nSZ) nJ6Z nJ70 nJ4T nJ4U nJ4Y nJ53 nJ4Z nJ74 nJ56 nJ57 nJ5B nJ5G nJ5C nJ5J nJ5K nJ5O nJ5T nJ5P geQQ geTJ geTS geU1 geUJ ge_xo ge_ra ge_sa (by (try simp only [List.length_set]); rfl) (by (try simp only [List.length_set]); rfl) (by (try simp only [List.length_set]); rfl) (by (try simp only [List.length_set]); rfl) (by (try simp only [List.length_set]); rfl) (by (try simp only [List.length_set]); rfl) (own_oo bo0).1 (own_oo bo0).2 hxo (own_pv0 bo0) hB0) hZ (tw255 hw) (tw9 hw) (by decide) (by decide)) qaJFA qcJFC (g := (mkF m 246 zz54 [(.int o0), (.ref aMY), (.ref aM6), (.double b0), (.ref aQG)])) rfl (by rw [hml]; rfl) (Steps.refl _) (argsL := [(.double b0), (.ref aM6), (.ref aMY), (.int o0)]) (rest := []) (lenOf pd_179 rfl) rfl (by show 2 * 0 + _ ≤ _; exact Nat.le_of_eq rfl) (hH at_246) (fun _ _ => ⟨rfl, rfl, (by decide : 72 + 1 ≤ _), (by decide : 635 + 0 ≤ _)⟩)
  dsimp only [Pt.U, Pt.locs, Pt.cells, Pt.slots] at XJF1 lJF4 yJF5 zJF6 stJF7 hQJF3
  subst yJF5 zJF6
  obtain ⟨mqJFG, rfl, NJFD, KJFH, gJFI, gJFJ, gJFK, gJFL, gJFM, gJFN, gJFO, gJFP, gJFQ, gJFR, gJFS, gJFT, gJFU⟩ := hQJF3
  have NJFV : Fr n0 LJEY := by rw [lJF4]; exact Fr.app NJ2L NJFD
  clear lJF4 NJFD
  replace Z0 := Nat.le_trans Z0 KJFH.1
  replace FMO := FMO.keep KJFH (ninS nQM (ninS nTN (ninS nTW (ninS nU5 (ninS nUN (ninS (Ne.symm nJ4T) (ninS (Ne.symm nJ56) (ninS (Ne.symm nJ5J) nin0))))))))
  replace FNH := FNH.keep KJFH (ninS nQN (ninS nTO (ninS nTX (ninS nU6 (ninS nUO (ninS (Ne.symm nJ4U) (ninS (Ne.symm nJ57) (ninS (Ne.symm nJ5K) nin0))))))))
  replace FPB := FPB.keep KJFH (ninS nQO (ninS nTP (ninS nTY (ninS nU7 (ninS nUP (ninS (Ne.symm nJ4V) (ninS (Ne.symm nJ58) (ninS (Ne.symm nJ5L) nin0))))))))
  replace FQ6 := FQ6.keep KJFH (ninS nQP (ninS nTQ (ninS nTZ (ninS nU8 (ninS nUQ (ninS (Ne.symm nJ4W) (ninS (Ne.symm nJ59) (ninS (Ne.symm nJ5M) nin0))))))))
  replace AQD := AQD.keep KJFH
  replace gRX := gRX.keep KJFH
  replace gS1 := gS1.keep KJFH
  replace gS2 := gS2.keep KJFH (ninS (Ne.symm nUI) (ninS (Ne.symm nSS) (ninS (Ne.symm nSV) (ninS (Ne.symm nSX) (ninS nSZ (ninS (Ne.symm nJ4Z) (ninS (Ne.symm nJ5C) (ninS (Ne.symm nJ5P) nin0))))))))
  clear gS4
  clear gS5
  clear gS7
  clear gJ1V
  clear gJ1W
  clear gJ1X
  clear gJ1Y
  clear gJ1Z
  clear gJ20
  clear gJ21
  clear gJ22
  replace gJ23 := gJ23.keep KJFH (ninS (Ne.symm nT9) (ninS nSG (ninS nSH (ninS nSI (ninS nSK (ninS (Ne.symm nJ4Y) (ninS (Ne.symm nJ5B) (ninS (Ne.symm nJ5O) nin0))))))))
  replace gJ24 := gJ24.keep KJFH (ninS (Ne.symm nT9) (ninS nSG (ninS nSH (ninS nSI (ninS nSK (ninS (Ne.symm nJ4Y) (ninS (Ne.symm nJ5B) (ninS (Ne.symm nJ5O) nin0))))))))
  replace gJ26 := gJ26.keep KJFH (ninS (Ne.symm nWL) (ninS (Ne.symm nWP) (ninS (Ne.symm nWQ) (ninS (Ne.symm nWR) (ninS (Ne.symm nWS) (ninS (Ne.symm nJ53) (ninS (Ne.symm nJ5G) (ninS (Ne.symm nJ5T) nin0))))))))
  replace gJ27 := gJ27.keep KJFH (ninS (Ne.symm nTI) (ninS nSL (ninS nSM (ninS nSN (ninS nSP (ninS (Ne.symm nJ54) (ninS (Ne.symm nJ5H) (ninS (Ne.symm nJ5U) nin0))))))))
  clear gJ28
  replace FJ4H := FJ4H.keep KJFH
  clear FJ4I
  clear FJ4J
  clear FJ4K
  clear FJ4L
  clear FJ4M
  replace FJ4N := FJ4N.keep KJFH
  replace FJ4O := FJ4O.keep KJFH (ninS nJ60 (ninS nJ63 (ninS nJ64 (ninS nJ68 (ninS nJ65 (ninS (Ne.symm nJ71) (ninS (Ne.symm nJ75) (ninS (Ne.symm nJ78) nin0))))))))
  replace FJ4P := FJ4P.keep KJFH (ninS nJ60 (ninS nJ63 (ninS nJ64 (ninS nJ68 (ninS nJ65 (ninS (Ne.symm nJ71) (ninS (Ne.symm nJ75) (ninS (Ne.symm nJ78) nin0))))))))
  replace FJ4Q := FJ4Q.keep KJFH (ninS nJ60 (ninS nJ63 (ninS nJ64 (ninS nJ68 (ninS nJ65 (ninS (Ne.symm nJ71) (ninS (Ne.symm nJ75) (ninS (Ne.symm nJ78) nin0))))))))
  replace FJ4R := FJ4R.keep KJFH (ninS nJ6D (ninS nJ6G (ninS nJ6H (ninS nJ6L (ninS nJ6I (ninS (Ne.symm nJ72) (ninS (Ne.symm nJ76) (ninS (Ne.symm nJ79) nin0))))))))
  replace FJ4S := FJ4S.keep KJFH (ninS nJ6Q (ninS nJ6T (ninS nJ6U (ninS nJ6Y (ninS nJ6V (ninS (Ne.symm nJ73) (ninS (Ne.symm nJ77) (ninS (Ne.symm nJ7A) nin0))))))))
  have kJFW : own_G p e below E0 TJEX (mkF m 249 zz54 [(.int (0 : Int32))]) := fun tQ kk => kJEW tQ (stJF7.trans kk)
  clear kJEW stJF7
  obtain ⟨EE1, hB1⟩ := own_prep hb1 bm1
  have kJFX : own_G p e below E0 TJEX (mkF m 266 zz54 [(.int o1), (.ref aPL), (.ref aNR), (.double b1), (.ref aQG)]) := by
   intro tQ kk
   refine kJFW tQ ?_
   refine XT.pop XJF1.here hx rfl (hH at_249) rfl rfl ?_
   refine XS.iload XJF1.here hx rfl (hH at_250) rfl ?_
   refine XS.iconst XJF1.here hx rfl (hH at_252) ?_
   refine XS.icmpNo XJF1.here hx rfl (hH at_253) rfl (own_ic_ltN (by decide)) ?_
   refine XS.aload XJF1.here hx rfl (hH at_256) rfl rfl ?_
   refine XS.dload XJF1.here hx rfl (hH at_258) rfl ?_
   refine XS.aload XJF1.here hx rfl (hH at_260) rfl rfl ?_
   refine XS.aload XJF1.here hx rfl (hH at_262) rfl rfl ?_
   show Steps p.tables e below (TJEX.setTop (mkF m 264 zz54 [(.ref aPL), (.ref aNR), (.double b1), (.ref aQG)])) tQ
   refine XS.iload XJF1.here hx rfl (hH at_264) rfl ?_
   exact kk
  clear kJFW
  obtain ⟨cqJG9, kqJGA, qaJGB, qbJGC, qcJGD⟩ := isOf hZ rfl AQD
  obtain ⟨_, _, ⟨TJFY, LJFZ, kcJG0, ncJG1⟩, -, XJG2, ⟨LcJG3, hQJG4, lJG5, yJG6, zJG7⟩, stJG8⟩ := XJF1.virtualBack hx (y := mn159) (z := mn159) hown (mvT hZ (tw251 hw)) (mvT hZ (tw252 hw)) (notFace_of_selects (args := #[]) (mvT hZ (tw254 hw))) (mvT hZ (tw254 hw)) (mvT hZ (tw253 hw)) (by decide) (backOf (W := 0) (rmRs1 l Z a0 hw [] aQG aNR aPL alRH cARI roRJ baRK pARL faRM vaRN rVD scVE scYQ scJ1R xp rb sb (own_d16.set ((0 : Int32)).toNatClampNeg (.double b0)) (own_i16.set ((0 : Int32)).toNatClampNeg (.int o0)) ((((own_i16.set ((0 : Int32)).toNatClampNeg (.int (-1 : Int32))).set ((1 : Int32)).toNatClampNeg (.int (-1 : Int32))).set ((2 : Int32)).toNatClampNeg (.int (-1 : Int32))).set o0.toNatClampNeg (.int (0 : Int32))) (own_d16.set ((0 : Int32)).toNatClampNeg (.double mqJFG)) own_i4 own_d4 b1 (own_entry i1) o1 (m1.toInt * (own_quarter i1).toInt) EE1 TJEX.heap n0 Z0 AQD gJFI gJFJ gJFK gJFL gJFM gJFN gJFO gJFP gRX gJ23 gJ24 gJ26 gS1 gS2 FJ4N FJ4O FJ4P FJ4Q FJ4R FJ4S gJFQ gJFR gJFS gJFT FPB FQ6 nTR nU0 nU9 nUR (Ne.symm nJ60) (Ne.symm nJ6D) (Ne.symm nJ6Q) (Ne.symm nQO) (Ne.symm nQP) nT9 nWL nUI nSQ nSR nST (Ne.symm nJ63) (Ne.symm nJ6G) (Ne.symm nJ6T) (Ne.symm nTP) (Ne.symm nTQ) (Ne.symm nSG) nWP nSS nSU nSW (Ne.symm nJ64) (Ne.symm nJ6H) (Ne.symm nJ6U) (Ne.symm nTY) (Ne.symm nTZ) (Ne.symm nSH) nWQ nSV nSY (Ne.symm nJ68) (Ne.symm nJ6L) (Ne.symm nJ6Y) (Ne.symm nU7) (Ne.symm nU8) (Ne.symm nSI) nWR nSX (Ne.symm nJ65) (Ne.symm nJ6I) (Ne.symm nJ6V) (Ne.symm nUP) (Ne.symm nUQ) (Ne.symm nSK) nWS (Ne.symm nSZ) nJ7B nJ7C nJ5Y nJ5Z nJ61 nJ66 nJ62 nJ7D nJ6B nJ6C nJ6E nJ6J nJ6F nJ6O nJ6P nJ6R nJ6W nJ6S geQQ geTJ geTS geU1 geUJ ge_xp ge_rb ge_sb (by (try simp only [List.length_set]); rfl) (by (try simp only [List.length_set]); rfl) (by (try simp only [List.length_set]); rfl) (by (try simp only [List.length_set]); rfl) (by (try simp only [List.length_set]); rfl) (by (try simp only [List.length_set]); rfl) (own_oo bo1).1 (own_oo bo1).2 hxp (own_pv1 ho0 ho1) hB1) hZ (tw255 hw) (tw9 hw) (by decide) (by decide)) qaJGB qcJGD (g := (mkF m 266 zz54 [(.int o1), (.ref aPL), (.ref aNR), (.double b1), (.ref aQG)])) rfl (by rw [hml]; rfl) (Steps.refl _) (argsL := [(.double b1), (.ref aNR), (.ref aPL), (.int o1)]) (rest := []) (lenOf pd_179 rfl) rfl (by show 2 * 0 + _ ≤ _; exact Nat.le_of_eq rfl) (hH at_266) (fun _ _ => ⟨rfl, rfl, (by decide : 73 + 1 ≤ _), (by decide : 635 + 1 ≤ _)⟩)
  dsimp only [Pt.U, Pt.locs, Pt.cells, Pt.slots] at XJG2 lJG5 yJG6 zJG7 stJG8 hQJG4
  subst yJG6 zJG7
  obtain ⟨mqJGH, rfl, NJGE, KJGI, gJGJ, gJGK, gJGL, gJGM, gJGN, gJGO, gJGP, gJGQ, gJGR, gJGS, gJGT, gJGU, gJGV⟩ := hQJG4
  have NJGW : Fr n0 LJFZ := by rw [lJG5]; exact Fr.app NJFV NJGE
  clear lJG5 NJGE
  replace Z0 := Nat.le_trans Z0 KJGI.1
  replace FPB := FPB.keep KJGI (ninS nQO (ninS nTP (ninS nTY (ninS nU7 (ninS nUP (ninS (Ne.symm nJ5Y) (ninS (Ne.symm nJ6B) (ninS (Ne.symm nJ6O) nin0))))))))
  replace FQ6 := FQ6.keep KJGI (ninS nQP (ninS nTQ (ninS nTZ (ninS nU8 (ninS nUQ (ninS (Ne.symm nJ5Z) (ninS (Ne.symm nJ6C) (ninS (Ne.symm nJ6P) nin0))))))))
  replace AQD := AQD.keep KJGI
  replace gRX := gRX.keep KJGI
  replace gS1 := gS1.keep KJGI
  replace gS2 := gS2.keep KJGI (ninS (Ne.symm nUI) (ninS (Ne.symm nSS) (ninS (Ne.symm nSV) (ninS (Ne.symm nSX) (ninS nSZ (ninS (Ne.symm nJ62) (ninS (Ne.symm nJ6F) (ninS (Ne.symm nJ6S) nin0))))))))
  replace gJ23 := gJ23.keep KJGI (ninS (Ne.symm nT9) (ninS nSG (ninS nSH (ninS nSI (ninS nSK (ninS (Ne.symm nJ61) (ninS (Ne.symm nJ6E) (ninS (Ne.symm nJ6R) nin0))))))))
  replace gJ24 := gJ24.keep KJGI (ninS (Ne.symm nT9) (ninS nSG (ninS nSH (ninS nSI (ninS nSK (ninS (Ne.symm nJ61) (ninS (Ne.symm nJ6E) (ninS (Ne.symm nJ6R) nin0))))))))
  replace gJ26 := gJ26.keep KJGI (ninS (Ne.symm nWL) (ninS (Ne.symm nWP) (ninS (Ne.symm nWQ) (ninS (Ne.symm nWR) (ninS (Ne.symm nWS) (ninS (Ne.symm nJ66) (ninS (Ne.symm nJ6J) (ninS (Ne.symm nJ6W) nin0))))))))
  replace gJ27 := gJ27.keep KJGI (ninS (Ne.symm nTI) (ninS nSL (ninS nSM (ninS nSN (ninS nSP (ninS (Ne.symm nJ67) (ninS (Ne.symm nJ6K) (ninS (Ne.symm nJ6X) nin0))))))))
  replace FJ4H := FJ4H.keep KJGI
  replace FJ4N := FJ4N.keep KJGI
  clear FJ4O
  clear FJ4P
  clear FJ4Q
  clear FJ4R
  clear FJ4S
  clear gJFI
  clear gJFJ
  clear gJFK
  clear gJFL
  clear gJFM
  clear gJFN
  clear gJFO
  clear gJFP
  clear gJFQ
  clear gJFR
  clear gJFS
  clear gJFT
  have kJGX : own_G p e below E0 TJFY (mkF m 269 zz54 [(.int (1 : Int32))]) := fun tQ kk => kJFX tQ (stJG8.trans kk)
  clear kJFX stJG8
  have kJGY : own_G p e below E0 TJFY (mkF m 273 zz54 [(.int (3 : Int32)), (.int tg)]) := by
   intro tQ kk
   refine kJGX tQ ?_
   refine XT.pop XJG2.here hx rfl (hH at_269) rfl rfl ?_
   refine XS.iload XJG2.here hx rfl (hH at_270) rfl ?_
   refine XS.iconst XJG2.here hx rfl (hH at_272) ?_
   exact kk
  clear kJGX
  by_cases ct : tg < (3 : Int32)
  ·skip
   have kJH0 : own_G p e below E0 TJFY (mkF m 283 zz54 [(.double (FP.i2d nc)), (.int tg), (.ref aQG)]) := by
    intro tQ kk
    refine kJGY tQ ?_
    refine XS.icmpNo XJG2.here hx rfl (hH at_273) rfl (own_ic_geN ct) ?_
    refine XS.aload XJG2.here hx rfl (hH at_276) rfl rfl ?_
    refine XS.iload XJG2.here hx rfl (hH at_278) rfl ?_
    refine XS.iload XJG2.here hx rfl (hH at_280) rfl ?_
    refine XS.i2dS XJG2.here hx rfl (hH at_282) rfl rfl ?_
    exact kk
   clear kJGY
   obtain ⟨cqJHC, kqJHD, qaJHE, qbJHF, qcJHG⟩ := isOf hZ rfl AQD
   obtain ⟨_, _, ⟨TJH1, LJH2, kcJH3, ncJH4⟩, -, XJH5, ⟨LcJH6, hQJH7, lJH8, yJH9, zJHA⟩, stJHB⟩ := XJG2.virtualBack hx (y := mn171) (z := mn171) hown (mvT hZ (tw237 hw)) (mvT hZ (tw238 hw)) (notFace_of_selects (args := #[]) (mvT hZ (tw240 hw))) (mvT hZ (tw240 hw)) (mvT hZ (tw239 hw)) (by decide) (backOf (W := 0) (rmSet l Z a0 hw [] aQG cARI tg (FP.i2d nc) (((own_d16.set ((0 : Int32)).toNatClampNeg (.double (FP.i2d p0))).set ((1 : Int32)).toNatClampNeg (.double (FP.i2d p1))).set ((2 : Int32)).toNatClampNeg (.double (FP.i2d p2))) TJFY.heap n0 Z0 gJGK gJ27 nTI geTA (own_tn bt).1 (own_tl bt ct (by (try simp only [List.length_set]); rfl))) hZ (tw241 hw) (tw9 hw) (by decide) (by decide)) qaJHE qcJHG (g := (mkF m 283 zz54 [(.double (FP.i2d nc)), (.int tg), (.ref aQG)])) rfl (by rw [hml]; rfl) (Steps.refl _) (argsL := [(.int tg), (.double (FP.i2d nc))]) (rest := []) (lenOf pd_163 rfl) rfl (by show 2 * 0 + _ ≤ _; exact Nat.le_of_eq rfl) (hH at_283) (fun _ _ => ⟨rfl, rfl, (by decide : 74 + 0 ≤ _), (by decide : 636 + 0 ≤ _)⟩)
   dsimp only [Pt.U, Pt.locs, Pt.cells, Pt.slots] at XJH5 lJH8 yJH9 zJHA stJHB hQJH7
   subst yJH9 zJHA
   obtain ⟨rfl, NJHH, KJHK, gJHL⟩ := hQJH7
   have NJHM : Fr n0 LJH2 := by rw [lJH8]; exact Fr.app NJGW NJHH
   clear lJH8 NJHH
   replace Z0 := Nat.le_trans Z0 KJHK.1
   replace AQD := AQD.keep KJHK
   replace gRX := gRX.keep KJHK
   replace gS1 := gS1.keep KJHK
   replace gS2 := gS2.keep KJHK (ninS (Ne.symm nSO) nin0)
   replace gJ23 := gJ23.keep KJHK (ninS nSF nin0)
   replace gJ24 := gJ24.keep KJHK (ninS nSF nin0)
   replace gJ26 := gJ26.keep KJHK (ninS (Ne.symm nWO) nin0)
   clear gJ27
   replace FJ4H := FJ4H.keep KJHK
   replace FJ4N := FJ4N.keep KJHK
   replace gJGJ := gJGJ.keep KJHK (ninS nTI nin0)
   replace gJGK := gJGK.keep KJHK (ninS nTI nin0)
   replace gJGL := gJGL.keep KJHK (ninS nTI nin0)
   replace gJGM := gJGM.keep KJHK (ninS nTI nin0)
   replace gJGN := gJGN.keep KJHK (ninS nTI nin0)
   replace gJGO := gJGO.keep KJHK (ninS nTI nin0)
   replace gJGP := gJGP.keep KJHK (ninS nTI nin0)
   replace gJGQ := gJGQ.keep KJHK (ninS nTI nin0)
   replace gJGR := gJGR.keep KJHK (ninS (Ne.symm nSL) nin0)
   replace gJGS := gJGS.keep KJHK (ninS (Ne.symm nSM) nin0)
   replace gJGT := gJGT.keep KJHK (ninS (Ne.symm nSN) nin0)
   replace gJGU := gJGU.keep KJHK (ninS (Ne.symm nSP) nin0)
   have kJHN : own_G p e below E0 TJH1 (mkF m 286 zz54 []) := fun tQ kk => kJH0 tQ (stJHB.trans kk)
   clear kJH0 stJHB
   have kJHO : own_G p e below E0 TJH1 (mkF m 288 zz54 [(.ref aQG)]) := by
    intro tQ kk
    refine kJHN tQ ?_
    refine XS.aload XJH5.here hx rfl (hH at_286) rfl rfl ?_
    exact kk
   clear kJHN
   obtain ⟨cqJI0, kqJI1, qaJI2, qbJI3, qcJI4⟩ := isOf hZ rfl AQD
   obtain ⟨_, _, ⟨TJHP, LJHQ, kcJHR, ncJHS⟩, -, XJHT, ⟨LcJHU, hQJHV, lJHW, yJHX, zJHY⟩, stJHZ⟩ := XJH5.virtualBack hx (y := mn172) (z := mn172) hown (mvT hZ (tw242 hw)) (mvT hZ (tw243 hw)) (notFace_of_selects (args := #[]) (mvT hZ (tw245 hw))) (mvT hZ (tw245 hw)) (mvT hZ (tw244 hw)) (by decide) (backOf (W := 0) (rmOb2 l Z a0 hw [] aQG cARI baRK vaRN ((((own_d16.set ((0 : Int32)).toNatClampNeg (.double (FP.i2d p0))).set ((1 : Int32)).toNatClampNeg (.double (FP.i2d p1))).set ((2 : Int32)).toNatClampNeg (.double (FP.i2d p2))).set tg.toNatClampNeg (.double (FP.i2d nc))) ((own_i16.set ((0 : Int32)).toNatClampNeg (.int o0)).set ((1 : Int32)).toNatClampNeg (.int o1)) ((own_d16.set ((0 : Int32)).toNatClampNeg (.double mqJFG)).set ((1 : Int32)).toNatClampNeg (.double mqJGH)) o0 (FP.i2d (own_effi o0 tg nc p0 p1 p2)) mqJFG (own_effi o0 tg nc p0 p1 p2).toInt (m0.toInt * (own_quarter i0).toInt) o1 (FP.i2d (own_effi o1 tg nc p0 p1 p2)) mqJGH (own_effi o1 tg nc p0 p1 p2).toInt (m1.toInt * (own_quarter i1).toInt) TJH1.heap n0 Z0 gJGQ gJGK gJGM gJGP gJHL gJGS gJGU rfl (own_oo bo0).1 (own_cl1 bo0 bt ct p0 p1 p2) rfl (own_cwI (own_effi o0 tg nc p0 p1 p2) gJFU bm0) rfl (own_oo bo1).1 (own_cl1 bo1 bt ct p0 p1 p2) rfl (own_cwI (own_effi o1 tg nc p0 p1 p2) gJGV bm1)) hZ (tw246 hw) (tw9 hw) (by decide) (by decide)) qaJI2 qcJI4 (g := (mkF m 288 zz54 [(.ref aQG)])) rfl (by rw [hml]; rfl) (Steps.refl _) (argsL := []) (rest := []) (lenOf pd_178 rfl) rfl (by show 2 * 0 + _ ≤ _; exact Nat.le_of_eq rfl) (hH at_288) (fun _ _ => ⟨rfl, rfl, (by decide : 74 + 0 ≤ _), (by decide : 636 + 0 ≤ _)⟩)
   dsimp only [Pt.U, Pt.locs, Pt.cells, Pt.slots] at XJHT lJHW yJHX zJHY stJHZ hQJHV
   subst yJHX zJHY
   obtain ⟨gJI8, rfl, NJI5, eJI6, gJI9⟩ := hQJHV
   have NJIA : Fr n0 LJHQ := by rw [lJHW]; exact Fr.app NJHM NJI5
   clear lJHW NJI5
   have kJIB : own_G p e below E0 TJHP (mkF m 291 zz54 [(.double gJI8)]) := fun tQ kk => kJHO tQ (stJHZ.trans kk)
   clear kJHO stJHZ
   let zz55 : Array Slot := #[vi p0, vi p1, vi p2, vj p3, ss, vi p4, vi (2 : Int32), vi o0, vi o1, vi i0, vi i1, vi tg, vi nc, vj m0, ss, vj m1, ss, vd (own_entry i0), ss, vd (own_entry i1), ss, vd b0, ss, vd b1, ss, vr aLB, vr aLQ, vr aM6, vr aMY, vr aNR, vr aPL, vr aQG, vd gJI8, ss, vj (0 : Int64), ss]
   have kJIC : own_G p e below E0 TJHP (mkF m 313 zz55 [(.int p2), (.int p1), (.int p0), (.int nc), (.int tg), (.int o0), (.long (0 : Int64))]) := by
    intro tQ kk
    refine kJIB tQ ?_
    refine XS.dstore XJHT.here hx rfl (hH at_291) rfl (l' := #[vi p0, vi p1, vi p2, vj p3, ss, vi p4, vi (2 : Int32), vi o0, vi o1, vi i0, vi i1, vi tg, vi nc, vj m0, ss, vj m1, ss, vd (own_entry i0), ss, vd (own_entry i1), ss, vd b0, ss, vd b1, ss, vr aLB, vr aLQ, vr aM6, vr aMY, vr aNR, vr aPL, vr aQG, vd gJI8, ss, uu, uu]) rfl ?_
    refine XT.lconst XJHT.here hx rfl (hH at_293) ?_
    refine XT.lstore XJHT.here hx rfl (hH at_294) rfl (l' := zz55) rfl ?_
    refine XS.iload XJHT.here hx rfl (hH at_296) rfl ?_
    refine XS.iconst XJHT.here hx rfl (hH at_298) ?_
    refine XS.icmpNo XJHT.here hx rfl (hH at_299) rfl (own_ic_ltN (by decide)) ?_
    refine XT.lload XJHT.here hx rfl (hH at_302) rfl ?_
    refine XS.iload XJHT.here hx rfl (hH at_304) rfl ?_
    show Steps p.tables e below (TJHP.setTop (mkF m 306 zz55 [(.int o0), (.long (0 : Int64))])) tQ
    refine XS.iload XJHT.here hx rfl (hH at_306) rfl ?_
    refine XS.iload XJHT.here hx rfl (hH at_308) rfl ?_
    refine XS.iloadN XJHT.here hx rfl (hH at_310) rfl ?_
    refine XS.iloadN XJHT.here hx rfl (hH at_311) rfl ?_
    refine XS.iloadN XJHT.here hx rfl (hH at_312) rfl ?_
    exact kk
   clear kJIB
   obtain ⟨_, _, ⟨TJID, LJIE, kcJIF, ncJIG⟩, -, XJIH, ⟨LcJII, hQJIJ, lJIK, yJIL, zJIM⟩, stJIN⟩ := Jvm.LawKit.callS XJHT hx (y := mn175) hown (mvT hZ (tw302 hw)) (mvT hZ (tw303 hw)) (mvT hZ (tw3 hw)) (mvT hZ (tw304 hw)) (by decide) (backOf (W := 2) (rmEff l Z a0 hw [] o0 tg nc p0 p1 p2 TJH1.heap n0 Z0 ) hZ (tw304 hw) (tw3 hw) (by decide) (by decide)) (g := (mkF m 313 zz55 [(.int p2), (.int p1), (.int p0), (.int nc), (.int tg), (.int o0), (.long (0 : Int64))])) rfl (by rw [hml]; rfl) (argsL := [(.int o0), (.int tg), (.int nc), (.int p0), (.int p1), (.int p2)]) (rest := [(.long (0 : Int64))]) (lenOf pd_180 rfl) rfl (by show 2 * 0 + _ ≤ _; exact Nat.le_of_eq rfl) (hH at_313) (fun _ _ => ⟨rfl, eJI6, (by decide : 74 + 0 ≤ _), (by decide : 636 + 0 ≤ _)⟩)
   dsimp only [Pt.U, Pt.locs, Pt.cells, Pt.slots] at XJIH lJIK yJIL zJIM stJIN hQJIJ
   subst yJIL zJIM
   obtain ⟨rfl, NJIO, eJIP⟩ := hQJIJ
   have NJIR : Fr n0 LJIE := by rw [lJIK]; exact Fr.app NJIA NJIO
   clear lJIK NJIO
   have kJIS : own_G p e below E0 TJID (mkF m 316 zz55 [(.long ((own_effi o0 tg nc p0 p1 p2).toInt64)), (.long (0 : Int64))]) := fun tQ kk => kJIC tQ (stJIN _ kk)
   clear kJIC stJIN
   have kJIT : own_G p e below E0 TJID (mkF m 320 zz55 [(.int i0), (.long m0), (.long ((own_effi o0 tg nc p0 p1 p2).toInt64)), (.long (0 : Int64))]) := by
    intro tQ kk
    refine kJIS tQ ?_
    refine XT.lload XJIH.here hx rfl (hH at_316) rfl ?_
    refine XS.iload XJIH.here hx rfl (hH at_318) rfl ?_
    exact kk
   clear kJIS
   obtain ⟨_, _, ⟨TJIU, LJIV, kcJIW, ncJIX⟩, -, XJIY, ⟨LcJIZ, hQJJ0, lJJ1, yJJ2, zJJ3⟩, stJJ4⟩ := Jvm.LawKit.callS XJIH hx (y := mn174) hown (mvT hZ (tw305 hw)) (mvT hZ (tw306 hw)) (mvT hZ (tw3 hw)) (mvT hZ (tw307 hw)) (by decide) (backOf (W := 6) (rmQua l Z a0 hw [] i0 TJH1.heap n0 Z0 ) hZ (tw307 hw) (tw3 hw) (by decide) (by decide)) (g := (mkF m 320 zz55 [(.int i0), (.long m0), (.long ((own_effi o0 tg nc p0 p1 p2).toInt64)), (.long (0 : Int64))])) rfl (by rw [hml]; rfl) (argsL := [(.int i0)]) (rest := [(.long m0), (.long ((own_effi o0 tg nc p0 p1 p2).toInt64)), (.long (0 : Int64))]) (lenOf pd_181 rfl) rfl (by show 2 * 0 + _ ≤ _; exact Nat.le_of_eq rfl) (hH at_320) (fun _ _ => ⟨rfl, eJIP, (by decide : 74 + 0 ≤ _), (by decide : 636 + 0 ≤ _)⟩)
   dsimp only [Pt.U, Pt.locs, Pt.cells, Pt.slots] at XJIY lJJ1 yJJ2 zJJ3 stJJ4 hQJJ0
   subst yJJ2 zJJ3
   obtain ⟨rfl, NJJ5, eJJ6⟩ := hQJJ0
   have NJJ8 : Fr n0 LJIV := by rw [lJJ1]; exact Fr.app NJIR NJJ5
   clear lJJ1 NJJ5
   have kJJ9 : own_G p e below E0 TJIU (mkF m 323 zz55 [(.long (own_quarter i0)), (.long m0), (.long ((own_effi o0 tg nc p0 p1 p2).toInt64)), (.long (0 : Int64))]) := fun tQ kk => kJIT tQ (stJJ4 _ kk)
   clear kJIT stJJ4
   let zz56 : Array Slot := #[vi p0, vi p1, vi p2, vj p3, ss, vi p4, vi (2 : Int32), vi o0, vi o1, vi i0, vi i1, vi tg, vi nc, vj m0, ss, vj m1, ss, vd (own_entry i0), ss, vd (own_entry i1), ss, vd b0, ss, vd b1, ss, vr aLB, vr aLQ, vr aM6, vr aMY, vr aNR, vr aPL, vr aQG, vd gJI8, ss, vj ((0 : Int64) + (((own_effi o0 tg nc p0 p1 p2).toInt64) * (m0 * (own_quarter i0)))), ss]
   have kJJA : own_G p e below E0 TJIU (mkF m 345 zz56 [(.int p2), (.int p1), (.int p0), (.int nc), (.int tg), (.int o1), (.long ((0 : Int64) + (((own_effi o0 tg nc p0 p1 p2).toInt64) * (m0 * (own_quarter i0)))))]) := by
    intro tQ kk
    refine kJJ9 tQ ?_
    refine XT.lmul XJIY.here hx rfl (hH at_323) rfl ?_
    refine XT.lmul XJIY.here hx rfl (hH at_324) rfl ?_
    refine XT.ladd XJIY.here hx rfl (hH at_325) rfl ?_
    refine XT.lstore XJIY.here hx rfl (hH at_326) rfl (l' := zz56) rfl ?_
    refine XS.iload XJIY.here hx rfl (hH at_328) rfl ?_
    refine XS.iconst XJIY.here hx rfl (hH at_330) ?_
    refine XS.icmpNo XJIY.here hx rfl (hH at_331) rfl (own_ic_ltN (by decide)) ?_
    refine XT.lload XJIY.here hx rfl (hH at_334) rfl ?_
    show Steps p.tables e below (TJIU.setTop (mkF m 336 zz56 [(.long ((0 : Int64) + (((own_effi o0 tg nc p0 p1 p2).toInt64) * (m0 * (own_quarter i0)))))])) tQ
    refine XS.iload XJIY.here hx rfl (hH at_336) rfl ?_
    refine XS.iload XJIY.here hx rfl (hH at_338) rfl ?_
    refine XS.iload XJIY.here hx rfl (hH at_340) rfl ?_
    refine XS.iloadN XJIY.here hx rfl (hH at_342) rfl ?_
    refine XS.iloadN XJIY.here hx rfl (hH at_343) rfl ?_
    refine XS.iloadN XJIY.here hx rfl (hH at_344) rfl ?_
    exact kk
   clear kJJ9
   obtain ⟨_, _, ⟨TJJB, LJJC, kcJJD, ncJJE⟩, -, XJJF, ⟨LcJJG, hQJJH, lJJI, yJJJ, zJJK⟩, stJJL⟩ := Jvm.LawKit.callS XJIY hx (y := mn175) hown (mvT hZ (tw302 hw)) (mvT hZ (tw303 hw)) (mvT hZ (tw3 hw)) (mvT hZ (tw304 hw)) (by decide) (backOf (W := 2) (rmEff l Z a0 hw [] o1 tg nc p0 p1 p2 TJH1.heap n0 Z0 ) hZ (tw304 hw) (tw3 hw) (by decide) (by decide)) (g := (mkF m 345 zz56 [(.int p2), (.int p1), (.int p0), (.int nc), (.int tg), (.int o1), (.long ((0 : Int64) + (((own_effi o0 tg nc p0 p1 p2).toInt64) * (m0 * (own_quarter i0)))))])) rfl (by rw [hml]; rfl) (argsL := [(.int o1), (.int tg), (.int nc), (.int p0), (.int p1), (.int p2)]) (rest := [(.long ((0 : Int64) + (((own_effi o0 tg nc p0 p1 p2).toInt64) * (m0 * (own_quarter i0)))))]) (lenOf pd_180 rfl) rfl (by show 2 * 0 + _ ≤ _; exact Nat.le_of_eq rfl) (hH at_345) (fun _ _ => ⟨rfl, eJJ6, (by decide : 74 + 0 ≤ _), (by decide : 636 + 0 ≤ _)⟩)
   dsimp only [Pt.U, Pt.locs, Pt.cells, Pt.slots] at XJJF lJJI yJJJ zJJK stJJL hQJJH
   subst yJJJ zJJK
   obtain ⟨rfl, NJJM, eJJN⟩ := hQJJH
   have NJJP : Fr n0 LJJC := by rw [lJJI]; exact Fr.app NJJ8 NJJM
   clear lJJI NJJM
   have kJJQ : own_G p e below E0 TJJB (mkF m 348 zz56 [(.long ((own_effi o1 tg nc p0 p1 p2).toInt64)), (.long ((0 : Int64) + (((own_effi o0 tg nc p0 p1 p2).toInt64) * (m0 * (own_quarter i0)))))]) := fun tQ kk => kJJA tQ (stJJL _ kk)
   clear kJJA stJJL
   have kJJR : own_G p e below E0 TJJB (mkF m 352 zz56 [(.int i1), (.long m1), (.long ((own_effi o1 tg nc p0 p1 p2).toInt64)), (.long ((0 : Int64) + (((own_effi o0 tg nc p0 p1 p2).toInt64) * (m0 * (own_quarter i0)))))]) := by
    intro tQ kk
    refine kJJQ tQ ?_
    refine XT.lload XJJF.here hx rfl (hH at_348) rfl ?_
    refine XS.iload XJJF.here hx rfl (hH at_350) rfl ?_
    exact kk
   clear kJJQ
   obtain ⟨_, _, ⟨TJJS, LJJT, kcJJU, ncJJV⟩, -, XJJW, ⟨LcJJX, hQJJY, lJJZ, yJK0, zJK1⟩, stJK2⟩ := Jvm.LawKit.callS XJJF hx (y := mn174) hown (mvT hZ (tw305 hw)) (mvT hZ (tw306 hw)) (mvT hZ (tw3 hw)) (mvT hZ (tw307 hw)) (by decide) (backOf (W := 6) (rmQua l Z a0 hw [] i1 TJH1.heap n0 Z0 ) hZ (tw307 hw) (tw3 hw) (by decide) (by decide)) (g := (mkF m 352 zz56 [(.int i1), (.long m1), (.long ((own_effi o1 tg nc p0 p1 p2).toInt64)), (.long ((0 : Int64) + (((own_effi o0 tg nc p0 p1 p2).toInt64) * (m0 * (own_quarter i0)))))])) rfl (by rw [hml]; rfl) (argsL := [(.int i1)]) (rest := [(.long m1), (.long ((own_effi o1 tg nc p0 p1 p2).toInt64)), (.long ((0 : Int64) + (((own_effi o0 tg nc p0 p1 p2).toInt64) * (m0 * (own_quarter i0)))))]) (lenOf pd_181 rfl) rfl (by show 2 * 0 + _ ≤ _; exact Nat.le_of_eq rfl) (hH at_352) (fun _ _ => ⟨rfl, eJJN, (by decide : 74 + 0 ≤ _), (by decide : 636 + 0 ≤ _)⟩)
   dsimp only [Pt.U, Pt.locs, Pt.cells, Pt.slots] at XJJW lJJZ yJK0 zJK1 stJK2 hQJJY
   subst yJK0 zJK1
   obtain ⟨rfl, NJK3, eJK4⟩ := hQJJY
   have NJK6 : Fr n0 LJJT := by rw [lJJZ]; exact Fr.app NJJP NJK3
   clear lJJZ NJK3
   have kJK7 : own_G p e below E0 TJJS (mkF m 355 zz56 [(.long (own_quarter i1)), (.long m1), (.long ((own_effi o1 tg nc p0 p1 p2).toInt64)), (.long ((0 : Int64) + (((own_effi o0 tg nc p0 p1 p2).toInt64) * (m0 * (own_quarter i0)))))]) := fun tQ kk => kJJR tQ (stJK2 _ kk)
   clear kJJR stJK2
   let zz57 : Array Slot := #[vi p0, vi p1, vi p2, vj p3, ss, vi p4, vi (2 : Int32), vi o0, vi o1, vi i0, vi i1, vi tg, vi nc, vj m0, ss, vj m1, ss, vd (own_entry i0), ss, vd (own_entry i1), ss, vd b0, ss, vd b1, ss, vr aLB, vr aLQ, vr aM6, vr aMY, vr aNR, vr aPL, vr aQG, vd gJI8, ss, vj (((0 : Int64) + (((own_effi o0 tg nc p0 p1 p2).toInt64) * (m0 * (own_quarter i0)))) + (((own_effi o1 tg nc p0 p1 p2).toInt64) * (m1 * (own_quarter i1)))), ss]
   have kJK8 : own_G p e below E0 TJJS (mkF m 362 zz57 [(.double gJI8)]) := by
    intro tQ kk
    refine kJK7 tQ ?_
    refine XT.lmul XJJW.here hx rfl (hH at_355) rfl ?_
    refine XT.lmul XJJW.here hx rfl (hH at_356) rfl ?_
    refine XT.ladd XJJW.here hx rfl (hH at_357) rfl ?_
    refine XT.lstore XJJW.here hx rfl (hH at_358) rfl (l' := zz57) rfl ?_
    refine XS.dload XJJW.here hx rfl (hH at_360) rfl ?_
    exact kk
   clear kJK7
   have stJK9 := XJJW.ldc2DoubleC hx hown (mvT hZ (tw249 hw)) (g := (mkF m 362 zz57 [(.double gJI8)])) rfl (hH at_362)
   have kJKA : own_G p e below E0 TJJS (mkF m 365 zz57 [(.double (4616189618054758400 : UInt64)), (.double gJI8)]) := fun tQ kk => kJK8 tQ (stJK9 _ kk)
   clear kJK8 stJK9
   have kJKB : own_G p e below E0 TJJS (mkF m 378 zz57 [(.int (1 : Int32))]) := by
    intro tQ kk
    refine kJKA tQ ?_
    refine XS.dmulS XJJW.here hx rfl (hH at_365) rfl (own_g4 gJI9 (by decide)).1.noNaN rfl ?_
    refine XT.lload XJJW.here hx rfl (hH at_366) rfl ?_
    refine XS.l2dS XJJW.here hx rfl (hH at_368) rfl rfl ?_
    refine XS.dcmpS (v := (0 : Int32)) XJJW.here hx rfl (hH at_369) rfl (own_end gJI9 (by decide) (own_ref2 (own_effi o0 tg nc p0 p1 p2) bm0 i0 (own_effi o1 tg nc p0 p1 p2) bm1 i1)) ?_
    refine XS.ifNo XJJW.here hx rfl (hH at_370) rfl (own_if_neN (by decide)) ?_
    refine XS.iconst XJJW.here hx rfl (hH at_373) ?_
    refine XS.goto XJJW.here hx rfl (pc0 := 374) (pc' := 378) rfl (hH at_374) (by decide) (by decide) ?_
    exact kk
   clear kJKA
   obtain ⟨fs, hr, hrun, hended, hW, hsame⟩ := XJJW.leave (v := some (.int (1 : Int32))) (fun h => by rw [Bd.returns] at h; cases h)
   have hrun0 := kJKB _ (retOut XJJW hx Bd.returns (t := .boolean) rfl (Or.inl ⟨rfl, Or.inr (Or.inl rfl), _, rfl⟩) (hH at_378) hr)
   subst hE0
   refine ⟨_, _, hrun0, hrun, hended, _, _, rfl, ?_, ⟨_, rfl⟩, hW, hsame.mono (by decide) (by decide)⟩
   show Qrm0 Z p0 p1 p2 p3 p4 dE h0 n0 _ TJJS.heap _
   rw [eJK4]
   exact ⟨rfl, NJK6⟩
  ·skip
   have kJKC : own_G p e below E0 TJFY (mkF m 288 zz54 [(.ref aQG)]) := by
    intro tQ kk
    refine kJGY tQ ?_
    refine XS.icmpYes XJG2.here hx rfl (pc0 := 273) (pc' := 286) rfl (hH at_273) rfl (own_ic_geY ct) (by decide) (by decide) ?_
    refine XS.aload XJG2.here hx rfl (hH at_286) rfl rfl ?_
    exact kk
   clear kJGY
   obtain ⟨cqJKO, kqJKP, qaJKQ, qbJKR, qcJKS⟩ := isOf hZ rfl AQD
   obtain ⟨_, _, ⟨TJKD, LJKE, kcJKF, ncJKG⟩, -, XJKH, ⟨LcJKI, hQJKJ, lJKK, yJKL, zJKM⟩, stJKN⟩ := XJG2.virtualBack hx (y := mn172) (z := mn172) hown (mvT hZ (tw242 hw)) (mvT hZ (tw243 hw)) (notFace_of_selects (args := #[]) (mvT hZ (tw245 hw))) (mvT hZ (tw245 hw)) (mvT hZ (tw244 hw)) (by decide) (backOf (W := 0) (rmOb2 l Z a0 hw [] aQG cARI baRK vaRN (((own_d16.set ((0 : Int32)).toNatClampNeg (.double (FP.i2d p0))).set ((1 : Int32)).toNatClampNeg (.double (FP.i2d p1))).set ((2 : Int32)).toNatClampNeg (.double (FP.i2d p2))) ((own_i16.set ((0 : Int32)).toNatClampNeg (.int o0)).set ((1 : Int32)).toNatClampNeg (.int o1)) ((own_d16.set ((0 : Int32)).toNatClampNeg (.double mqJFG)).set ((1 : Int32)).toNatClampNeg (.double mqJGH)) o0 (FP.i2d (own_effi o0 tg nc p0 p1 p2)) mqJFG (own_effi o0 tg nc p0 p1 p2).toInt (m0.toInt * (own_quarter i0).toInt) o1 (FP.i2d (own_effi o1 tg nc p0 p1 p2)) mqJGH (own_effi o1 tg nc p0 p1 p2).toInt (m1.toInt * (own_quarter i1).toInt) TJFY.heap n0 Z0 gJGQ gJGK gJGM gJGP gJ27 gJGS gJGU rfl (own_oo bo0).1 (own_cl0 bo0 ct p0 p1 p2) rfl (own_cwI (own_effi o0 tg nc p0 p1 p2) gJFU bm0) rfl (own_oo bo1).1 (own_cl0 bo1 ct p0 p1 p2) rfl (own_cwI (own_effi o1 tg nc p0 p1 p2) gJGV bm1)) hZ (tw246 hw) (tw9 hw) (by decide) (by decide)) qaJKQ qcJKS (g := (mkF m 288 zz54 [(.ref aQG)])) rfl (by rw [hml]; rfl) (Steps.refl _) (argsL := []) (rest := []) (lenOf pd_178 rfl) rfl (by show 2 * 0 + _ ≤ _; exact Nat.le_of_eq rfl) (hH at_288) (fun _ _ => ⟨rfl, rfl, (by decide : 74 + 0 ≤ _), (by decide : 636 + 0 ≤ _)⟩)
   dsimp only [Pt.U, Pt.locs, Pt.cells, Pt.slots] at XJKH lJKK yJKL zJKM stJKN hQJKJ
   subst yJKL zJKM
   obtain ⟨gJKW, rfl, NJKT, eJKU, gJKX⟩ := hQJKJ
   have NJKY : Fr n0 LJKE := by rw [lJKK]; exact Fr.app NJGW NJKT
   clear lJKK NJKT
   have kJKZ : own_G p e below E0 TJKD (mkF m 291 zz54 [(.double gJKW)]) := fun tQ kk => kJKC tQ (stJKN.trans kk)
   clear kJKC stJKN
   let zz58 : Array Slot := #[vi p0, vi p1, vi p2, vj p3, ss, vi p4, vi (2 : Int32), vi o0, vi o1, vi i0, vi i1, vi tg, vi nc, vj m0, ss, vj m1, ss, vd (own_entry i0), ss, vd (own_entry i1), ss, vd b0, ss, vd b1, ss, vr aLB, vr aLQ, vr aM6, vr aMY, vr aNR, vr aPL, vr aQG, vd gJKW, ss, vj (0 : Int64), ss]
   have kJL0 : own_G p e below E0 TJKD (mkF m 313 zz58 [(.int p2), (.int p1), (.int p0), (.int nc), (.int tg), (.int o0), (.long (0 : Int64))]) := by
    intro tQ kk
    refine kJKZ tQ ?_
    refine XS.dstore XJKH.here hx rfl (hH at_291) rfl (l' := #[vi p0, vi p1, vi p2, vj p3, ss, vi p4, vi (2 : Int32), vi o0, vi o1, vi i0, vi i1, vi tg, vi nc, vj m0, ss, vj m1, ss, vd (own_entry i0), ss, vd (own_entry i1), ss, vd b0, ss, vd b1, ss, vr aLB, vr aLQ, vr aM6, vr aMY, vr aNR, vr aPL, vr aQG, vd gJKW, ss, uu, uu]) rfl ?_
    refine XT.lconst XJKH.here hx rfl (hH at_293) ?_
    refine XT.lstore XJKH.here hx rfl (hH at_294) rfl (l' := zz58) rfl ?_
    refine XS.iload XJKH.here hx rfl (hH at_296) rfl ?_
    refine XS.iconst XJKH.here hx rfl (hH at_298) ?_
    refine XS.icmpNo XJKH.here hx rfl (hH at_299) rfl (own_ic_ltN (by decide)) ?_
    refine XT.lload XJKH.here hx rfl (hH at_302) rfl ?_
    refine XS.iload XJKH.here hx rfl (hH at_304) rfl ?_
    show Steps p.tables e below (TJKD.setTop (mkF m 306 zz58 [(.int o0), (.long (0 : Int64))])) tQ
    refine XS.iload XJKH.here hx rfl (hH at_306) rfl ?_
    refine XS.iload XJKH.here hx rfl (hH at_308) rfl ?_
    refine XS.iloadN XJKH.here hx rfl (hH at_310) rfl ?_
    refine XS.iloadN XJKH.here hx rfl (hH at_311) rfl ?_
    refine XS.iloadN XJKH.here hx rfl (hH at_312) rfl ?_
    exact kk
   clear kJKZ
   obtain ⟨_, _, ⟨TJL1, LJL2, kcJL3, ncJL4⟩, -, XJL5, ⟨LcJL6, hQJL7, lJL8, yJL9, zJLA⟩, stJLB⟩ := Jvm.LawKit.callS XJKH hx (y := mn175) hown (mvT hZ (tw302 hw)) (mvT hZ (tw303 hw)) (mvT hZ (tw3 hw)) (mvT hZ (tw304 hw)) (by decide) (backOf (W := 2) (rmEff l Z a0 hw [] o0 tg nc p0 p1 p2 TJFY.heap n0 Z0 ) hZ (tw304 hw) (tw3 hw) (by decide) (by decide)) (g := (mkF m 313 zz58 [(.int p2), (.int p1), (.int p0), (.int nc), (.int tg), (.int o0), (.long (0 : Int64))])) rfl (by rw [hml]; rfl) (argsL := [(.int o0), (.int tg), (.int nc), (.int p0), (.int p1), (.int p2)]) (rest := [(.long (0 : Int64))]) (lenOf pd_180 rfl) rfl (by show 2 * 0 + _ ≤ _; exact Nat.le_of_eq rfl) (hH at_313) (fun _ _ => ⟨rfl, eJKU, (by decide : 74 + 0 ≤ _), (by decide : 636 + 0 ≤ _)⟩)
   dsimp only [Pt.U, Pt.locs, Pt.cells, Pt.slots] at XJL5 lJL8 yJL9 zJLA stJLB hQJL7
   subst yJL9 zJLA
   obtain ⟨rfl, NJLC, eJLD⟩ := hQJL7
   have NJLF : Fr n0 LJL2 := by rw [lJL8]; exact Fr.app NJKY NJLC
   clear lJL8 NJLC
   have kJLG : own_G p e below E0 TJL1 (mkF m 316 zz58 [(.long ((own_effi o0 tg nc p0 p1 p2).toInt64)), (.long (0 : Int64))]) := fun tQ kk => kJL0 tQ (stJLB _ kk)
   clear kJL0 stJLB
   have kJLH : own_G p e below E0 TJL1 (mkF m 320 zz58 [(.int i0), (.long m0), (.long ((own_effi o0 tg nc p0 p1 p2).toInt64)), (.long (0 : Int64))]) := by
    intro tQ kk
    refine kJLG tQ ?_
    refine XT.lload XJL5.here hx rfl (hH at_316) rfl ?_
    refine XS.iload XJL5.here hx rfl (hH at_318) rfl ?_
    exact kk
   clear kJLG
   obtain ⟨_, _, ⟨TJLI, LJLJ, kcJLK, ncJLL⟩, -, XJLM, ⟨LcJLN, hQJLO, lJLP, yJLQ, zJLR⟩, stJLS⟩ := Jvm.LawKit.callS XJL5 hx (y := mn174) hown (mvT hZ (tw305 hw)) (mvT hZ (tw306 hw)) (mvT hZ (tw3 hw)) (mvT hZ (tw307 hw)) (by decide) (backOf (W := 6) (rmQua l Z a0 hw [] i0 TJFY.heap n0 Z0 ) hZ (tw307 hw) (tw3 hw) (by decide) (by decide)) (g := (mkF m 320 zz58 [(.int i0), (.long m0), (.long ((own_effi o0 tg nc p0 p1 p2).toInt64)), (.long (0 : Int64))])) rfl (by rw [hml]; rfl) (argsL := [(.int i0)]) (rest := [(.long m0), (.long ((own_effi o0 tg nc p0 p1 p2).toInt64)), (.long (0 : Int64))]) (lenOf pd_181 rfl) rfl (by show 2 * 0 + _ ≤ _; exact Nat.le_of_eq rfl) (hH at_320) (fun _ _ => ⟨rfl, eJLD, (by decide : 74 + 0 ≤ _), (by decide : 636 + 0 ≤ _)⟩)
   dsimp only [Pt.U, Pt.locs, Pt.cells, Pt.slots] at XJLM lJLP yJLQ zJLR stJLS hQJLO
   subst yJLQ zJLR
   obtain ⟨rfl, NJLT, eJLU⟩ := hQJLO
   have NJLW : Fr n0 LJLJ := by rw [lJLP]; exact Fr.app NJLF NJLT
   clear lJLP NJLT
   have kJLX : own_G p e below E0 TJLI (mkF m 323 zz58 [(.long (own_quarter i0)), (.long m0), (.long ((own_effi o0 tg nc p0 p1 p2).toInt64)), (.long (0 : Int64))]) := fun tQ kk => kJLH tQ (stJLS _ kk)
   clear kJLH stJLS
   let zz59 : Array Slot := #[vi p0, vi p1, vi p2, vj p3, ss, vi p4, vi (2 : Int32), vi o0, vi o1, vi i0, vi i1, vi tg, vi nc, vj m0, ss, vj m1, ss, vd (own_entry i0), ss, vd (own_entry i1), ss, vd b0, ss, vd b1, ss, vr aLB, vr aLQ, vr aM6, vr aMY, vr aNR, vr aPL, vr aQG, vd gJKW, ss, vj ((0 : Int64) + (((own_effi o0 tg nc p0 p1 p2).toInt64) * (m0 * (own_quarter i0)))), ss]
   have kJLY : own_G p e below E0 TJLI (mkF m 345 zz59 [(.int p2), (.int p1), (.int p0), (.int nc), (.int tg), (.int o1), (.long ((0 : Int64) + (((own_effi o0 tg nc p0 p1 p2).toInt64) * (m0 * (own_quarter i0)))))]) := by
    intro tQ kk
    refine kJLX tQ ?_
    refine XT.lmul XJLM.here hx rfl (hH at_323) rfl ?_
    refine XT.lmul XJLM.here hx rfl (hH at_324) rfl ?_
    refine XT.ladd XJLM.here hx rfl (hH at_325) rfl ?_
    refine XT.lstore XJLM.here hx rfl (hH at_326) rfl (l' := zz59) rfl ?_
    refine XS.iload XJLM.here hx rfl (hH at_328) rfl ?_
    refine XS.iconst XJLM.here hx rfl (hH at_330) ?_
    refine XS.icmpNo XJLM.here hx rfl (hH at_331) rfl (own_ic_ltN (by decide)) ?_
    refine XT.lload XJLM.here hx rfl (hH at_334) rfl ?_
    show Steps p.tables e below (TJLI.setTop (mkF m 336 zz59 [(.long ((0 : Int64) + (((own_effi o0 tg nc p0 p1 p2).toInt64) * (m0 * (own_quarter i0)))))])) tQ
    refine XS.iload XJLM.here hx rfl (hH at_336) rfl ?_
    refine XS.iload XJLM.here hx rfl (hH at_338) rfl ?_
    refine XS.iload XJLM.here hx rfl (hH at_340) rfl ?_
    refine XS.iloadN XJLM.here hx rfl (hH at_342) rfl ?_
    refine XS.iloadN XJLM.here hx rfl (hH at_343) rfl ?_
    refine XS.iloadN XJLM.here hx rfl (hH at_344) rfl ?_
    exact kk
   clear kJLX
   obtain ⟨_, _, ⟨TJLZ, LJM0, kcJM1, ncJM2⟩, -, XJM3, ⟨LcJM4, hQJM5, lJM6, yJM7, zJM8⟩, stJM9⟩ := Jvm.LawKit.callS XJLM hx (y := mn175) hown (mvT hZ (tw302 hw)) (mvT hZ (tw303 hw)) (mvT hZ (tw3 hw)) (mvT hZ (tw304 hw)) (by decide) (backOf (W := 2) (rmEff l Z a0 hw [] o1 tg nc p0 p1 p2 TJFY.heap n0 Z0 ) hZ (tw304 hw) (tw3 hw) (by decide) (by decide)) (g := (mkF m 345 zz59 [(.int p2), (.int p1), (.int p0), (.int nc), (.int tg), (.int o1), (.long ((0 : Int64) + (((own_effi o0 tg nc p0 p1 p2).toInt64) * (m0 * (own_quarter i0)))))])) rfl (by rw [hml]; rfl) (argsL := [(.int o1), (.int tg), (.int nc), (.int p0), (.int p1), (.int p2)]) (rest := [(.long ((0 : Int64) + (((own_effi o0 tg nc p0 p1 p2).toInt64) * (m0 * (own_quarter i0)))))]) (lenOf pd_180 rfl) rfl (by show 2 * 0 + _ ≤ _; exact Nat.le_of_eq rfl) (hH at_345) (fun _ _ => ⟨rfl, eJLU, (by decide : 74 + 0 ≤ _), (by decide : 636 + 0 ≤ _)⟩)
   dsimp only [Pt.U, Pt.locs, Pt.cells, Pt.slots] at XJM3 lJM6 yJM7 zJM8 stJM9 hQJM5
   subst yJM7 zJM8
   obtain ⟨rfl, NJMA, eJMB⟩ := hQJM5
   have NJMD : Fr n0 LJM0 := by rw [lJM6]; exact Fr.app NJLW NJMA
   clear lJM6 NJMA
   have kJME : own_G p e below E0 TJLZ (mkF m 348 zz59 [(.long ((own_effi o1 tg nc p0 p1 p2).toInt64)), (.long ((0 : Int64) + (((own_effi o0 tg nc p0 p1 p2).toInt64) * (m0 * (own_quarter i0)))))]) := fun tQ kk => kJLY tQ (stJM9 _ kk)
   clear kJLY stJM9
   have kJMF : own_G p e below E0 TJLZ (mkF m 352 zz59 [(.int i1), (.long m1), (.long ((own_effi o1 tg nc p0 p1 p2).toInt64)), (.long ((0 : Int64) + (((own_effi o0 tg nc p0 p1 p2).toInt64) * (m0 * (own_quarter i0)))))]) := by
    intro tQ kk
    refine kJME tQ ?_
    refine XT.lload XJM3.here hx rfl (hH at_348) rfl ?_
    refine XS.iload XJM3.here hx rfl (hH at_350) rfl ?_
    exact kk
   clear kJME
   obtain ⟨_, _, ⟨TJMG, LJMH, kcJMI, ncJMJ⟩, -, XJMK, ⟨LcJML, hQJMM, lJMN, yJMO, zJMP⟩, stJMQ⟩ := Jvm.LawKit.callS XJM3 hx (y := mn174) hown (mvT hZ (tw305 hw)) (mvT hZ (tw306 hw)) (mvT hZ (tw3 hw)) (mvT hZ (tw307 hw)) (by decide) (backOf (W := 6) (rmQua l Z a0 hw [] i1 TJFY.heap n0 Z0 ) hZ (tw307 hw) (tw3 hw) (by decide) (by decide)) (g := (mkF m 352 zz59 [(.int i1), (.long m1), (.long ((own_effi o1 tg nc p0 p1 p2).toInt64)), (.long ((0 : Int64) + (((own_effi o0 tg nc p0 p1 p2).toInt64) * (m0 * (own_quarter i0)))))])) rfl (by rw [hml]; rfl) (argsL := [(.int i1)]) (rest := [(.long m1), (.long ((own_effi o1 tg nc p0 p1 p2).toInt64)), (.long ((0 : Int64) + (((own_effi o0 tg nc p0 p1 p2).toInt64) * (m0 * (own_quarter i0)))))]) (lenOf pd_181 rfl) rfl (by show 2 * 0 + _ ≤ _; exact Nat.le_of_eq rfl) (hH at_352) (fun _ _ => ⟨rfl, eJMB, (by decide : 74 + 0 ≤ _), (by decide : 636 + 0 ≤ _)⟩)
   dsimp only [Pt.U, Pt.locs, Pt.cells, Pt.slots] at XJMK lJMN yJMO zJMP stJMQ hQJMM
   subst yJMO zJMP
   obtain ⟨rfl, NJMR, eJMS⟩ := hQJMM
   have NJMU : Fr n0 LJMH := by rw [lJMN]; exact Fr.app NJMD NJMR
   clear lJMN NJMR
   have kJMV : own_G p e below E0 TJMG (mkF m 355 zz59 [(.long (own_quarter i1)), (.long m1), (.long ((own_effi o1 tg nc p0 p1 p2).toInt64)), (.long ((0 : Int64) + (((own_effi o0 tg nc p0 p1 p2).toInt64) * (m0 * (own_quarter i0)))))]) := fun tQ kk => kJMF tQ (stJMQ _ kk)
   clear kJMF stJMQ
   let zz60 : Array Slot := #[vi p0, vi p1, vi p2, vj p3, ss, vi p4, vi (2 : Int32), vi o0, vi o1, vi i0, vi i1, vi tg, vi nc, vj m0, ss, vj m1, ss, vd (own_entry i0), ss, vd (own_entry i1), ss, vd b0, ss, vd b1, ss, vr aLB, vr aLQ, vr aM6, vr aMY, vr aNR, vr aPL, vr aQG, vd gJKW, ss, vj (((0 : Int64) + (((own_effi o0 tg nc p0 p1 p2).toInt64) * (m0 * (own_quarter i0)))) + (((own_effi o1 tg nc p0 p1 p2).toInt64) * (m1 * (own_quarter i1)))), ss]
   have kJMW : own_G p e below E0 TJMG (mkF m 362 zz60 [(.double gJKW)]) := by
    intro tQ kk
    refine kJMV tQ ?_
    refine XT.lmul XJMK.here hx rfl (hH at_355) rfl ?_
    refine XT.lmul XJMK.here hx rfl (hH at_356) rfl ?_
    refine XT.ladd XJMK.here hx rfl (hH at_357) rfl ?_
    refine XT.lstore XJMK.here hx rfl (hH at_358) rfl (l' := zz60) rfl ?_
    refine XS.dload XJMK.here hx rfl (hH at_360) rfl ?_
    exact kk
   clear kJMV
   have stJMX := XJMK.ldc2DoubleC hx hown (mvT hZ (tw249 hw)) (g := (mkF m 362 zz60 [(.double gJKW)])) rfl (hH at_362)
   have kJMY : own_G p e below E0 TJMG (mkF m 365 zz60 [(.double (4616189618054758400 : UInt64)), (.double gJKW)]) := fun tQ kk => kJMW tQ (stJMX _ kk)
   clear kJMW stJMX
   have kJMZ : own_G p e below E0 TJMG (mkF m 378 zz60 [(.int (1 : Int32))]) := by
    intro tQ kk
    refine kJMY tQ ?_
    refine XS.dmulS XJMK.here hx rfl (hH at_365) rfl (own_g4 gJKX (by decide)).1.noNaN rfl ?_
    refine XT.lload XJMK.here hx rfl (hH at_366) rfl ?_
    refine XS.l2dS XJMK.here hx rfl (hH at_368) rfl rfl ?_
    refine XS.dcmpS (v := (0 : Int32)) XJMK.here hx rfl (hH at_369) rfl (own_end gJKX (by decide) (own_ref2 (own_effi o0 tg nc p0 p1 p2) bm0 i0 (own_effi o1 tg nc p0 p1 p2) bm1 i1)) ?_
    refine XS.ifNo XJMK.here hx rfl (hH at_370) rfl (own_if_neN (by decide)) ?_
    refine XS.iconst XJMK.here hx rfl (hH at_373) ?_
    refine XS.goto XJMK.here hx rfl (pc0 := 374) (pc' := 378) rfl (hH at_374) (by decide) (by decide) ?_
    exact kk
   clear kJMY
   obtain ⟨fs, hr, hrun, hended, hW, hsame⟩ := XJMK.leave (v := some (.int (1 : Int32))) (fun h => by rw [Bd.returns] at h; cases h)
   have hrun0 := kJMZ _ (retOut XJMK hx Bd.returns (t := .boolean) rfl (Or.inl ⟨rfl, Or.inr (Or.inl rfl), _, rfl⟩) (hH at_378) hr)
   subst hE0
   refine ⟨_, _, hrun0, hrun, hended, _, _, rfl, ?_, ⟨_, rfl⟩, hW, hsame.mono (by decide) (by decide)⟩
   show Qrm0 Z p0 p1 p2 p3 p4 dE h0 n0 _ TJMG.heap _
   rw [eJMS]
   exact ⟨rfl, NJMU⟩
set_option maxRecDepth 65536 in
set_option maxHeartbeats 40000000 in
theorem comes_1 {Post : Tables → Env → Array Value → State → Outcome → State → Prop} (hpost : ∀ tb e args s v u, (limb_1_1.after args s (.returned v) u = true ∧ limb_1_2.after args s (.returned v) u = true ∧ True) → FrameEnd s (.returned v) u (Jvm.fieldLocs frame_1_writes args s ++ Jvm.arrayLocs frame_1_arrays args s ++ Jvm.staticLocs frame_1_statics s) 160 1344 → Post tb e args s (.returned v) u) :
    ArmFor flags0 classFile x code maxLocals ret World_1 tables_1 room_1 Calls_1 rest_1 Pre_1 Post := by
  intro l hfl _ _ p e ha hc hk s m args below hf hA hF happ hP
  obtain ⟨hcalls, hrest, hpre⟩ := hP
  obtain ⟨-, -, -, hnamed, -, -, -, hat⟩ := (Spec.applies_iff hf).mp happ
  obtain ⟨hg, hn⟩ := and_e (Cond.before_iff.mp (show (Jvm.Cond.and given_1 narrow_1).before args s = true from hpre))
  obtain ⟨hct, hr0⟩ := and_e hg
  obtain ⟨ha0, hr1⟩ := and_e hr0
  obtain ⟨ha1, hr2⟩ := and_e hr1
  obtain ⟨ha2, hr3⟩ := and_e hr2
  obtain ⟨ha3, hr4⟩ := and_e hr3
  obtain ⟨w0, w1, w2, w3, w4, rfl⟩ : ∃ w0 w1 w2 w3 w4 : Value, args = #[w0, w1, w2, w3, w4] := by
    have hs : args.size = 5 := by simpa [Cond.value, given_1] using hct
    obtain ⟨L⟩ := args
    match L, hs with
    | [w0, w1, w2, w3, w4], _ => exact ⟨w0, w1, w2, w3, w4, rfl⟩
  have hw := fun d (hd : d ∈ tables_1) => atoms_spec (ws := Jvm.Cond.code x code maxLocals ret :: tables_1) hat d (List.mem_cons_of_mem _ hd)
  obtain ⟨hsets, hown0⟩ := atoms_of _ (rest_1_c_eq ▸ (show rest_1_c.before _ s = true from hrest))
  have hfit : Fit s := fun {y c} hc i hi => by
    obtain ⟨ha, rfl⟩ := Array.getElem?_eq_some_iff.mp hc
    have q := List.all_eq_true.mp ((Array.all_eq_true_iff_forall_mem.mp hF) _ (Array.getElem_mem ha)) i (List.mem_range.mpr hi)
    simpa [Array.getElem?_eq_getElem hi] using q
  obtain ⟨i0, ev0⟩ := is_v ha0
  obtain rfl : w0 = (.int i0) := Option.some.inj ev0
  obtain ⟨i1, ev1⟩ := is_v ha1
  obtain rfl : w1 = (.int i1) := Option.some.inj ev1
  obtain ⟨i2, ev2⟩ := is_v ha2
  obtain rfl : w2 = (.int i2) := Option.some.inj ev2
  obtain ⟨i3, ev3⟩ := isL_v ha3
  obtain rfl : w3 = (.long i3) := Option.some.inj ev3
  obtain ⟨i4, ev4⟩ := is_v hr4
  obtain rfl : w4 = (.int i4) := Option.some.inj ev4
  obtain ⟨dE, eD⟩ := arr_v (Cond.before_iff.mp (hsets _ (List.mem_of_getElem? (i := 6) rfl)))
  have SD : Sta s s.heap "java/util/ArrayList" "DEFAULTCAPACITY_EMPTY_ELEMENTDATA" "[Ljava/lang/Object;" (.ref dE) := Sta.start eD (Or.inr ⟨hw _ (List.mem_of_getElem? (i := 18) rfl), (hsets _ (List.mem_of_getElem? (i := 2) rfl))⟩)
  have AD : own_A s s.heap dE (.object "java/lang/Object") [] := own_empty eD (Cond.before_iff.mp (hsets _ (List.mem_of_getElem? (i := 6) rfl))) (Cond.before_iff.mp (hsets _ (List.mem_of_getElem? (i := 8) rfl)))
  obtain ⟨n, o, h1, h2, h3, _, L, rfl, ⟨rfl, N⟩, hq⟩ := rm0 l s _ hw tables_1 i0 i1 i2 i3 i4 dE s.heap s.heap.size (Nat.le_refl _) (Old.start s) AD SD p e ha hc hk s m _ below hf ((Spec.applies_iff_loose hf).mp happ).1 ⟨rfl, State.Warmed39.refl s, rfl⟩ trivial
  refine ⟨n, _, h1, h2, h3, hpost _ _ _ _ _ _ ⟨Cond.after_iff.mpr rfl, Cond.after_iff.mpr (eq_i res_at (Term.int_eval (1)) rfl), trivial⟩ ⟨hq.1, hq.2.1, (hq.2.2.sift fun y hy => Or.inr (N y hy)).mono (by decide) (by decide)⟩⟩
theorem main_1_1 : Claimed_1_1 := comes_1 fun _ _ _ _ _ _ h hF => ⟨h.1, hF⟩
theorem main_1_2 : Claimed_1_2 := comes_1 fun _ _ _ _ _ _ h hF => ⟨h.2.1, hF⟩
end Jvm.Pilot.@@N@@
namespace Jvm.Pilot.@@N@@
open Jvm Jvm.ClassFile Sem Op Lib Jvm.Free Jvm.Stand Jvm.Pilot.@@N@@.Jvm.D
/-! MADE BY PROGRAM (witnessworld.py) out of the Statement's table words and the real class files: 32 classes; the members and pool entries that the words name. The judged class is class 1, her method 4. -/
namespace start1
open Jvm.ClassFile
def u (s : String) : CpInfo := .utf8 (stringToUtf16 s)
/-- a pool by its gaps: so many unusable entries, then the entry; so many at the end -/
def gap : Nat → List CpInfo → List CpInfo
  | 0, r => r
  | n + 1, r => .unusable :: gap n r
def poolList (es : List (Nat × CpInfo)) (last : Nat) : List CpInfo := es.foldr (fun e r => gap e.1 (e.2 :: r)) (gap last [])
def pool (es : List (Nat × CpInfo)) (last : Nat) : Array CpInfo := ⟨poolList es last⟩
def fileOf (pool : Array CpInfo) (this : Nat) (attrs : Array Attribute := #[]) (ms : Array MethodInfo := #[]) (fl : Nat := 33) (sup : Nat := 0) (ifs : Array Nat := #[]) (fds : Array FieldInfo := #[]) : ClassFile where
  minorVersion := 0
  majorVersion := 65
  constantPool := pool
  accessFlags := fl
  thisClass := this
  superClass := sup
  interfaces := ifs
  fields := fds
  methods := ms
  attributes := attrs
def plain (name : String) (sup : Option ClassId) : Class where
  name := name
  kind := .ordinary
  loader := none
  accessFlags := 33
  super := sup
  interfaces := #[]
  cf := none
  fields := #[]
  methods := #[]
  instanceTypes := #[]
  staticTypes := #[]
  resolved := #[]
  callSites := []
  init := .initialized
  statics := none
  mirror := none

def pool0 : Array CpInfo := pool [(5, u "<init>"), (0, u "()V"), (1, .class_ 10), (1, u "java/lang/Object")] 113

def k0c0 : Code := { maxStack := 0, maxLocals := 1, code := object_method_1_code, exceptionTable := #[], attributes := #[] }
def k0m0 : Method := { name := "<init>", desc := "()V", sig := { parameters := [], returnType := none }, accessFlags := 1, code := some k0c0 }
/-- java/lang/Object -/
def k0 : Class := { plain "java/lang/Object" none with
  accessFlags := 33
  interfaces := #[]
  cf := some (fileOf pool0 8 #[] #[{ accessFlags := 1, nameIndex := 5, descriptorIndex := 6, attributes := #[] }] 33 0 #[] #[])
  fields := #[]
  methods := #[k0m0]
  instanceTypes := #[]
  staticTypes := #[]
  resolved := Array.replicate 124 none
  statics := none }

def pool1 : Array CpInfo := pool [(2, .class_ 4), (0, .nameAndType 5 6), (0, u "java/lang/Object"), (0, u "<init>"), (0, u "()V"), (0, .double 4611686018427387904), (1, .double 13830554455654793216), (1, .double 13839561654909534208), (1, .long 4), (1, .long 2), (1, .long 65535), (1, .methodref 20 21), (0, .class_ 22), (0, .nameAndType 23 24), (0, u "com/example/netloom/netloom/embed/SimplexObjectivePinLaw"), (0, u "entry"), (0, u "(I)D"), (0, .class_ 26), (0, u "com/example/netloom/netloom/embed/Simplex"), (0, .methodref 25 3), (0, .methodref 25 29), (0, .nameAndType 30 31), (0, u "addColumn"), (0, u "(D[I[D)I"), (0, .methodref 25 33), (0, .nameAndType 34 35), (0, u "addRow"), (0, u "(D[I[DI)I"), (0, .methodref 25 37), (0, .nameAndType 38 39), (0, u "setCost"), (0, u "(ID)V"), (0, .methodref 25 41), (0, .nameAndType 42 43), (0, u "objective"), (0, u "()D"), (0, .methodref 20 45), (0, .nameAndType 46 47), (0, u "eff"), (0, u "(IIIIII)J"), (0, .methodref 20 49), (0, .nameAndType 50 51), (0, u "quarter"), (0, u "(I)J"), (0, .double 4616189618054758400), (4, u "law"), (0, u "(IIIJI)Z")] 6

def k1m0 : Method := { name := "<init>", desc := "()V", sig := { parameters := [], returnType := none }, accessFlags := 1, code := none }
def k1c1 : Code := { maxStack := 2, maxLocals := 1, code := method_2_code, exceptionTable := #[], attributes := #[] }
def k1m1 : Method := { name := "entry", desc := "(I)D", sig := { parameters := [.int], returnType := some .double }, accessFlags := 10, code := some k1c1 }
def k1c2 : Code := { maxStack := 2, maxLocals := 1, code := method_3_code, exceptionTable := #[], attributes := #[] }
def k1m2 : Method := { name := "quarter", desc := "(I)J", sig := { parameters := [.int], returnType := some .long }, accessFlags := 10, code := some k1c2 }
def k1c3 : Code := { maxStack := 2, maxLocals := 6, code := method_4_code, exceptionTable := #[], attributes := #[] }
def k1m3 : Method := { name := "eff", desc := "(IIIIII)J", sig := { parameters := [.int, .int, .int, .int, .int, .int], returnType := some .long }, accessFlags := 10, code := some k1c3 }
def k1c4 : Code := { maxStack := 8, maxLocals := 36, code := code, exceptionTable := #[], attributes := #[] }
def k1m4 : Method := { name := "law", desc := "(IIIJI)Z", sig := { parameters := [.int, .int, .int, .long, .int], returnType := some .boolean }, accessFlags := 9, code := some k1c4 }
/-- com/example/netloom/netloom/embed/SimplexObjectivePinLaw -/
def k1 : Class := { plain "com/example/netloom/netloom/embed/SimplexObjectivePinLaw" (some 0) with
  accessFlags := 49
  interfaces := #[]
  cf := some (fileOf pool1 20 #[] #[{ accessFlags := 1, nameIndex := 5, descriptorIndex := 6, attributes := #[] }, { accessFlags := 10, nameIndex := 23, descriptorIndex := 24, attributes := #[] }, { accessFlags := 10, nameIndex := 50, descriptorIndex := 51, attributes := #[] }, { accessFlags := 10, nameIndex := 46, descriptorIndex := 47, attributes := #[] }, { accessFlags := 9, nameIndex := 57, descriptorIndex := 58, attributes := #[] }] 49 2 #[] #[])
  fields := #[]
  methods := #[k1m0, k1m1, k1m2, k1m3, k1m4]
  instanceTypes := #[]
  staticTypes := #[]
  resolved := Array.replicate 65 none
  statics := none }

def pool2 : Array CpInfo := pool [(1, .methodref 2 3), (0, .class_ 4), (0, .nameAndType 5 6), (0, u "java/lang/Object"), (0, u "<init>"), (0, u "()V"), (0, .class_ 8), (0, u "java/util/ArrayList"), (0, .methodref 7 3), (0, .fieldref 11 12), (0, .class_ 13), (0, .nameAndType 14 15), (0, u "com/example/netloom/netloom/embed/Simplex"), (0, u "columns"), (0, u "Ljava/util/List;"), (0, .fieldref 11 17), (0, .nameAndType 18 19), (0, u "cost"), (0, u "[D"), (0, .fieldref 11 21), (0, .nameAndType 22 19), (0, u "rhs"), (0, .fieldref 11 24), (0, .nameAndType 25 26), (0, u "basic"), (0, u "[I"), (0, .fieldref 11 28), (0, .nameAndType 29 26), (0, u "positionOf"), (0, .class_ 31), (0, u "com/example/netloom/netloom/embed/BasisFactor"), (0, .methodref 30 3), (0, .fieldref 11 34), (0, .nameAndType 35 36), (0, u "factor"), (0, u "Lcom/example/netloom/netloom/embed/BasisFactor;"), (0, .fieldref 11 38), (0, .nameAndType 39 19), (0, u "value"), (0, .fieldref 11 41), (0, .nameAndType 42 19), (0, u "dual"), (0, .interfaceMethodref 44 45), (0, .class_ 46), (0, .nameAndType 47 48), (0, u "java/util/List"), (0, u "size"), (0, u "()I"), (0, .class_ 50), (0, u "com/example/netloom/netloom/embed/SparseColumn"), (0, .methodref 49 3), (0, .methodref 49 53), (0, .nameAndType 54 55), (0, u "add"), (0, u "(ID)V"), (0, .interfaceMethodref 44 57), (0, .nameAndType 54 58), (0, u "(Ljava/lang/Object;)Z"), (0, .methodref 60 61), (0, .class_ 62), (0, .nameAndType 63 64), (0, u "com/example/netloom/netloom/embed/GrowingArrays"), (0, u "grown"), (0, u "([DI)[D"), (0, .methodref 60 66), (0, .nameAndType 63 67), (0, u "([II)[I"), (0, .fieldref 11 69), (0, .nameAndType 70 71), (0, u "rowCount"), (0, u "I"), (0, .interfaceMethodref 44 73), (0, .nameAndType 74 75), (0, u "get"), (0, u "(I)Ljava/lang/Object;"), (0, .methodref 49 45), (11, .double 9221120237041090560), (1, .double 13695778570484766357), (1, .methodref 93 94), (0, .class_ 95), (0, .nameAndType 96 97), (0, u "java/lang/Math"), (0, u "abs"), (0, u "(D)D"), (0, .methodref 93 99), (0, .nameAndType 100 101), (0, u "max"), (0, u "(DD)D"), (3, .methodref 30 45), (2, u "addRow"), (41, u "priceFrom"), (9, u "enteringReduced"), (0, u "D"), (23, u "pivotsSinceCheck"), (14, u "OPTIMAL"), (1, u "PIVOT"), (0, u "FEASIBLE"), (0, u "REFACTOR_EVERY"), (1, u "CHECK_EVERY"), (1, u "DRIFT"), (0, u "STALL"), (1, u "PRICE_BLOCK"), (5, u "addColumn"), (0, u "(D[I[D)I"), (1, u "(D[I[DI)I"), (2, u "setCost"), (0, u "objective"), (0, u "()D")] 23

def k2c0 : Code := { maxStack := 3, maxLocals := 1, code := prog_49_method_1_code, exceptionTable := #[], attributes := #[] }
def k2m0 : Method := { name := "<init>", desc := "()V", sig := { parameters := [], returnType := none }, accessFlags := 0, code := some k2c0 }
def k2c1 : Code := { maxStack := 4, maxLocals := 8, code := prog_49_method_2_code, exceptionTable := #[], attributes := #[] }
def k2m1 : Method := { name := "addColumn", desc := "(D[I[D)I", sig := { parameters := [.double, (.array .int), (.array .double)], returnType := some .int }, accessFlags := 0, code := some k2c1 }
def k2c2 : Code := { maxStack := 8, maxLocals := 15, code := prog_49_method_3_code, exceptionTable := #[], attributes := #[] }
def k2m2 : Method := { name := "addRow", desc := "(D[I[DI)I", sig := { parameters := [.double, (.array .int), (.array .double), .int], returnType := some .int }, accessFlags := 0, code := some k2c2 }
def k2c3 : Code := { maxStack := 4, maxLocals := 4, code := prog_49_method_4_code, exceptionTable := #[], attributes := #[] }
def k2m3 : Method := { name := "setCost", desc := "(ID)V", sig := { parameters := [.int, .double], returnType := none }, accessFlags := 0, code := some k2c3 }
def k2c4 : Code := { maxStack := 6, maxLocals := 4, code := prog_49_method_8_code, exceptionTable := #[], attributes := #[] }
def k2m4 : Method := { name := "objective", desc := "()D", sig := { parameters := [], returnType := some .double }, accessFlags := 0, code := some k2c4 }
/-- com/example/netloom/netloom/embed/Simplex -/
def k2 : Class := { plain "com/example/netloom/netloom/embed/Simplex" (some 0) with
  accessFlags := 48
  interfaces := #[]
  cf := some (fileOf pool2 11 #[] #[{ accessFlags := 0, nameIndex := 5, descriptorIndex := 6, attributes := #[] }, { accessFlags := 0, nameIndex := 217, descriptorIndex := 218, attributes := #[] }, { accessFlags := 0, nameIndex := 108, descriptorIndex := 220, attributes := #[] }, { accessFlags := 0, nameIndex := 223, descriptorIndex := 55, attributes := #[] }, { accessFlags := 0, nameIndex := 224, descriptorIndex := 225, attributes := #[] }] 48 2 #[] #[{ accessFlags := 26, nameIndex := 200, descriptorIndex := 161, attributes := #[] }, { accessFlags := 26, nameIndex := 202, descriptorIndex := 161, attributes := #[] }, { accessFlags := 26, nameIndex := 203, descriptorIndex := 161, attributes := #[] }, { accessFlags := 26, nameIndex := 204, descriptorIndex := 71, attributes := #[] }, { accessFlags := 26, nameIndex := 206, descriptorIndex := 71, attributes := #[] }, { accessFlags := 26, nameIndex := 208, descriptorIndex := 161, attributes := #[] }, { accessFlags := 26, nameIndex := 209, descriptorIndex := 71, attributes := #[] }, { accessFlags := 26, nameIndex := 211, descriptorIndex := 71, attributes := #[] }, { accessFlags := 18, nameIndex := 14, descriptorIndex := 15, attributes := #[] }, { accessFlags := 2, nameIndex := 18, descriptorIndex := 19, attributes := #[] }, { accessFlags := 2, nameIndex := 22, descriptorIndex := 19, attributes := #[] }, { accessFlags := 2, nameIndex := 70, descriptorIndex := 71, attributes := #[] }, { accessFlags := 2, nameIndex := 25, descriptorIndex := 26, attributes := #[] }, { accessFlags := 2, nameIndex := 29, descriptorIndex := 26, attributes := #[] }, { accessFlags := 18, nameIndex := 35, descriptorIndex := 36, attributes := #[] }, { accessFlags := 2, nameIndex := 39, descriptorIndex := 19, attributes := #[] }, { accessFlags := 2, nameIndex := 42, descriptorIndex := 19, attributes := #[] }, { accessFlags := 2, nameIndex := 185, descriptorIndex := 71, attributes := #[] }, { accessFlags := 2, nameIndex := 150, descriptorIndex := 71, attributes := #[] }, { accessFlags := 2, nameIndex := 160, descriptorIndex := 161, attributes := #[] }])
  fields := #[{ name := "OPTIMAL", type := .double, accessFlags := 26, slot := 0, constantValue := 0 }, { name := "PIVOT", type := .double, accessFlags := 26, slot := 1, constantValue := 0 }, { name := "FEASIBLE", type := .double, accessFlags := 26, slot := 2, constantValue := 0 }, { name := "REFACTOR_EVERY", type := .int, accessFlags := 26, slot := 3, constantValue := 0 }, { name := "CHECK_EVERY", type := .int, accessFlags := 26, slot := 4, constantValue := 0 }, { name := "DRIFT", type := .double, accessFlags := 26, slot := 5, constantValue := 0 }, { name := "STALL", type := .int, accessFlags := 26, slot := 6, constantValue := 0 }, { name := "PRICE_BLOCK", type := .int, accessFlags := 26, slot := 7, constantValue := 0 }, { name := "columns", type := (.object "java/util/List"), accessFlags := 18, slot := 0, constantValue := 0 }, { name := "cost", type := (.array .double), accessFlags := 2, slot := 1, constantValue := 0 }, { name := "rhs", type := (.array .double), accessFlags := 2, slot := 2, constantValue := 0 }, { name := "rowCount", type := .int, accessFlags := 2, slot := 3, constantValue := 0 }, { name := "basic", type := (.array .int), accessFlags := 2, slot := 4, constantValue := 0 }, { name := "positionOf", type := (.array .int), accessFlags := 2, slot := 5, constantValue := 0 }, { name := "factor", type := (.object "com/example/netloom/netloom/embed/BasisFactor"), accessFlags := 18, slot := 6, constantValue := 0 }, { name := "value", type := (.array .double), accessFlags := 2, slot := 7, constantValue := 0 }, { name := "dual", type := (.array .double), accessFlags := 2, slot := 8, constantValue := 0 }, { name := "pivotsSinceCheck", type := .int, accessFlags := 2, slot := 9, constantValue := 0 }, { name := "priceFrom", type := .int, accessFlags := 2, slot := 10, constantValue := 0 }, { name := "enteringReduced", type := .double, accessFlags := 2, slot := 11, constantValue := 0 }]
  methods := #[k2m0, k2m1, k2m2, k2m3, k2m4]
  instanceTypes := #[(.object "java/util/List"), (.array .double), (.array .double), .int, (.array .int), (.array .int), (.object "com/example/netloom/netloom/embed/BasisFactor"), (.array .double), (.array .double), .int, .int, .double]
  staticTypes := #[.double, .double, .double, .int, .int, .double, .int, .int]
  resolved := Array.replicate 249 none
  statics := none }

def pool3 : Array CpInfo := pool [(8, .class_ 10), (1, u "java/lang/Iterable"), (24, .class_ 36), (0, u "java/lang/Object")] 25

/-- java/lang/Iterable -/
def k3 : Class := { plain "java/lang/Iterable" (some 0) with
  accessFlags := 1537
  interfaces := #[]
  cf := some (fileOf pool3 8 #[] #[] 1537 35 #[] #[])
  fields := #[]
  methods := #[]
  instanceTypes := #[]
  staticTypes := #[]
  resolved := Array.replicate 62 none
  statics := none }

def pool4 : Array CpInfo := pool [(10, .class_ 12), (1, u "java/util/Collection"), (47, .class_ 61), (0, u "java/lang/Object"), (0, .class_ 63), (0, u "java/lang/Iterable")] 51

/-- java/util/Collection -/
def k4 : Class := { plain "java/util/Collection" (some 0) with
  accessFlags := 1537
  interfaces := #[3]
  cf := some (fileOf pool4 10 #[] #[] 1537 60 #[62] #[])
  fields := #[]
  methods := #[]
  instanceTypes := #[]
  staticTypes := #[]
  resolved := Array.replicate 115 none
  statics := none }

def pool5 : Array CpInfo := pool [(1, .methodref 2 3), (0, .class_ 4), (0, .nameAndType 5 6), (0, u "java/lang/Object"), (0, u "<init>"), (0, u "()V"), (1, .class_ 10), (1, u "java/util/AbstractCollection"), (66, .class_ 78), (0, u "java/util/Collection")] 81

def k5c0 : Code := { maxStack := 1, maxLocals := 1, code := jdk_22_method_1_code, exceptionTable := #[], attributes := #[] }
def k5m0 : Method := { name := "<init>", desc := "()V", sig := { parameters := [], returnType := none }, accessFlags := 4, code := some k5c0 }
/-- java/util/AbstractCollection -/
def k5 : Class := { plain "java/util/AbstractCollection" (some 0) with
  accessFlags := 1057
  interfaces := #[4]
  cf := some (fileOf pool5 8 #[] #[{ accessFlags := 4, nameIndex := 5, descriptorIndex := 6, attributes := #[] }] 1057 2 #[77] #[])
  fields := #[]
  methods := #[k5m0]
  instanceTypes := #[]
  staticTypes := #[]
  resolved := Array.replicate 160 none
  statics := none }

def pool6 : Array CpInfo := pool [(8, .class_ 10), (1, u "java/util/SequencedCollection"), (15, .class_ 27), (0, u "java/lang/Object"), (0, .class_ 29), (0, u "java/util/Collection")] 27

/-- java/util/SequencedCollection -/
def k6 : Class := { plain "java/util/SequencedCollection" (some 0) with
  accessFlags := 1537
  interfaces := #[4]
  cf := some (fileOf pool6 8 #[] #[] 1537 26 #[28] #[])
  fields := #[]
  methods := #[]
  instanceTypes := #[]
  staticTypes := #[]
  resolved := Array.replicate 57 none
  statics := none }

def pool7 : Array CpInfo := pool [(8, .class_ 10), (1, u "java/util/List"), (49, u "add"), (3, u "(Ljava/lang/Object;)Z"), (10, u "get"), (0, u "(I)Ljava/lang/Object;"), (2, u "size"), (0, u "()I"), (22, .class_ 104), (0, u "java/lang/Object"), (15, .class_ 121), (0, u "java/util/SequencedCollection")] 129

def k7m0 : Method := { name := "size", desc := "()I", sig := { parameters := [], returnType := some .int }, accessFlags := 1025, code := none }
def k7m1 : Method := { name := "add", desc := "(Ljava/lang/Object;)Z", sig := { parameters := [(.object "java/lang/Object")], returnType := some .boolean }, accessFlags := 1025, code := none }
def k7m2 : Method := { name := "get", desc := "(I)Ljava/lang/Object;", sig := { parameters := [.int], returnType := some (.object "java/lang/Object") }, accessFlags := 1025, code := none }
/-- java/util/List -/
def k7 : Class := { plain "java/util/List" (some 0) with
  accessFlags := 1537
  interfaces := #[6]
  cf := some (fileOf pool7 8 #[] #[{ accessFlags := 1025, nameIndex := 79, descriptorIndex := 80, attributes := #[] }, { accessFlags := 1025, nameIndex := 60, descriptorIndex := 64, attributes := #[] }, { accessFlags := 1025, nameIndex := 75, descriptorIndex := 76, attributes := #[] }] 1537 103 #[120] #[])
  fields := #[]
  methods := #[k7m0, k7m1, k7m2]
  instanceTypes := #[]
  staticTypes := #[]
  resolved := Array.replicate 251 none
  statics := none }

def pool8 : Array CpInfo := pool [(1, .methodref 2 3), (0, .class_ 4), (0, .nameAndType 5 6), (0, u "java/util/AbstractCollection"), (0, u "<init>"), (0, u "()V"), (0, .fieldref 8 9), (0, .class_ 10), (0, .nameAndType 11 12), (0, u "java/util/AbstractList"), (0, u "modCount"), (0, u "I"), (64, .class_ 78), (0, u "java/util/AbstractList$Itr"), (3, .class_ 83), (0, u "java/util/AbstractList$ListItr"), (9, .class_ 94), (0, u "java/util/AbstractList$RandomAccessSubList"), (3, .class_ 99), (0, u "java/util/AbstractList$SubList"), (33, .class_ 134), (0, u "java/util/List"), (73, .class_ 209), (0, u "java/util/AbstractList$SubList$1"), (0, .class_ 211), (0, u "java/util/AbstractList$RandomAccessSpliterator")] 6

def k8c0 : Code := { maxStack := 2, maxLocals := 1, code := jdk_39_method_1_code, exceptionTable := #[], attributes := #[] }
def k8m0 : Method := { name := "<init>", desc := "()V", sig := { parameters := [], returnType := none }, accessFlags := 4, code := some k8c0 }
/-- java/util/AbstractList -/
def k8 : Class := { plain "java/util/AbstractList" (some 5) with
  accessFlags := 1057
  interfaces := #[7]
  cf := some (fileOf pool8 8 #[.nestMembers #[93, 98, 208, 210, 82, 77]] #[{ accessFlags := 4, nameIndex := 5, descriptorIndex := 6, attributes := #[] }] 1057 2 #[133] #[{ accessFlags := 132, nameIndex := 11, descriptorIndex := 12, attributes := #[] }])
  fields := #[{ name := "modCount", type := .int, accessFlags := 132, slot := 0, constantValue := 0 }]
  methods := #[k8m0]
  instanceTypes := #[.int]
  staticTypes := #[]
  resolved := Array.replicate 218 none
  statics := none }

def pool9 : Array CpInfo := pool [(1, .class_ 2), (0, u "java/util/RandomAccess"), (0, .class_ 4), (0, u "java/lang/Object")] 2

/-- java/util/RandomAccess -/
def k9 : Class := { plain "java/util/RandomAccess" (some 0) with
  accessFlags := 1537
  interfaces := #[]
  cf := some (fileOf pool9 1 #[] #[] 1537 3 #[] #[])
  fields := #[]
  methods := #[]
  instanceTypes := #[]
  staticTypes := #[]
  resolved := Array.replicate 7 none
  statics := none }

def pool10 : Array CpInfo := pool [(1, .class_ 2), (0, u "java/lang/Cloneable"), (0, .class_ 4), (0, u "java/lang/Object")] 2

/-- java/lang/Cloneable -/
def k10 : Class := { plain "java/lang/Cloneable" (some 0) with
  accessFlags := 1537
  interfaces := #[]
  cf := some (fileOf pool10 1 #[] #[] 1537 3 #[] #[])
  fields := #[]
  methods := #[]
  instanceTypes := #[]
  staticTypes := #[]
  resolved := Array.replicate 7 none
  statics := none }

def pool11 : Array CpInfo := pool [(1, .class_ 2), (0, u "java/io/Serializable"), (0, .class_ 4), (0, u "java/lang/Object")] 2

/-- java/io/Serializable -/
def k11 : Class := { plain "java/io/Serializable" (some 0) with
  accessFlags := 1537
  interfaces := #[]
  cf := some (fileOf pool11 1 #[] #[] 1537 3 #[] #[])
  fields := #[]
  methods := #[]
  instanceTypes := #[]
  staticTypes := #[]
  resolved := Array.replicate 7 none
  statics := none }

def pool12 : Array CpInfo := pool [(1, .methodref 2 3), (0, .class_ 4), (0, .nameAndType 5 6), (0, u "java/util/AbstractList"), (0, u "<init>"), (0, u "()V"), (0, .class_ 8), (0, u "java/lang/Object"), (0, .fieldref 10 11), (0, .class_ 12), (0, .nameAndType 13 14), (0, u "java/util/ArrayList"), (0, u "elementData"), (0, u "[Ljava/lang/Object;"), (2, u "EMPTY_ELEMENTDATA"), (21, .fieldref 10 40), (0, .nameAndType 41 14), (0, u "DEFAULTCAPACITY_EMPTY_ELEMENTDATA"), (5, u "()[Ljava/lang/Object;"), (0, .fieldref 10 49), (0, .nameAndType 50 51), (0, u "size"), (0, u "I"), (11, .fieldref 10 64), (0, .nameAndType 65 51), (0, u "modCount"), (3, .methodref 10 70), (0, .nameAndType 71 72), (0, u "grow"), (0, u "(I)[Ljava/lang/Object;"), (6, .methodref 80 81), (0, .class_ 82), (0, .nameAndType 83 84), (0, u "java/lang/Math"), (0, u "max"), (0, u "(II)I"), (11, u "(Ljava/lang/Object;)Z"), (21, .methodref 119 120), (0, .class_ 121), (0, .nameAndType 122 84), (0, u "java/util/Objects"), (0, u "checkIndex"), (0, .methodref 10 124), (0, .nameAndType 13 125), (0, u "(I)Ljava/lang/Object;"), (3, .methodref 10 130), (0, .nameAndType 71 47), (0, .methodref 10 132), (0, .nameAndType 133 134), (0, u "add"), (0, u "(Ljava/lang/Object;[Ljava/lang/Object;I)V"), (13, .class_ 149), (0, u "java/util/List"), (36, u "()I"), (75, .class_ 263), (0, u "java/util/ArrayList$ListItr"), (3, .class_ 268), (0, u "java/util/ArrayList$Itr"), (7, .class_ 277), (0, u "java/util/ArrayList$SubList"), (12, .class_ 291), (0, u "java/util/ArrayList$ArrayListSpliterator"), (37, .class_ 330), (0, u "java/util/RandomAccess"), (0, .class_ 332), (0, u "java/lang/Cloneable"), (0, .class_ 334), (0, u "java/io/Serializable"), (0, u "serialVersionUID"), (0, u "J"), (3, u "DEFAULT_CAPACITY"), (40, u "get"), (118, .class_ 501), (0, u "java/util/ArrayList$SubList$2"), (0, .class_ 503), (0, u "java/util/ArrayList$SubList$1")] 5

def k12c0 : Code := { maxStack := 2, maxLocals := 1, code := jdk_38_method_2_code, exceptionTable := #[], attributes := #[] }
def k12m0 : Method := { name := "<init>", desc := "()V", sig := { parameters := [], returnType := none }, accessFlags := 1, code := some k12c0 }
def k12c1 : Code := { maxStack := 4, maxLocals := 4, code := jdk_38_method_6_code, exceptionTable := #[], attributes := #[] }
def k12m1 : Method := { name := "grow", desc := "(I)[Ljava/lang/Object;", sig := { parameters := [.int], returnType := some (.array (.object "java/lang/Object")) }, accessFlags := 2, code := some k12c1 }
def k12c2 : Code := { maxStack := 3, maxLocals := 1, code := jdk_38_method_7_code, exceptionTable := #[], attributes := #[] }
def k12m2 : Method := { name := "grow", desc := "()[Ljava/lang/Object;", sig := { parameters := [], returnType := some (.array (.object "java/lang/Object")) }, accessFlags := 2, code := some k12c2 }
def k12c3 : Code := { maxStack := 1, maxLocals := 1, code := jdk_38_method_8_code, exceptionTable := #[], attributes := #[] }
def k12m3 : Method := { name := "size", desc := "()I", sig := { parameters := [], returnType := some .int }, accessFlags := 1, code := some k12c3 }
def k12c4 : Code := { maxStack := 2, maxLocals := 2, code := jdk_38_method_18_code, exceptionTable := #[], attributes := #[] }
def k12m4 : Method := { name := "elementData", desc := "(I)Ljava/lang/Object;", sig := { parameters := [.int], returnType := some (.object "java/lang/Object") }, accessFlags := 0, code := some k12c4 }
def k12c5 : Code := { maxStack := 2, maxLocals := 2, code := jdk_38_method_20_code, exceptionTable := #[], attributes := #[] }
def k12m5 : Method := { name := "get", desc := "(I)Ljava/lang/Object;", sig := { parameters := [.int], returnType := some (.object "java/lang/Object") }, accessFlags := 1, code := some k12c5 }
def k12c6 : Code := { maxStack := 3, maxLocals := 4, code := jdk_38_method_24_code, exceptionTable := #[], attributes := #[] }
def k12m6 : Method := { name := "add", desc := "(Ljava/lang/Object;[Ljava/lang/Object;I)V", sig := { parameters := [(.object "java/lang/Object"), (.array (.object "java/lang/Object")), .int], returnType := none }, accessFlags := 2, code := some k12c6 }
def k12c7 : Code := { maxStack := 4, maxLocals := 2, code := jdk_38_method_25_code, exceptionTable := #[], attributes := #[] }
def k12m7 : Method := { name := "add", desc := "(Ljava/lang/Object;)Z", sig := { parameters := [(.object "java/lang/Object")], returnType := some .boolean }, accessFlags := 1, code := some k12c7 }
/-- java/util/ArrayList -/
def k12 : Class := { plain "java/util/ArrayList" (some 8) with
  accessFlags := 33
  interfaces := #[7, 9, 10, 11]
  cf := some (fileOf pool12 10 #[.nestMembers #[290, 276, 500, 502, 262, 267]] #[{ accessFlags := 1, nameIndex := 5, descriptorIndex := 6, attributes := #[] }, { accessFlags := 2, nameIndex := 71, descriptorIndex := 72, attributes := #[] }, { accessFlags := 2, nameIndex := 71, descriptorIndex := 47, attributes := #[] }, { accessFlags := 1, nameIndex := 50, descriptorIndex := 186, attributes := #[] }, { accessFlags := 0, nameIndex := 13, descriptorIndex := 125, attributes := #[] }, { accessFlags := 1, nameIndex := 381, descriptorIndex := 125, attributes := #[] }, { accessFlags := 2, nameIndex := 133, descriptorIndex := 134, attributes := #[] }, { accessFlags := 1, nameIndex := 133, descriptorIndex := 96, attributes := #[] }] 33 2 #[148, 329, 331, 333] #[{ accessFlags := 26, nameIndex := 335, descriptorIndex := 336, attributes := #[] }, { accessFlags := 26, nameIndex := 340, descriptorIndex := 51, attributes := #[] }, { accessFlags := 26, nameIndex := 17, descriptorIndex := 14, attributes := #[] }, { accessFlags := 26, nameIndex := 41, descriptorIndex := 14, attributes := #[] }, { accessFlags := 128, nameIndex := 13, descriptorIndex := 14, attributes := #[] }, { accessFlags := 2, nameIndex := 50, descriptorIndex := 51, attributes := #[] }])
  fields := #[{ name := "serialVersionUID", type := .long, accessFlags := 26, slot := 0, constantValue := 0 }, { name := "DEFAULT_CAPACITY", type := .int, accessFlags := 26, slot := 1, constantValue := 0 }, { name := "EMPTY_ELEMENTDATA", type := (.array (.object "java/lang/Object")), accessFlags := 26, slot := 2, constantValue := 0 }, { name := "DEFAULTCAPACITY_EMPTY_ELEMENTDATA", type := (.array (.object "java/lang/Object")), accessFlags := 26, slot := 3, constantValue := 0 }, { name := "elementData", type := (.array (.object "java/lang/Object")), accessFlags := 128, slot := 1, constantValue := 0 }, { name := "size", type := .int, accessFlags := 2, slot := 2, constantValue := 0 }]
  methods := #[k12m0, k12m1, k12m2, k12m3, k12m4, k12m5, k12m6, k12m7]
  instanceTypes := #[.int, (.array (.object "java/lang/Object")), .int]
  staticTypes := #[.long, .int, (.array (.object "java/lang/Object")), (.array (.object "java/lang/Object"))]
  resolved := Array.replicate 509 none
  statics := some 0 }

def pool13 : Array CpInfo := pool [(1, .methodref 2 3), (0, .class_ 4), (0, .nameAndType 5 6), (0, u "java/lang/Object"), (0, u "<init>"), (0, u "()V"), (0, .fieldref 8 9), (0, .class_ 10), (0, .nameAndType 11 12), (0, u "com/example/netloom/netloom/embed/BasisFactor"), (0, u "size"), (0, u "I"), (0, .class_ 14), (0, u "com/example/netloom/netloom/embed/BasisFactor$Lines"), (0, .methodref 13 3), (0, .fieldref 8 17), (0, .nameAndType 18 19), (0, u "lower"), (0, u "Lcom/example/netloom/netloom/embed/BasisFactor$Lines;"), (0, .fieldref 8 21), (0, .nameAndType 22 23), (0, u "stepRow"), (0, u "[I"), (0, .fieldref 8 25), (0, .nameAndType 26 19), (0, u "etas"), (0, .fieldref 8 28), (0, .nameAndType 29 23), (0, u "etaRow"), (0, .class_ 31), (0, u "com/example/netloom/netloom/embed/BasisFactor$Entries"), (0, .methodref 30 3), (0, .fieldref 8 34), (0, .nameAndType 35 36), (0, u "upperRows"), (0, u "Lcom/example/netloom/netloom/embed/BasisFactor$Entries;"), (0, .fieldref 8 38), (0, .nameAndType 39 36), (0, u "upperColumns"), (0, .fieldref 8 41), (0, .nameAndType 42 43), (0, u "diagonal"), (0, u "[D"), (0, .fieldref 8 45), (0, .nameAndType 46 23), (0, u "positionOf"), (0, .fieldref 8 48), (0, .nameAndType 49 23), (0, u "rowOf"), (0, .fieldref 8 51), (0, .nameAndType 52 23), (0, u "after"), (0, .fieldref 8 54), (0, .nameAndType 55 23), (0, u "before"), (0, .fieldref 8 57), (0, .nameAndType 58 43), (0, u "spike"), (0, .fieldref 8 60), (0, .nameAndType 61 43), (0, u "along"), (0, .class_ 63), (0, u "com/example/netloom/netloom/embed/BasisFactor$Elimination"), (0, .methodref 62 65), (0, .nameAndType 5 66), (0, u "(Lcom/example/netloom/netloom/embed/BasisFactor;)V"), (0, .fieldref 8 68), (0, .nameAndType 69 70), (0, u "elimination"), (0, u "Lcom/example/netloom/netloom/embed/BasisFactor$Elimination;"), (3, u "()I"), (18, u "first"), (2, u "last"), (93, u "SINGULAR"), (0, u "Ljava/lang/String;"), (1, u "THRESHOLD"), (0, u "D"), (2, u "SMALLEST_PIVOT"), (0, u "AGREEMENT"), (0, u "LARGEST_MULTIPLIER"), (0, u "SEARCH"), (18, .class_ 220), (0, u "com/example/netloom/netloom/embed/BasisFactor$CountLists")] 5

def k13c0 : Code := { maxStack := 4, maxLocals := 1, code := prog_17_method_1_code, exceptionTable := #[], attributes := #[] }
def k13m0 : Method := { name := "<init>", desc := "()V", sig := { parameters := [], returnType := none }, accessFlags := 0, code := some k13c0 }
def k13c1 : Code := { maxStack := 1, maxLocals := 1, code := prog_17_method_2_code, exceptionTable := #[], attributes := #[] }
def k13m1 : Method := { name := "size", desc := "()I", sig := { parameters := [], returnType := some .int }, accessFlags := 0, code := some k13c1 }
/-- com/example/netloom/netloom/embed/BasisFactor -/
def k13 : Class := { plain "com/example/netloom/netloom/embed/BasisFactor" (some 0) with
  accessFlags := 48
  interfaces := #[]
  cf := some (fileOf pool13 8 #[.nestMembers #[13, 30, 219, 62]] #[{ accessFlags := 0, nameIndex := 5, descriptorIndex := 6, attributes := #[] }, { accessFlags := 0, nameIndex := 11, descriptorIndex := 74, attributes := #[] }] 48 2 #[] #[{ accessFlags := 24, nameIndex := 190, descriptorIndex := 191, attributes := #[] }, { accessFlags := 26, nameIndex := 193, descriptorIndex := 194, attributes := #[] }, { accessFlags := 26, nameIndex := 197, descriptorIndex := 194, attributes := #[] }, { accessFlags := 26, nameIndex := 198, descriptorIndex := 194, attributes := #[] }, { accessFlags := 26, nameIndex := 199, descriptorIndex := 194, attributes := #[] }, { accessFlags := 26, nameIndex := 200, descriptorIndex := 12, attributes := #[] }, { accessFlags := 2, nameIndex := 11, descriptorIndex := 12, attributes := #[] }, { accessFlags := 18, nameIndex := 18, descriptorIndex := 19, attributes := #[] }, { accessFlags := 2, nameIndex := 22, descriptorIndex := 23, attributes := #[] }, { accessFlags := 18, nameIndex := 26, descriptorIndex := 19, attributes := #[] }, { accessFlags := 2, nameIndex := 29, descriptorIndex := 23, attributes := #[] }, { accessFlags := 18, nameIndex := 35, descriptorIndex := 36, attributes := #[] }, { accessFlags := 18, nameIndex := 39, descriptorIndex := 36, attributes := #[] }, { accessFlags := 2, nameIndex := 42, descriptorIndex := 43, attributes := #[] }, { accessFlags := 2, nameIndex := 46, descriptorIndex := 23, attributes := #[] }, { accessFlags := 2, nameIndex := 49, descriptorIndex := 23, attributes := #[] }, { accessFlags := 2, nameIndex := 93, descriptorIndex := 12, attributes := #[] }, { accessFlags := 2, nameIndex := 96, descriptorIndex := 12, attributes := #[] }, { accessFlags := 2, nameIndex := 52, descriptorIndex := 23, attributes := #[] }, { accessFlags := 2, nameIndex := 55, descriptorIndex := 23, attributes := #[] }, { accessFlags := 2, nameIndex := 58, descriptorIndex := 43, attributes := #[] }, { accessFlags := 2, nameIndex := 61, descriptorIndex := 43, attributes := #[] }, { accessFlags := 18, nameIndex := 69, descriptorIndex := 70, attributes := #[] }])
  fields := #[{ name := "SINGULAR", type := (.object "java/lang/String"), accessFlags := 24, slot := 0, constantValue := 0 }, { name := "THRESHOLD", type := .double, accessFlags := 26, slot := 1, constantValue := 0 }, { name := "SMALLEST_PIVOT", type := .double, accessFlags := 26, slot := 2, constantValue := 0 }, { name := "AGREEMENT", type := .double, accessFlags := 26, slot := 3, constantValue := 0 }, { name := "LARGEST_MULTIPLIER", type := .double, accessFlags := 26, slot := 4, constantValue := 0 }, { name := "SEARCH", type := .int, accessFlags := 26, slot := 5, constantValue := 0 }, { name := "size", type := .int, accessFlags := 2, slot := 0, constantValue := 0 }, { name := "lower", type := (.object "com/example/netloom/netloom/embed/BasisFactor$Lines"), accessFlags := 18, slot := 1, constantValue := 0 }, { name := "stepRow", type := (.array .int), accessFlags := 2, slot := 2, constantValue := 0 }, { name := "etas", type := (.object "com/example/netloom/netloom/embed/BasisFactor$Lines"), accessFlags := 18, slot := 3, constantValue := 0 }, { name := "etaRow", type := (.array .int), accessFlags := 2, slot := 4, constantValue := 0 }, { name := "upperRows", type := (.object "com/example/netloom/netloom/embed/BasisFactor$Entries"), accessFlags := 18, slot := 5, constantValue := 0 }, { name := "upperColumns", type := (.object "com/example/netloom/netloom/embed/BasisFactor$Entries"), accessFlags := 18, slot := 6, constantValue := 0 }, { name := "diagonal", type := (.array .double), accessFlags := 2, slot := 7, constantValue := 0 }, { name := "positionOf", type := (.array .int), accessFlags := 2, slot := 8, constantValue := 0 }, { name := "rowOf", type := (.array .int), accessFlags := 2, slot := 9, constantValue := 0 }, { name := "first", type := .int, accessFlags := 2, slot := 10, constantValue := 0 }, { name := "last", type := .int, accessFlags := 2, slot := 11, constantValue := 0 }, { name := "after", type := (.array .int), accessFlags := 2, slot := 12, constantValue := 0 }, { name := "before", type := (.array .int), accessFlags := 2, slot := 13, constantValue := 0 }, { name := "spike", type := (.array .double), accessFlags := 2, slot := 14, constantValue := 0 }, { name := "along", type := (.array .double), accessFlags := 2, slot := 15, constantValue := 0 }, { name := "elimination", type := (.object "com/example/netloom/netloom/embed/BasisFactor$Elimination"), accessFlags := 18, slot := 16, constantValue := 0 }]
  methods := #[k13m0, k13m1]
  instanceTypes := #[.int, (.object "com/example/netloom/netloom/embed/BasisFactor$Lines"), (.array .int), (.object "com/example/netloom/netloom/embed/BasisFactor$Lines"), (.array .int), (.object "com/example/netloom/netloom/embed/BasisFactor$Entries"), (.object "com/example/netloom/netloom/embed/BasisFactor$Entries"), (.array .double), (.array .int), (.array .int), .int, .int, (.array .int), (.array .int), (.array .double), (.array .double), (.object "com/example/netloom/netloom/embed/BasisFactor$Elimination")]
  staticTypes := #[(.object "java/lang/String"), .double, .double, .double, .double, .int]
  resolved := ((((((Array.replicate 226 none).setIfInBounds 13 (some (.cls 14))).setIfInBounds 15 (some (.method ⟨14, 0⟩))).setIfInBounds 30 (some (.cls 15))).setIfInBounds 32 (some (.method ⟨15, 0⟩))).setIfInBounds 62 (some (.cls 16))).setIfInBounds 64 (some (.method ⟨16, 0⟩))
  statics := none }

def pool14 : Array CpInfo := pool [(1, .methodref 2 3), (0, .class_ 4), (0, .nameAndType 5 6), (0, u "java/lang/Object"), (0, u "<init>"), (0, u "()V"), (0, .fieldref 8 9), (0, .class_ 10), (0, .nameAndType 11 12), (0, u "com/example/netloom/netloom/embed/BasisFactor$Lines"), (0, u "start"), (0, u "[I"), (0, .fieldref 8 14), (0, .nameAndType 15 12), (0, u "index"), (0, .fieldref 8 17), (0, .nameAndType 18 19), (0, u "value"), (0, u "[D"), (2, u "count"), (0, u "I"), (2, u "filled"), (23, .class_ 51), (0, u "com/example/netloom/netloom/embed/BasisFactor")] 2

def k14c0 : Code := { maxStack := 2, maxLocals := 1, code := prog_21_method_1_code, exceptionTable := #[], attributes := #[] }
def k14m0 : Method := { name := "<init>", desc := "()V", sig := { parameters := [], returnType := none }, accessFlags := 2, code := some k14c0 }
/-- com/example/netloom/netloom/embed/BasisFactor$Lines -/
def k14 : Class := { plain "com/example/netloom/netloom/embed/BasisFactor$Lines" (some 0) with
  accessFlags := 48
  interfaces := #[]
  cf := some (fileOf pool14 8 #[.nestHost 50] #[{ accessFlags := 2, nameIndex := 5, descriptorIndex := 6, attributes := #[] }] 48 2 #[] #[{ accessFlags := 2, nameIndex := 11, descriptorIndex := 12, attributes := #[] }, { accessFlags := 2, nameIndex := 15, descriptorIndex := 12, attributes := #[] }, { accessFlags := 2, nameIndex := 18, descriptorIndex := 19, attributes := #[] }, { accessFlags := 2, nameIndex := 22, descriptorIndex := 23, attributes := #[] }, { accessFlags := 2, nameIndex := 26, descriptorIndex := 23, attributes := #[] }])
  fields := #[{ name := "start", type := (.array .int), accessFlags := 2, slot := 0, constantValue := 0 }, { name := "index", type := (.array .int), accessFlags := 2, slot := 1, constantValue := 0 }, { name := "value", type := (.array .double), accessFlags := 2, slot := 2, constantValue := 0 }, { name := "count", type := .int, accessFlags := 2, slot := 3, constantValue := 0 }, { name := "filled", type := .int, accessFlags := 2, slot := 4, constantValue := 0 }]
  methods := #[k14m0]
  instanceTypes := #[(.array .int), (.array .int), (.array .double), .int, .int]
  staticTypes := #[]
  resolved := Array.replicate 54 none
  statics := none }

def pool15 : Array CpInfo := pool [(1, .methodref 2 3), (0, .class_ 4), (0, .nameAndType 5 6), (0, u "java/lang/Object"), (0, u "<init>"), (0, u "()V"), (0, .class_ 8), (0, u "[I"), (0, .fieldref 10 11), (0, .class_ 12), (0, .nameAndType 13 14), (0, u "com/example/netloom/netloom/embed/BasisFactor$Entries"), (0, u "index"), (0, u "[[I"), (0, .class_ 16), (0, u "[D"), (0, .fieldref 10 18), (0, .nameAndType 19 20), (0, u "value"), (0, u "[[D"), (0, .fieldref 10 22), (0, .nameAndType 23 8), (0, u "length"), (44, .class_ 69), (0, u "com/example/netloom/netloom/embed/BasisFactor")] 2

def k15c0 : Code := { maxStack := 2, maxLocals := 1, code := prog_20_method_1_code, exceptionTable := #[], attributes := #[] }
def k15m0 : Method := { name := "<init>", desc := "()V", sig := { parameters := [], returnType := none }, accessFlags := 2, code := some k15c0 }
/-- com/example/netloom/netloom/embed/BasisFactor$Entries -/
def k15 : Class := { plain "com/example/netloom/netloom/embed/BasisFactor$Entries" (some 0) with
  accessFlags := 48
  interfaces := #[]
  cf := some (fileOf pool15 10 #[.nestHost 68] #[{ accessFlags := 2, nameIndex := 5, descriptorIndex := 6, attributes := #[] }] 48 2 #[] #[{ accessFlags := 2, nameIndex := 13, descriptorIndex := 14, attributes := #[] }, { accessFlags := 2, nameIndex := 19, descriptorIndex := 20, attributes := #[] }, { accessFlags := 2, nameIndex := 23, descriptorIndex := 8, attributes := #[] }])
  fields := #[{ name := "index", type := (.array (.array .int)), accessFlags := 2, slot := 0, constantValue := 0 }, { name := "value", type := (.array (.array .double)), accessFlags := 2, slot := 1, constantValue := 0 }, { name := "length", type := (.array .int), accessFlags := 2, slot := 2, constantValue := 0 }]
  methods := #[k15m0]
  instanceTypes := #[(.array (.array .int)), (.array (.array .double)), (.array .int)]
  staticTypes := #[]
  resolved := Array.replicate 72 none
  statics := none }

def pool16 : Array CpInfo := pool [(1, .class_ 2), (0, u "com/example/netloom/netloom/embed/BasisFactor"), (0, .fieldref 4 5), (0, .class_ 6), (0, .nameAndType 7 8), (0, u "com/example/netloom/netloom/embed/BasisFactor$Elimination"), (0, u "this$0"), (0, u "Lcom/example/netloom/netloom/embed/BasisFactor;"), (0, .methodref 10 11), (0, .class_ 12), (0, .nameAndType 13 14), (0, u "java/lang/Object"), (0, u "<init>"), (0, u "()V"), (0, .class_ 16), (0, u "com/example/netloom/netloom/embed/BasisFactor$Entries"), (0, .methodref 15 11), (0, .fieldref 4 19), (0, .nameAndType 20 21), (0, u "active"), (0, u "Lcom/example/netloom/netloom/embed/BasisFactor$Entries;"), (0, .class_ 23), (0, u "[I"), (0, .fieldref 4 25), (0, .nameAndType 26 27), (0, u "rowPositions"), (0, u "[[I"), (0, .fieldref 4 29), (0, .nameAndType 30 23), (0, u "rowLength"), (0, .fieldref 4 32), (0, .nameAndType 33 23), (0, u "rowCount"), (0, .fieldref 4 35), (0, .nameAndType 36 37), (0, u "eliminated"), (0, u "[Z"), (0, .class_ 39), (0, u "com/example/netloom/netloom/embed/BasisFactor$CountLists"), (0, .methodref 38 11), (0, .fieldref 4 42), (0, .nameAndType 43 44), (0, u "rows"), (0, u "Lcom/example/netloom/netloom/embed/BasisFactor$CountLists;"), (0, .fieldref 4 46), (0, .nameAndType 47 44), (0, u "columns"), (0, .fieldref 4 49), (0, .nameAndType 50 51), (0, u "multiplier"), (0, u "[D"), (0, .fieldref 4 53), (0, .nameAndType 54 23), (0, u "slot"), (0, .fieldref 4 56), (0, .nameAndType 57 23), (0, u "seen"), (26, u "mark"), (0, u "I"), (30, u "left"), (6, u "pickedRow"), (20, u "pickedPosition"), (75, u "(Lcom/example/netloom/netloom/embed/BasisFactor;)V")] 17

def k16c0 : Code := { maxStack := 3, maxLocals := 2, code := prog_19_method_1_code, exceptionTable := #[], attributes := #[] }
def k16m0 : Method := { name := "<init>", desc := "(Lcom/example/netloom/netloom/embed/BasisFactor;)V", sig := { parameters := [(.object "com/example/netloom/netloom/embed/BasisFactor")], returnType := none }, accessFlags := 2, code := some k16c0 }
/-- com/example/netloom/netloom/embed/BasisFactor$Elimination -/
def k16 : Class := { plain "com/example/netloom/netloom/embed/BasisFactor$Elimination" (some 0) with
  accessFlags := 48
  interfaces := #[]
  cf := some (fileOf pool16 4 #[.nestHost 1] #[{ accessFlags := 2, nameIndex := 13, descriptorIndex := 220, attributes := #[] }] 48 10 #[] #[{ accessFlags := 18, nameIndex := 20, descriptorIndex := 21, attributes := #[] }, { accessFlags := 2, nameIndex := 26, descriptorIndex := 27, attributes := #[] }, { accessFlags := 2, nameIndex := 30, descriptorIndex := 23, attributes := #[] }, { accessFlags := 2, nameIndex := 33, descriptorIndex := 23, attributes := #[] }, { accessFlags := 2, nameIndex := 36, descriptorIndex := 37, attributes := #[] }, { accessFlags := 18, nameIndex := 43, descriptorIndex := 44, attributes := #[] }, { accessFlags := 18, nameIndex := 47, descriptorIndex := 44, attributes := #[] }, { accessFlags := 2, nameIndex := 50, descriptorIndex := 51, attributes := #[] }, { accessFlags := 2, nameIndex := 54, descriptorIndex := 23, attributes := #[] }, { accessFlags := 2, nameIndex := 57, descriptorIndex := 23, attributes := #[] }, { accessFlags := 2, nameIndex := 84, descriptorIndex := 85, attributes := #[] }, { accessFlags := 2, nameIndex := 116, descriptorIndex := 85, attributes := #[] }, { accessFlags := 2, nameIndex := 123, descriptorIndex := 85, attributes := #[] }, { accessFlags := 2, nameIndex := 144, descriptorIndex := 85, attributes := #[] }, { accessFlags := 4112, nameIndex := 7, descriptorIndex := 8, attributes := #[] }])
  fields := #[{ name := "active", type := (.object "com/example/netloom/netloom/embed/BasisFactor$Entries"), accessFlags := 18, slot := 0, constantValue := 0 }, { name := "rowPositions", type := (.array (.array .int)), accessFlags := 2, slot := 1, constantValue := 0 }, { name := "rowLength", type := (.array .int), accessFlags := 2, slot := 2, constantValue := 0 }, { name := "rowCount", type := (.array .int), accessFlags := 2, slot := 3, constantValue := 0 }, { name := "eliminated", type := (.array .boolean), accessFlags := 2, slot := 4, constantValue := 0 }, { name := "rows", type := (.object "com/example/netloom/netloom/embed/BasisFactor$CountLists"), accessFlags := 18, slot := 5, constantValue := 0 }, { name := "columns", type := (.object "com/example/netloom/netloom/embed/BasisFactor$CountLists"), accessFlags := 18, slot := 6, constantValue := 0 }, { name := "multiplier", type := (.array .double), accessFlags := 2, slot := 7, constantValue := 0 }, { name := "slot", type := (.array .int), accessFlags := 2, slot := 8, constantValue := 0 }, { name := "seen", type := (.array .int), accessFlags := 2, slot := 9, constantValue := 0 }, { name := "mark", type := .int, accessFlags := 2, slot := 10, constantValue := 0 }, { name := "left", type := .int, accessFlags := 2, slot := 11, constantValue := 0 }, { name := "pickedRow", type := .int, accessFlags := 2, slot := 12, constantValue := 0 }, { name := "pickedPosition", type := .int, accessFlags := 2, slot := 13, constantValue := 0 }, { name := "this$0", type := (.object "com/example/netloom/netloom/embed/BasisFactor"), accessFlags := 4112, slot := 14, constantValue := 0 }]
  methods := #[k16m0]
  instanceTypes := #[(.object "com/example/netloom/netloom/embed/BasisFactor$Entries"), (.array (.array .int)), (.array .int), (.array .int), (.array .boolean), (.object "com/example/netloom/netloom/embed/BasisFactor$CountLists"), (.object "com/example/netloom/netloom/embed/BasisFactor$CountLists"), (.array .double), (.array .int), (.array .int), .int, .int, .int, .int, (.object "com/example/netloom/netloom/embed/BasisFactor")]
  staticTypes := #[]
  resolved := Array.replicate 238 none
  statics := none }

def pool17 : Array CpInfo := pool [(1, .methodref 2 3), (0, .class_ 4), (0, .nameAndType 5 6), (0, u "java/lang/Object"), (0, u "<init>"), (0, u "()V"), (0, .fieldref 8 9), (0, .class_ 10), (0, .nameAndType 11 12), (0, u "com/example/netloom/netloom/embed/BasisFactor$CountLists"), (0, u "first"), (0, u "[I"), (0, .fieldref 8 14), (0, .nameAndType 15 12), (0, u "next"), (0, .fieldref 8 17), (0, .nameAndType 18 12), (0, u "previous"), (0, .fieldref 8 20), (0, .nameAndType 21 12), (0, u "countOf"), (29, .class_ 52), (0, u "com/example/netloom/netloom/embed/BasisFactor")] 2

def k17c0 : Code := { maxStack := 2, maxLocals := 1, code := prog_18_method_1_code, exceptionTable := #[], attributes := #[] }
def k17m0 : Method := { name := "<init>", desc := "()V", sig := { parameters := [], returnType := none }, accessFlags := 2, code := some k17c0 }
/-- com/example/netloom/netloom/embed/BasisFactor$CountLists -/
def k17 : Class := { plain "com/example/netloom/netloom/embed/BasisFactor$CountLists" (some 0) with
  accessFlags := 48
  interfaces := #[]
  cf := some (fileOf pool17 8 #[.nestHost 51] #[{ accessFlags := 2, nameIndex := 5, descriptorIndex := 6, attributes := #[] }] 48 2 #[] #[{ accessFlags := 2, nameIndex := 11, descriptorIndex := 12, attributes := #[] }, { accessFlags := 2, nameIndex := 15, descriptorIndex := 12, attributes := #[] }, { accessFlags := 2, nameIndex := 18, descriptorIndex := 12, attributes := #[] }, { accessFlags := 2, nameIndex := 21, descriptorIndex := 12, attributes := #[] }])
  fields := #[{ name := "first", type := (.array .int), accessFlags := 2, slot := 0, constantValue := 0 }, { name := "next", type := (.array .int), accessFlags := 2, slot := 1, constantValue := 0 }, { name := "previous", type := (.array .int), accessFlags := 2, slot := 2, constantValue := 0 }, { name := "countOf", type := (.array .int), accessFlags := 2, slot := 3, constantValue := 0 }]
  methods := #[k17m0]
  instanceTypes := #[(.array .int), (.array .int), (.array .int), (.array .int)]
  staticTypes := #[]
  resolved := Array.replicate 55 none
  statics := none }

def pool18 : Array CpInfo := pool [(1, .methodref 2 3), (0, .class_ 4), (0, .nameAndType 5 6), (0, u "java/lang/Object"), (0, u "<init>"), (0, u "()V"), (0, .fieldref 8 9), (0, .class_ 10), (0, .nameAndType 11 12), (0, u "com/example/netloom/netloom/embed/SparseColumn"), (0, u "rows"), (0, u "[I"), (0, .fieldref 8 14), (0, .nameAndType 15 16), (0, u "values"), (0, u "[D"), (0, .fieldref 8 18), (0, .nameAndType 19 20), (0, u "size"), (0, u "I"), (11, u "add"), (0, u "(ID)V"), (1, u "()I")] 8

def k18c0 : Code := { maxStack := 2, maxLocals := 1, code := prog_51_method_1_code, exceptionTable := #[], attributes := #[] }
def k18m0 : Method := { name := "<init>", desc := "()V", sig := { parameters := [], returnType := none }, accessFlags := 0, code := some k18c0 }
def k18c1 : Code := { maxStack := 4, maxLocals := 4, code := prog_51_method_2_code, exceptionTable := #[], attributes := #[] }
def k18m1 : Method := { name := "add", desc := "(ID)V", sig := { parameters := [.int, .double], returnType := none }, accessFlags := 0, code := some k18c1 }
def k18c2 : Code := { maxStack := 1, maxLocals := 1, code := prog_51_method_3_code, exceptionTable := #[], attributes := #[] }
def k18m2 : Method := { name := "size", desc := "()I", sig := { parameters := [], returnType := some .int }, accessFlags := 0, code := some k18c2 }
/-- com/example/netloom/netloom/embed/SparseColumn -/
def k18 : Class := { plain "com/example/netloom/netloom/embed/SparseColumn" (some 0) with
  accessFlags := 48
  interfaces := #[]
  cf := some (fileOf pool18 8 #[] #[{ accessFlags := 0, nameIndex := 5, descriptorIndex := 6, attributes := #[] }, { accessFlags := 0, nameIndex := 32, descriptorIndex := 33, attributes := #[] }, { accessFlags := 0, nameIndex := 19, descriptorIndex := 35, attributes := #[] }] 48 2 #[] #[{ accessFlags := 2, nameIndex := 11, descriptorIndex := 12, attributes := #[] }, { accessFlags := 2, nameIndex := 15, descriptorIndex := 16, attributes := #[] }, { accessFlags := 2, nameIndex := 19, descriptorIndex := 20, attributes := #[] }])
  fields := #[{ name := "rows", type := (.array .int), accessFlags := 2, slot := 0, constantValue := 0 }, { name := "values", type := (.array .double), accessFlags := 2, slot := 1, constantValue := 0 }, { name := "size", type := .int, accessFlags := 2, slot := 2, constantValue := 0 }]
  methods := #[k18m0, k18m1, k18m2]
  instanceTypes := #[(.array .int), (.array .double), .int]
  staticTypes := #[]
  resolved := Array.replicate 44 none
  statics := none }

def pool19 : Array CpInfo := pool [(1, .class_ 2), (0, u "java/lang/Math"), (1, .class_ 6), (1, u "java/lang/Object"), (0, u "<init>"), (0, u "()V"), (5, u "(D)D"), (37, u "(DD)D"), (45, .class_ 100), (1, u "java/lang/Math$RandomNumberGeneratorHolder"), (23, u "abs"), (47, u "negativeZeroFloatBits"), (0, u "J"), (2, u "negativeZeroDoubleBits"), (21, u "max"), (46, u "$assertionsDisabled"), (0, u "Z"), (88, u "(II)I"), (2, u "twoToTheDoubleScaleDown"), (0, u "D"), (4, u "twoToTheDoubleScaleUp"), (9, u "E"), (3, u "PI"), (2, u "TAU"), (2, u "DEGREES_TO_RADIANS"), (0, u "RADIANS_TO_DEGREES")] 94

def k19m0 : Method := { name := "<init>", desc := "()V", sig := { parameters := [], returnType := none }, accessFlags := 2, code := none }
def k19c1 : Code := { maxStack := 4, maxLocals := 2, code := jdk_29_method_64_code, exceptionTable := #[], attributes := #[] }
def k19m1 : Method := { name := "abs", desc := "(D)D", sig := { parameters := [.double], returnType := some .double }, accessFlags := 9, code := some k19c1 }
def k19c2 : Code := { maxStack := 2, maxLocals := 2, code := jdk_29_method_65_code, exceptionTable := #[], attributes := #[] }
def k19m2 : Method := { name := "max", desc := "(II)I", sig := { parameters := [.int, .int], returnType := some .int }, accessFlags := 9, code := some k19c2 }
def k19c3 : Code := { maxStack := 4, maxLocals := 4, code := jdk_29_method_68_code, exceptionTable := #[], attributes := #[] }
def k19m3 : Method := { name := "max", desc := "(DD)D", sig := { parameters := [.double, .double], returnType := some .double }, accessFlags := 9, code := some k19c3 }
/-- java/lang/Math -/
def k19 : Class := { plain "java/lang/Math" (some 0) with
  accessFlags := 49
  interfaces := #[]
  cf := some (fileOf pool19 1 #[.nestMembers #[98]] #[{ accessFlags := 2, nameIndex := 7, descriptorIndex := 8, attributes := #[] }, { accessFlags := 9, nameIndex := 124, descriptorIndex := 14, attributes := #[] }, { accessFlags := 9, nameIndex := 198, descriptorIndex := 335, attributes := #[] }, { accessFlags := 9, nameIndex := 198, descriptorIndex := 52, attributes := #[] }] 49 4 #[] #[{ accessFlags := 25, nameIndex := 354, descriptorIndex := 339, attributes := #[] }, { accessFlags := 25, nameIndex := 358, descriptorIndex := 339, attributes := #[] }, { accessFlags := 25, nameIndex := 361, descriptorIndex := 339, attributes := #[] }, { accessFlags := 26, nameIndex := 364, descriptorIndex := 339, attributes := #[] }, { accessFlags := 26, nameIndex := 365, descriptorIndex := 339, attributes := #[] }, { accessFlags := 26, nameIndex := 172, descriptorIndex := 173, attributes := #[] }, { accessFlags := 26, nameIndex := 176, descriptorIndex := 173, attributes := #[] }, { accessFlags := 8, nameIndex := 344, descriptorIndex := 339, attributes := #[] }, { accessFlags := 8, nameIndex := 338, descriptorIndex := 339, attributes := #[] }, { accessFlags := 4120, nameIndex := 245, descriptorIndex := 246, attributes := #[] }])
  fields := #[{ name := "E", type := .double, accessFlags := 25, slot := 0, constantValue := 0 }, { name := "PI", type := .double, accessFlags := 25, slot := 1, constantValue := 0 }, { name := "TAU", type := .double, accessFlags := 25, slot := 2, constantValue := 0 }, { name := "DEGREES_TO_RADIANS", type := .double, accessFlags := 26, slot := 3, constantValue := 0 }, { name := "RADIANS_TO_DEGREES", type := .double, accessFlags := 26, slot := 4, constantValue := 0 }, { name := "negativeZeroFloatBits", type := .long, accessFlags := 26, slot := 5, constantValue := 0 }, { name := "negativeZeroDoubleBits", type := .long, accessFlags := 26, slot := 6, constantValue := 0 }, { name := "twoToTheDoubleScaleUp", type := .double, accessFlags := 8, slot := 7, constantValue := 0 }, { name := "twoToTheDoubleScaleDown", type := .double, accessFlags := 8, slot := 8, constantValue := 0 }, { name := "$assertionsDisabled", type := .boolean, accessFlags := 4120, slot := 9, constantValue := 0 }]
  methods := #[k19m0, k19m1, k19m2, k19m3]
  instanceTypes := #[]
  staticTypes := #[.double, .double, .double, .double, .double, .long, .long, .double, .double, .boolean]
  resolved := Array.replicate 460 none
  statics := none }

def pool20 : Array CpInfo := pool [(2, .class_ 4), (1, u "java/lang/Object"), (0, u "<init>"), (0, u "()V"), (0, .methodref 8 9), (0, .class_ 10), (0, .nameAndType 11 12), (0, u "java/lang/Math"), (0, u "max"), (0, u "(II)I"), (5, u "([II)[I"), (2, u "([DI)[D"), (0, .class_ 23), (0, u "com/example/netloom/netloom/embed/GrowingArrays"), (2, u "grown")] 7

def k20m0 : Method := { name := "<init>", desc := "()V", sig := { parameters := [], returnType := none }, accessFlags := 2, code := none }
def k20c1 : Code := { maxStack := 4, maxLocals := 2, code := prog_37_method_2_code, exceptionTable := #[], attributes := #[] }
def k20m1 : Method := { name := "grown", desc := "([II)[I", sig := { parameters := [(.array .int), .int], returnType := some (.array .int) }, accessFlags := 8, code := some k20c1 }
def k20c2 : Code := { maxStack := 4, maxLocals := 2, code := prog_37_method_3_code, exceptionTable := #[], attributes := #[] }
def k20m2 : Method := { name := "grown", desc := "([DI)[D", sig := { parameters := [(.array .double), .int], returnType := some (.array .double) }, accessFlags := 8, code := some k20c2 }
/-- com/example/netloom/netloom/embed/GrowingArrays -/
def k20 : Class := { plain "com/example/netloom/netloom/embed/GrowingArrays" (some 0) with
  accessFlags := 48
  interfaces := #[]
  cf := some (fileOf pool20 22 #[] #[{ accessFlags := 2, nameIndex := 5, descriptorIndex := 6, attributes := #[] }, { accessFlags := 8, nameIndex := 26, descriptorIndex := 18, attributes := #[] }, { accessFlags := 8, nameIndex := 26, descriptorIndex := 21, attributes := #[] }] 48 2 #[] #[])
  fields := #[]
  methods := #[k20m0, k20m1, k20m2]
  instanceTypes := #[]
  staticTypes := #[]
  resolved := Array.replicate 34 none
  statics := none }

def pool21 : Array CpInfo := pool [(2, .class_ 4), (1, u "java/lang/Object"), (0, u "<init>"), (0, u "()V"), (35, .class_ 44), (1, u "java/util/Objects"), (60, .methodref 106 107), (0, .class_ 108), (0, .nameAndType 109 110), (0, u "jdk/internal/util/Preconditions"), (0, u "checkIndex"), (0, u "(IILjava/util/function/BiFunction;)I"), (60, u "(II)I")] 12

def k21m0 : Method := { name := "<init>", desc := "()V", sig := { parameters := [], returnType := none }, accessFlags := 2, code := none }
def k21c1 : Code := { maxStack := 3, maxLocals := 2, code := jdk_31_method_17_code, exceptionTable := #[], attributes := #[] }
def k21m1 : Method := { name := "checkIndex", desc := "(II)I", sig := { parameters := [.int, .int], returnType := some .int }, accessFlags := 9, code := some k21c1 }
/-- java/util/Objects -/
def k21 : Class := { plain "java/util/Objects" (some 0) with
  accessFlags := 49
  interfaces := #[]
  cf := some (fileOf pool21 42 #[] #[{ accessFlags := 2, nameIndex := 5, descriptorIndex := 6, attributes := #[] }, { accessFlags := 9, nameIndex := 109, descriptorIndex := 171, attributes := #[] }] 49 2 #[] #[])
  fields := #[]
  methods := #[k21m0, k21m1]
  instanceTypes := #[]
  staticTypes := #[]
  resolved := Array.replicate 184 none
  statics := none }

def pool22 : Array CpInfo := pool [(2, .class_ 4), (1, u "java/lang/Object"), (0, u "<init>"), (0, u "()V"), (17, .class_ 26), (1, u "jdk/internal/util/Preconditions"), (6, u "checkIndex"), (21, .class_ 56), (0, u "jdk/internal/util/Preconditions$4"), (57, .class_ 115), (0, u "jdk/internal/util/Preconditions$1"), (7, u "SIOOBE_FORMATTER"), (0, u "Ljava/util/function/BiFunction;"), (0, .class_ 126), (0, u "jdk/internal/util/Preconditions$2"), (3, u "AIOOBE_FORMATTER"), (0, .class_ 132), (0, u "jdk/internal/util/Preconditions$3"), (3, u "IOOBE_FORMATTER"), (41, u "(IILjava/util/function/BiFunction;)I")] 15

def k22m0 : Method := { name := "<init>", desc := "()V", sig := { parameters := [], returnType := none }, accessFlags := 1, code := none }
def k22c1 : Code := { maxStack := 3, maxLocals := 3, code := jdk_41_method_11_code, exceptionTable := #[], attributes := #[] }
def k22m1 : Method := { name := "checkIndex", desc := "(IILjava/util/function/BiFunction;)I", sig := { parameters := [.int, .int, (.object "java/util/function/BiFunction")], returnType := some .int }, accessFlags := 9, code := some k22c1 }
/-- jdk/internal/util/Preconditions -/
def k22 : Class := { plain "jdk/internal/util/Preconditions" (some 0) with
  accessFlags := 33
  interfaces := #[]
  cf := some (fileOf pool22 24 #[.nestMembers #[55, 131, 125, 114]] #[{ accessFlags := 1, nameIndex := 5, descriptorIndex := 6, attributes := #[] }, { accessFlags := 9, nameIndex := 33, descriptorIndex := 178, attributes := #[] }] 33 2 #[] #[{ accessFlags := 25, nameIndex := 123, descriptorIndex := 124, attributes := #[] }, { accessFlags := 25, nameIndex := 130, descriptorIndex := 124, attributes := #[] }, { accessFlags := 25, nameIndex := 136, descriptorIndex := 124, attributes := #[] }])
  fields := #[{ name := "SIOOBE_FORMATTER", type := (.object "java/util/function/BiFunction"), accessFlags := 25, slot := 0, constantValue := 0 }, { name := "AIOOBE_FORMATTER", type := (.object "java/util/function/BiFunction"), accessFlags := 25, slot := 1, constantValue := 0 }, { name := "IOOBE_FORMATTER", type := (.object "java/util/function/BiFunction"), accessFlags := 25, slot := 2, constantValue := 0 }]
  methods := #[k22m0, k22m1]
  instanceTypes := #[]
  staticTypes := #[(.object "java/util/function/BiFunction"), (.object "java/util/function/BiFunction"), (.object "java/util/function/BiFunction")]
  resolved := Array.replicate 194 none
  statics := none }

/-- the primitive boolean -/
def k23 : Class := { plain "boolean" none with kind := .primitive 'Z', accessFlags := 0x411 }
/-- [Z -/
def k24 : Class := { plain "[Z" (some 0) with kind := .array 23 .boolean, interfaces := #[10, 11], accessFlags := 1041 }

/-- the primitive byte -/
def k25 : Class := { plain "byte" none with kind := .primitive 'B', accessFlags := 0x411 }
/-- [B -/
def k26 : Class := { plain "[B" (some 0) with kind := .array 25 .byte, interfaces := #[10, 11], accessFlags := 1041 }

/-- the primitive double -/
def k27 : Class := { plain "double" none with kind := .primitive 'D', accessFlags := 0x411 }
/-- [D -/
def k28 : Class := { plain "[D" (some 0) with kind := .array 27 .double, interfaces := #[10, 11], accessFlags := 1041 }

/-- the primitive int -/
def k29 : Class := { plain "int" none with kind := .primitive 'I', accessFlags := 0x411 }
/-- [I -/
def k30 : Class := { plain "[I" (some 0) with kind := .array 29 .int, interfaces := #[10, 11], accessFlags := 1041 }

/-- [Ljava/lang/Object; -/
def k31 : Class := { plain "[Ljava/lang/Object;" (some 0) with kind := .array 0 (.object "java/lang/Object"), interfaces := #[10, 11], accessFlags := 1041 }

def heap : Heap := #[{ cls := 12, slots := #[.long 0, .int 0, .ref 1, .ref 2], vm := .statics 12 },
  { cls := 31, slots := #[], vm := .none },
  { cls := 31, slots := #[], vm := .none }]
/-- [[I -/
def k32 : Class := { plain "[[I" (some 0) with kind := .array 30 (.array .int), interfaces := #[10, 11], accessFlags := 1041 }
/-- [[D -/
def k33 : Class := { plain "[[D" (some 0) with kind := .array 28 (.array .double), interfaces := #[10, 11], accessFlags := 1041 }
def classes : Array Class := #[k0, k1, k2, k3, k4, k5, k6, k7, k8, k9, k10, k11, k12, k13, k14, k15, k16, k17, k18, k19, k20, k21, k22, k23, k24, k25, k26, k27, k28, k29, k30, k31, k32, k33]
def interned : List (Array UInt16 × Addr) := []
def slotsUsed : Nat := 4
def theMethod : MethodId := ⟨1, 4⟩
def args0 : Array Value := #[.int 3, .int 4, .int 5, .long 6, .int 7]
def aboutOver (below : List Frame) : State where
  vm := { classes := classes, interned := interned.toArray }
  heap := heap
  slotsUsed := slotsUsed
  threads := #[{ frames := .invoking theMethod args0 :: below }]
def below0 : List Frame := [.native { method := ⟨0, 0⟩, args := #[] }]
def about1 : State := aboutOver below0
def p0 : Program := .bare "" "" ""
def e0 : Env := launch0.env 0 0 0
theorem w_frames : about1.frames = Frame.invoking theMethod args0 :: below0 := rfl
set_option maxRecDepth 65536 in
theorem w_args : argsFit about1.vm theMethod args0 = true := by decide +kernel
set_option maxRecDepth 65536 in
theorem w_heap : heapFits about1 = true := by decide +kernel
set_option maxRecDepth 65536 in
theorem w_runnable : about1.curStatus? = some .runnable := by decide +kernel
set_option maxRecDepth 65536 in
theorem w_alone : about1.alone = true := by decide +kernel
set_option maxRecDepth 65536 in
theorem w_named : about1.methodNamed? x = some theMethod := by decide +kernel
set_option maxRecDepth 65536 in
theorem w_hears : about1.hears theMethod below0 = true := by decide +kernel
set_option maxRecDepth 65536 in
theorem w_ripe : about1.ripe theMethod args0 below0 = true := by decide +kernel
theorem w_running : about1.status = .running := rfl
set_option maxRecDepth 65536 in
theorem w_room : about1.hasRoom e0.platform room_1 = true :=
  launch0.hasRoom_least _ room_1 (by decide +kernel) (by decide +kernel) (by decide +kernel) (by decide +kernel) (by decide +kernel) (by decide +kernel)
theorem allAtoms_all (ts : List Jvm.Cond) (a : Array Jvm.Value) (st : Jvm.State) : (allAtoms ts).before a st = ts.all (fun c => c.before a st) := by
  induction ts with
  | nil => rfl
  | cons c t ih =>
    show (Jvm.Cond.and c (allAtoms t)).before a st = _
    rw [Jvm.Cond.before_and, ih, List.all_cons]
def words1 : List Jvm.Cond := Jvm.Cond.code x code maxLocals ret :: tables_1
/-- a 'code' word, met by the world's own term for the bytes: nothing is compared byte by byte -/
theorem code_word {y : MethodName} {bytes : ByteArray} {mx : Nat} {rt : Option FieldType} {a : Array Value} {s : State} {m : MethodId} {meth : Method} {c : Code} (h1 : s.methodNamed? y = some m) (h2 : s.vm.method? m = some meth) (h3 : meth.code = some c) (h4 : c.code = bytes)
    (h5 : (c.maxLocals == mx && c.exceptionTable.isEmpty && decide (c.maxStack ≤ mostOperands) && decide (meth.sig.returnType = rt) && !meth.locks && decide (parseMethodDescriptor y.desc = some meth.sig)) = true) : (Jvm.Cond.code y bytes mx rt).before a s = true := by
  simp only [Bool.and_eq_true, beq_iff_eq, Bool.not_eq_true', decide_eq_true_eq] at h5
  obtain ⟨⟨⟨⟨⟨g1, g2⟩, g3⟩, g4⟩, g5⟩, g6⟩ := h5
  simp [Cond.before, Cond.holds, Cond.value, h1, h2, h3, h4, g1, g2, g3, g4, g5, g6]
def isCode : Jvm.Cond → Bool
  | .code _ _ _ _ => true
  | _ => false
theorem all_split {L : List Jvm.Cond} {P : Jvm.Cond → Bool} (h1 : L.all (fun c => isCode c || P c) = true) (h2 : ∀ c ∈ L.filter isCode, P c = true) : L.all P = true := by
  refine List.all_eq_true.mpr fun c hc => ?_
  have h := List.all_eq_true.mp h1 c hc
  rcases Bool.eq_false_or_eq_true (isCode c) with hi | hi
  · exact h2 c (List.mem_filter.mpr ⟨hc, hi⟩)
  · simpa [hi] using h
set_option maxRecDepth 65536 in
theorem w_c0 : (Jvm.Cond.code x code maxLocals ret).before args0 about1 = true := code_word (m := ⟨1, 4⟩) (meth := k1m4) (c := k1c4) (by decide +kernel) rfl rfl rfl (by decide +kernel)
set_option maxRecDepth 65536 in
theorem w_c1 : (Jvm.Cond.code ({ cls := "com/example/netloom/netloom/embed/SimplexObjectivePinLaw", name := "entry", desc := "(I)D" } : Jvm.MethodName) method_2_code (1 : Nat) (Option.some Jvm.ClassFile.FieldType.double)).before args0 about1 = true := code_word (m := ⟨1, 1⟩) (meth := k1m1) (c := k1c1) (by decide +kernel) rfl rfl rfl (by decide +kernel)
set_option maxRecDepth 65536 in
theorem w_c2 : (Jvm.Cond.code ({ cls := "com/example/netloom/netloom/embed/Simplex", name := "<init>", desc := "()V" } : Jvm.MethodName) prog_49_method_1_code (1 : Nat) (Option.none : Option Jvm.ClassFile.FieldType)).before args0 about1 = true := code_word (m := ⟨2, 0⟩) (meth := k2m0) (c := k2c0) (by decide +kernel) rfl rfl rfl (by decide +kernel)
set_option maxRecDepth 65536 in
theorem w_c3 : (Jvm.Cond.code ({ cls := "java/lang/Object", name := "<init>", desc := "()V" } : Jvm.MethodName) object_method_1_code (1 : Nat) (Option.none : Option Jvm.ClassFile.FieldType)).before args0 about1 = true := code_word (m := ⟨0, 0⟩) (meth := k0m0) (c := k0c0) (by decide +kernel) rfl rfl rfl (by decide +kernel)
set_option maxRecDepth 65536 in
theorem w_c4 : (Jvm.Cond.code ({ cls := "java/util/ArrayList", name := "<init>", desc := "()V" } : Jvm.MethodName) jdk_38_method_2_code (1 : Nat) (Option.none : Option Jvm.ClassFile.FieldType)).before args0 about1 = true := code_word (m := ⟨12, 0⟩) (meth := k12m0) (c := k12c0) (by decide +kernel) rfl rfl rfl (by decide +kernel)
set_option maxRecDepth 65536 in
theorem w_c5 : (Jvm.Cond.code ({ cls := "java/util/AbstractList", name := "<init>", desc := "()V" } : Jvm.MethodName) jdk_39_method_1_code (1 : Nat) (Option.none : Option Jvm.ClassFile.FieldType)).before args0 about1 = true := code_word (m := ⟨8, 0⟩) (meth := k8m0) (c := k8c0) (by decide +kernel) rfl rfl rfl (by decide +kernel)
set_option maxRecDepth 65536 in
theorem w_c6 : (Jvm.Cond.code ({ cls := "java/util/AbstractCollection", name := "<init>", desc := "()V" } : Jvm.MethodName) jdk_22_method_1_code (1 : Nat) (Option.none : Option Jvm.ClassFile.FieldType)).before args0 about1 = true := code_word (m := ⟨5, 0⟩) (meth := k5m0) (c := k5c0) (by decide +kernel) rfl rfl rfl (by decide +kernel)
set_option maxRecDepth 65536 in
theorem w_c7 : (Jvm.Cond.code ({ cls := "com/example/netloom/netloom/embed/BasisFactor", name := "<init>", desc := "()V" } : Jvm.MethodName) prog_17_method_1_code (1 : Nat) (Option.none : Option Jvm.ClassFile.FieldType)).before args0 about1 = true := code_word (m := ⟨13, 0⟩) (meth := k13m0) (c := k13c0) (by decide +kernel) rfl rfl rfl (by decide +kernel)
set_option maxRecDepth 65536 in
theorem w_c8 : (Jvm.Cond.code ({ cls := "com/example/netloom/netloom/embed/BasisFactor$Lines", name := "<init>", desc := "()V" } : Jvm.MethodName) prog_21_method_1_code (1 : Nat) (Option.none : Option Jvm.ClassFile.FieldType)).before args0 about1 = true := code_word (m := ⟨14, 0⟩) (meth := k14m0) (c := k14c0) (by decide +kernel) rfl rfl rfl (by decide +kernel)
set_option maxRecDepth 65536 in
theorem w_c9 : (Jvm.Cond.code ({ cls := "com/example/netloom/netloom/embed/BasisFactor$Entries", name := "<init>", desc := "()V" } : Jvm.MethodName) prog_20_method_1_code (1 : Nat) (Option.none : Option Jvm.ClassFile.FieldType)).before args0 about1 = true := code_word (m := ⟨15, 0⟩) (meth := k15m0) (c := k15c0) (by decide +kernel) rfl rfl rfl (by decide +kernel)
set_option maxRecDepth 65536 in
theorem w_c10 : (Jvm.Cond.code ({ cls := "com/example/netloom/netloom/embed/BasisFactor$Elimination", name := "<init>", desc := "(Lcom/example/netloom/netloom/embed/BasisFactor;)V" } : Jvm.MethodName) prog_19_method_1_code (2 : Nat) (Option.none : Option Jvm.ClassFile.FieldType)).before args0 about1 = true := code_word (m := ⟨16, 0⟩) (meth := k16m0) (c := k16c0) (by decide +kernel) rfl rfl rfl (by decide +kernel)
set_option maxRecDepth 65536 in
theorem w_c11 : (Jvm.Cond.code ({ cls := "com/example/netloom/netloom/embed/BasisFactor$CountLists", name := "<init>", desc := "()V" } : Jvm.MethodName) prog_18_method_1_code (1 : Nat) (Option.none : Option Jvm.ClassFile.FieldType)).before args0 about1 = true := code_word (m := ⟨17, 0⟩) (meth := k17m0) (c := k17c0) (by decide +kernel) rfl rfl rfl (by decide +kernel)
set_option maxRecDepth 65536 in
theorem w_c12 : (Jvm.Cond.code ({ cls := "com/example/netloom/netloom/embed/Simplex", name := "addColumn", desc := "(D[I[D)I" } : Jvm.MethodName) prog_49_method_2_code (8 : Nat) (Option.some Jvm.ClassFile.FieldType.int)).before args0 about1 = true := code_word (m := ⟨2, 1⟩) (meth := k2m1) (c := k2c1) (by decide +kernel) rfl rfl rfl (by decide +kernel)
set_option maxRecDepth 65536 in
theorem w_c13 : (Jvm.Cond.code ({ cls := "java/util/ArrayList", name := "size", desc := "()I" } : Jvm.MethodName) jdk_38_method_8_code (1 : Nat) (Option.some Jvm.ClassFile.FieldType.int)).before args0 about1 = true := code_word (m := ⟨12, 3⟩) (meth := k12m3) (c := k12c3) (by decide +kernel) rfl rfl rfl (by decide +kernel)
set_option maxRecDepth 65536 in
theorem w_c14 : (Jvm.Cond.code ({ cls := "com/example/netloom/netloom/embed/SparseColumn", name := "<init>", desc := "()V" } : Jvm.MethodName) prog_51_method_1_code (1 : Nat) (Option.none : Option Jvm.ClassFile.FieldType)).before args0 about1 = true := code_word (m := ⟨18, 0⟩) (meth := k18m0) (c := k18c0) (by decide +kernel) rfl rfl rfl (by decide +kernel)
set_option maxRecDepth 65536 in
theorem w_c15 : (Jvm.Cond.code ({ cls := "java/util/ArrayList", name := "add", desc := "(Ljava/lang/Object;)Z" } : Jvm.MethodName) jdk_38_method_25_code (2 : Nat) (Option.some Jvm.ClassFile.FieldType.boolean)).before args0 about1 = true := code_word (m := ⟨12, 7⟩) (meth := k12m7) (c := k12c7) (by decide +kernel) rfl rfl rfl (by decide +kernel)
set_option maxRecDepth 65536 in
theorem w_c16 : (Jvm.Cond.code ({ cls := "java/util/ArrayList", name := "add", desc := "(Ljava/lang/Object;[Ljava/lang/Object;I)V" } : Jvm.MethodName) jdk_38_method_24_code (4 : Nat) (Option.none : Option Jvm.ClassFile.FieldType)).before args0 about1 = true := code_word (m := ⟨12, 6⟩) (meth := k12m6) (c := k12c6) (by decide +kernel) rfl rfl rfl (by decide +kernel)
set_option maxRecDepth 65536 in
theorem w_c17 : (Jvm.Cond.code ({ cls := "java/util/ArrayList", name := "grow", desc := "()[Ljava/lang/Object;" } : Jvm.MethodName) jdk_38_method_7_code (1 : Nat) (Option.some (Jvm.ClassFile.FieldType.array (Jvm.ClassFile.FieldType.object "java/lang/Object")))).before args0 about1 = true := code_word (m := ⟨12, 2⟩) (meth := k12m2) (c := k12c2) (by decide +kernel) rfl rfl rfl (by decide +kernel)
set_option maxRecDepth 65536 in
theorem w_c18 : (Jvm.Cond.code ({ cls := "java/util/ArrayList", name := "grow", desc := "(I)[Ljava/lang/Object;" } : Jvm.MethodName) jdk_38_method_6_code (4 : Nat) (Option.some (Jvm.ClassFile.FieldType.array (Jvm.ClassFile.FieldType.object "java/lang/Object")))).before args0 about1 = true := code_word (m := ⟨12, 1⟩) (meth := k12m1) (c := k12c1) (by decide +kernel) rfl rfl rfl (by decide +kernel)
set_option maxRecDepth 65536 in
theorem w_c19 : (Jvm.Cond.code ({ cls := "java/lang/Math", name := "max", desc := "(II)I" } : Jvm.MethodName) jdk_29_method_65_code (2 : Nat) (Option.some Jvm.ClassFile.FieldType.int)).before args0 about1 = true := code_word (m := ⟨19, 2⟩) (meth := k19m2) (c := k19c2) (by decide +kernel) rfl rfl rfl (by decide +kernel)
set_option maxRecDepth 65536 in
theorem w_c20 : (Jvm.Cond.code ({ cls := "com/example/netloom/netloom/embed/GrowingArrays", name := "grown", desc := "([DI)[D" } : Jvm.MethodName) prog_37_method_3_code (2 : Nat) (Option.some (Jvm.ClassFile.FieldType.array Jvm.ClassFile.FieldType.double))).before args0 about1 = true := code_word (m := ⟨20, 2⟩) (meth := k20m2) (c := k20c2) (by decide +kernel) rfl rfl rfl (by decide +kernel)
set_option maxRecDepth 65536 in
theorem w_c21 : (Jvm.Cond.code ({ cls := "com/example/netloom/netloom/embed/GrowingArrays", name := "grown", desc := "([II)[I" } : Jvm.MethodName) prog_37_method_2_code (2 : Nat) (Option.some (Jvm.ClassFile.FieldType.array Jvm.ClassFile.FieldType.int))).before args0 about1 = true := code_word (m := ⟨20, 1⟩) (meth := k20m1) (c := k20c1) (by decide +kernel) rfl rfl rfl (by decide +kernel)
set_option maxRecDepth 65536 in
theorem w_c22 : (Jvm.Cond.code ({ cls := "com/example/netloom/netloom/embed/Simplex", name := "setCost", desc := "(ID)V" } : Jvm.MethodName) prog_49_method_4_code (4 : Nat) (Option.none : Option Jvm.ClassFile.FieldType)).before args0 about1 = true := code_word (m := ⟨2, 3⟩) (meth := k2m3) (c := k2c3) (by decide +kernel) rfl rfl rfl (by decide +kernel)
set_option maxRecDepth 65536 in
theorem w_c23 : (Jvm.Cond.code ({ cls := "com/example/netloom/netloom/embed/Simplex", name := "objective", desc := "()D" } : Jvm.MethodName) prog_49_method_8_code (4 : Nat) (Option.some Jvm.ClassFile.FieldType.double)).before args0 about1 = true := code_word (m := ⟨2, 4⟩) (meth := k2m4) (c := k2c4) (by decide +kernel) rfl rfl rfl (by decide +kernel)
set_option maxRecDepth 65536 in
theorem w_c24 : (Jvm.Cond.code ({ cls := "com/example/netloom/netloom/embed/Simplex", name := "addRow", desc := "(D[I[DI)I" } : Jvm.MethodName) prog_49_method_3_code (15 : Nat) (Option.some Jvm.ClassFile.FieldType.int)).before args0 about1 = true := code_word (m := ⟨2, 2⟩) (meth := k2m2) (c := k2c2) (by decide +kernel) rfl rfl rfl (by decide +kernel)
set_option maxRecDepth 65536 in
theorem w_c25 : (Jvm.Cond.code ({ cls := "java/util/ArrayList", name := "get", desc := "(I)Ljava/lang/Object;" } : Jvm.MethodName) jdk_38_method_20_code (2 : Nat) (Option.some (Jvm.ClassFile.FieldType.object "java/lang/Object"))).before args0 about1 = true := code_word (m := ⟨12, 5⟩) (meth := k12m5) (c := k12c5) (by decide +kernel) rfl rfl rfl (by decide +kernel)
set_option maxRecDepth 65536 in
theorem w_c26 : (Jvm.Cond.code ({ cls := "java/util/Objects", name := "checkIndex", desc := "(II)I" } : Jvm.MethodName) jdk_31_method_17_code (2 : Nat) (Option.some Jvm.ClassFile.FieldType.int)).before args0 about1 = true := code_word (m := ⟨21, 1⟩) (meth := k21m1) (c := k21c1) (by decide +kernel) rfl rfl rfl (by decide +kernel)
set_option maxRecDepth 65536 in
theorem w_c27 : (Jvm.Cond.code ({ cls := "jdk/internal/util/Preconditions", name := "checkIndex", desc := "(IILjava/util/function/BiFunction;)I" } : Jvm.MethodName) jdk_41_method_11_code (3 : Nat) (Option.some Jvm.ClassFile.FieldType.int)).before args0 about1 = true := code_word (m := ⟨22, 1⟩) (meth := k22m1) (c := k22c1) (by decide +kernel) rfl rfl rfl (by decide +kernel)
set_option maxRecDepth 65536 in
theorem w_c28 : (Jvm.Cond.code ({ cls := "java/util/ArrayList", name := "elementData", desc := "(I)Ljava/lang/Object;" } : Jvm.MethodName) jdk_38_method_18_code (2 : Nat) (Option.some (Jvm.ClassFile.FieldType.object "java/lang/Object"))).before args0 about1 = true := code_word (m := ⟨12, 4⟩) (meth := k12m4) (c := k12c4) (by decide +kernel) rfl rfl rfl (by decide +kernel)
set_option maxRecDepth 65536 in
theorem w_c29 : (Jvm.Cond.code ({ cls := "com/example/netloom/netloom/embed/SparseColumn", name := "size", desc := "()I" } : Jvm.MethodName) prog_51_method_3_code (1 : Nat) (Option.some Jvm.ClassFile.FieldType.int)).before args0 about1 = true := code_word (m := ⟨18, 2⟩) (meth := k18m2) (c := k18c2) (by decide +kernel) rfl rfl rfl (by decide +kernel)
set_option maxRecDepth 65536 in
theorem w_c30 : (Jvm.Cond.code ({ cls := "java/lang/Math", name := "abs", desc := "(D)D" } : Jvm.MethodName) jdk_29_method_64_code (2 : Nat) (Option.some Jvm.ClassFile.FieldType.double)).before args0 about1 = true := code_word (m := ⟨19, 1⟩) (meth := k19m1) (c := k19c1) (by decide +kernel) rfl rfl rfl (by decide +kernel)
set_option maxRecDepth 65536 in
theorem w_c31 : (Jvm.Cond.code ({ cls := "java/lang/Math", name := "max", desc := "(DD)D" } : Jvm.MethodName) jdk_29_method_68_code (4 : Nat) (Option.some Jvm.ClassFile.FieldType.double)).before args0 about1 = true := code_word (m := ⟨19, 3⟩) (meth := k19m3) (c := k19c3) (by decide +kernel) rfl rfl rfl (by decide +kernel)
set_option maxRecDepth 65536 in
theorem w_c32 : (Jvm.Cond.code ({ cls := "com/example/netloom/netloom/embed/SparseColumn", name := "add", desc := "(ID)V" } : Jvm.MethodName) prog_51_method_2_code (4 : Nat) (Option.none : Option Jvm.ClassFile.FieldType)).before args0 about1 = true := code_word (m := ⟨18, 1⟩) (meth := k18m1) (c := k18c1) (by decide +kernel) rfl rfl rfl (by decide +kernel)
set_option maxRecDepth 65536 in
theorem w_c33 : (Jvm.Cond.code ({ cls := "com/example/netloom/netloom/embed/BasisFactor", name := "size", desc := "()I" } : Jvm.MethodName) prog_17_method_2_code (1 : Nat) (Option.some Jvm.ClassFile.FieldType.int)).before args0 about1 = true := code_word (m := ⟨13, 1⟩) (meth := k13m1) (c := k13c1) (by decide +kernel) rfl rfl rfl (by decide +kernel)
set_option maxRecDepth 65536 in
theorem w_c34 : (Jvm.Cond.code ({ cls := "com/example/netloom/netloom/embed/SimplexObjectivePinLaw", name := "eff", desc := "(IIIIII)J" } : Jvm.MethodName) method_4_code (6 : Nat) (Option.some Jvm.ClassFile.FieldType.long)).before args0 about1 = true := code_word (m := ⟨1, 3⟩) (meth := k1m3) (c := k1c3) (by decide +kernel) rfl rfl rfl (by decide +kernel)
set_option maxRecDepth 65536 in
theorem w_c35 : (Jvm.Cond.code ({ cls := "com/example/netloom/netloom/embed/SimplexObjectivePinLaw", name := "quarter", desc := "(I)J" } : Jvm.MethodName) method_3_code (1 : Nat) (Option.some Jvm.ClassFile.FieldType.long)).before args0 about1 = true := code_word (m := ⟨1, 2⟩) (meth := k1m2) (c := k1c2) (by decide +kernel) rfl rfl rfl (by decide +kernel)
def codes1 : List Jvm.Cond := [Jvm.Cond.code x code maxLocals ret, Jvm.Cond.code ({ cls := "com/example/netloom/netloom/embed/SimplexObjectivePinLaw", name := "entry", desc := "(I)D" } : Jvm.MethodName) method_2_code (1 : Nat) (Option.some Jvm.ClassFile.FieldType.double), Jvm.Cond.code ({ cls := "com/example/netloom/netloom/embed/Simplex", name := "<init>", desc := "()V" } : Jvm.MethodName) prog_49_method_1_code (1 : Nat) (Option.none : Option Jvm.ClassFile.FieldType), Jvm.Cond.code ({ cls := "java/lang/Object", name := "<init>", desc := "()V" } : Jvm.MethodName) object_method_1_code (1 : Nat) (Option.none : Option Jvm.ClassFile.FieldType), Jvm.Cond.code ({ cls := "java/util/ArrayList", name := "<init>", desc := "()V" } : Jvm.MethodName) jdk_38_method_2_code (1 : Nat) (Option.none : Option Jvm.ClassFile.FieldType), Jvm.Cond.code ({ cls := "java/util/AbstractList", name := "<init>", desc := "()V" } : Jvm.MethodName) jdk_39_method_1_code (1 : Nat) (Option.none : Option Jvm.ClassFile.FieldType), Jvm.Cond.code ({ cls := "java/util/AbstractCollection", name := "<init>", desc := "()V" } : Jvm.MethodName) jdk_22_method_1_code (1 : Nat) (Option.none : Option Jvm.ClassFile.FieldType), Jvm.Cond.code ({ cls := "com/example/netloom/netloom/embed/BasisFactor", name := "<init>", desc := "()V" } : Jvm.MethodName) prog_17_method_1_code (1 : Nat) (Option.none : Option Jvm.ClassFile.FieldType), Jvm.Cond.code ({ cls := "com/example/netloom/netloom/embed/BasisFactor$Lines", name := "<init>", desc := "()V" } : Jvm.MethodName) prog_21_method_1_code (1 : Nat) (Option.none : Option Jvm.ClassFile.FieldType), Jvm.Cond.code ({ cls := "com/example/netloom/netloom/embed/BasisFactor$Entries", name := "<init>", desc := "()V" } : Jvm.MethodName) prog_20_method_1_code (1 : Nat) (Option.none : Option Jvm.ClassFile.FieldType), Jvm.Cond.code ({ cls := "com/example/netloom/netloom/embed/BasisFactor$Elimination", name := "<init>", desc := "(Lcom/example/netloom/netloom/embed/BasisFactor;)V" } : Jvm.MethodName) prog_19_method_1_code (2 : Nat) (Option.none : Option Jvm.ClassFile.FieldType), Jvm.Cond.code ({ cls := "com/example/netloom/netloom/embed/BasisFactor$CountLists", name := "<init>", desc := "()V" } : Jvm.MethodName) prog_18_method_1_code (1 : Nat) (Option.none : Option Jvm.ClassFile.FieldType), Jvm.Cond.code ({ cls := "com/example/netloom/netloom/embed/Simplex", name := "addColumn", desc := "(D[I[D)I" } : Jvm.MethodName) prog_49_method_2_code (8 : Nat) (Option.some Jvm.ClassFile.FieldType.int), Jvm.Cond.code ({ cls := "java/util/ArrayList", name := "size", desc := "()I" } : Jvm.MethodName) jdk_38_method_8_code (1 : Nat) (Option.some Jvm.ClassFile.FieldType.int), Jvm.Cond.code ({ cls := "com/example/netloom/netloom/embed/SparseColumn", name := "<init>", desc := "()V" } : Jvm.MethodName) prog_51_method_1_code (1 : Nat) (Option.none : Option Jvm.ClassFile.FieldType), Jvm.Cond.code ({ cls := "java/util/ArrayList", name := "add", desc := "(Ljava/lang/Object;)Z" } : Jvm.MethodName) jdk_38_method_25_code (2 : Nat) (Option.some Jvm.ClassFile.FieldType.boolean), Jvm.Cond.code ({ cls := "java/util/ArrayList", name := "add", desc := "(Ljava/lang/Object;[Ljava/lang/Object;I)V" } : Jvm.MethodName) jdk_38_method_24_code (4 : Nat) (Option.none : Option Jvm.ClassFile.FieldType), Jvm.Cond.code ({ cls := "java/util/ArrayList", name := "grow", desc := "()[Ljava/lang/Object;" } : Jvm.MethodName) jdk_38_method_7_code (1 : Nat) (Option.some (Jvm.ClassFile.FieldType.array (Jvm.ClassFile.FieldType.object "java/lang/Object"))), Jvm.Cond.code ({ cls := "java/util/ArrayList", name := "grow", desc := "(I)[Ljava/lang/Object;" } : Jvm.MethodName) jdk_38_method_6_code (4 : Nat) (Option.some (Jvm.ClassFile.FieldType.array (Jvm.ClassFile.FieldType.object "java/lang/Object"))), Jvm.Cond.code ({ cls := "java/lang/Math", name := "max", desc := "(II)I" } : Jvm.MethodName) jdk_29_method_65_code (2 : Nat) (Option.some Jvm.ClassFile.FieldType.int), Jvm.Cond.code ({ cls := "com/example/netloom/netloom/embed/GrowingArrays", name := "grown", desc := "([DI)[D" } : Jvm.MethodName) prog_37_method_3_code (2 : Nat) (Option.some (Jvm.ClassFile.FieldType.array Jvm.ClassFile.FieldType.double)), Jvm.Cond.code ({ cls := "com/example/netloom/netloom/embed/GrowingArrays", name := "grown", desc := "([II)[I" } : Jvm.MethodName) prog_37_method_2_code (2 : Nat) (Option.some (Jvm.ClassFile.FieldType.array Jvm.ClassFile.FieldType.int)), Jvm.Cond.code ({ cls := "com/example/netloom/netloom/embed/Simplex", name := "setCost", desc := "(ID)V" } : Jvm.MethodName) prog_49_method_4_code (4 : Nat) (Option.none : Option Jvm.ClassFile.FieldType), Jvm.Cond.code ({ cls := "com/example/netloom/netloom/embed/Simplex", name := "objective", desc := "()D" } : Jvm.MethodName) prog_49_method_8_code (4 : Nat) (Option.some Jvm.ClassFile.FieldType.double), Jvm.Cond.code ({ cls := "com/example/netloom/netloom/embed/Simplex", name := "addRow", desc := "(D[I[DI)I" } : Jvm.MethodName) prog_49_method_3_code (15 : Nat) (Option.some Jvm.ClassFile.FieldType.int), Jvm.Cond.code ({ cls := "java/util/ArrayList", name := "get", desc := "(I)Ljava/lang/Object;" } : Jvm.MethodName) jdk_38_method_20_code (2 : Nat) (Option.some (Jvm.ClassFile.FieldType.object "java/lang/Object")), Jvm.Cond.code ({ cls := "java/util/Objects", name := "checkIndex", desc := "(II)I" } : Jvm.MethodName) jdk_31_method_17_code (2 : Nat) (Option.some Jvm.ClassFile.FieldType.int), Jvm.Cond.code ({ cls := "jdk/internal/util/Preconditions", name := "checkIndex", desc := "(IILjava/util/function/BiFunction;)I" } : Jvm.MethodName) jdk_41_method_11_code (3 : Nat) (Option.some Jvm.ClassFile.FieldType.int), Jvm.Cond.code ({ cls := "java/util/ArrayList", name := "elementData", desc := "(I)Ljava/lang/Object;" } : Jvm.MethodName) jdk_38_method_18_code (2 : Nat) (Option.some (Jvm.ClassFile.FieldType.object "java/lang/Object")), Jvm.Cond.code ({ cls := "com/example/netloom/netloom/embed/SparseColumn", name := "size", desc := "()I" } : Jvm.MethodName) prog_51_method_3_code (1 : Nat) (Option.some Jvm.ClassFile.FieldType.int), Jvm.Cond.code ({ cls := "java/lang/Math", name := "abs", desc := "(D)D" } : Jvm.MethodName) jdk_29_method_64_code (2 : Nat) (Option.some Jvm.ClassFile.FieldType.double), Jvm.Cond.code ({ cls := "java/lang/Math", name := "max", desc := "(DD)D" } : Jvm.MethodName) jdk_29_method_68_code (4 : Nat) (Option.some Jvm.ClassFile.FieldType.double), Jvm.Cond.code ({ cls := "com/example/netloom/netloom/embed/SparseColumn", name := "add", desc := "(ID)V" } : Jvm.MethodName) prog_51_method_2_code (4 : Nat) (Option.none : Option Jvm.ClassFile.FieldType), Jvm.Cond.code ({ cls := "com/example/netloom/netloom/embed/BasisFactor", name := "size", desc := "()I" } : Jvm.MethodName) prog_17_method_2_code (1 : Nat) (Option.some Jvm.ClassFile.FieldType.int), Jvm.Cond.code ({ cls := "com/example/netloom/netloom/embed/SimplexObjectivePinLaw", name := "eff", desc := "(IIIIII)J" } : Jvm.MethodName) method_4_code (6 : Nat) (Option.some Jvm.ClassFile.FieldType.long), Jvm.Cond.code ({ cls := "com/example/netloom/netloom/embed/SimplexObjectivePinLaw", name := "quarter", desc := "(I)J" } : Jvm.MethodName) method_3_code (1 : Nat) (Option.some Jvm.ClassFile.FieldType.long)]
set_option maxRecDepth 65536 in
theorem codes_eq : words1.filter isCode = codes1 := rfl
theorem w_codes : ∀ c ∈ words1.filter isCode, c.before args0 about1 = true := by
  rw [codes_eq]
  intro c hc
  simp only [codes1, List.mem_cons, List.not_mem_nil, or_false] at hc
  rcases hc with rfl | rfl | rfl | rfl | rfl | rfl | rfl | rfl | rfl | rfl | rfl | rfl | rfl | rfl | rfl | rfl | rfl | rfl | rfl | rfl | rfl | rfl | rfl | rfl | rfl | rfl | rfl | rfl | rfl | rfl | rfl | rfl | rfl | rfl | rfl | rfl
  · exact w_c0
  · exact w_c1
  · exact w_c2
  · exact w_c3
  · exact w_c4
  · exact w_c5
  · exact w_c6
  · exact w_c7
  · exact w_c8
  · exact w_c9
  · exact w_c10
  · exact w_c11
  · exact w_c12
  · exact w_c13
  · exact w_c14
  · exact w_c15
  · exact w_c16
  · exact w_c17
  · exact w_c18
  · exact w_c19
  · exact w_c20
  · exact w_c21
  · exact w_c22
  · exact w_c23
  · exact w_c24
  · exact w_c25
  · exact w_c26
  · exact w_c27
  · exact w_c28
  · exact w_c29
  · exact w_c30
  · exact w_c31
  · exact w_c32
  · exact w_c33
  · exact w_c34
  · exact w_c35
set_option maxRecDepth 65536 in
theorem w_t1 : (words1.take 24).all (fun c => isCode c || c.before args0 about1) = true := by decide +kernel
set_option maxRecDepth 65536 in
theorem w_t2 : ((words1.drop 24).take 24).all (fun c => isCode c || c.before args0 about1) = true := by decide +kernel
set_option maxRecDepth 65536 in
theorem w_t3 : (((words1.drop 24).drop 24).take 24).all (fun c => isCode c || c.before args0 about1) = true := by decide +kernel
set_option maxRecDepth 65536 in
theorem w_t4 : ((((words1.drop 24).drop 24).drop 24).take 24).all (fun c => isCode c || c.before args0 about1) = true := by decide +kernel
set_option maxRecDepth 65536 in
theorem w_t5 : (((((words1.drop 24).drop 24).drop 24).drop 24).take 24).all (fun c => isCode c || c.before args0 about1) = true := by decide +kernel
set_option maxRecDepth 65536 in
theorem w_t6 : ((((((words1.drop 24).drop 24).drop 24).drop 24).drop 24).take 24).all (fun c => isCode c || c.before args0 about1) = true := by decide +kernel
set_option maxRecDepth 65536 in
theorem w_t7 : (((((((words1.drop 24).drop 24).drop 24).drop 24).drop 24).drop 24).take 24).all (fun c => isCode c || c.before args0 about1) = true := by decide +kernel
set_option maxRecDepth 65536 in
theorem w_t8 : ((((((((words1.drop 24).drop 24).drop 24).drop 24).drop 24).drop 24).drop 24).take 24).all (fun c => isCode c || c.before args0 about1) = true := by decide +kernel
set_option maxRecDepth 65536 in
theorem w_t9 : (((((((((words1.drop 24).drop 24).drop 24).drop 24).drop 24).drop 24).drop 24).drop 24).take 24).all (fun c => isCode c || c.before args0 about1) = true := by decide +kernel
set_option maxRecDepth 65536 in
theorem w_t10 : ((((((((((words1.drop 24).drop 24).drop 24).drop 24).drop 24).drop 24).drop 24).drop 24).drop 24).take 24).all (fun c => isCode c || c.before args0 about1) = true := by decide +kernel
set_option maxRecDepth 65536 in
theorem w_t11 : (((((((((((words1.drop 24).drop 24).drop 24).drop 24).drop 24).drop 24).drop 24).drop 24).drop 24).drop 24).take 24).all (fun c => isCode c || c.before args0 about1) = true := by decide +kernel
set_option maxRecDepth 65536 in
theorem w_t12 : ((((((((((((words1.drop 24).drop 24).drop 24).drop 24).drop 24).drop 24).drop 24).drop 24).drop 24).drop 24).drop 24).take 24).all (fun c => isCode c || c.before args0 about1) = true := by decide +kernel
set_option maxRecDepth 65536 in
theorem w_t13 : (((((((((((((words1.drop 24).drop 24).drop 24).drop 24).drop 24).drop 24).drop 24).drop 24).drop 24).drop 24).drop 24).drop 24).take 24).all (fun c => isCode c || c.before args0 about1) = true := by decide +kernel
set_option maxRecDepth 65536 in
theorem w_t14 : (((((((((((((words1.drop 24).drop 24).drop 24).drop 24).drop 24).drop 24).drop 24).drop 24).drop 24).drop 24).drop 24).drop 24).drop 24).all (fun c => isCode c || c.before args0 about1) = true := by decide +kernel
theorem w_tables : (allAtoms (Jvm.Cond.code x code maxLocals ret :: tables_1)).before args0 about1 = true := by
  rw [allAtoms_all]
  show words1.all (fun c => c.before args0 about1) = true
  refine all_split ?_ w_codes
  rw [← List.take_append_drop 24 words1, List.all_append, w_t1, ← List.take_append_drop 24 (words1.drop 24), List.all_append, w_t2, ← List.take_append_drop 24 ((words1.drop 24).drop 24), List.all_append, w_t3, ← List.take_append_drop 24 (((words1.drop 24).drop 24).drop 24), List.all_append, w_t4, ← List.take_append_drop 24 ((((words1.drop 24).drop 24).drop 24).drop 24), List.all_append, w_t5, ← List.take_append_drop 24 (((((words1.drop 24).drop 24).drop 24).drop 24).drop 24), List.all_append, w_t6, ← List.take_append_drop 24 ((((((words1.drop 24).drop 24).drop 24).drop 24).drop 24).drop 24), List.all_append, w_t7, ← List.take_append_drop 24 (((((((words1.drop 24).drop 24).drop 24).drop 24).drop 24).drop 24).drop 24), List.all_append, w_t8, ← List.take_append_drop 24 ((((((((words1.drop 24).drop 24).drop 24).drop 24).drop 24).drop 24).drop 24).drop 24), List.all_append, w_t9, ← List.take_append_drop 24 (((((((((words1.drop 24).drop 24).drop 24).drop 24).drop 24).drop 24).drop 24).drop 24).drop 24), List.all_append, w_t10, ← List.take_append_drop 24 ((((((((((words1.drop 24).drop 24).drop 24).drop 24).drop 24).drop 24).drop 24).drop 24).drop 24).drop 24), List.all_append, w_t11, ← List.take_append_drop 24 (((((((((((words1.drop 24).drop 24).drop 24).drop 24).drop 24).drop 24).drop 24).drop 24).drop 24).drop 24).drop 24), List.all_append, w_t12, ← List.take_append_drop 24 ((((((((((((words1.drop 24).drop 24).drop 24).drop 24).drop 24).drop 24).drop 24).drop 24).drop 24).drop 24).drop 24).drop 24), List.all_append, w_t13, w_t14]
  rfl
set_option maxRecDepth 65536 in
theorem w_rest : rest_1_c.before args0 about1 = true := by decide +kernel
set_option maxRecDepth 65536 in
theorem w_case : (Jvm.Cond.and given_1 narrow_1).before args0 about1 = true := by decide +kernel
theorem w_applies : (headSpec (Jvm.Cond.code x code maxLocals ret :: tables_1) room_1).applies x e0.platform about1 = true :=
  (Spec.applies_iff w_frames).mpr ⟨w_running, w_runnable, w_alone, w_named, w_hears, w_ripe, w_room, w_tables⟩
theorem atStart : AtStart classFile x code maxLocals ret World_1 tables_1 room_1 Calls_1 rest_1 Pre_1 launch0 p0 e0 about1 theMethod args0 below0 :=
  ⟨lists_1, trivial, launch0.admits_env _ _ _, launch0.least_env, fairChoices_fair.cas, fairChoices_fair.clock, w_frames, w_args, w_heap, w_applies, trivial, w_rest, w_case⟩
end start1
theorem witness_1 : WitnessClaimed_1 := ⟨start1.p0, start1.e0, start1.about1, start1.theMethod, start1.args0, start1.below0, start1.atStart⟩
end Jvm.Pilot.@@N@@
