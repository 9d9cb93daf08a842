import JvmDerived
import JvmDerived.Pilot.@@N@@Statement
import JvmDerived.Pilot.@@N@@Code
set_option linter.unusedVariables false
set_option linter.unusedSimpArgs false
@@BLOCK:NumsL.lean.txt@@
namespace Jvm.Pilot.@@N@@
open Jvm Jvm.ClassFile Sem Op Lib Jvm.Free Jvm.Stand Jvm.LawKit Jvm.RoadKit Bundle Jvm.Pilot.@@N@@.Jvm.D
open Jvm.Free.Fl (NoNaN64 Fin64 Nz64)
theorem own_lt_ne {a b n : Nat} (h : a < n) (g : b = n) : a ≠ b := by omega
theorem own_lt_ne2 {a b n : Nat} (h : a < n) (g : n ≤ b) : a ≠ b := by omega
theorem own_ge_of {k b n : Nat} (h : k ≤ n) (g : b = n) : k ≤ b := by omega
abbrev uu : Slot := .unset
abbrev ss : Slot := .second
abbrev vi (x : Int32) : Slot := .val (.int x)
abbrev vj (x : Int64) : Slot := .val (.long x)
abbrev vd (x : UInt64) : Slot := .val (.double x)
abbrev vr (x : Addr) : Slot := .val (.ref x)
/-- whatever is reached from here is reached from E -/
abbrev own_G (p : Program) (e : Env) (below : List Frame) (E T : State) (g : JFrame) : Prop := ∀ t, Steps p.tables e below (T.setTop g) t → Steps p.tables e below E t
theorem own_if_eqY {x : Int32} (h : x = 0) : ifCond.holds .eq x = true := by subst h; rfl
theorem own_if_eqN {x : Int32} (h : ¬ x = 0) : ifCond.holds .eq x = false := beq_false_of_ne h
theorem own_if_neY {x : Int32} (h : ¬ x = 0) : ifCond.holds .ne x = true := bne_iff_ne.mpr h
theorem own_if_neN {x : Int32} (h : x = 0) : ifCond.holds .ne x = false := by subst h; rfl
theorem own_if_ltY {x : Int32} (h : x < 0) : ifCond.holds .lt x = true := decide_eq_true h
theorem own_if_ltN {x : Int32} (h : ¬ x < 0) : ifCond.holds .lt x = false := decide_eq_false h
theorem own_if_geY {x : Int32} (h : ¬ x < 0) : ifCond.holds .ge x = true := decide_eq_true (Int32.not_lt.mp h)
theorem own_if_geN {x : Int32} (h : x < 0) : ifCond.holds .ge x = false := decide_eq_false (fun q => Int32.not_le.mpr h q)
theorem own_if_gtY {x : Int32} (h : 0 < x) : ifCond.holds .gt x = true := decide_eq_true h
theorem own_if_gtN {x : Int32} (h : ¬ 0 < x) : ifCond.holds .gt x = false := decide_eq_false h
theorem own_if_leY {x : Int32} (h : ¬ 0 < x) : ifCond.holds .le x = true := decide_eq_true (Int32.not_lt.mp h)
theorem own_if_leN {x : Int32} (h : 0 < x) : ifCond.holds .le x = false := decide_eq_false (fun q => Int32.not_le.mpr h q)
theorem own_ic_eqY {x y : Int32} (h : x = y) : if_icmp.holds .eq x y = true := beq_iff_eq.mpr h
theorem own_ic_eqN {x y : Int32} (h : ¬ x = y) : if_icmp.holds .eq x y = false := beq_false_of_ne h
theorem own_ic_neY {x y : Int32} (h : ¬ x = y) : if_icmp.holds .ne x y = true := bne_iff_ne.mpr h
theorem own_ic_neN {x y : Int32} (h : x = y) : if_icmp.holds .ne x y = false := by subst h; exact bne_self_eq_false x
theorem own_ic_ltY {x y : Int32} (h : x < y) : if_icmp.holds .lt x y = true := decide_eq_true h
theorem own_ic_ltN {x y : Int32} (h : ¬ x < y) : if_icmp.holds .lt x y = false := decide_eq_false h
theorem own_ic_geY {x y : Int32} (h : ¬ x < y) : if_icmp.holds .ge x y = true := decide_eq_true (Int32.not_lt.mp h)
theorem own_ic_geN {x y : Int32} (h : x < y) : if_icmp.holds .ge x y = false := decide_eq_false (fun q => Int32.not_le.mpr h q)
theorem own_ic_gtY {x y : Int32} (h : y < x) : if_icmp.holds .gt x y = true := decide_eq_true h
theorem own_ic_gtN {x y : Int32} (h : ¬ y < x) : if_icmp.holds .gt x y = false := decide_eq_false h
theorem own_ic_leY {x y : Int32} (h : ¬ y < x) : if_icmp.holds .le x y = true := decide_eq_true (Int32.not_lt.mp h)
theorem own_ic_leN {x y : Int32} (h : y < x) : if_icmp.holds .le x y = false := decide_eq_false (fun q => Int32.not_le.mpr h q)
/-- what a comparison of two whole or scaled values pushes -/
def own_c (i j : Int) : Int32 := if i < j then -1 else if i = j then 0 else 1
theorem own_cE (o : CmpOp) {x y : UInt64} {i j : Int} (h : FP.dcmp x y = some (compare i j)) : cmpValue (FP.dcmp x y) o = own_c i j := by
  rw [h, FP.Core.compare_ite, own_c]
  by_cases h1 : i < j
  · rw [if_pos h1, if_pos h1]; cases o <;> rfl
  · rw [if_neg h1, if_neg h1]
    by_cases h2 : i = j
    · rw [if_pos h2, if_pos h2]; cases o <;> rfl
    · rw [if_neg h2, if_neg h2]; cases o <;> rfl
theorem own_c_lt {i j : Int} (h : i < j) : own_c i j = -1 := by rw [own_c, if_pos h]
theorem own_c_eq {i j : Int} (h : i = j) : own_c i j = 0 := by rw [own_c, if_neg (by omega), if_pos h]
theorem own_c_gt {i j : Int} (h : j < i) : own_c i j = 1 := by rw [own_c, if_neg (by omega), if_neg (by omega)]
theorem own_c_cases (i j : Int) : (i < j ∧ own_c i j = -1) ∨ (i = j ∧ own_c i j = 0) ∨ (j < i ∧ own_c i j = 1) := by
  rcases Int.lt_trichotomy i j with h | h | h
  · exact Or.inl ⟨h, own_c_lt h⟩
  · exact Or.inr (Or.inl ⟨h, own_c_eq h⟩)
  · exact Or.inr (Or.inr ⟨h, own_c_gt h⟩)
theorem own_c_ltY {i j : Int} (h : i < j) : ifCond.holds .lt (own_c i j) = true := by rw [own_c_lt h]; rfl
theorem own_c_ltN {i j : Int} (h : ¬ i < j) : ifCond.holds .lt (own_c i j) = false := by rcases own_c_cases i j with q | q | q <;> first | exact absurd q.1 h | (rw [q.2]; rfl)
theorem own_c_geY {i j : Int} (h : ¬ i < j) : ifCond.holds .ge (own_c i j) = true := by rcases own_c_cases i j with q | q | q <;> first | exact absurd q.1 h | (rw [q.2]; rfl)
theorem own_c_geN {i j : Int} (h : i < j) : ifCond.holds .ge (own_c i j) = false := by rw [own_c_lt h]; rfl
theorem own_c_gtY {i j : Int} (h : j < i) : ifCond.holds .gt (own_c i j) = true := by rw [own_c_gt h]; rfl
theorem own_c_gtN {i j : Int} (h : ¬ j < i) : ifCond.holds .gt (own_c i j) = false := by rcases own_c_cases i j with q | q | q <;> first | exact absurd q.1 h | (rw [q.2]; rfl)
theorem own_c_leY {i j : Int} (h : ¬ j < i) : ifCond.holds .le (own_c i j) = true := by rcases own_c_cases i j with q | q | q <;> first | exact absurd q.1 h | (rw [q.2]; rfl)
theorem own_c_leN {i j : Int} (h : j < i) : ifCond.holds .le (own_c i j) = false := by rw [own_c_gt h]; rfl
theorem own_c_eqY {i j : Int} (h : i = j) : ifCond.holds .eq (own_c i j) = true := by rw [own_c_eq h]; rfl
theorem own_c_eqN {i j : Int} (h : ¬ i = j) : ifCond.holds .eq (own_c i j) = false := by rcases own_c_cases i j with q | q | q <;> first | exact absurd q.1 h | (rw [q.2]; rfl)
theorem own_c_neY {i j : Int} (h : ¬ i = j) : ifCond.holds .ne (own_c i j) = true := by rcases own_c_cases i j with q | q | q <;> first | exact absurd q.1 h | (rw [q.2]; rfl)
theorem own_c_neN {i j : Int} (h : i = j) : ifCond.holds .ne (own_c i j) = false := by rw [own_c_eq h]; rfl
theorem own_l_lt {i j : Int64} (h : i < j) : XT.cmpL i j = -1 := by
  rw [XT.cmpL, if_neg (fun q => Int64.lt_irrefl (Int64.lt_trans h q)), if_neg (fun q => Int64.lt_irrefl (q ▸ h))]
theorem own_l_eq {i j : Int64} (h : i = j) : XT.cmpL i j = 0 := by subst h; rw [XT.cmpL, if_neg Int64.lt_irrefl, if_pos rfl]
theorem own_l_gt {i j : Int64} (h : j < i) : XT.cmpL i j = 1 := by rw [XT.cmpL, if_pos h]
theorem own_l_cases (i j : Int64) : (i < j ∧ XT.cmpL i j = -1) ∨ (i = j ∧ XT.cmpL i j = 0) ∨ (j < i ∧ XT.cmpL i j = 1) := by
  by_cases h : i < j
  · exact Or.inl ⟨h, own_l_lt h⟩
  · by_cases h2 : i = j
    · exact Or.inr (Or.inl ⟨h2, own_l_eq h2⟩)
    · have h3 : j < i := by
        rw [Int64.lt_iff_toInt_lt] at h ⊢
        have h4 : i.toInt ≠ j.toInt := fun q => h2 (Int64.toInt_inj.mp q)
        omega
      exact Or.inr (Or.inr ⟨h3, own_l_gt h3⟩)
theorem own_l_ltY {i j : Int64} (h : i < j) : ifCond.holds .lt (XT.cmpL i j) = true := by rw [own_l_lt h]; rfl
theorem own_l_ltN {i j : Int64} (h : ¬ i < j) : ifCond.holds .lt (XT.cmpL i j) = false := by rcases own_l_cases i j with q | q | q <;> first | exact absurd q.1 h | (rw [q.2]; rfl)
theorem own_l_geY {i j : Int64} (h : ¬ i < j) : ifCond.holds .ge (XT.cmpL i j) = true := by rcases own_l_cases i j with q | q | q <;> first | exact absurd q.1 h | (rw [q.2]; rfl)
theorem own_l_geN {i j : Int64} (h : i < j) : ifCond.holds .ge (XT.cmpL i j) = false := by rw [own_l_lt h]; rfl
theorem own_l_gtY {i j : Int64} (h : j < i) : ifCond.holds .gt (XT.cmpL i j) = true := by rw [own_l_gt h]; rfl
theorem own_l_gtN {i j : Int64} (h : ¬ j < i) : ifCond.holds .gt (XT.cmpL i j) = false := by rcases own_l_cases i j with q | q | q <;> first | exact absurd q.1 h | (rw [q.2]; rfl)
theorem own_l_leY {i j : Int64} (h : ¬ j < i) : ifCond.holds .le (XT.cmpL i j) = true := by rcases own_l_cases i j with q | q | q <;> first | exact absurd q.1 h | (rw [q.2]; rfl)
theorem own_l_leN {i j : Int64} (h : j < i) : ifCond.holds .le (XT.cmpL i j) = false := by rw [own_l_gt h]; rfl
theorem own_l_eqY {i j : Int64} (h : i = j) : ifCond.holds .eq (XT.cmpL i j) = true := by rw [own_l_eq h]; rfl
theorem own_l_eqN {i j : Int64} (h : ¬ i = j) : ifCond.holds .eq (XT.cmpL i j) = false := by rcases own_l_cases i j with q | q | q <;> first | exact absurd q.1 h | (rw [q.2]; rfl)
theorem own_l_neY {i j : Int64} (h : ¬ i = j) : ifCond.holds .ne (XT.cmpL i j) = true := by rcases own_l_cases i j with q | q | q <;> first | exact absurd q.1 h | (rw [q.2]; rfl)
theorem own_l_neN {i j : Int64} (h : i = j) : ifCond.holds .ne (XT.cmpL i j) = false := by rw [own_l_eq h]; rfl
theorem own_ac_eq_Y {x y : Value} (h : x = y) : XT.acmp .eq x y = true := decide_eq_true h
theorem own_ac_eq_N {x y : Value} (h : ¬ x = y) : XT.acmp .eq x y = false := decide_eq_false h
theorem own_ac_ne_Y {x y : Value} (h : ¬ x = y) : XT.acmp .ne x y = true := decide_eq_true h
theorem own_ac_ne_N {x y : Value} (h : x = y) : XT.acmp .ne x y = false := decide_eq_false (fun q => q h)
theorem own_ar_eq_Y {x y : Addr} (h : x = y) : XT.acmp .eq (.ref x) (.ref y) = true := own_ac_eq_Y (congrArg Value.ref h)
theorem own_ar_eq_N {x y : Addr} (h : ¬ x = y) : XT.acmp .eq (.ref x) (.ref y) = false := own_ac_eq_N (fun q => h (Value.ref.inj q))
theorem own_ar_ne_Y {x y : Addr} (h : ¬ x = y) : XT.acmp .ne (.ref x) (.ref y) = true := own_ac_ne_Y (fun q => h (Value.ref.inj q))
theorem own_ar_ne_N {x y : Addr} (h : x = y) : XT.acmp .ne (.ref x) (.ref y) = false := own_ac_ne_N (congrArg Value.ref h)
/-- a static's object's field that the case names by a number -/
theorem own_ord {args : Array Value} {s : State} {t : Term} {C n d : String} {k : Int32} {x : Addr} (ev : t.eval args s none [] s = some (.ref x))
    (h : (Jvm.Cond.eq (Term.field t C n d) (Term.int k)).value args s none s [] = some true) : s.fieldOf? x C n d = some (.int k) := by
  obtain ⟨v, u, e1, e2, k1, k2⟩ := cmp_v (Or.inl h)
  have e3 : u = .int k := by have := (Term.int_eval (args := args) (first := s) (o := none) (idx := []) (s := s) k).symm.trans e2; exact (Option.some.inj this).symm
  subst e3
  obtain ⟨z, rfl⟩ := k2
  have q := gotT (Cond.eq_ints e1 e2) h
  rw [← fld_at ev, e1, q]
/-! doubles: exact values in units of the least double -/
def own_z (x : UInt64) : Int := FP.Core.zval FP.Core.b64 (FP.Core.val64 x)
theorem own_nn {i : Int} {x : UInt64} (h : FP.Core.DInt i x) : NoNaN64 x := Fl.val64_no.mpr (FP.Core.DInt_ne_nan h)
theorem own_cmpz {x y : UInt64} (hx : NoNaN64 x) (hy : NoNaN64 y) : FP.dcmp x y = some (compare (own_z x) (own_z y)) := FP.Core.dcmp_zval (Fl.val64_no.mp hx) (Fl.val64_no.mp hy)
theorem own_d0 : FP.Core.DInt 0 FP.dconst0 := by
  have h := FP.Core.l2d_int (a := 0) (by decide)
  rw [FP.Core.l2d_zero] at h; exact h
theorem own_d1 : FP.Core.DInt 1 FP.dconst1 := FP.Core.dint_one
theorem own_zi {i : Int} {x : UInt64} (h : FP.Core.DInt i x) : own_z x = i * (FP.Core.one64 : Int) := FP.Core.DInt_zval h
theorem own_fini {i : Int} {x : UInt64} (h : FP.Core.DInt i x) : Fin64 x := by
  have h' : FP.Core.Whole i (FP.Core.val64 x) := h
  cases hv : FP.Core.val64 x with
  | nan => rw [hv] at h'; exact h'.elim
  | inf s => rw [hv] at h'; exact h'.elim
  | fin s c q => exact Fl.fin64_core.mpr ⟨s, c, q, hv⟩
theorem own_one : (0 : Int) < (FP.Core.one64 : Int) := by have := FP.Core.one64_pos; omega
theorem own_nz {x : UInt64} (h : own_z x ≠ 0) : Nz64 x := Fl.nz64_core.mpr fun ⟨s, q, e⟩ => h (by
  show FP.Core.zval FP.Core.b64 (FP.Core.val64 x) = 0
  rw [e]; show FP.Core.signed s (0 * _) = 0; rw [Nat.zero_mul]; cases s <;> rfl)
theorem own_nzi {i : Int} {x : UInt64} (h : FP.Core.DInt i x) (hi : i ≠ 0) : Nz64 x := own_nz (by
  rw [own_zi h]; intro q; rcases Int.mul_eq_zero.mp q with r | r
  · exact hi r
  · have := own_one; omega)
theorem own_zn (x : UInt64) : (own_z x).natAbs = FP.Core.zmag FP.Core.b64 (FP.Core.val64 x) := FP.Core.natAbs_signed _ _
/-- the quotient, by the two values alone -/
theorem own_quot {x y : UInt64} (hx : Fin64 x) (hy : Fin64 y) (hz : own_z y ≠ 0) :
    FP.Core.val64 (FP.ddiv x y) = FP.Core.roundRatio FP.Core.b64 (FP.Core.sgn (FP.Core.val64 x) != FP.Core.sgn (FP.Core.val64 y)) (own_z x).natAbs (own_z y).natAbs 0 := by
  obtain ⟨s, c, q, ex⟩ := Fl.fin64_core.mp hx
  obtain ⟨t, d, r, ey⟩ := Fl.fin64_core.mp hy
  have fx : FP.Core.fits FP.Core.b64 (.fin s c q) := ex ▸ FP.Core.val64_fits x
  have fy : FP.Core.fits FP.Core.b64 (.fin t d r) := ey ▸ FP.Core.val64_fits y
  have hd : d ≠ 0 := fun h => hz (by
    show FP.Core.zval FP.Core.b64 (FP.Core.val64 y) = 0
    rw [ey, h]; show FP.Core.signed t (0 * _) = 0; rw [Nat.zero_mul]; cases t <;> rfl)
  rw [own_zn, own_zn, show FP.ddiv x y = FP.Core.ddiv x y from rfl, FP.Core.val64_ddiv, ex, ey]
  show (if d = 0 then _ else FP.Core.roundRatio FP.Core.b64 (s != t) c d (q - r)) = FP.Core.roundRatio FP.Core.b64 (s != t) (c * 2 ^ (q - FP.Core.b64.qmin).toNat) (d * 2 ^ (r - FP.Core.b64.qmin).toNat) 0
  rw [if_neg hd]
  refine FP.Core.roundRatio_congr (Nat.pos_of_ne_zero hd) (Nat.mul_pos (Nat.pos_of_ne_zero hd) (Nat.two_pow_pos _)) ?_
  have h1 := fx.2.1
  have h2 := fy.2.1
  have e1 : (r - FP.Core.b64.qmin).toNat + (q - r - 0).toNat = (q - FP.Core.b64.qmin).toNat + (0 - (q - r)).toNat := by omega
  calc c * (d * 2 ^ (r - FP.Core.b64.qmin).toNat) * 2 ^ (q - r - 0).toNat = c * d * (2 ^ (r - FP.Core.b64.qmin).toNat * 2 ^ (q - r - 0).toNat) := by
        rw [Nat.mul_assoc, Nat.mul_assoc, Nat.mul_assoc]
    _ = c * d * (2 ^ (q - FP.Core.b64.qmin).toNat * 2 ^ (0 - (q - r)).toNat) := by rw [← Nat.pow_add, ← Nat.pow_add, e1]
    _ = c * 2 ^ (q - FP.Core.b64.qmin).toNat * d * 2 ^ (0 - (q - r)).toNat := by
        rw [Nat.mul_right_comm c _ d, Nat.mul_assoc (c * d)]
theorem own_noNaN_of {x : UInt64} {s : Bool} {A B : Nat} {e : Int} (h : FP.Core.val64 x = FP.Core.roundRatio FP.Core.b64 s A B e) : NoNaN64 x :=
  Fl.val64_no.mpr (h ▸ FP.Core.roundRatio_ne_nan _ _ _ _ _)
theorem own_div_nn {x y : UInt64} (hx : Fin64 x) (hy : Fin64 y) (hz : own_z y ≠ 0) : NoNaN64 (FP.ddiv x y) := Fl.ddiv_out hx.noNaN hy (own_nz hz)
/-- what is rounded below (above) a double stays there -/
theorem own_rr_le {s : Bool} {A B : Nat} {V : UInt64} (hB : 0 < B) (hV : NoNaN64 V) (h : A * FP.Core.one64 ≤ (own_z V).natAbs * B) :
    FP.Core.zmag FP.Core.b64 (FP.Core.roundRatio FP.Core.b64 s A B 0) ≤ (own_z V).natAbs := by
  rw [own_zn] at h ⊢
  refine FP.Core.zmag_roundRatio_le FP.Core.good_b64 hB (FP.Core.val64_fits V) (Fl.val64_no.mp hV) (e0 := FP.Core.b64.qmin) (Int.le_refl _) (by decide +kernel) ?_
  rw [Int.sub_self]
  show A * 2 ^ (0 - FP.Core.b64.qmin).toNat ≤ _ * 1 * B
  rw [Nat.mul_one, Int.zero_sub, FP.Core.pow_qmin64]; exact h
theorem own_rr_ge {s : Bool} {A B : Nat} {V : UInt64} (hB : 0 < B) (h : (own_z V).natAbs * B ≤ A * FP.Core.one64) :
    (own_z V).natAbs ≤ FP.Core.zmag FP.Core.b64 (FP.Core.roundRatio FP.Core.b64 s A B 0) := by
  rw [own_zn] at h ⊢
  refine FP.Core.zmag_roundRatio_ge FP.Core.good_b64 hB (FP.Core.val64_fits V) (e0 := FP.Core.b64.qmin) (Int.le_refl _) (by decide +kernel) ?_
  rw [Int.sub_self]
  show _ * 1 * B ≤ A * 2 ^ (0 - FP.Core.b64.qmin).toNat
  rw [Nat.mul_one, Int.zero_sub, FP.Core.pow_qmin64]; exact h
theorem own_z_signed {x : UInt64} {s : Bool} {A B : Nat} (h : FP.Core.val64 x = FP.Core.roundRatio FP.Core.b64 s A B 0) :
    own_z x = FP.Core.signed s (FP.Core.zmag FP.Core.b64 (FP.Core.roundRatio FP.Core.b64 s A B 0)) := by
  show FP.Core.signed _ _ = _
  rw [h, FP.Core.sgn_roundRatio]
/-- a quotient of two that are not below nought -/
theorem own_div_ge0 {x y : UInt64} (hx : Fin64 x) (hy : Fin64 y) (hz : own_z y ≠ 0) (h0 : 0 ≤ own_z x) (h1 : 0 ≤ own_z y) : 0 ≤ own_z (FP.ddiv x y) := by
  have hq := own_quot hx hy hz
  rw [own_z_signed hq]
  cases hs : (FP.Core.sgn (FP.Core.val64 x) != FP.Core.sgn (FP.Core.val64 y)) with
  | false => exact Int.natCast_nonneg _
  | true =>
    have hy2 : FP.Core.sgn (FP.Core.val64 y) = false := by
      cases hs2 : FP.Core.sgn (FP.Core.val64 y) with
      | false => rfl
      | true =>
        exfalso; have : own_z y = -(FP.Core.zmag FP.Core.b64 (FP.Core.val64 y) : Int) := by show FP.Core.signed _ _ = _; rw [hs2]; rfl
        omega
    have hx2 : FP.Core.sgn (FP.Core.val64 x) = true := by rw [hy2] at hs; simpa using hs
    have hx3 : own_z x = -(FP.Core.zmag FP.Core.b64 (FP.Core.val64 x) : Int) := by show FP.Core.signed _ _ = _; rw [hx2]; rfl
    have hx4 : (own_z x).natAbs = 0 := by omega
    rw [hx4, FP.Core.roundRatio, if_pos rfl]
    show 0 ≤ FP.Core.signed true (0 * _); rw [Nat.zero_mul]; decide
theorem own_div_le {x y V : UInt64} (hx : Fin64 x) (hy : Fin64 y) (hz : own_z y ≠ 0) (hV : NoNaN64 V) (h0 : 0 ≤ own_z x) (h1 : 0 ≤ own_z y) (h2 : 0 ≤ own_z V)
    (h : own_z x * (FP.Core.one64 : Int) ≤ own_z V * own_z y) : own_z (FP.ddiv x y) ≤ own_z V := by
  have hq := own_quot hx hy hz
  have hge := own_div_ge0 hx hy hz h0 h1
  have hB : 0 < (own_z y).natAbs := by omega
  have h3 : (own_z x).natAbs * FP.Core.one64 ≤ (own_z V).natAbs * (own_z y).natAbs := by
    have e1 : ((own_z x).natAbs : Int) = own_z x := by omega
    have e2 : ((own_z y).natAbs : Int) = own_z y := by omega
    have e3 : ((own_z V).natAbs : Int) = own_z V := by omega
    have : (((own_z x).natAbs * FP.Core.one64 : Nat) : Int) ≤ (((own_z V).natAbs * (own_z y).natAbs : Nat) : Int) := by
      rw [Int.natCast_mul, Int.natCast_mul, e1, e2, e3]; exact h
    exact Int.ofNat_le.mp this
  have := own_rr_le (s := FP.Core.sgn (FP.Core.val64 x) != FP.Core.sgn (FP.Core.val64 y)) hB hV h3
  have h4 : (own_z (FP.ddiv x y)).natAbs ≤ (own_z V).natAbs := by rw [own_zn, hq]; exact this
  omega
/-- two doubles of the same whole value compare as equal -/
theorem own_eq0 {x y : UInt64} {i : Int} (o : CmpOp) (hx : FP.Core.DInt i x) (hy : FP.Core.DInt i y) : cmpValue (FP.dcmp x y) o = 0 := by
  rw [own_cE o (FP.Core.dcmp_int hx hy), own_c_eq rfl]
theorem own_mb {a b A B : Int} (h1 : -A ≤ a) (h2 : a ≤ A) (h3 : -B ≤ b) (h4 : b ≤ B) (h : A * B ≤ 9007199254740992) : (a * b).natAbs ≤ 2 ^ 53 := by
  rw [Int.natAbs_mul]
  have e1 : a.natAbs ≤ A.toNat := by omega
  have e2 : b.natAbs ≤ B.toNat := by omega
  have e3 : a.natAbs * b.natAbs ≤ A.toNat * B.toNat := Nat.mul_le_mul e1 e2
  have e4 : ((A.toNat * B.toNat : Nat) : Int) = A * B := by rw [Int.natCast_mul, Int.toNat_of_nonneg (by omega), Int.toNat_of_nonneg (by omega)]
  have e5 : (2 : Nat) ^ 53 = 9007199254740992 := by decide
  omega
theorem own_dl (a : Int64) {i : Int} (h : a.toInt = i) (hb : i.natAbs ≤ 2 ^ 53) : FP.Core.DInt i (FP.l2d a) := by subst h; exact FP.Core.l2d_int hb
theorem own_lm {a b : Int64} (h : (a.toInt * b.toInt).natAbs ≤ 2 ^ 53) : (a * b).toInt = a.toInt * b.toInt := by
  have e5 : (2 : Nat) ^ 53 = 9007199254740992 := by decide
  exact Jvm.Kit.i64_mul (by omega) (by omega)
theorem own_sgn_mul {s t : Bool} {b : Nat} {k : Int} (hb : 0 < b) (h : FP.Core.signed s (k.natAbs * b) = k * FP.Core.signed t b) : FP.Core.signed (s != t) k.natAbs = k := by
  have hb' : (0 : Int) < (b : Int) := by omega
  have e : ((k.natAbs * b : Nat) : Int) = (k.natAbs : Int) * (b : Int) := Int.natCast_mul _ _
  have key : ∀ z : Int, (k.natAbs : Int) * (b : Int) = z * (b : Int) → (k.natAbs : Int) = z := fun z q => Int.eq_of_mul_eq_mul_right (by omega) q
  cases s <;> cases t
  · show (k.natAbs : Int) = k
    apply key; rw [← e]; exact h
  · show -(k.natAbs : Int) = k
    have h' : ((k.natAbs * b : Nat) : Int) = k * -(b : Int) := h
    have := key (-k) (by rw [← e, h', Int.mul_neg, Int.neg_mul]); omega
  · show -(k.natAbs : Int) = k
    have h' : -((k.natAbs * b : Nat) : Int) = k * (b : Int) := h
    have := key (-k) (by rw [← e, Int.neg_mul, ← h', Int.neg_neg]); omega
  · show (k.natAbs : Int) = k
    have h' : -((k.natAbs * b : Nat) : Int) = k * -(b : Int) := h
    apply key; rw [← e]
    have : -((k.natAbs * b : Nat) : Int) = -(k * (b : Int)) := by rw [h', Int.mul_neg]
    omega
/-- a quotient of whole values that comes out even -/
theorem own_ddiv_int {k j : Int} {x y : UInt64} (hx : FP.Core.DInt (k * j) x) (hy : FP.Core.DInt j y) (hj : j ≠ 0) (hk : k.natAbs ≤ 2 ^ 53) : FP.Core.DInt k (FP.ddiv x y) := by
  have zx := own_zi hx
  have zy := own_zi hy
  have hz : own_z y ≠ 0 := by rw [zy]; exact Int.mul_ne_zero hj (by have := own_one; omega)
  have hq := own_quot (own_fini hx) (own_fini hy) hz
  have ha : (own_z x).natAbs = k.natAbs * (own_z y).natAbs := by rw [zx, zy, Int.mul_assoc, Int.natAbs_mul]
  have hb : 0 < (own_z y).natAbs := by omega
  show FP.Core.Whole k (FP.Core.val64 (FP.ddiv x y))
  rw [hq, ha, FP.Core.roundRatio_congr (A' := k.natAbs) (B' := 1) (e' := 0) hb (by decide) (by rw [Nat.mul_one])]
  refine FP.Core.whole_round FP.Core.good_b64 FP.Core.wide_b64 hk (d := .fin (FP.Core.sgn (FP.Core.val64 x) != FP.Core.sgn (FP.Core.val64 y)) k.natAbs 0) ?_
  show FP.Core.signed _ (k.natAbs * 1) = k * ((1 : Nat) : Int)
  rw [Nat.mul_one, show ((1 : Nat) : Int) = 1 from rfl, Int.mul_one]
  refine own_sgn_mul hb ?_
  have e1 : FP.Core.signed (FP.Core.sgn (FP.Core.val64 x)) (own_z x).natAbs = own_z x := by rw [own_zn]; rfl
  have e2 : FP.Core.signed (FP.Core.sgn (FP.Core.val64 y)) (own_z y).natAbs = own_z y := by rw [own_zn]; rfl
  rw [← ha, e1, e2, zx, zy, Int.mul_assoc]
theorem own_zmag_s (s : Bool) (A B : Nat) (e : Int) : FP.Core.zmag FP.Core.b64 (FP.Core.roundRatio FP.Core.b64 s A B e) = FP.Core.zmag FP.Core.b64 (FP.Core.roundRatio FP.Core.b64 false A B e) := by
  cases s with
  | false => rfl
  | true =>
    rw [show FP.Core.roundRatio FP.Core.b64 true A B e = FP.Core.negate (FP.Core.roundRatio FP.Core.b64 false A B e) from (FP.Core.negate_roundRatio FP.Core.b64 false A B e).symm]
    cases FP.Core.roundRatio FP.Core.b64 false A B e <;> rfl
theorem own_div_n {x y : UInt64} (hx : Fin64 x) (hy : Fin64 y) (hz : own_z y ≠ 0) : (own_z (FP.ddiv x y)).natAbs = FP.Core.zmag FP.Core.b64 (FP.Core.roundRatio FP.Core.b64 false (own_z x).natAbs (own_z y).natAbs 0) := by
  rw [own_zn, own_quot hx hy hz, own_zmag_s]
/-- two quotients of the same ratio, none below nought -/
theorem own_div_congr {x y x' y' : UInt64} (hx : Fin64 x) (hy : Fin64 y) (hz : own_z y ≠ 0) (hx' : Fin64 x') (hy' : Fin64 y') (hz' : own_z y' ≠ 0)
    (g1 : 0 ≤ own_z x) (g2 : 0 ≤ own_z y) (g3 : 0 ≤ own_z x') (g4 : 0 ≤ own_z y') (h : own_z x * own_z y' = own_z x' * own_z y) : own_z (FP.ddiv x y) = own_z (FP.ddiv x' y') := by
  have e1 := own_div_n hx hy hz
  have e2 := own_div_n hx' hy' hz'
  have k1 := own_div_ge0 hx hy hz g1 g2
  have k2 := own_div_ge0 hx' hy' hz' g3 g4
  have h' : (own_z x).natAbs * (own_z y').natAbs = (own_z x').natAbs * (own_z y).natAbs := by rw [← Int.natAbs_mul, ← Int.natAbs_mul, h]
  rw [FP.Core.roundRatio_congr (A' := (own_z x').natAbs) (B' := (own_z y').natAbs) (e' := 0) (by omega) (by omega) (by rw [h'])] at e1
  omega
/-- m * 2^k units is a double -/
theorem own_rep (m k : Nat) (hm : m < 2 ^ 53) (hk : k ≤ 2045) : ∃ V : UInt64, Fin64 V ∧ own_z V = ((m * 2 ^ k : Nat) : Int) := by
  have hq : FP.Core.b64.qmin = -1074 := FP.Core.qmin_b64
  have hq2 : FP.Core.b64.qmax = 971 := by decide
  obtain ⟨c, q, e1, e2⟩ := FP.Core.round_exact FP.Core.good_b64 false (c := m) (q := (k : Int) - 1074) hm (by rw [hq]; omega) (by rw [hq2]; omega)
  have hv : FP.Core.val64 (FP.Core.of64 (FP.Core.round FP.Core.b64 (.fin false m ((k : Int) - 1074)))) = .fin false c q := by
    rw [FP.Core.val64_of64 (FP.Core.round_fits FP.Core.good_b64 _), e1]
  refine ⟨_, Fl.fin64_core.mpr ⟨_, _, _, hv⟩, ?_⟩
  show FP.Core.zval FP.Core.b64 _ = _
  rw [hv]
  show ((FP.Core.inUnits c q FP.Core.b64.qmin : Nat) : Int) = _
  rw [e2, FP.Core.inUnits, hq, show ((k : Int) - 1074 - -1074).toNat = k by omega]
/-- a quotient that comes out even in some binary place -/
theorem own_div_exact {x y : UInt64} (hx : Fin64 x) (hy : Fin64 y) (hz : own_z y ≠ 0) (g1 : 0 ≤ own_z x) (g2 : 0 ≤ own_z y) (m k : Nat) (hm : m < 2 ^ 53) (hk : k ≤ 2045)
    (h : own_z x * (FP.Core.one64 : Int) = ((m * 2 ^ k : Nat) : Int) * own_z y) : own_z (FP.ddiv x y) = ((m * 2 ^ k : Nat) : Int) := by
  obtain ⟨V, fV, zV⟩ := own_rep m k hm hk
  have k1 := own_div_ge0 hx hy hz g1 g2
  have e1 := own_div_n hx hy hz
  have h3 : (own_z x).natAbs * FP.Core.one64 = (own_z V).natAbs * (own_z y).natAbs := by
    have := congrArg Int.natAbs h
    rw [Int.natAbs_mul, Int.natAbs_mul, ← zV] at this
    exact this
  have l1 := own_rr_le (s := false) (A := (own_z x).natAbs) (B := (own_z y).natAbs) (V := V) (by omega) fV.noNaN (Nat.le_of_eq h3)
  have l2 := own_rr_ge (s := false) (A := (own_z x).natAbs) (B := (own_z y).natAbs) (V := V) (by omega) (Nat.le_of_eq h3.symm)
  omega
theorem own_eqz {x y : UInt64} (o : CmpOp) (hx : NoNaN64 x) (hy : NoNaN64 y) (h : own_z x = own_z y) : cmpValue (FP.dcmp x y) o = 0 := by
  rw [own_cE o (own_cmpz hx hy), own_c_eq h]
theorem own_ge0 {x : UInt64} (h : 0 ≤ own_z x) : ¬ own_z x < own_z FP.dconst0 := by rw [own_zi own_d0, Int.zero_mul]; exact Int.not_lt.mpr h
theorem own_le1 {x : UInt64} (h : own_z x ≤ own_z FP.dconst1) : ¬ own_z FP.dconst1 < own_z x := Int.not_lt.mpr h
/-! exact sums, differences, products and quotients in some binary place -/
theorem own_z_neg {x : UInt64} (h : Fin64 x) : own_z (FP.dneg x) = -own_z x ∧ Fin64 (FP.dneg x) := by
  obtain ⟨s, c, q, e⟩ := Fl.fin64_core.mp h
  have hv : FP.Core.val64 (FP.dneg x) = FP.Core.negate (FP.Core.val64 x) := FP.val64_dneg x
  refine ⟨?_, Fl.fin64_core.mpr ⟨!s, c, q, by rw [hv, e]; rfl⟩⟩
  show FP.Core.zval _ _ = -FP.Core.zval _ _
  rw [hv, FP.Core.zval_negate]
theorem own_repI (m : Int) (k : Nat) (hm : m.natAbs < 2 ^ 53) (hk : k ≤ 2045) : ∃ V : UInt64, Fin64 V ∧ own_z V = m * ((2 ^ k : Nat) : Int) := by
  obtain ⟨V, fV, zV⟩ := own_rep m.natAbs k hm hk
  rw [Int.natCast_mul] at zV
  by_cases h : 0 ≤ m
  · exact ⟨V, fV, by rw [zV, Int.natAbs_of_nonneg h]⟩
  · refine ⟨FP.dneg V, (own_z_neg fV).2, ?_⟩
    rw [(own_z_neg fV).1, zV, ← Int.neg_mul]
    congr 1; omega
/-- what is finite and rounds from a value that is a double is that double -/
theorem own_round_exact {x : UInt64} {sg : Bool} {n : Nat} {e : Int} (hv : FP.Core.val64 x = FP.Core.round FP.Core.b64 (.fin sg n e)) (he : FP.Core.b64.qmin ≤ e) {V : UInt64} (fV : Fin64 V) (h : FP.Core.signed sg (FP.Core.inUnits n e FP.Core.b64.qmin) = own_z V) :
    own_z x = own_z V ∧ Fin64 x := by
  have nV := Fl.val64_no.mp fV.noNaN
  have h1 := FP.Core.zval_round_le FP.Core.good_b64 (s := sg) (c := n) (q := e) (V := FP.Core.val64 V) (FP.Core.val64_fits V) nV (e0 := FP.Core.b64.qmin) (Int.le_refl _) he (by
    rw [Int.sub_self]; show _ ≤ _ * ((1 : Nat) : Int); rw [show ((1 : Nat) : Int) = 1 from rfl, Int.mul_one]; exact Int.le_of_eq h)
  have h2 := FP.Core.zval_round_ge FP.Core.good_b64 (s := sg) (c := n) (q := e) (V := FP.Core.val64 V) (FP.Core.val64_fits V) nV (e0 := FP.Core.b64.qmin) (Int.le_refl _) he (by
    rw [Int.sub_self]; show _ * ((1 : Nat) : Int) ≤ _; rw [show ((1 : Nat) : Int) = 1 from rfl, Int.mul_one]; exact Int.le_of_eq h.symm)
  have hz : own_z x = own_z V := by
    show FP.Core.zval _ (FP.Core.val64 x) = FP.Core.zval _ (FP.Core.val64 V)
    rw [hv]; exact Int.le_antisymm h1 h2
  refine ⟨hz, ?_⟩
  have nx : NoNaN64 x := Fl.val64_no.mpr (by rw [hv]; exact fun z => FP.Core.roundRatio_ne_nan _ _ _ _ _ z)
  cases hx : FP.Core.val64 x with
  | nan => exact absurd hx (Fl.val64_no.mp nx)
  | fin s c q => exact Fl.fin64_core.mpr ⟨s, c, q, hx⟩
  | inf s =>
    exfalso
    have b := (Fl.fin64_core.mp fV).zval_lt
    have e1 : (own_z x).natAbs = FP.Core.b64.tails * 2 ^ (FP.Core.b64.exps - 2) := by rw [own_zn, hx]; rfl
    have e2 : (own_z V).natAbs = FP.Core.zmag FP.Core.b64 (FP.Core.val64 V) := own_zn V
    rw [hz, e2] at e1
    omega
theorem own_add_exact {x y : UInt64} (hx : Fin64 x) (hy : Fin64 y) (m : Int) (k : Nat) (hm : m.natAbs < 2 ^ 53) (hk : k ≤ 2045) (h : own_z x + own_z y = m * ((2 ^ k : Nat) : Int)) : own_z (FP.dadd x y) = m * ((2 ^ k : Nat) : Int) ∧ Fin64 (FP.dadd x y) := by
  obtain ⟨V, fV, zV⟩ := own_repI m k hm hk
  obtain ⟨s, c, q, ex⟩ := Fl.fin64_core.mp hx
  obtain ⟨t, d, r, ey⟩ := Fl.fin64_core.mp hy
  obtain ⟨sg, n, e, e1, e2, e3⟩ := FP.Core.sum_units (f := FP.Core.b64) (ex ▸ FP.Core.val64_fits x) (ey ▸ FP.Core.val64_fits y)
  have hv : FP.Core.val64 (FP.dadd x y) = FP.Core.round FP.Core.b64 (.fin sg n e) := by
    rw [show FP.dadd x y = FP.Core.dadd x y from rfl, FP.Core.val64_dadd, ex, ey, e1]
  rw [← ex, ← ey] at e3
  rw [← zV]
  exact own_round_exact hv e2 fV (e3.trans (h.trans zV.symm))
theorem own_sub_exact {x y : UInt64} (hx : Fin64 x) (hy : Fin64 y) (m : Int) (k : Nat) (hm : m.natAbs < 2 ^ 53) (hk : k ≤ 2045) (h : own_z x - own_z y = m * ((2 ^ k : Nat) : Int)) : own_z (FP.dsub x y) = m * ((2 ^ k : Nat) : Int) ∧ Fin64 (FP.dsub x y) := by
  obtain ⟨V, fV, zV⟩ := own_repI m k hm hk
  obtain ⟨s, c, q, ex⟩ := Fl.fin64_core.mp hx
  obtain ⟨t, d, r, ey⟩ := Fl.fin64_core.mp hy
  have fy : FP.Core.fits FP.Core.b64 (.fin (!t) d r) := FP.Core.negate_fits (d := .fin t d r) (ey ▸ FP.Core.val64_fits y)
  obtain ⟨sg, n, e, e1, e2, e3⟩ := FP.Core.sum_units (f := FP.Core.b64) (ex ▸ FP.Core.val64_fits x) fy
  have hv : FP.Core.val64 (FP.dsub x y) = FP.Core.round FP.Core.b64 (.fin sg n e) := by
    rw [show FP.dsub x y = FP.Core.dsub x y from rfl, FP.Core.val64_dsub, ex, ey, ← e1]; rfl
  have hn : FP.Core.zval FP.Core.b64 (.fin (!t) d r) = -own_z y := by
    show FP.Core.zval FP.Core.b64 (FP.Core.negate (.fin t d r)) = -FP.Core.zval FP.Core.b64 (FP.Core.val64 y)
    rw [FP.Core.zval_negate, ey]
  rw [← ex, hn] at e3
  rw [← zV]
  exact own_round_exact hv e2 fV (e3.trans (by rw [zV, ← h]; rfl))
theorem own_fin_of_z {x V : UInt64} (nx : NoNaN64 x) (fV : Fin64 V) (hz : own_z x = own_z V) : Fin64 x := by
  cases hx : FP.Core.val64 x with
  | nan => exact absurd hx (Fl.val64_no.mp nx)
  | fin s c q => exact Fl.fin64_core.mpr ⟨s, c, q, hx⟩
  | inf s =>
    exfalso
    have b := (Fl.fin64_core.mp fV).zval_lt
    have e1 : (own_z x).natAbs = FP.Core.b64.tails * 2 ^ (FP.Core.b64.exps - 2) := by rw [own_zn, hx]; rfl
    have e2 : (own_z V).natAbs = FP.Core.zmag FP.Core.b64 (FP.Core.val64 V) := own_zn V
    rw [hz, e2] at e1
    omega
theorem own_divI_exact {x y : UInt64} (hx : Fin64 x) (hy : Fin64 y) (hz : own_z y ≠ 0) (m : Int) (k : Nat) (hm : m.natAbs < 2 ^ 53) (hk : k ≤ 2045)
    (h : own_z x * (FP.Core.one64 : Int) = m * ((2 ^ k : Nat) : Int) * own_z y) : own_z (FP.ddiv x y) = m * ((2 ^ k : Nat) : Int) ∧ Fin64 (FP.ddiv x y) := by
  obtain ⟨V, fV, zV⟩ := own_repI m k hm hk
  have hq := own_quot hx hy hz
  have nn := own_div_nn hx hy hz
  have hb : 0 < (own_z y).natAbs := by omega
  have h3 : (own_z x).natAbs * FP.Core.one64 = (own_z V).natAbs * (own_z y).natAbs := by
    have := congrArg Int.natAbs h
    rw [Int.natAbs_mul, Int.natAbs_mul, ← zV] at this
    exact this
  have l1 := own_rr_le (s := FP.Core.sgn (FP.Core.val64 x) != FP.Core.sgn (FP.Core.val64 y)) (A := (own_z x).natAbs) (B := (own_z y).natAbs) (V := V) hb fV.noNaN (Nat.le_of_eq h3)
  have l2 := own_rr_ge (s := FP.Core.sgn (FP.Core.val64 x) != FP.Core.sgn (FP.Core.val64 y)) (A := (own_z x).natAbs) (B := (own_z y).natAbs) (V := V) hb (Nat.le_of_eq h3.symm)
  have hz' : own_z (FP.ddiv x y) = own_z V := by
    rw [own_z_signed hq, Nat.le_antisymm l1 l2]
    refine own_sgn_mul hb ?_
    have e1 : FP.Core.signed (FP.Core.sgn (FP.Core.val64 x)) (own_z x).natAbs = own_z x := by rw [own_zn]; rfl
    have e2 : FP.Core.signed (FP.Core.sgn (FP.Core.val64 y)) (own_z y).natAbs = own_z y := by rw [own_zn]; rfl
    rw [← h3, FP.Core.signed_mul, e1, e2, h, zV]
  exact ⟨hz'.trans zV, own_fin_of_z nn fV hz'⟩
/-! products, by the two values alone -/
theorem own_prod {x y : UInt64} (hx : Fin64 x) (hy : Fin64 y) :
    FP.Core.val64 (FP.dmul x y) = FP.Core.roundRatio FP.Core.b64 (FP.Core.sgn (FP.Core.val64 x) != FP.Core.sgn (FP.Core.val64 y)) ((own_z x).natAbs * (own_z y).natAbs) (FP.Core.one64 * FP.Core.one64) 0 := by
  obtain ⟨s, c, q, ex⟩ := Fl.fin64_core.mp hx
  obtain ⟨t, d, r, ey⟩ := Fl.fin64_core.mp hy
  have fx : FP.Core.fits FP.Core.b64 (.fin s c q) := ex ▸ FP.Core.val64_fits x
  have fy : FP.Core.fits FP.Core.b64 (.fin t d r) := ey ▸ FP.Core.val64_fits y
  have hq : 0 < FP.Core.one64 * FP.Core.one64 := Nat.mul_pos FP.Core.one64_pos FP.Core.one64_pos
  rw [own_zn, own_zn, show FP.dmul x y = FP.Core.dmul x y from rfl, FP.Core.val64_dmul, ex, ey]
  show FP.Core.roundRatio FP.Core.b64 (s != t) (c * d) 1 (q + r) = FP.Core.roundRatio FP.Core.b64 (s != t) (c * 2 ^ (q - FP.Core.b64.qmin).toNat * (d * 2 ^ (r - FP.Core.b64.qmin).toNat)) (FP.Core.one64 * FP.Core.one64) 0
  refine FP.Core.roundRatio_congr Nat.one_pos hq ?_
  have h1 := fx.2.1
  have h2 := fy.2.1
  have e1 : (-FP.Core.b64.qmin).toNat + (-FP.Core.b64.qmin).toNat + (q + r - 0).toNat = (q - FP.Core.b64.qmin).toNat + (r - FP.Core.b64.qmin).toNat + (0 - (q + r)).toNat := by
    have hm : FP.Core.b64.qmin = -1074 := by decide
    rw [hm] at h1 h2 ⊢; omega
  rw [← FP.Core.pow_qmin64, Nat.mul_one]
  calc c * d * (2 ^ (-FP.Core.b64.qmin).toNat * 2 ^ (-FP.Core.b64.qmin).toNat) * 2 ^ (q + r - 0).toNat
      = c * d * (2 ^ (-FP.Core.b64.qmin).toNat * 2 ^ (-FP.Core.b64.qmin).toNat * 2 ^ (q + r - 0).toNat) := by rw [Nat.mul_assoc]
    _ = c * d * (2 ^ (q - FP.Core.b64.qmin).toNat * 2 ^ (r - FP.Core.b64.qmin).toNat * 2 ^ (0 - (q + r)).toNat) := by rw [← Nat.pow_add, ← Nat.pow_add, e1, Nat.pow_add, Nat.pow_add]
    _ = c * 2 ^ (q - FP.Core.b64.qmin).toNat * (d * 2 ^ (r - FP.Core.b64.qmin).toNat) * 2 ^ (0 - (q + r)).toNat := by
        rw [← Nat.mul_assoc, ← Nat.mul_assoc, Nat.mul_assoc c d, Nat.mul_comm d, ← Nat.mul_assoc c, Nat.mul_assoc _ d]
theorem own_mul_nn {x y : UInt64} (hx : Fin64 x) (hy : Fin64 y) : NoNaN64 (FP.dmul x y) := own_noNaN_of (own_prod hx hy)
theorem own_sgnz (x : UInt64) : FP.Core.signed (FP.Core.sgn (FP.Core.val64 x)) (own_z x).natAbs = own_z x := by rw [own_zn]; rfl
theorem own_signed2 (s t : Bool) (a b : Nat) : FP.Core.signed (s != t) (a * b) = FP.Core.signed s a * FP.Core.signed t b := by
  cases s <;> cases t <;> simp [FP.Core.signed, Int.natCast_mul, Int.neg_mul, Int.mul_neg]
theorem own_q1 : 0 < FP.Core.one64 * FP.Core.one64 := Nat.mul_pos FP.Core.one64_pos FP.Core.one64_pos
theorem own_prod_le {x y V : UInt64} (hx : Fin64 x) (hy : Fin64 y) (hV : NoNaN64 V) (h : (own_z x).natAbs * (own_z y).natAbs ≤ (own_z V).natAbs * FP.Core.one64) : (own_z (FP.dmul x y)).natAbs ≤ (own_z V).natAbs := by
  rw [own_zn (FP.dmul x y), own_prod hx hy]
  refine own_rr_le own_q1 hV ?_
  rw [← Nat.mul_assoc]; exact Nat.mul_le_mul_right _ h
theorem own_prod_ge {x y V : UInt64} (hx : Fin64 x) (hy : Fin64 y) (h : (own_z V).natAbs * FP.Core.one64 ≤ (own_z x).natAbs * (own_z y).natAbs) : (own_z V).natAbs ≤ (own_z (FP.dmul x y)).natAbs := by
  rw [own_zn (FP.dmul x y), own_prod hx hy]
  refine own_rr_ge own_q1 ?_
  rw [← Nat.mul_assoc]; exact Nat.mul_le_mul_right _ h
theorem own_mul_exact {x y : UInt64} (hx : Fin64 x) (hy : Fin64 y) (m : Int) (k : Nat) (hm : m.natAbs < 2 ^ 53) (hk : k ≤ 2045)
    (h : own_z x * own_z y = m * ((2 ^ k : Nat) : Int) * (FP.Core.one64 : Int)) : own_z (FP.dmul x y) = m * ((2 ^ k : Nat) : Int) ∧ Fin64 (FP.dmul x y) := by
  obtain ⟨V, fV, zV⟩ := own_repI m k hm hk
  have h3 : (own_z x).natAbs * (own_z y).natAbs = (own_z V).natAbs * FP.Core.one64 := by
    have := congrArg Int.natAbs h
    rw [Int.natAbs_mul, Int.natAbs_mul, ← zV] at this
    exact this
  have l1 := own_prod_le hx hy fV.noNaN (Nat.le_of_eq h3)
  have l2 := own_prod_ge hx hy (Nat.le_of_eq h3.symm)
  have l3 := Nat.le_antisymm l1 l2
  have hz' : own_z (FP.dmul x y) = own_z V := by
    rw [own_z_signed (own_prod hx hy)]
    rw [own_zn, own_prod hx hy] at l3
    rw [l3]
    have e1 : FP.Core.signed (FP.Core.sgn (FP.Core.val64 x) != FP.Core.sgn (FP.Core.val64 y)) (own_z V).natAbs * (FP.Core.one64 : Int) = own_z V * (FP.Core.one64 : Int) := by
      rw [← FP.Core.signed_mul, ← h3, own_signed2, own_sgnz, own_sgnz, h, zV]
    have := own_one
    exact Int.eq_of_mul_eq_mul_right (by omega) e1
  exact ⟨hz'.trans zV, own_fin_of_z (own_mul_nn hx hy) fV hz'⟩
/-- a product of two above nought that isn't below a double above nought -/
theorem own_mul_pos {x y : UInt64} (hx : Fin64 x) (hy : Fin64 y) (h0 : 0 < own_z x) (h1 : 0 < own_z y) : 0 ≤ own_z (FP.dmul x y) := by
  have s1 : FP.Core.sgn (FP.Core.val64 x) = false := by
    cases hs : FP.Core.sgn (FP.Core.val64 x) with
    | false => rfl
    | true => exfalso; have := own_sgnz x; rw [hs] at this; simp only [FP.Core.signed, if_true] at this; omega
  have s2 : FP.Core.sgn (FP.Core.val64 y) = false := by
    cases hs : FP.Core.sgn (FP.Core.val64 y) with
    | false => rfl
    | true => exfalso; have := own_sgnz y; rw [hs] at this; simp only [FP.Core.signed, if_true] at this; omega
  rw [own_z_signed (own_prod hx hy), s1, s2]
  exact Int.natCast_nonneg _
/-! arrays by the list of what they hold -/
def own_A (Z : State) (h : Heap) (a : Addr) (ty : FieldType) (vs : List Value) : Prop := ∃ c : Cell, Arr Z h a c ty ∧ c.slots.toList = vs
section OwnArr
variable {p : Program} {l : Launch} {e : Env} {R : Room} {s : State} {m : MethodId} {args : Array Value} {below : List Frame} {meth : Method} {c : Code} {T : State} {locs : List Loc} {cells slots : Nat} {Z : State} {h h' : Heap} {a b : Addr} {ty : FieldType} {vs : List Value} {sl : Nat} {v : Value} {ws : List Addr}
theorem own_A.lt (F : own_A Z h a ty vs) : a < h.size := by obtain ⟨c, A, -⟩ := F; exact A.lt
theorem own_A.ext (F : own_A Z h a ty vs) (E : Ext h h') : own_A Z h' a ty vs := by obtain ⟨c, A, r⟩ := F; exact ⟨c, A.ext E, r⟩
theorem own_A.other (F : own_A Z h b ty vs) (W : Wr h h' a sl v) (q : b ≠ a) : own_A Z h' b ty vs := by obtain ⟨c, A, r⟩ := F; exact ⟨c, A.other W q, r⟩
theorem own_A.keep (F : own_A Z h a ty vs) (K : Keep h h' ws) (q : a ∉ ws) : own_A Z h' a ty vs := by obtain ⟨c, A, r⟩ := F; exact ⟨c, ⟨K.2.1 a c A.1 q, A.2⟩, r⟩
theorem own_A.new {k : ClassId} {n : Int32} (A : Arr Z h a (newA k ty n) ty) : own_A Z h a ty (List.replicate n.toNatClampNeg (defaultValue ty)) := ⟨_, A, by simp [newA]⟩
theorem own_A.len (X : Stand p l e R s m args below meth c T locs cells slots) (hx : p.tables.exec = Jvm.exec) (hZ : Z.Warmed39 s.vm) (eT : T.heap = h) (F : own_A Z h a ty vs)
    {g : JFrame} (hg : g.method = m) {rest : List Value} (hs : g.stack = .ref a :: rest) (hd : decode c.code g.pc = .ok (.arraylength, 1)) (target : State)
    (hr : Steps p.tables e below (T.setTop { g with pc := g.pc + 1, stack := .int vs.length.toInt32 :: rest }) target) : Steps p.tables e below (T.setTop g) target := by
  obtain ⟨cl, A, rfl⟩ := F
  refine X.arraylength hx (cell := cl) (by rw [eT]; exact A.1) (State.isArrayOf_alike hZ.alike A.2.1) hg hs hd _ ?_
  rw [Array.length_toList] at hr; exact hr
theorem own_A.inb {cl : Cell} {j : Int32} (hj : ¬ j < 0) (hv : cl.slots.toList[j.toNatClampNeg]? = some v) : ¬ (j < 0 ∨ cl.slots.size ≤ j.toNatClampNeg) := by
  rintro (q | q)
  · exact hj q
  · rw [List.getElem?_eq_none (by rw [Array.length_toList]; exact q)] at hv; cases hv
theorem own_A.dld (X : Stand p l e R s m args below meth c T locs cells slots) (hx : p.tables.exec = Jvm.exec) (hZ : Z.Warmed39 s.vm) (eT : T.heap = h) (F : own_A Z h a .double vs) {j : Int32} (hj : ¬ j < 0) (hv : vs[j.toNatClampNeg]? = some v)
    {g : JFrame} (hg : g.method = m) {rest : List Value} (hs : g.stack = .int j :: .ref a :: rest) (hd : decode c.code g.pc = .ok (.daload, 1)) (target : State)
    (hr : Steps p.tables e below (T.setTop { g with pc := g.pc + 1, stack := v :: rest }) target) : Steps p.tables e below (T.setTop g) target := by
  obtain ⟨cl, A, rfl⟩ := F
  exact X.daload hx (by rw [eT]; exact A.1) (State.isArrayOf_alike hZ.alike A.2.1) A.2.2 (own_A.inb hj hv) (by rw [← Array.getElem?_toList]; exact hv) hg hs hd _ hr
theorem own_A.ild (X : Stand p l e R s m args below meth c T locs cells slots) (hx : p.tables.exec = Jvm.exec) (hZ : Z.Warmed39 s.vm) (eT : T.heap = h) (F : own_A Z h a .int vs) {j : Int32} (hj : ¬ j < 0) (hv : vs[j.toNatClampNeg]? = some v)
    {g : JFrame} (hg : g.method = m) {rest : List Value} (hs : g.stack = .int j :: .ref a :: rest) (hd : decode c.code g.pc = .ok (.iaload, 1)) (target : State)
    (hr : Steps p.tables e below (T.setTop { g with pc := g.pc + 1, stack := v :: rest }) target) : Steps p.tables e below (T.setTop g) target := by
  obtain ⟨cl, A, rfl⟩ := F
  exact X.iaload hx (by rw [eT]; exact A.1) (State.isArrayOf_alike hZ.alike A.2.1) A.2.2 (own_A.inb hj hv) (by rw [← Array.getElem?_toList]; exact hv) hg hs hd _ hr
theorem own_A.lld (X : Stand p l e R s m args below meth c T locs cells slots) (hx : p.tables.exec = Jvm.exec) (hZ : Z.Warmed39 s.vm) (eT : T.heap = h) (F : own_A Z h a .long vs) {j : Int32} (hj : ¬ j < 0) (hv : vs[j.toNatClampNeg]? = some v)
    {g : JFrame} (hg : g.method = m) {rest : List Value} (hs : g.stack = .int j :: .ref a :: rest) (hd : decode c.code g.pc = .ok (.laload, 1)) (target : State)
    (hr : Steps p.tables e below (T.setTop { g with pc := g.pc + 1, stack := v :: rest }) target) : Steps p.tables e below (T.setTop g) target := by
  obtain ⟨cl, A, rfl⟩ := F
  exact X.laload hx (by rw [eT]; exact A.1) (State.isArrayOf_alike hZ.alike A.2.1) A.2.2 (own_A.inb hj hv) (by rw [← Array.getElem?_toList]; exact hv) hg hs hd _ hr
theorem own_A.same {cl : Cell} (A : Arr Z h a cl ty) (W : Wr h h' a sl v) : own_A Z h' a ty (cl.slots.toList.set sl v) := ⟨_, A.same W, by simp [Cell.setSlot]⟩
theorem own_A.dst (X : Stand p l e R s m args below meth c T locs cells slots) (hx : p.tables.exec = Jvm.exec) (hZ : Z.Warmed39 s.vm) (eT : T.heap = h) (F : own_A Z h a .double vs) {j : Int32} {x : UInt64} (hj : ¬ j < 0) {o : Value} (hv : vs[j.toNatClampNeg]? = some o)
    {g : JFrame} (hg : g.method = m) {rest : List Value} (hs : g.stack = .double x :: .int j :: .ref a :: rest) (hd : decode c.code g.pc = .ok (.dastore, 1)) :
    ∃ T' h', Stand p l e R s m args below meth c T' (locs ++ [⟨a, j.toNatClampNeg⟩]) cells slots ∧ T'.heap = h' ∧ Wr h h' a j.toNatClampNeg (.double x) ∧ own_A Z h' a .double (vs.set j.toNatClampNeg (.double x)) ∧
      ∀ target, Steps p.tables e below (T'.setTop { g with pc := g.pc + 1, stack := rest }) target → Steps p.tables e below (T.setTop g) target := by
  obtain ⟨cl, A, rfl⟩ := F
  obtain ⟨T', h', X', e', W, st⟩ := stD X hx hZ eT A (own_A.inb hj hv) hg hs hd
  exact ⟨T', h', X', e', W, own_A.same A W, st⟩
theorem own_A.ist (X : Stand p l e R s m args below meth c T locs cells slots) (hx : p.tables.exec = Jvm.exec) (hZ : Z.Warmed39 s.vm) (eT : T.heap = h) (F : own_A Z h a .int vs) {j : Int32} {x : Int32} (hj : ¬ j < 0) {o : Value} (hv : vs[j.toNatClampNeg]? = some o)
    {g : JFrame} (hg : g.method = m) {rest : List Value} (hs : g.stack = .int x :: .int j :: .ref a :: rest) (hd : decode c.code g.pc = .ok (.iastore, 1)) :
    ∃ T' h', Stand p l e R s m args below meth c T' (locs ++ [⟨a, j.toNatClampNeg⟩]) cells slots ∧ T'.heap = h' ∧ Wr h h' a j.toNatClampNeg (.int x) ∧ own_A Z h' a .int (vs.set j.toNatClampNeg (.int x)) ∧
      ∀ target, Steps p.tables e below (T'.setTop { g with pc := g.pc + 1, stack := rest }) target → Steps p.tables e below (T.setTop g) target := by
  obtain ⟨cl, A, rfl⟩ := F
  obtain ⟨T', h', X', e', W, st⟩ := stI X hx hZ eT A (own_A.inb hj hv) hg hs hd
  exact ⟨T', h', X', e', W, own_A.same A W, st⟩
theorem own_A.lst (X : Stand p l e R s m args below meth c T locs cells slots) (hx : p.tables.exec = Jvm.exec) (hZ : Z.Warmed39 s.vm) (eT : T.heap = h) (F : own_A Z h a .long vs) {j : Int32} {x : Int64} (hj : ¬ j < 0) {o : Value} (hv : vs[j.toNatClampNeg]? = some o)
    {g : JFrame} (hg : g.method = m) {rest : List Value} (hs : g.stack = .long x :: .int j :: .ref a :: rest) (hd : decode c.code g.pc = .ok (.lastore, 1)) :
    ∃ T' h', Stand p l e R s m args below meth c T' (locs ++ [⟨a, j.toNatClampNeg⟩]) cells slots ∧ T'.heap = h' ∧ Wr h h' a j.toNatClampNeg (.long x) ∧ own_A Z h' a .long (vs.set j.toNatClampNeg (.long x)) ∧
      ∀ target, Steps p.tables e below (T'.setTop { g with pc := g.pc + 1, stack := rest }) target → Steps p.tables e below (T.setTop g) target := by
  obtain ⟨cl, A, rfl⟩ := F
  obtain ⟨T', h', X', e', W, st⟩ := stJ X hx hZ eT A (own_A.inb hj hv) hg hs hd
  exact ⟨T', h', X', e', W, own_A.same A W, st⟩
end OwnArr
/-! arrays of objects, by the list of what they hold -/
def own_O (Z : State) (h : Heap) (a : Addr) (C : String) (vs : List Value) : Prop := ∃ c : Cell, Arr Z h a c (.object C) ∧ Ovr Z c.cls C ∧ c.slots.toList = vs
section OwnObj
variable {p : Program} {l : Launch} {e : Env} {R : Room} {s : State} {m : MethodId} {args : Array Value} {below : List Frame} {meth : Method} {c : Code} {T : State} {locs : List Loc} {cells slots : Nat} {Z : State} {h h' : Heap} {a b : Addr} {C : String} {vs : List Value} {sl : Nat} {v : Value} {ws : List Addr} {a0 : Array Value}
theorem own_O.lt (F : own_O Z h a C vs) : a < h.size := by obtain ⟨c, A, -⟩ := F; exact A.lt
theorem own_O.ext (F : own_O Z h a C vs) (E : Ext h h') : own_O Z h' a C vs := by obtain ⟨c, A, r⟩ := F; exact ⟨c, A.ext E, r⟩
theorem own_O.other (F : own_O Z h b C vs) (W : Wr h h' a sl v) (q : b ≠ a) : own_O Z h' b C vs := by obtain ⟨c, A, r⟩ := F; exact ⟨c, A.other W q, r⟩
theorem own_O.keep (F : own_O Z h a C vs) (K : Keep h h' ws) (q : a ∉ ws) : own_O Z h' a C vs := by obtain ⟨c, A, r⟩ := F; exact ⟨c, ⟨K.2.1 a c A.1 q, A.2⟩, r⟩
theorem own_O.new {k : ClassId} {n : Int32} (A : Arr Z h a (newA k (.object C) n) (.object C)) (O : Ovr Z k C) : own_O Z h a C (List.replicate n.toNatClampNeg .null) := ⟨_, A, O, by simp [newA, defaultValue]⟩
theorem own_O.len (X : Stand p l e R s m args below meth c T locs cells slots) (hx : p.tables.exec = Jvm.exec) (hZ : Z.Warmed39 s.vm) (eT : T.heap = h) (F : own_O Z h a C vs)
    {g : JFrame} (hg : g.method = m) {rest : List Value} (hs : g.stack = .ref a :: rest) (hd : decode c.code g.pc = .ok (.arraylength, 1)) (target : State)
    (hr : Steps p.tables e below (T.setTop { g with pc := g.pc + 1, stack := .int vs.length.toInt32 :: rest }) target) : Steps p.tables e below (T.setTop g) target := by
  obtain ⟨cl, A, -, rfl⟩ := F
  refine X.arraylength hx (cell := cl) (by rw [eT]; exact A.1) (State.isArrayOf_alike hZ.alike A.2.1) hg hs hd _ ?_
  rw [Array.length_toList] at hr; exact hr
theorem own_O.ald (X : Stand p l e R s m args below meth c T locs cells slots) (hx : p.tables.exec = Jvm.exec) (hZ : Z.Warmed39 s.vm) (eT : T.heap = h) (F : own_O Z h a C vs) {j : Int32} (hj : ¬ j < 0) (hv : vs[j.toNatClampNeg]? = some v)
    {g : JFrame} (hg : g.method = m) {rest : List Value} (hs : g.stack = .int j :: .ref a :: rest) (hd : decode c.code g.pc = .ok (.aaload, 1)) (target : State)
    (hr : Steps p.tables e below (T.setTop { g with pc := g.pc + 1, stack := v :: rest }) target) : Steps p.tables e below (T.setTop g) target := by
  obtain ⟨cl, A, -, rfl⟩ := F
  exact X.aaload hx (by rw [eT]; exact A.1) (State.isArrayOf_alike hZ.alike A.2.1) rfl A.2.2 (own_A.inb hj hv) (by rw [← Array.getElem?_toList]; exact hv) hg hs hd _ hr
theorem own_O.ast (X : Stand p l e R s m args below meth c T locs cells slots) (hx : p.tables.exec = Jvm.exec) (hZ : Z.Warmed39 s.vm) (eT : T.heap = h) (F : own_O Z h a C vs) {j : Int32} {y : Addr} (hj : ¬ j < 0) {o : Value} (hv : vs[j.toNatClampNeg]? = some o) (I : Ins Z h y C true)
    {g : JFrame} (hg : g.method = m) {rest : List Value} (hs : g.stack = .ref y :: .int j :: .ref a :: rest) (hd : decode c.code g.pc = .ok (.aastore, 1)) :
    ∃ T' h', Stand p l e R s m args below meth c T' (locs ++ [⟨a, j.toNatClampNeg⟩]) cells slots ∧ T'.heap = h' ∧ Wr h h' a j.toNatClampNeg (.ref y) ∧ own_O Z h' a C (vs.set j.toNatClampNeg (.ref y)) ∧
      ∀ target, Steps p.tables e below (T'.setTop { g with pc := g.pc + 1, stack := rest }) target → Steps p.tables e below (T.setTop g) target := by
  obtain ⟨cl, A, O, rfl⟩ := F
  obtain ⟨T', h', X', e', W, st⟩ := stR X hx hZ eT A (own_A.inb hj hv) rfl (Sto.of A O I) hg hs hd
  exact ⟨T', h', X', e', W, ⟨_, A.same W, O, by simp [Cell.setSlot]⟩, st⟩
/-- a constructor through an entry that is resolved already -/
theorem own_mvRef {own : String} {index : Nat} {y : MethodName} (hZ : Z.Warmed39 s.vm) (hy : y.cls ≠ "java/lang/invoke/MethodHandle" ∧ y.cls ≠ "java/lang/invoke/VarHandle") (wi : (Jvm.Cond.instanceMethod y).before a0 Z = true) (w : (Jvm.Cond.methodRef own index y).before a0 Z = true) : (Jvm.Cond.methodRef own index y).before args s = true := by
  obtain ⟨mk, methM, hn, -, -, -⟩ := Cond.instanceMethod_spec wi
  have h1 := Cond.methodRef_warmed39 hZ hn hy w
  exact h1
theorem own_refReady {own : String} {index : Nat} {y : MethodName} (hown : s.vm.findClass own = some m.cls) (hy : y.cls ≠ "java/lang/invoke/MethodHandle" ∧ y.cls ≠ "java/lang/invoke/VarHandle") (w : (Jvm.Cond.methodRef own index y).before args s = true) (e : Env) :
    ∀ (U : State) (r : MethodId), s.WarmedH U.vm → s.methodNamed? y = some r → namesResolved U.vm m.cls index r.cls ∧ U.vm.methodReady m.cls index r := by
  intro U r hW hn
  have h1 := Cond.methodRef_warmed39 hW.wide hn hy w
  have ho : (s.setVm U.vm).vm.findClass own = some m.cls := by show U.vm.findClass own = _; rw [hW.wide.alike.findClass]; exact hown
  obtain ⟨m', c', hf, hr, hc, hnr⟩ := Cond.methodRef_named e ho h1
  have hf2 : (s.setVm U.vm).methodFound? y.cls y.name y.desc = some r := (State.methodFound?_setVm_of_named hW.wide.alike hn hy).trans (State.methodFound?_of_named hn hy)
  cases hf2.symm.trans hf
  have hc2 : (s.setVm U.vm).vm.findClass y.cls = some r.cls := by show U.vm.findClass y.cls = _; rw [hW.wide.alike.findClass]; exact findClass_of_methodNamed hn
  cases hc2.symm.trans hc
  exact ⟨hnr, hr⟩
theorem own_specialRef (X : Stand p l e R s m args below meth c T locs cells slots) (hexec : p.tables.exec = Jvm.exec) {own : String} {index : Nat} {y : MethodName} (hy1 : y.name = "<init>")
    (hown : s.vm.findClass own = some m.cls) (hlink : (Jvm.Cond.methodRef own index y).before args s = true) (hinst : (Jvm.Cond.instanceMethod y).before args s = true)
    {bytes : ByteArray} {maxL : Nat} (hcode : (Jvm.Cond.code y bytes maxL none).before args s = true)
    (hy : y.cls ≠ "java/lang/invoke/MethodHandle" ∧ y.cls ≠ "java/lang/invoke/VarHandle")
    {W : Nat} {Pre : Pt → Array Value → Prop} {Post : Pt → Array Value → Option Value → Pt → Prop} (hK : Back l R p e below s args y 3 W Pre Post)
    {g : JFrame} (hg : g.method = m) (hsize : g.locals.size = c.maxLocals) {s₀ : State} (hcome : Steps p.tables e below s₀ (T.setTop g)) {a : Addr} {argsL rest : List Value}
    (hlen : ∀ sig, parseMethodDescriptor y.desc = some sig → argsL.length = sig.parameters.length) (hstack : g.stack = argsL.reverse ++ .ref a :: rest) (hW : 2 * g.monitorRoom + (rest.map fun v => v.category).sum ≤ W)
    (hdg : decode c.code g.pc = .ok (.invokespecial index, 3)) (hpre : ∀ vm₁, s.WarmedH vm₁ → Pre ⟨T.setVm vm₁, locs, cells, slots⟩ (.ref a :: argsL).toArray) :
    ∃ (v : Option Value) (vm₁ : Vm) (B : Pt), s.WarmedH vm₁ ∧ Stand p l e R s m args below meth c B.U B.locs B.cells B.slots ∧ Post ⟨T.setVm vm₁, locs, cells, slots⟩ (.ref a :: argsL).toArray v B ∧
      Steps p.tables e below s₀ (B.U.setTop { g with pc := g.pc + 3, stack := v.toList ++ rest }) := by
  have h : SCall p l e R s m args below meth c index y := SCall.of_ready hexec hy1 hinst hcode (own_refReady hown hy hlink e)
  exact h X hK hg hsize hcome hlen hstack hW hdg hpre
theorem own_mvNest {own host : String} {index : Nat} {y : MethodName} (hZ : Z.Warmed39 s.vm) (w : (Jvm.Cond.methodLinkNest own index y host).before a0 Z = true) : (Jvm.Cond.methodLinkNest own index y host).before args s = true := (Cond.methodLinkNest_wide hZ w :)
end OwnObj
abbrev own_d16 : List Value := [.double 0, .double 0, .double 0, .double 0, .double 0, .double 0, .double 0, .double 0, .double 0, .double 0, .double 0, .double 0, .double 0, .double 0, .double 0, .double 0]
abbrev own_i16 : List Value := [.int 0, .int 0, .int 0, .int 0, .int 0, .int 0, .int 0, .int 0, .int 0, .int 0, .int 0, .int 0, .int 0, .int 0, .int 0, .int 0]
abbrev own_d4 : List Value := [.double 0, .double 0, .double 0, .double 0]
abbrev own_i4 : List Value := [.int 0, .int 0, .int 0, .int 0]
theorem own_wrle {h h' : Heap} {a : Addr} {sl : Nat} {v : Value} {n : Nat} (W : Wr h h' a sl v) (z : n ≤ h.size) : n ≤ h'.size := Nat.le_trans z (Keep.of_wr W).1
theorem own_n0 : NoNaN64 FP.dconst0 := own_nn own_d0
theorem own_n1 : NoNaN64 FP.dconst1 := own_nn own_d1
theorem own_absn {x : UInt64} (h : Fin64 x) : NoNaN64 (x &&& 0x7fffffffffffffff) := (abs_fin h).noNaN
theorem own_max1 {y : UInt64} (hy : NoNaN64 y) : 0 < own_z (Native.java_lang_Math.nans.pick64 true FP.dconst1 y) := by
  have o := own_one
  have z1 : own_z FP.dconst1 = (FP.Core.one64 : Int) := by rw [own_zi own_d1, Int.one_mul]
  have h := own_cmpz own_n1 hy
  unfold Native.java_lang_Math.nans.pick64
  rw [h, FP.Core.compare_ite]
  by_cases h1 : own_z FP.dconst1 < own_z y
  · rw [if_pos h1]; show 0 < own_z y; omega
  · rw [if_neg h1]
    by_cases h2 : own_z FP.dconst1 = own_z y
    · rw [if_pos h2]
      show 0 < own_z (if _ then y else FP.dconst1)
      split <;> omega
    · rw [if_neg h2]; show 0 < own_z FP.dconst1; omega
theorem own_mul_pn {x y : UInt64} (hx : Fin64 x) (hy : Fin64 y) (h0 : 0 < own_z x) (h1 : own_z y < 0) : own_z (FP.dmul x y) ≤ 0 := by
  have hs : own_z (FP.dmul x y) = FP.Core.signed (FP.Core.sgn (FP.Core.val64 x) != FP.Core.sgn (FP.Core.val64 y)) (own_z (FP.dmul x y)).natAbs := by
    have h := own_z_signed (own_prod hx hy)
    rw [← own_prod hx hy, ← own_zn] at h; exact h
  have s1 : FP.Core.sgn (FP.Core.val64 x) = false := by
    cases hs : FP.Core.sgn (FP.Core.val64 x) with
    | false => rfl
    | true => exfalso; have := own_sgnz x; rw [hs] at this; simp only [FP.Core.signed, if_true] at this; omega
  have s2 : FP.Core.sgn (FP.Core.val64 y) = true := by
    cases hs : FP.Core.sgn (FP.Core.val64 y) with
    | true => rfl
    | false => exfalso; have := own_sgnz y; rw [hs] at this; simp [FP.Core.signed] at this; omega
  rw [hs, s1, s2]
  show -((own_z (FP.dmul x y)).natAbs : Int) ≤ 0; omega
theorem own_cm : Fin64 (13695778570484766357 : UInt64) ∧ own_z (13695778570484766357 : UInt64) < 0 := ⟨(Fl.fin64_iff _).mpr (by decide +kernel), by unfold own_z; decide +kernel⟩
theorem own_empty {s : State} {args : Array Value} {t : Term} {a : Addr} (ev : t.eval args s none [] s = some (.ref a)) (h1 : (Jvm.Cond.arrayOf t (.object "java/lang/Object")).value args s none s [] = some true)
    (h2 : (Jvm.Cond.eq (Term.length t) (Term.int 0)).value args s none s [] = some true) : own_A s s.heap a (.object "java/lang/Object") [] := by
  obtain ⟨c, A⟩ := Arr.start ev h1
  obtain ⟨x, y, e1, e2, -, -⟩ := cmp_v (Or.inl h2)
  have e3 : y = .int 0 := (Option.some.inj ((Term.int_eval (args := args) (first := s) (o := none) (idx := []) (s := s) 0).symm.trans e2)).symm
  subst e3
  obtain ⟨a', cell, g1, g2, g3⟩ := Term.length_spec e1
  cases ev.symm.trans g1
  subst g3
  have q := gotT (Cond.eq_ints e1 e2) h2
  have hc : c = cell := by
    unfold State.arrayAt? at g2
    rw [A.1] at g2
    simp only [Option.bind_eq_bind, Option.bind_some, Option.bind_eq_some_iff] at g2
    obtain ⟨k, -, g2⟩ := g2
    split at g2
    · cases g2
    · split at g2
      · exact Option.some.inj g2
      · cases g2
  have hb : cell.slots.size < 2 ^ 31 := by
    rcases Nat.lt_or_ge cell.slots.size (2 ^ 31) with h | h
    · exact h
    · exfalso
      simp [Term.eval, ev, g2, Nat.not_lt.mpr h] at e1
  have e4 : (cell.slots.size.toInt32).toInt = cell.slots.size := Int32.toInt_ofNat_of_lt hb
  rw [q] at e4
  have e5 : cell.slots.size = 0 := by have : (0 : Int32).toInt = 0 := rfl
                                      omega
  refine ⟨c, A, ?_⟩
  rw [hc]
  exact List.eq_nil_of_length_eq_zero (by rw [Array.length_toList]; exact e5)
def own_e8 (e : Int) : Prop := e ≠ 0 ∧ -8 ≤ e ∧ e ≤ 8
def own_pm (s : Int32) : Prop := s = 1 ∨ s = -1
theorem own_53i {i : Int} (h1 : -9007199254740992 ≤ i) (h2 : i ≤ 9007199254740992) : i.natAbs ≤ 2 ^ 53 := by
  have e : (2 : Nat) ^ 53 = 9007199254740992 := by decide
  omega
theorem own_nz0 {e : Int} {x : UInt64} (D : FP.Core.DInt e x) (he : own_e8 e) : ¬ own_z x = own_z FP.dconst0 := by
  rw [own_zi D, own_zi own_d0]; intro q
  exact he.1 (Int.eq_of_mul_eq_mul_right (by have := own_one; omega) q)
theorem own_prodb {q e : Int} (hq : 0 ≤ q ∧ q ≤ 65535) (he : own_e8 e) : -524280 ≤ q * e ∧ q * e ≤ 524280 := by
  have h : (q * e).natAbs ≤ 65535 * 8 := by rw [Int.natAbs_mul]; have := he.2; exact Nat.mul_le_mul (by omega) (by omega)
  omega
theorem own_prodc {q a : Int} (hq : 0 ≤ q ∧ q ≤ 65535) (ha : -128 ≤ a ∧ a ≤ 127) : -8388480 ≤ a * q ∧ a * q ≤ 8388480 := by
  have h : (a * q).natAbs ≤ 128 * 65535 := by rw [Int.natAbs_mul]; exact Nat.mul_le_mul (by omega) (by omega)
  omega
theorem own_r0 {q e : Int} {b x : UInt64} (Db : FP.Core.DInt (q * e) b) (De : FP.Core.DInt e x) (he : own_e8 e) (hq : 0 ≤ q ∧ q ≤ 65535) :
    NoNaN64 (FP.dsub b FP.dconst0) ∧ FP.Core.DInt q (FP.ddiv (FP.dsub b FP.dconst0) x) := by
  have p := own_prodb hq he
  have d := FP.Core.dsub_int Db own_d0 (own_53i (by omega) (by omega))
  rw [Int.sub_zero] at d
  exact ⟨own_nn d, own_ddiv_int d De he.1 (own_53i (by omega) (by omega))⟩
theorem own_r1 {a q r e : Int} {b x y m : UInt64} (Dm : FP.Core.DInt q m) (Da : FP.Core.DInt a x) (Db : FP.Core.DInt (a * q + r * e) b) (De : FP.Core.DInt e y) (he : own_e8 e) (ha : -128 ≤ a ∧ a ≤ 127) (hq : 0 ≤ q ∧ q ≤ 65535) (hr : 0 ≤ r ∧ r ≤ 65535) :
    NoNaN64 (FP.dmul x m) ∧ NoNaN64 (FP.dadd FP.dconst0 (FP.dmul x m)) ∧ NoNaN64 (FP.dsub b (FP.dadd FP.dconst0 (FP.dmul x m))) ∧ FP.Core.DInt r (FP.ddiv (FP.dsub b (FP.dadd FP.dconst0 (FP.dmul x m))) y) := by
  have p := own_prodb hr he
  have c := own_prodc hq ha
  have d1 := FP.Core.dmul_int Da Dm (own_53i (by omega) (by omega))
  have d2 := FP.Core.dadd_int own_d0 d1 (own_53i (by omega) (by omega))
  rw [Int.zero_add] at d2
  have d3 := FP.Core.dsub_int Db d2 (own_53i (by omega) (by omega))
  rw [show a * q + r * e - a * q = r * e by omega] at d3
  exact ⟨own_nn d1, own_nn d2, own_nn d3, own_ddiv_int d3 De he.1 (own_53i (by omega) (by omega))⟩
theorem own_chk {v b : UInt64} {q : Int} (Dv : FP.Core.DInt q v) (hq : 0 ≤ q) (fb : Fin64 b) : NoNaN64 (FP.dmul (13695778570484766357 : UInt64) (Native.java_lang_Math.nans.pick64 true FP.dconst1 (b &&& 0x7fffffffffffffff))) ∧
    ¬ own_z v < own_z (FP.dmul (13695778570484766357 : UInt64) (Native.java_lang_Math.nans.pick64 true FP.dconst1 (b &&& 0x7fffffffffffffff))) := by
  have fm : Fin64 (Native.java_lang_Math.nans.pick64 true FP.dconst1 (b &&& 0x7fffffffffffffff)) := Jvm.Free.Fl.pick64_fin (own_fini own_d1) (abs_fin fb)
  have pm := own_max1 (own_absn fb)
  refine ⟨own_mul_nn own_cm.1 fm, Int.not_lt.mpr ?_⟩
  rw [show FP.dmul (13695778570484766357 : UInt64) (Native.java_lang_Math.nans.pick64 true FP.dconst1 (b &&& 0x7fffffffffffffff)) = FP.dmul (Native.java_lang_Math.nans.pick64 true FP.dconst1 (b &&& 0x7fffffffffffffff)) (13695778570484766357 : UInt64) from FP.Core.dmul_comm _ _]
  have h1 := own_mul_pn fm own_cm.1 pm own_cm.2
  have h2 : 0 ≤ own_z v := by rw [own_zi Dv]; exact Int.mul_nonneg hq (Int.le_of_lt own_one)
  omega
theorem own_mq {v : UInt64} {q : Int} (Dv : FP.Core.DInt q v) (hq : 0 ≤ q) : FP.Core.DInt q (Native.java_lang_Math.nans.pick64 true FP.dconst0 v) := by
  have o := own_one
  have h := own_cmpz own_n0 (own_nn Dv)
  rw [own_zi own_d0, own_zi Dv, FP.Core.compare_mul_pos _ _ _ o] at h
  unfold Native.java_lang_Math.nans.pick64
  rw [h, FP.Core.compare_ite]
  by_cases h1 : (0 : Int) < q
  · rw [if_pos h1]; exact Dv
  · rw [if_neg h1]
    have h2 : q = 0 := by omega
    subst h2
    rw [if_pos rfl]
    show FP.Core.DInt 0 (if _ then v else FP.dconst0)
    split
    · exact Dv
    · exact own_d0
theorem own_eb (p : Int32) {s E : Int32} (hs : own_pm s) (hE : E = ((p &&& (7 : Int32)) + (1 : Int32)) * s) : own_e8 E.toInt := by
  have h := Jvm.Kit.i32_mask p 7 (k := 3) (by decide) (by decide)
  have h2 : ((p &&& (7 : Int32)) + (1 : Int32)).toInt = (p &&& (7 : Int32)).toInt + 1 := Jvm.Kit.i32_add (q := 1) (by rw [h]; show _ ≤ _ + (1 : Int); omega) (by rw [h]; show _ + (1 : Int) < _; omega)
  rcases hs with rfl | rfl
  · have h3 : E.toInt = ((p &&& (7 : Int32)) + (1 : Int32)).toInt * 1 := by rw [hE, Jvm.Kit.i32_mul (by show _ ≤ _ * (1 : Int); omega) (by show _ * (1 : Int) < _; omega)]; rfl
    unfold own_e8; omega
  · have h3 : E.toInt = ((p &&& (7 : Int32)) + (1 : Int32)).toInt * (-1) := by rw [hE, Jvm.Kit.i32_mul (by show _ ≤ _ * (-1 : Int); omega) (by show _ * (-1 : Int) < _; omega)]; rfl
    unfold own_e8; omega
theorem own_q16 (p : Int32) {q : Int32} (h : q = p &&& (65535 : Int32)) : 0 ≤ q.toInt ∧ q.toInt ≤ 65535 := by
  have h1 := Jvm.Kit.i32_mask p 65535 (k := 16) (by decide) (by decide)
  rw [h]; omega
theorem own_a8 (p : Int32) {a : Int32} (h : a = (p &&& (255 : Int32)) - (128 : Int32)) : -128 ≤ a.toInt ∧ a.toInt ≤ 127 := by
  have h1 := Jvm.Kit.i32_mask p 255 (k := 8) (by decide) (by decide)
  have h2 : ((p &&& (255 : Int32)) - (128 : Int32)).toInt = (p &&& (255 : Int32)).toInt - 128 := Jvm.Kit.i32_sub (q := 128) (by rw [h1]; show _ ≤ _ - (128 : Int); omega) (by rw [h1]; show _ - (128 : Int) < _; omega)
  rw [h]; omega
theorem own_b0 {q E B : Int32} (hq : 0 ≤ q.toInt ∧ q.toInt ≤ 65535) (hE : own_e8 E.toInt) (hB : B = q * E) : FP.Core.DInt (q.toInt * E.toInt) (FP.i2d B) := by
  have p := own_prodb hq hE
  have h : B.toInt = q.toInt * E.toInt := by rw [hB, Jvm.Kit.i32_mul (by omega) (by omega)]
  rw [← h]; exact FP.Core.i2d_int B
theorem own_b1 {a q r E B : Int32} (ha : -128 ≤ a.toInt ∧ a.toInt ≤ 127) (hq : 0 ≤ q.toInt ∧ q.toInt ≤ 65535) (hr : 0 ≤ r.toInt ∧ r.toInt ≤ 65535) (hE : own_e8 E.toInt) (hB : B = (a * q) + (r * E)) : FP.Core.DInt (a.toInt * q.toInt + r.toInt * E.toInt) (FP.i2d B) := by
  have p := own_prodb hr hE
  have c := own_prodc hq ha
  have h1 : (a * q).toInt = a.toInt * q.toInt := Jvm.Kit.i32_mul (by omega) (by omega)
  have h2 : (r * E).toInt = r.toInt * E.toInt := Jvm.Kit.i32_mul (by omega) (by omega)
  have h : B.toInt = a.toInt * q.toInt + r.toInt * E.toInt := by rw [hB, Jvm.Kit.i32_add (by omega) (by omega), h1, h2]
  rw [← h]; exact FP.Core.i2d_int B

def QrmLi (Z : State) (a : Addr) (h0 : Heap) (n0 : Nat) (vQ : Option Value) (hQ : Heap) (LQ : List Loc) : Prop := vQ = none ∧ Fr n0 LQ ∧ Keep h0 hQ [a]
theorem ef_rmLi (m : MethodId) (a : Addr) : entryFrame m #[(.ref a)] 1 = mkF m 0 #[vr a] [] := by first | (simp [entryFrame, mkF, argsToLocals, Value.category]; done) | rfl
abbrev xa0 (Z : State) (h : Heap) (a : Addr) : Prop := Exa Z h a "com/example/netloom/netloom/embed/BasisFactor$Lines"
abbrev mn1 : MethodName := ⟨"com/example/netloom/netloom/embed/BasisFactor$Lines", "<init>", "()V"⟩
theorem pn_com_example_netloom_netloom_embed_BasisFactor_Lines : plainName "com/example/netloom/netloom/embed/BasisFactor$Lines" = true := by first | (simp [plainName, overriddenIn]; done) | decide +kernel
theorem p21_1_0 : decode prog_21_method_1_code 0 = .ok (.aload_n 0, 1) := by decide +kernel
theorem p21_1_1 : decode prog_21_method_1_code 1 = .ok (.invokespecial 1, 3) := by decide +kernel
abbrev HW (Z : State) (a0 : Array Value) : Prop := ∀ d ∈ tables_1, d.before a0 Z = true
def tw61 {Z a0} (hw : HW Z a0) := hw _ (List.mem_of_getElem? (i := 61) rfl)
def tw8 {Z a0} (hw : HW Z a0) := hw _ (List.mem_of_getElem? (i := 8) rfl)
def tw9 {Z a0} (hw : HW Z a0) := hw _ (List.mem_of_getElem? (i := 9) rfl)
theorem p21_1_4 : decode prog_21_method_1_code 4 = .ok (.aload_n 0, 1) := by decide +kernel
theorem p21_1_5 : decode prog_21_method_1_code 5 = .ok (.bipush 17, 2) := by decide +kernel
theorem p21_1_7 : decode prog_21_method_1_code 7 = .ok (.newarray .int, 2) := by decide +kernel
def tw41 {Z a0} (hw : HW Z a0) := hw _ (List.mem_of_getElem? (i := 41) rfl)
theorem p21_1_9 : decode prog_21_method_1_code 9 = .ok (.putfield 7, 3) := by decide +kernel
def tw62 {Z a0} (hw : HW Z a0) := hw _ (List.mem_of_getElem? (i := 62) rfl)
def tw56 {Z a0} (hw : HW Z a0) := hw _ (List.mem_of_getElem? (i := 56) rfl)
def tw63 {Z a0} (hw : HW Z a0) := hw _ (List.mem_of_getElem? (i := 63) rfl)
theorem p21_1_12 : decode prog_21_method_1_code 12 = .ok (.aload_n 0, 1) := by decide +kernel
theorem p21_1_13 : decode prog_21_method_1_code 13 = .ok (.bipush 64, 2) := by decide +kernel
theorem p21_1_15 : decode prog_21_method_1_code 15 = .ok (.newarray .int, 2) := by decide +kernel
theorem p21_1_17 : decode prog_21_method_1_code 17 = .ok (.putfield 13, 3) := by decide +kernel
def tw64 {Z a0} (hw : HW Z a0) := hw _ (List.mem_of_getElem? (i := 64) rfl)
def tw65 {Z a0} (hw : HW Z a0) := hw _ (List.mem_of_getElem? (i := 65) rfl)
theorem p21_1_20 : decode prog_21_method_1_code 20 = .ok (.aload_n 0, 1) := by decide +kernel
theorem p21_1_21 : decode prog_21_method_1_code 21 = .ok (.bipush 64, 2) := by decide +kernel
theorem p21_1_23 : decode prog_21_method_1_code 23 = .ok (.newarray .double, 2) := by decide +kernel
def tw36 {Z a0} (hw : HW Z a0) := hw _ (List.mem_of_getElem? (i := 36) rfl)
theorem p21_1_25 : decode prog_21_method_1_code 25 = .ok (.putfield 16, 3) := by decide +kernel
def tw66 {Z a0} (hw : HW Z a0) := hw _ (List.mem_of_getElem? (i := 66) rfl)
def tw67 {Z a0} (hw : HW Z a0) := hw _ (List.mem_of_getElem? (i := 67) rfl)
theorem p21_1_28 : decode prog_21_method_1_code 28 = .ok (.return_, 1) := by decide +kernel
set_option maxRecDepth 65536 in
set_option maxHeartbeats 40000000 in
theorem rmLi (l : Launch) (Z : State) (a0 : Array Value) (hw : ∀ d ∈ tables_1, d.before a0 Z = true) (ws : List Jvm.Cond) (a : Addr) (h0 : Heap) (n0 : Nat) (Z0 : n0 ≤ h0.size) (E1 : xa0 Z h0 a) (U1 : Unt h0 a) (ge_a : n0 ≤ a) :
  MetFree l mn1 (head1 (Jvm.Cond.code mn1 prog_21_method_1_code 1 none :: ws) ({ frames := 1, cells := 3, slots := 145, locals := 14 } : Room)) (fun aA U => aA = #[(.ref a)] ∧ Z.Warmed39 U.vm ∧ U.heap = h0) (fun _ _ _ _ _ => True) (fun _ U o U' => ∃ vR LR, o = .returned vR ∧ QrmLi Z a h0 n0 vR U'.heap LR ∧ FrameEnd U o U' LR ({ frames := 1, cells := 3, slots := 145, locals := 14 } : Room).cells ({ frames := 1, cells := 3, slots := 145, locals := 14 } : Room).slots) := by
 refine MetFree.of_bodySF (plainFor_of_name pn_com_example_netloom_netloom_embed_BasisFactor_Lines) hisR ?_
 intro p e s m args below meth c s₁ Bd hml0 hPre hKk
 obtain ⟨rfl, hZ, hh⟩ := hPre
 have hx := Bd.exec
 have hby := Bd.bytes
 have hH : ∀ {pc r}, decode prog_21_method_1_code pc = r → decode c.code pc = r := fun q => hb hby q
 have hml : c.maxLocals = 1 := hml0
 have hown : s.vm.findClass "com/example/netloom/netloom/embed/BasisFactor$Lines" = some m.cls := findClass_of_methodNamed Bd.named
 have hnm := (name_of_methodNamed Bd.named Bd.method).1
 have X0 : Stand p l e ({ frames := 1, cells := 3, slots := 145, locals := 14 } : Room) s m #[(.ref a)] below meth c s₁ [] 0 0 := Stand.of_body Bd
 have e0 : s₁.heap = h0 := by rw [← hh, Bd.state]; rfl
 have N0 := Fr.nil n0
 obtain ⟨E0, hE0⟩ : ∃ zE : State, zE = s₁.setTop (entryFrame m #[(.ref a)] 1) := ⟨_, rfl⟩
 have k0 : own_G p e below E0 s₁ (mkF m 0 #[vr a] []) := fun tz kz => hE0 ▸ castTop (ef_rmLi m a) kz
 have K0 : Keep h0 h0 [a] := Keep.refl _ _
 have kJ0 : own_G p e below E0 s₁ (mkF m 1 #[vr a] [(.ref a)]) := by
  intro tQ kk
  refine k0 tQ ?_
  refine XS.aloadN X0.here hx rfl (hH p21_1_0) rfl rfl ?_
  exact kk
 clear k0
 obtain ⟨TJ1, XJ2, eJ3, stJ4⟩ := initO X0 hx hZ hown (tw61 hw) (tw8 hw) (tw9 hw) e0 (g := (mkF m 1 #[vr a] [(.ref a)])) rfl (by rw [hml]; rfl) rfl (hH p21_1_1) (by decide) (W := 0) (by show 2 * 0 + _ ≤ _; exact Nat.le_of_eq rfl) (by decide)
 have kJ5 : own_G p e below E0 TJ1 (mkF m 4 #[vr a] []) := fun tQ kk => kJ0 tQ (stJ4 _ kk)
 clear kJ0 stJ4
 have kJ6 : own_G p e below E0 TJ1 (mkF m 7 #[vr a] [(.int (17 : Int32)), (.ref a)]) := by
  intro tQ kk
  refine kJ5 tQ ?_
  refine XS.aloadN XJ2.here hx rfl (hH p21_1_4) rfl rfl ?_
  refine XS.bipush XJ2.here hx rfl (hH p21_1_5) ?_
  exact kk
 clear kJ5
 obtain ⟨TJ7, hJ8, cAJ9, XJA, eJB, EJC, AJD, stJE⟩ := newP (aty := .int) XJ2 hx hZ (tw41 hw) eJ3 (g := (mkF m 7 #[vr a] [(.int (17 : Int32)), (.ref a)])) rfl (hH p21_1_7) rfl (by decide) (cap := 17) (by decide) (by decide) (by decide) (by decide)
 obtain ⟨aJF, gJG⟩ : ∃ zA : Nat, zA = h0.size := ⟨_, rfl⟩
 rw [← gJG] at AJD stJE
 have nJH := own_lt_ne E1.lt gJG
 have nwJI : h0.size ≤ aJF := own_ge_of K0.1 gJG
 have geJJ : n0 ≤ aJF := own_ge_of Z0 gJG
 replace Z0 := Nat.le_trans Z0 EJC.1
 replace E1 := E1.ext EJC
 replace U1 := U1.ext EJC
 replace K0 := K0.ext EJC
 have kJK : own_G p e below E0 TJ7 (mkF m 9 #[vr a] [(.ref aJF), (.ref a)]) := fun tQ kk => kJ6 tQ (stJE _ kk)
 clear kJ6 stJE
 obtain ⟨voJL, FJM⟩ := fld_laid E1 (Unt.known U1) (tw56 hw) (Or.inl (tw63 hw))
 obtain ⟨TJN, hJO, XJP, eJQ, WJR, stJS⟩ := putF XJA hx hZ hown (host := "") (Or.inl (tw62 hw)) Via.refl eJB FJM E1 (Or.inl (tw63 hw)) (tw56 hw) (ty := (.array .int)) (by decide) rfl rfl (g := (mkF m 9 #[vr a] [(.ref aJF), (.ref a)])) rfl rfl (hH p21_1_9)
 have NJT := Fr.snoc XJP N0 ge_a
 have kJU : own_G p e below E0 TJN (mkF m 12 #[vr a] []) := fun tQ kk => kJK tQ (stJS _ kk)
 clear kJK stJS
 replace E1 := E1.wr WJR
 replace U1 := U1.wr WJR
 replace Z0 := own_wrle WJR Z0
 replace K0 := K0.wr WJR (Or.inl (List.mem_of_getElem? (i := 0) rfl))
 have kJV : own_G p e below E0 TJN (mkF m 15 #[vr a] [(.int (64 : Int32)), (.ref a)]) := by
  intro tQ kk
  refine kJU tQ ?_
  refine XS.aloadN XJP.here hx rfl (hH p21_1_12) rfl rfl ?_
  refine XS.bipush XJP.here hx rfl (hH p21_1_13) ?_
  exact kk
 clear kJU
 obtain ⟨TJW, hJX, cAJY, XJZ, eK0, EK1, AK2, stK3⟩ := newP (aty := .int) XJP hx hZ (tw41 hw) eJQ (g := (mkF m 15 #[vr a] [(.int (64 : Int32)), (.ref a)])) rfl (hH p21_1_15) rfl (by decide) (cap := 64) (by decide) (by decide) (by decide) (by decide)
 obtain ⟨aK4, gK5⟩ : ∃ zA : Nat, zA = hJO.size := ⟨_, rfl⟩
 rw [← gK5] at AK2 stK3
 have nK6 := own_lt_ne E1.lt gK5
 have nwK7 : h0.size ≤ aK4 := own_ge_of K0.1 gK5
 have geK8 : n0 ≤ aK4 := own_ge_of Z0 gK5
 replace Z0 := Nat.le_trans Z0 EK1.1
 replace E1 := E1.ext EK1
 replace U1 := U1.ext EK1
 replace K0 := K0.ext EK1
 have kK9 : own_G p e below E0 TJW (mkF m 17 #[vr a] [(.ref aK4), (.ref a)]) := fun tQ kk => kJV tQ (stK3 _ kk)
 clear kJV stK3
 obtain ⟨voKA, FKB⟩ := fld_laid E1 (Unt.known U1) (tw56 hw) (Or.inl (tw65 hw))
 obtain ⟨TKC, hKD, XKE, eKF, WKG, stKH⟩ := putF XJZ hx hZ hown (host := "") (Or.inl (tw64 hw)) Via.refl eK0 FKB E1 (Or.inl (tw65 hw)) (tw56 hw) (ty := (.array .int)) (by decide) rfl rfl (g := (mkF m 17 #[vr a] [(.ref aK4), (.ref a)])) rfl rfl (hH p21_1_17)
 have NKI := Fr.snoc XKE NJT ge_a
 have kKJ : own_G p e below E0 TKC (mkF m 20 #[vr a] []) := fun tQ kk => kK9 tQ (stKH _ kk)
 clear kK9 stKH
 replace E1 := E1.wr WKG
 replace U1 := U1.wr WKG
 replace Z0 := own_wrle WKG Z0
 replace K0 := K0.wr WKG (Or.inl (List.mem_of_getElem? (i := 0) rfl))
 have kKK : own_G p e below E0 TKC (mkF m 23 #[vr a] [(.int (64 : Int32)), (.ref a)]) := by
  intro tQ kk
  refine kKJ tQ ?_
  refine XS.aloadN XKE.here hx rfl (hH p21_1_20) rfl rfl ?_
  refine XS.bipush XKE.here hx rfl (hH p21_1_21) ?_
  exact kk
 clear kKJ
 obtain ⟨TKL, hKM, cAKN, XKO, eKP, EKQ, AKR, stKS⟩ := newP (aty := .double) XKE hx hZ (tw36 hw) eKF (g := (mkF m 23 #[vr a] [(.int (64 : Int32)), (.ref a)])) rfl (hH p21_1_23) rfl (by decide) (cap := 64) (by decide) (by decide) (by decide) (by decide)
 obtain ⟨aKT, gKU⟩ : ∃ zA : Nat, zA = hKD.size := ⟨_, rfl⟩
 rw [← gKU] at AKR stKS
 have nKV := own_lt_ne E1.lt gKU
 have nwKW : h0.size ≤ aKT := own_ge_of K0.1 gKU
 have geKX : n0 ≤ aKT := own_ge_of Z0 gKU
 replace Z0 := Nat.le_trans Z0 EKQ.1
 replace E1 := E1.ext EKQ
 replace U1 := U1.ext EKQ
 replace K0 := K0.ext EKQ
 have kKY : own_G p e below E0 TKL (mkF m 25 #[vr a] [(.ref aKT), (.ref a)]) := fun tQ kk => kKK tQ (stKS _ kk)
 clear kKK stKS
 obtain ⟨voKZ, FL0⟩ := fld_laid E1 (Unt.known U1) (tw56 hw) (Or.inl (tw67 hw))
 obtain ⟨TL1, hL2, XL3, eL4, WL5, stL6⟩ := putF XKO hx hZ hown (host := "") (Or.inl (tw66 hw)) Via.refl eKP FL0 E1 (Or.inl (tw67 hw)) (tw56 hw) (ty := (.array .double)) (by decide) rfl rfl (g := (mkF m 25 #[vr a] [(.ref aKT), (.ref a)])) rfl rfl (hH p21_1_25)
 have NL7 := Fr.snoc XL3 NKI ge_a
 have kL8 : own_G p e below E0 TL1 (mkF m 28 #[vr a] []) := fun tQ kk => kKY tQ (stL6 _ kk)
 clear kKY stL6
 replace E1 := E1.wr WL5
 replace U1 := U1.wr WL5
 replace Z0 := own_wrle WL5 Z0
 replace K0 := K0.wr WL5 (Or.inl (List.mem_of_getElem? (i := 0) rfl))
 obtain ⟨fs, hr, hrun, hended, hW, hsame⟩ := XL3.leave (v := none) (fun _ => rfl)
 have hrun0 := kL8 _ (XL3.returnOut hx Bd.returns (hH p21_1_28) hr)
 subst hE0
 refine ⟨_, _, hrun0, hrun, hended, _, _, rfl, ?_, ⟨_, rfl⟩, hW, hsame.mono (by decide) (by decide)⟩
 show QrmLi Z a h0 n0 _ TL1.heap _
 rw [eL4]
 exact ⟨rfl, NL7, K0⟩
def QrmEn (Z : State) (a : Addr) (h0 : Heap) (n0 : Nat) (vQ : Option Value) (hQ : Heap) (LQ : List Loc) : Prop := vQ = none ∧ Fr n0 LQ ∧ Keep h0 hQ [a]
theorem ef_rmEn (m : MethodId) (a : Addr) : entryFrame m #[(.ref a)] 1 = mkF m 0 #[vr a] [] := by first | (simp [entryFrame, mkF, argsToLocals, Value.category]; done) | rfl
abbrev xa2 (Z : State) (h : Heap) (a : Addr) : Prop := Exa Z h a "com/example/netloom/netloom/embed/BasisFactor$Entries"
abbrev mn3 : MethodName := ⟨"com/example/netloom/netloom/embed/BasisFactor$Entries", "<init>", "()V"⟩
theorem pn_com_example_netloom_netloom_embed_BasisFactor_Entries : plainName "com/example/netloom/netloom/embed/BasisFactor$Entries" = true := by first | (simp [plainName, overriddenIn]; done) | decide +kernel
theorem p20_1_0 : decode prog_20_method_1_code 0 = .ok (.aload_n 0, 1) := by decide +kernel
theorem p20_1_1 : decode prog_20_method_1_code 1 = .ok (.invokespecial 1, 3) := by decide +kernel
def tw82 {Z a0} (hw : HW Z a0) := hw _ (List.mem_of_getElem? (i := 82) rfl)
theorem p20_1_4 : decode prog_20_method_1_code 4 = .ok (.aload_n 0, 1) := by decide +kernel
theorem p20_1_5 : decode prog_20_method_1_code 5 = .ok (.iconst 0, 1) := by decide +kernel
theorem p20_1_6 : decode prog_20_method_1_code 6 = .ok (.anewarray 7, 3) := by decide +kernel
def tw83 {Z a0} (hw : HW Z a0) := hw _ (List.mem_of_getElem? (i := 83) rfl)
def tw84 {Z a0} (hw : HW Z a0) := hw _ (List.mem_of_getElem? (i := 84) rfl)
theorem p20_1_9 : decode prog_20_method_1_code 9 = .ok (.putfield 9, 3) := by decide +kernel
def tw85 {Z a0} (hw : HW Z a0) := hw _ (List.mem_of_getElem? (i := 85) rfl)
def tw77 {Z a0} (hw : HW Z a0) := hw _ (List.mem_of_getElem? (i := 77) rfl)
def tw86 {Z a0} (hw : HW Z a0) := hw _ (List.mem_of_getElem? (i := 86) rfl)
theorem p20_1_12 : decode prog_20_method_1_code 12 = .ok (.aload_n 0, 1) := by decide +kernel
theorem p20_1_13 : decode prog_20_method_1_code 13 = .ok (.iconst 0, 1) := by decide +kernel
theorem p20_1_14 : decode prog_20_method_1_code 14 = .ok (.anewarray 15, 3) := by decide +kernel
def tw87 {Z a0} (hw : HW Z a0) := hw _ (List.mem_of_getElem? (i := 87) rfl)
def tw88 {Z a0} (hw : HW Z a0) := hw _ (List.mem_of_getElem? (i := 88) rfl)
theorem p20_1_17 : decode prog_20_method_1_code 17 = .ok (.putfield 17, 3) := by decide +kernel
def tw89 {Z a0} (hw : HW Z a0) := hw _ (List.mem_of_getElem? (i := 89) rfl)
def tw90 {Z a0} (hw : HW Z a0) := hw _ (List.mem_of_getElem? (i := 90) rfl)
theorem p20_1_20 : decode prog_20_method_1_code 20 = .ok (.aload_n 0, 1) := by decide +kernel
theorem p20_1_21 : decode prog_20_method_1_code 21 = .ok (.iconst 0, 1) := by decide +kernel
theorem p20_1_22 : decode prog_20_method_1_code 22 = .ok (.newarray .int, 2) := by decide +kernel
theorem p20_1_24 : decode prog_20_method_1_code 24 = .ok (.putfield 21, 3) := by decide +kernel
def tw91 {Z a0} (hw : HW Z a0) := hw _ (List.mem_of_getElem? (i := 91) rfl)
def tw92 {Z a0} (hw : HW Z a0) := hw _ (List.mem_of_getElem? (i := 92) rfl)
theorem p20_1_27 : decode prog_20_method_1_code 27 = .ok (.return_, 1) := by decide +kernel
set_option maxRecDepth 65536 in
set_option maxHeartbeats 40000000 in
theorem rmEn (l : Launch) (Z : State) (a0 : Array Value) (hw : ∀ d ∈ tables_1, d.before a0 Z = true) (ws : List Jvm.Cond) (a : Addr) (h0 : Heap) (n0 : Nat) (Z0 : n0 ≤ h0.size) (E1 : xa2 Z h0 a) (U1 : Unt h0 a) (ge_a : n0 ≤ a) :
  MetFree l mn3 (head1 (Jvm.Cond.code mn3 prog_20_method_1_code 1 none :: ws) ({ frames := 1, cells := 3, slots := 0, locals := 14 } : Room)) (fun aA U => aA = #[(.ref a)] ∧ Z.Warmed39 U.vm ∧ U.heap = h0) (fun _ _ _ _ _ => True) (fun _ U o U' => ∃ vR LR, o = .returned vR ∧ QrmEn Z a h0 n0 vR U'.heap LR ∧ FrameEnd U o U' LR ({ frames := 1, cells := 3, slots := 0, locals := 14 } : Room).cells ({ frames := 1, cells := 3, slots := 0, locals := 14 } : Room).slots) := by
 refine MetFree.of_bodySF (plainFor_of_name pn_com_example_netloom_netloom_embed_BasisFactor_Entries) hisR ?_
 intro p e s m args below meth c s₁ Bd hml0 hPre hKk
 obtain ⟨rfl, hZ, hh⟩ := hPre
 have hx := Bd.exec
 have hby := Bd.bytes
 have hH : ∀ {pc r}, decode prog_20_method_1_code pc = r → decode c.code pc = r := fun q => hb hby q
 have hml : c.maxLocals = 1 := hml0
 have hown : s.vm.findClass "com/example/netloom/netloom/embed/BasisFactor$Entries" = some m.cls := findClass_of_methodNamed Bd.named
 have hnm := (name_of_methodNamed Bd.named Bd.method).1
 have X0 : Stand p l e ({ frames := 1, cells := 3, slots := 0, locals := 14 } : Room) s m #[(.ref a)] below meth c s₁ [] 0 0 := Stand.of_body Bd
 have e0 : s₁.heap = h0 := by rw [← hh, Bd.state]; rfl
 have N0 := Fr.nil n0
 obtain ⟨E0, hE0⟩ : ∃ zE : State, zE = s₁.setTop (entryFrame m #[(.ref a)] 1) := ⟨_, rfl⟩
 have k0 : own_G p e below E0 s₁ (mkF m 0 #[vr a] []) := fun tz kz => hE0 ▸ castTop (ef_rmEn m a) kz
 have K0 : Keep h0 h0 [a] := Keep.refl _ _
 have kJ0 : own_G p e below E0 s₁ (mkF m 1 #[vr a] [(.ref a)]) := by
  intro tQ kk
  refine k0 tQ ?_
  refine XS.aloadN X0.here hx rfl (hH p20_1_0) rfl rfl ?_
  exact kk
 clear k0
 obtain ⟨TJ1, XJ2, eJ3, stJ4⟩ := initO X0 hx hZ hown (tw82 hw) (tw8 hw) (tw9 hw) e0 (g := (mkF m 1 #[vr a] [(.ref a)])) rfl (by rw [hml]; rfl) rfl (hH p20_1_1) (by decide) (W := 0) (by show 2 * 0 + _ ≤ _; exact Nat.le_of_eq rfl) (by decide)
 have kJ5 : own_G p e below E0 TJ1 (mkF m 4 #[vr a] []) := fun tQ kk => kJ0 tQ (stJ4 _ kk)
 clear kJ0 stJ4
 have kJ6 : own_G p e below E0 TJ1 (mkF m 6 #[vr a] [(.int (0 : Int32)), (.ref a)]) := by
  intro tQ kk
  refine kJ5 tQ ?_
  refine XS.aloadN XJ2.here hx rfl (hH p20_1_4) rfl rfl ?_
  refine XS.iconst XJ2.here hx rfl (hH p20_1_5) ?_
  exact kk
 clear kJ5
 obtain ⟨TJ7, hJ8, cAJ9, XJA, eJB, EJC, -, -, -, stJF⟩ := newRA (ty := .int) XJ2 hx hZ hown rfl (tw83 hw) (tw84 hw) eJ3 (g := (mkF m 6 #[vr a] [(.int (0 : Int32)), (.ref a)])) rfl (hH p20_1_6) rfl (by decide) (cap := 0) (by decide) (by decide) (by decide) (by decide) rfl
 obtain ⟨aJG, gJH⟩ : ∃ zA : Nat, zA = h0.size := ⟨_, rfl⟩
 rw [← gJH] at stJF
 have nJI := own_lt_ne E1.lt gJH
 have nwJJ : h0.size ≤ aJG := own_ge_of K0.1 gJH
 have geJK : n0 ≤ aJG := own_ge_of Z0 gJH
 replace Z0 := Nat.le_trans Z0 EJC.1
 replace E1 := E1.ext EJC
 replace U1 := U1.ext EJC
 replace K0 := K0.ext EJC
 have kJL : own_G p e below E0 TJ7 (mkF m 9 #[vr a] [(.ref aJG), (.ref a)]) := fun tQ kk => kJ6 tQ (stJF _ kk)
 clear kJ6 stJF
 obtain ⟨voJM, FJN⟩ := fld_laid E1 (Unt.known U1) (tw77 hw) (Or.inl (tw86 hw))
 obtain ⟨TJO, hJP, XJQ, eJR, WJS, stJT⟩ := putF XJA hx hZ hown (host := "") (Or.inl (tw85 hw)) Via.refl eJB FJN E1 (Or.inl (tw86 hw)) (tw77 hw) (ty := (.array (.array .int))) (by decide) rfl rfl (g := (mkF m 9 #[vr a] [(.ref aJG), (.ref a)])) rfl rfl (hH p20_1_9)
 have NJU := Fr.snoc XJQ N0 ge_a
 have kJV : own_G p e below E0 TJO (mkF m 12 #[vr a] []) := fun tQ kk => kJL tQ (stJT _ kk)
 clear kJL stJT
 replace E1 := E1.wr WJS
 replace U1 := U1.wr WJS
 replace Z0 := own_wrle WJS Z0
 replace K0 := K0.wr WJS (Or.inl (List.mem_of_getElem? (i := 0) rfl))
 have kJW : own_G p e below E0 TJO (mkF m 14 #[vr a] [(.int (0 : Int32)), (.ref a)]) := by
  intro tQ kk
  refine kJV tQ ?_
  refine XS.aloadN XJQ.here hx rfl (hH p20_1_12) rfl rfl ?_
  refine XS.iconst XJQ.here hx rfl (hH p20_1_13) ?_
  exact kk
 clear kJV
 obtain ⟨TJX, hJY, cAJZ, XK0, eK1, EK2, -, -, -, stK5⟩ := newRA (ty := .double) XJQ hx hZ hown rfl (tw87 hw) (tw88 hw) eJR (g := (mkF m 14 #[vr a] [(.int (0 : Int32)), (.ref a)])) rfl (hH p20_1_14) rfl (by decide) (cap := 0) (by decide) (by decide) (by decide) (by decide) rfl
 obtain ⟨aK6, gK7⟩ : ∃ zA : Nat, zA = hJP.size := ⟨_, rfl⟩
 rw [← gK7] at stK5
 have nK8 := own_lt_ne E1.lt gK7
 have nwK9 : h0.size ≤ aK6 := own_ge_of K0.1 gK7
 have geKA : n0 ≤ aK6 := own_ge_of Z0 gK7
 replace Z0 := Nat.le_trans Z0 EK2.1
 replace E1 := E1.ext EK2
 replace U1 := U1.ext EK2
 replace K0 := K0.ext EK2
 have kKB : own_G p e below E0 TJX (mkF m 17 #[vr a] [(.ref aK6), (.ref a)]) := fun tQ kk => kJW tQ (stK5 _ kk)
 clear kJW stK5
 obtain ⟨voKC, FKD⟩ := fld_laid E1 (Unt.known U1) (tw77 hw) (Or.inl (tw90 hw))
 obtain ⟨TKE, hKF, XKG, eKH, WKI, stKJ⟩ := putF XK0 hx hZ hown (host := "") (Or.inl (tw89 hw)) Via.refl eK1 FKD E1 (Or.inl (tw90 hw)) (tw77 hw) (ty := (.array (.array .double))) (by decide) rfl rfl (g := (mkF m 17 #[vr a] [(.ref aK6), (.ref a)])) rfl rfl (hH p20_1_17)
 have NKK := Fr.snoc XKG NJU ge_a
 have kKL : own_G p e below E0 TKE (mkF m 20 #[vr a] []) := fun tQ kk => kKB tQ (stKJ _ kk)
 clear kKB stKJ
 replace E1 := E1.wr WKI
 replace U1 := U1.wr WKI
 replace Z0 := own_wrle WKI Z0
 replace K0 := K0.wr WKI (Or.inl (List.mem_of_getElem? (i := 0) rfl))
 have kKM : own_G p e below E0 TKE (mkF m 22 #[vr a] [(.int (0 : Int32)), (.ref a)]) := by
  intro tQ kk
  refine kKL tQ ?_
  refine XS.aloadN XKG.here hx rfl (hH p20_1_20) rfl rfl ?_
  refine XS.iconst XKG.here hx rfl (hH p20_1_21) ?_
  exact kk
 clear kKL
 obtain ⟨TKN, hKO, cAKP, XKQ, eKR, EKS, AKT, stKU⟩ := newP (aty := .int) XKG hx hZ (tw41 hw) eKH (g := (mkF m 22 #[vr a] [(.int (0 : Int32)), (.ref a)])) rfl (hH p20_1_22) rfl (by decide) (cap := 0) (by decide) (by decide) (by decide) (by decide)
 obtain ⟨aKV, gKW⟩ : ∃ zA : Nat, zA = hKF.size := ⟨_, rfl⟩
 rw [← gKW] at AKT stKU
 have nKX := own_lt_ne E1.lt gKW
 have nwKY : h0.size ≤ aKV := own_ge_of K0.1 gKW
 have geKZ : n0 ≤ aKV := own_ge_of Z0 gKW
 replace Z0 := Nat.le_trans Z0 EKS.1
 replace E1 := E1.ext EKS
 replace U1 := U1.ext EKS
 replace K0 := K0.ext EKS
 have kL0 : own_G p e below E0 TKN (mkF m 24 #[vr a] [(.ref aKV), (.ref a)]) := fun tQ kk => kKM tQ (stKU _ kk)
 clear kKM stKU
 obtain ⟨voL1, FL2⟩ := fld_laid E1 (Unt.known U1) (tw77 hw) (Or.inl (tw92 hw))
 obtain ⟨TL3, hL4, XL5, eL6, WL7, stL8⟩ := putF XKQ hx hZ hown (host := "") (Or.inl (tw91 hw)) Via.refl eKR FL2 E1 (Or.inl (tw92 hw)) (tw77 hw) (ty := (.array .int)) (by decide) rfl rfl (g := (mkF m 24 #[vr a] [(.ref aKV), (.ref a)])) rfl rfl (hH p20_1_24)
 have NL9 := Fr.snoc XL5 NKK ge_a
 have kLA : own_G p e below E0 TL3 (mkF m 27 #[vr a] []) := fun tQ kk => kL0 tQ (stL8 _ kk)
 clear kL0 stL8
 replace E1 := E1.wr WL7
 replace U1 := U1.wr WL7
 replace Z0 := own_wrle WL7 Z0
 replace K0 := K0.wr WL7 (Or.inl (List.mem_of_getElem? (i := 0) rfl))
 obtain ⟨fs, hr, hrun, hended, hW, hsame⟩ := XL5.leave (v := none) (fun _ => rfl)
 have hrun0 := kLA _ (XL5.returnOut hx Bd.returns (hH p20_1_27) hr)
 subst hE0
 refine ⟨_, _, hrun0, hrun, hended, _, _, rfl, ?_, ⟨_, rfl⟩, hW, hsame.mono (by decide) (by decide)⟩
 show QrmEn Z a h0 n0 _ TL3.heap _
 rw [eL6]
 exact ⟨rfl, NL9, K0⟩
def QrmCl (Z : State) (a : Addr) (h0 : Heap) (n0 : Nat) (vQ : Option Value) (hQ : Heap) (LQ : List Loc) : Prop := vQ = none ∧ Fr n0 LQ ∧ Keep h0 hQ [a]
theorem ef_rmCl (m : MethodId) (a : Addr) : entryFrame m #[(.ref a)] 1 = mkF m 0 #[vr a] [] := by first | (simp [entryFrame, mkF, argsToLocals, Value.category]; done) | rfl
abbrev xa4 (Z : State) (h : Heap) (a : Addr) : Prop := Exa Z h a "com/example/netloom/netloom/embed/BasisFactor$CountLists"
abbrev mn5 : MethodName := ⟨"com/example/netloom/netloom/embed/BasisFactor$CountLists", "<init>", "()V"⟩
theorem pn_com_example_netloom_netloom_embed_BasisFactor_CountLists : plainName "com/example/netloom/netloom/embed/BasisFactor$CountLists" = true := by first | (simp [plainName, overriddenIn]; done) | decide +kernel
theorem p18_1_0 : decode prog_18_method_1_code 0 = .ok (.aload_n 0, 1) := by decide +kernel
theorem p18_1_1 : decode prog_18_method_1_code 1 = .ok (.invokespecial 1, 3) := by decide +kernel
def tw140 {Z a0} (hw : HW Z a0) := hw _ (List.mem_of_getElem? (i := 140) rfl)
theorem p18_1_4 : decode prog_18_method_1_code 4 = .ok (.aload_n 0, 1) := by decide +kernel
theorem p18_1_5 : decode prog_18_method_1_code 5 = .ok (.iconst 0, 1) := by decide +kernel
theorem p18_1_6 : decode prog_18_method_1_code 6 = .ok (.newarray .int, 2) := by decide +kernel
theorem p18_1_8 : decode prog_18_method_1_code 8 = .ok (.putfield 7, 3) := by decide +kernel
def tw141 {Z a0} (hw : HW Z a0) := hw _ (List.mem_of_getElem? (i := 141) rfl)
def tw135 {Z a0} (hw : HW Z a0) := hw _ (List.mem_of_getElem? (i := 135) rfl)
def tw142 {Z a0} (hw : HW Z a0) := hw _ (List.mem_of_getElem? (i := 142) rfl)
theorem p18_1_11 : decode prog_18_method_1_code 11 = .ok (.aload_n 0, 1) := by decide +kernel
theorem p18_1_12 : decode prog_18_method_1_code 12 = .ok (.iconst 0, 1) := by decide +kernel
theorem p18_1_13 : decode prog_18_method_1_code 13 = .ok (.newarray .int, 2) := by decide +kernel
theorem p18_1_15 : decode prog_18_method_1_code 15 = .ok (.putfield 13, 3) := by decide +kernel
def tw143 {Z a0} (hw : HW Z a0) := hw _ (List.mem_of_getElem? (i := 143) rfl)
def tw144 {Z a0} (hw : HW Z a0) := hw _ (List.mem_of_getElem? (i := 144) rfl)
theorem p18_1_18 : decode prog_18_method_1_code 18 = .ok (.aload_n 0, 1) := by decide +kernel
theorem p18_1_19 : decode prog_18_method_1_code 19 = .ok (.iconst 0, 1) := by decide +kernel
theorem p18_1_20 : decode prog_18_method_1_code 20 = .ok (.newarray .int, 2) := by decide +kernel
theorem p18_1_22 : decode prog_18_method_1_code 22 = .ok (.putfield 16, 3) := by decide +kernel
def tw145 {Z a0} (hw : HW Z a0) := hw _ (List.mem_of_getElem? (i := 145) rfl)
def tw146 {Z a0} (hw : HW Z a0) := hw _ (List.mem_of_getElem? (i := 146) rfl)
theorem p18_1_25 : decode prog_18_method_1_code 25 = .ok (.aload_n 0, 1) := by decide +kernel
theorem p18_1_26 : decode prog_18_method_1_code 26 = .ok (.iconst 0, 1) := by decide +kernel
theorem p18_1_27 : decode prog_18_method_1_code 27 = .ok (.newarray .int, 2) := by decide +kernel
theorem p18_1_29 : decode prog_18_method_1_code 29 = .ok (.putfield 19, 3) := by decide +kernel
def tw147 {Z a0} (hw : HW Z a0) := hw _ (List.mem_of_getElem? (i := 147) rfl)
def tw148 {Z a0} (hw : HW Z a0) := hw _ (List.mem_of_getElem? (i := 148) rfl)
theorem p18_1_32 : decode prog_18_method_1_code 32 = .ok (.return_, 1) := by decide +kernel
set_option maxRecDepth 65536 in
set_option maxHeartbeats 40000000 in
theorem rmCl (l : Launch) (Z : State) (a0 : Array Value) (hw : ∀ d ∈ tables_1, d.before a0 Z = true) (ws : List Jvm.Cond) (a : Addr) (h0 : Heap) (n0 : Nat) (Z0 : n0 ≤ h0.size) (E1 : xa4 Z h0 a) (U1 : Unt h0 a) (ge_a : n0 ≤ a) :
  MetFree l mn5 (head1 (Jvm.Cond.code mn5 prog_18_method_1_code 1 none :: ws) ({ frames := 1, cells := 4, slots := 0, locals := 14 } : Room)) (fun aA U => aA = #[(.ref a)] ∧ Z.Warmed39 U.vm ∧ U.heap = h0) (fun _ _ _ _ _ => True) (fun _ U o U' => ∃ vR LR, o = .returned vR ∧ QrmCl Z a h0 n0 vR U'.heap LR ∧ FrameEnd U o U' LR ({ frames := 1, cells := 4, slots := 0, locals := 14 } : Room).cells ({ frames := 1, cells := 4, slots := 0, locals := 14 } : Room).slots) := by
 refine MetFree.of_bodySF (plainFor_of_name pn_com_example_netloom_netloom_embed_BasisFactor_CountLists) hisR ?_
 intro p e s m args below meth c s₁ Bd hml0 hPre hKk
 obtain ⟨rfl, hZ, hh⟩ := hPre
 have hx := Bd.exec
 have hby := Bd.bytes
 have hH : ∀ {pc r}, decode prog_18_method_1_code pc = r → decode c.code pc = r := fun q => hb hby q
 have hml : c.maxLocals = 1 := hml0
 have hown : s.vm.findClass "com/example/netloom/netloom/embed/BasisFactor$CountLists" = some m.cls := findClass_of_methodNamed Bd.named
 have hnm := (name_of_methodNamed Bd.named Bd.method).1
 have X0 : Stand p l e ({ frames := 1, cells := 4, slots := 0, locals := 14 } : Room) s m #[(.ref a)] below meth c s₁ [] 0 0 := Stand.of_body Bd
 have e0 : s₁.heap = h0 := by rw [← hh, Bd.state]; rfl
 have N0 := Fr.nil n0
 obtain ⟨E0, hE0⟩ : ∃ zE : State, zE = s₁.setTop (entryFrame m #[(.ref a)] 1) := ⟨_, rfl⟩
 have k0 : own_G p e below E0 s₁ (mkF m 0 #[vr a] []) := fun tz kz => hE0 ▸ castTop (ef_rmCl m a) kz
 have K0 : Keep h0 h0 [a] := Keep.refl _ _
 have kJ0 : own_G p e below E0 s₁ (mkF m 1 #[vr a] [(.ref a)]) := by
  intro tQ kk
  refine k0 tQ ?_
  refine XS.aloadN X0.here hx rfl (hH p18_1_0) rfl rfl ?_
  exact kk
 clear k0
 obtain ⟨TJ1, XJ2, eJ3, stJ4⟩ := initO X0 hx hZ hown (tw140 hw) (tw8 hw) (tw9 hw) e0 (g := (mkF m 1 #[vr a] [(.ref a)])) rfl (by rw [hml]; rfl) rfl (hH p18_1_1) (by decide) (W := 0) (by show 2 * 0 + _ ≤ _; exact Nat.le_of_eq rfl) (by decide)
 have kJ5 : own_G p e below E0 TJ1 (mkF m 4 #[vr a] []) := fun tQ kk => kJ0 tQ (stJ4 _ kk)
 clear kJ0 stJ4
 have kJ6 : own_G p e below E0 TJ1 (mkF m 6 #[vr a] [(.int (0 : Int32)), (.ref a)]) := by
  intro tQ kk
  refine kJ5 tQ ?_
  refine XS.aloadN XJ2.here hx rfl (hH p18_1_4) rfl rfl ?_
  refine XS.iconst XJ2.here hx rfl (hH p18_1_5) ?_
  exact kk
 clear kJ5
 obtain ⟨TJ7, hJ8, cAJ9, XJA, eJB, EJC, AJD, stJE⟩ := newP (aty := .int) XJ2 hx hZ (tw41 hw) eJ3 (g := (mkF m 6 #[vr a] [(.int (0 : Int32)), (.ref a)])) rfl (hH p18_1_6) rfl (by decide) (cap := 0) (by decide) (by decide) (by decide) (by decide)
 obtain ⟨aJF, gJG⟩ : ∃ zA : Nat, zA = h0.size := ⟨_, rfl⟩
 rw [← gJG] at AJD stJE
 have nJH := own_lt_ne E1.lt gJG
 have nwJI : h0.size ≤ aJF := own_ge_of K0.1 gJG
 have geJJ : n0 ≤ aJF := own_ge_of Z0 gJG
 replace Z0 := Nat.le_trans Z0 EJC.1
 replace E1 := E1.ext EJC
 replace U1 := U1.ext EJC
 replace K0 := K0.ext EJC
 have kJK : own_G p e below E0 TJ7 (mkF m 8 #[vr a] [(.ref aJF), (.ref a)]) := fun tQ kk => kJ6 tQ (stJE _ kk)
 clear kJ6 stJE
 obtain ⟨voJL, FJM⟩ := fld_laid E1 (Unt.known U1) (tw135 hw) (Or.inl (tw142 hw))
 obtain ⟨TJN, hJO, XJP, eJQ, WJR, stJS⟩ := putF XJA hx hZ hown (host := "") (Or.inl (tw141 hw)) Via.refl eJB FJM E1 (Or.inl (tw142 hw)) (tw135 hw) (ty := (.array .int)) (by decide) rfl rfl (g := (mkF m 8 #[vr a] [(.ref aJF), (.ref a)])) rfl rfl (hH p18_1_8)
 have NJT := Fr.snoc XJP N0 ge_a
 have kJU : own_G p e below E0 TJN (mkF m 11 #[vr a] []) := fun tQ kk => kJK tQ (stJS _ kk)
 clear kJK stJS
 replace E1 := E1.wr WJR
 replace U1 := U1.wr WJR
 replace Z0 := own_wrle WJR Z0
 replace K0 := K0.wr WJR (Or.inl (List.mem_of_getElem? (i := 0) rfl))
 have kJV : own_G p e below E0 TJN (mkF m 13 #[vr a] [(.int (0 : Int32)), (.ref a)]) := by
  intro tQ kk
  refine kJU tQ ?_
  refine XS.aloadN XJP.here hx rfl (hH p18_1_11) rfl rfl ?_
  refine XS.iconst XJP.here hx rfl (hH p18_1_12) ?_
  exact kk
 clear kJU
 obtain ⟨TJW, hJX, cAJY, XJZ, eK0, EK1, AK2, stK3⟩ := newP (aty := .int) XJP hx hZ (tw41 hw) eJQ (g := (mkF m 13 #[vr a] [(.int (0 : Int32)), (.ref a)])) rfl (hH p18_1_13) rfl (by decide) (cap := 0) (by decide) (by decide) (by decide) (by decide)
 obtain ⟨aK4, gK5⟩ : ∃ zA : Nat, zA = hJO.size := ⟨_, rfl⟩
 rw [← gK5] at AK2 stK3
 have nK6 := own_lt_ne E1.lt gK5
 have nwK7 : h0.size ≤ aK4 := own_ge_of K0.1 gK5
 have geK8 : n0 ≤ aK4 := own_ge_of Z0 gK5
 replace Z0 := Nat.le_trans Z0 EK1.1
 replace E1 := E1.ext EK1
 replace U1 := U1.ext EK1
 replace K0 := K0.ext EK1
 have kK9 : own_G p e below E0 TJW (mkF m 15 #[vr a] [(.ref aK4), (.ref a)]) := fun tQ kk => kJV tQ (stK3 _ kk)
 clear kJV stK3
 obtain ⟨voKA, FKB⟩ := fld_laid E1 (Unt.known U1) (tw135 hw) (Or.inl (tw144 hw))
 obtain ⟨TKC, hKD, XKE, eKF, WKG, stKH⟩ := putF XJZ hx hZ hown (host := "") (Or.inl (tw143 hw)) Via.refl eK0 FKB E1 (Or.inl (tw144 hw)) (tw135 hw) (ty := (.array .int)) (by decide) rfl rfl (g := (mkF m 15 #[vr a] [(.ref aK4), (.ref a)])) rfl rfl (hH p18_1_15)
 have NKI := Fr.snoc XKE NJT ge_a
 have kKJ : own_G p e below E0 TKC (mkF m 18 #[vr a] []) := fun tQ kk => kK9 tQ (stKH _ kk)
 clear kK9 stKH
 replace E1 := E1.wr WKG
 replace U1 := U1.wr WKG
 replace Z0 := own_wrle WKG Z0
 replace K0 := K0.wr WKG (Or.inl (List.mem_of_getElem? (i := 0) rfl))
 have kKK : own_G p e below E0 TKC (mkF m 20 #[vr a] [(.int (0 : Int32)), (.ref a)]) := by
  intro tQ kk
  refine kKJ tQ ?_
  refine XS.aloadN XKE.here hx rfl (hH p18_1_18) rfl rfl ?_
  refine XS.iconst XKE.here hx rfl (hH p18_1_19) ?_
  exact kk
 clear kKJ
 obtain ⟨TKL, hKM, cAKN, XKO, eKP, EKQ, AKR, stKS⟩ := newP (aty := .int) XKE hx hZ (tw41 hw) eKF (g := (mkF m 20 #[vr a] [(.int (0 : Int32)), (.ref a)])) rfl (hH p18_1_20) rfl (by decide) (cap := 0) (by decide) (by decide) (by decide) (by decide)
 obtain ⟨aKT, gKU⟩ : ∃ zA : Nat, zA = hKD.size := ⟨_, rfl⟩
 rw [← gKU] at AKR stKS
 have nKV := own_lt_ne E1.lt gKU
 have nwKW : h0.size ≤ aKT := own_ge_of K0.1 gKU
 have geKX : n0 ≤ aKT := own_ge_of Z0 gKU
 replace Z0 := Nat.le_trans Z0 EKQ.1
 replace E1 := E1.ext EKQ
 replace U1 := U1.ext EKQ
 replace K0 := K0.ext EKQ
 have kKY : own_G p e below E0 TKL (mkF m 22 #[vr a] [(.ref aKT), (.ref a)]) := fun tQ kk => kKK tQ (stKS _ kk)
 clear kKK stKS
 obtain ⟨voKZ, FL0⟩ := fld_laid E1 (Unt.known U1) (tw135 hw) (Or.inl (tw146 hw))
 obtain ⟨TL1, hL2, XL3, eL4, WL5, stL6⟩ := putF XKO hx hZ hown (host := "") (Or.inl (tw145 hw)) Via.refl eKP FL0 E1 (Or.inl (tw146 hw)) (tw135 hw) (ty := (.array .int)) (by decide) rfl rfl (g := (mkF m 22 #[vr a] [(.ref aKT), (.ref a)])) rfl rfl (hH p18_1_22)
 have NL7 := Fr.snoc XL3 NKI ge_a
 have kL8 : own_G p e below E0 TL1 (mkF m 25 #[vr a] []) := fun tQ kk => kKY tQ (stL6 _ kk)
 clear kKY stL6
 replace E1 := E1.wr WL5
 replace U1 := U1.wr WL5
 replace Z0 := own_wrle WL5 Z0
 replace K0 := K0.wr WL5 (Or.inl (List.mem_of_getElem? (i := 0) rfl))
 have kL9 : own_G p e below E0 TL1 (mkF m 27 #[vr a] [(.int (0 : Int32)), (.ref a)]) := by
  intro tQ kk
  refine kL8 tQ ?_
  refine XS.aloadN XL3.here hx rfl (hH p18_1_25) rfl rfl ?_
  refine XS.iconst XL3.here hx rfl (hH p18_1_26) ?_
  exact kk
 clear kL8
 obtain ⟨TLA, hLB, cALC, XLD, eLE, ELF, ALG, stLH⟩ := newP (aty := .int) XL3 hx hZ (tw41 hw) eL4 (g := (mkF m 27 #[vr a] [(.int (0 : Int32)), (.ref a)])) rfl (hH p18_1_27) rfl (by decide) (cap := 0) (by decide) (by decide) (by decide) (by decide)
 obtain ⟨aLI, gLJ⟩ : ∃ zA : Nat, zA = hL2.size := ⟨_, rfl⟩
 rw [← gLJ] at ALG stLH
 have nLK := own_lt_ne E1.lt gLJ
 have nwLL : h0.size ≤ aLI := own_ge_of K0.1 gLJ
 have geLM : n0 ≤ aLI := own_ge_of Z0 gLJ
 replace Z0 := Nat.le_trans Z0 ELF.1
 replace E1 := E1.ext ELF
 replace U1 := U1.ext ELF
 replace K0 := K0.ext ELF
 have kLN : own_G p e below E0 TLA (mkF m 29 #[vr a] [(.ref aLI), (.ref a)]) := fun tQ kk => kL9 tQ (stLH _ kk)
 clear kL9 stLH
 obtain ⟨voLO, FLP⟩ := fld_laid E1 (Unt.known U1) (tw135 hw) (Or.inl (tw148 hw))
 obtain ⟨TLQ, hLR, XLS, eLT, WLU, stLV⟩ := putF XLD hx hZ hown (host := "") (Or.inl (tw147 hw)) Via.refl eLE FLP E1 (Or.inl (tw148 hw)) (tw135 hw) (ty := (.array .int)) (by decide) rfl rfl (g := (mkF m 29 #[vr a] [(.ref aLI), (.ref a)])) rfl rfl (hH p18_1_29)
 have NLW := Fr.snoc XLS NL7 ge_a
 have kLX : own_G p e below E0 TLQ (mkF m 32 #[vr a] []) := fun tQ kk => kLN tQ (stLV _ kk)
 clear kLN stLV
 replace E1 := E1.wr WLU
 replace U1 := U1.wr WLU
 replace Z0 := own_wrle WLU Z0
 replace K0 := K0.wr WLU (Or.inl (List.mem_of_getElem? (i := 0) rfl))
 obtain ⟨fs, hr, hrun, hended, hW, hsame⟩ := XLS.leave (v := none) (fun _ => rfl)
 have hrun0 := kLX _ (XLS.returnOut hx Bd.returns (hH p18_1_32) hr)
 subst hE0
 refine ⟨_, _, hrun0, hrun, hended, _, _, rfl, ?_, ⟨_, rfl⟩, hW, hsame.mono (by decide) (by decide)⟩
 show QrmCl Z a h0 n0 _ TLQ.heap _
 rw [eLT]
 exact ⟨rfl, NLW, K0⟩
def QrmEl (Z : State) (a : Addr) (b : Addr) (h0 : Heap) (n0 : Nat) (vQ : Option Value) (hQ : Heap) (LQ : List Loc) : Prop := vQ = none ∧ Fr n0 LQ ∧ Keep h0 hQ [a]
theorem ef_rmEl (m : MethodId) (a : Addr) (b : Addr) : entryFrame m #[(.ref a), (.ref b)] 2 = mkF m 0 #[vr a, vr b] [] := by first | (simp [entryFrame, mkF, argsToLocals, Value.category]; done) | rfl
abbrev xa6 (Z : State) (h : Heap) (a : Addr) : Prop := Exa Z h a "com/example/netloom/netloom/embed/BasisFactor$Elimination"
abbrev mn7 : MethodName := ⟨"com/example/netloom/netloom/embed/BasisFactor$Elimination", "<init>", "(Lcom/example/netloom/netloom/embed/BasisFactor;)V"⟩
theorem pn_com_example_netloom_netloom_embed_BasisFactor_Elimination : plainName "com/example/netloom/netloom/embed/BasisFactor$Elimination" = true := by first | (simp [plainName, overriddenIn]; done) | decide +kernel
theorem p19_1_0 : decode prog_19_method_1_code 0 = .ok (.aload_n 0, 1) := by decide +kernel
theorem p19_1_1 : decode prog_19_method_1_code 1 = .ok (.aload_n 1, 1) := by decide +kernel
theorem p19_1_2 : decode prog_19_method_1_code 2 = .ok (.putfield 3, 3) := by decide +kernel
def tw117 {Z a0} (hw : HW Z a0) := hw _ (List.mem_of_getElem? (i := 117) rfl)
def tw112 {Z a0} (hw : HW Z a0) := hw _ (List.mem_of_getElem? (i := 112) rfl)
def tw118 {Z a0} (hw : HW Z a0) := hw _ (List.mem_of_getElem? (i := 118) rfl)
theorem p19_1_5 : decode prog_19_method_1_code 5 = .ok (.aload_n 0, 1) := by decide +kernel
theorem p19_1_6 : decode prog_19_method_1_code 6 = .ok (.invokespecial 9, 3) := by decide +kernel
def tw119 {Z a0} (hw : HW Z a0) := hw _ (List.mem_of_getElem? (i := 119) rfl)
theorem p19_1_9 : decode prog_19_method_1_code 9 = .ok (.aload_n 0, 1) := by decide +kernel
theorem p19_1_10 : decode prog_19_method_1_code 10 = .ok (.new 15, 3) := by decide +kernel
def tw120 {Z a0} (hw : HW Z a0) := hw _ (List.mem_of_getElem? (i := 120) rfl)
def tw78 {Z a0} (hw : HW Z a0) := hw _ (List.mem_of_getElem? (i := 78) rfl)
theorem p19_1_13 : decode prog_19_method_1_code 13 = .ok (.dup, 1) := by decide +kernel
theorem p19_1_14 : decode prog_19_method_1_code 14 = .ok (.invokespecial 17, 3) := by decide +kernel
def tw121 {Z a0} (hw : HW Z a0) := hw _ (List.mem_of_getElem? (i := 121) rfl)
def tw81 {Z a0} (hw : HW Z a0) := hw _ (List.mem_of_getElem? (i := 81) rfl)
theorem pd_8 : parseMethodDescriptor "()V" = some ⟨[], none⟩ := by decide +kernel
def tw80 {Z a0} (hw : HW Z a0) := hw _ (List.mem_of_getElem? (i := 80) rfl)
theorem p19_1_17 : decode prog_19_method_1_code 17 = .ok (.putfield 18, 3) := by decide +kernel
def tw122 {Z a0} (hw : HW Z a0) := hw _ (List.mem_of_getElem? (i := 122) rfl)
def tw123 {Z a0} (hw : HW Z a0) := hw _ (List.mem_of_getElem? (i := 123) rfl)
theorem p19_1_20 : decode prog_19_method_1_code 20 = .ok (.aload_n 0, 1) := by decide +kernel
theorem p19_1_21 : decode prog_19_method_1_code 21 = .ok (.iconst 0, 1) := by decide +kernel
theorem p19_1_22 : decode prog_19_method_1_code 22 = .ok (.anewarray 22, 3) := by decide +kernel
def tw124 {Z a0} (hw : HW Z a0) := hw _ (List.mem_of_getElem? (i := 124) rfl)
theorem p19_1_25 : decode prog_19_method_1_code 25 = .ok (.putfield 24, 3) := by decide +kernel
def tw125 {Z a0} (hw : HW Z a0) := hw _ (List.mem_of_getElem? (i := 125) rfl)
def tw126 {Z a0} (hw : HW Z a0) := hw _ (List.mem_of_getElem? (i := 126) rfl)
theorem p19_1_28 : decode prog_19_method_1_code 28 = .ok (.aload_n 0, 1) := by decide +kernel
theorem p19_1_29 : decode prog_19_method_1_code 29 = .ok (.iconst 0, 1) := by decide +kernel
theorem p19_1_30 : decode prog_19_method_1_code 30 = .ok (.newarray .int, 2) := by decide +kernel
theorem p19_1_32 : decode prog_19_method_1_code 32 = .ok (.putfield 28, 3) := by decide +kernel
def tw127 {Z a0} (hw : HW Z a0) := hw _ (List.mem_of_getElem? (i := 127) rfl)
def tw128 {Z a0} (hw : HW Z a0) := hw _ (List.mem_of_getElem? (i := 128) rfl)
theorem p19_1_35 : decode prog_19_method_1_code 35 = .ok (.aload_n 0, 1) := by decide +kernel
theorem p19_1_36 : decode prog_19_method_1_code 36 = .ok (.iconst 0, 1) := by decide +kernel
theorem p19_1_37 : decode prog_19_method_1_code 37 = .ok (.newarray .int, 2) := by decide +kernel
theorem p19_1_39 : decode prog_19_method_1_code 39 = .ok (.putfield 31, 3) := by decide +kernel
def tw129 {Z a0} (hw : HW Z a0) := hw _ (List.mem_of_getElem? (i := 129) rfl)
def tw130 {Z a0} (hw : HW Z a0) := hw _ (List.mem_of_getElem? (i := 130) rfl)
theorem p19_1_42 : decode prog_19_method_1_code 42 = .ok (.aload_n 0, 1) := by decide +kernel
theorem p19_1_43 : decode prog_19_method_1_code 43 = .ok (.iconst 0, 1) := by decide +kernel
theorem p19_1_44 : decode prog_19_method_1_code 44 = .ok (.newarray .boolean, 2) := by decide +kernel
def tw131 {Z a0} (hw : HW Z a0) := hw _ (List.mem_of_getElem? (i := 131) rfl)
theorem p19_1_46 : decode prog_19_method_1_code 46 = .ok (.putfield 34, 3) := by decide +kernel
def tw132 {Z a0} (hw : HW Z a0) := hw _ (List.mem_of_getElem? (i := 132) rfl)
def tw133 {Z a0} (hw : HW Z a0) := hw _ (List.mem_of_getElem? (i := 133) rfl)
theorem p19_1_49 : decode prog_19_method_1_code 49 = .ok (.aload_n 0, 1) := by decide +kernel
theorem p19_1_50 : decode prog_19_method_1_code 50 = .ok (.new 38, 3) := by decide +kernel
def tw134 {Z a0} (hw : HW Z a0) := hw _ (List.mem_of_getElem? (i := 134) rfl)
def tw136 {Z a0} (hw : HW Z a0) := hw _ (List.mem_of_getElem? (i := 136) rfl)
theorem p19_1_53 : decode prog_19_method_1_code 53 = .ok (.dup, 1) := by decide +kernel
theorem p19_1_54 : decode prog_19_method_1_code 54 = .ok (.invokespecial 40, 3) := by decide +kernel
def tw137 {Z a0} (hw : HW Z a0) := hw _ (List.mem_of_getElem? (i := 137) rfl)
def tw139 {Z a0} (hw : HW Z a0) := hw _ (List.mem_of_getElem? (i := 139) rfl)
def tw138 {Z a0} (hw : HW Z a0) := hw _ (List.mem_of_getElem? (i := 138) rfl)
theorem p19_1_57 : decode prog_19_method_1_code 57 = .ok (.putfield 41, 3) := by decide +kernel
def tw149 {Z a0} (hw : HW Z a0) := hw _ (List.mem_of_getElem? (i := 149) rfl)
def tw150 {Z a0} (hw : HW Z a0) := hw _ (List.mem_of_getElem? (i := 150) rfl)
theorem p19_1_60 : decode prog_19_method_1_code 60 = .ok (.aload_n 0, 1) := by decide +kernel
theorem p19_1_61 : decode prog_19_method_1_code 61 = .ok (.new 38, 3) := by decide +kernel
theorem p19_1_64 : decode prog_19_method_1_code 64 = .ok (.dup, 1) := by decide +kernel
theorem p19_1_65 : decode prog_19_method_1_code 65 = .ok (.invokespecial 40, 3) := by decide +kernel
theorem p19_1_68 : decode prog_19_method_1_code 68 = .ok (.putfield 45, 3) := by decide +kernel
def tw151 {Z a0} (hw : HW Z a0) := hw _ (List.mem_of_getElem? (i := 151) rfl)
def tw152 {Z a0} (hw : HW Z a0) := hw _ (List.mem_of_getElem? (i := 152) rfl)
theorem p19_1_71 : decode prog_19_method_1_code 71 = .ok (.aload_n 0, 1) := by decide +kernel
theorem p19_1_72 : decode prog_19_method_1_code 72 = .ok (.iconst 0, 1) := by decide +kernel
theorem p19_1_73 : decode prog_19_method_1_code 73 = .ok (.newarray .double, 2) := by decide +kernel
theorem p19_1_75 : decode prog_19_method_1_code 75 = .ok (.putfield 48, 3) := by decide +kernel
def tw153 {Z a0} (hw : HW Z a0) := hw _ (List.mem_of_getElem? (i := 153) rfl)
def tw154 {Z a0} (hw : HW Z a0) := hw _ (List.mem_of_getElem? (i := 154) rfl)
theorem p19_1_78 : decode prog_19_method_1_code 78 = .ok (.aload_n 0, 1) := by decide +kernel
theorem p19_1_79 : decode prog_19_method_1_code 79 = .ok (.iconst 0, 1) := by decide +kernel
theorem p19_1_80 : decode prog_19_method_1_code 80 = .ok (.newarray .int, 2) := by decide +kernel
theorem p19_1_82 : decode prog_19_method_1_code 82 = .ok (.putfield 52, 3) := by decide +kernel
def tw155 {Z a0} (hw : HW Z a0) := hw _ (List.mem_of_getElem? (i := 155) rfl)
def tw156 {Z a0} (hw : HW Z a0) := hw _ (List.mem_of_getElem? (i := 156) rfl)
theorem p19_1_85 : decode prog_19_method_1_code 85 = .ok (.aload_n 0, 1) := by decide +kernel
theorem p19_1_86 : decode prog_19_method_1_code 86 = .ok (.iconst 0, 1) := by decide +kernel
theorem p19_1_87 : decode prog_19_method_1_code 87 = .ok (.newarray .int, 2) := by decide +kernel
theorem p19_1_89 : decode prog_19_method_1_code 89 = .ok (.putfield 55, 3) := by decide +kernel
def tw157 {Z a0} (hw : HW Z a0) := hw _ (List.mem_of_getElem? (i := 157) rfl)
def tw158 {Z a0} (hw : HW Z a0) := hw _ (List.mem_of_getElem? (i := 158) rfl)
theorem p19_1_92 : decode prog_19_method_1_code 92 = .ok (.return_, 1) := by decide +kernel
set_option maxRecDepth 65536 in
set_option maxHeartbeats 40000000 in
theorem rmEl (l : Launch) (Z : State) (a0 : Array Value) (hw : ∀ d ∈ tables_1, d.before a0 Z = true) (ws : List Jvm.Cond) (a : Addr) (b : Addr) (h0 : Heap) (n0 : Nat) (Z0 : n0 ≤ h0.size) (E1 : xa6 Z h0 a) (U1 : Unt h0 a) (ge_a : n0 ≤ a) :
  MetFree l mn7 (head1 (Jvm.Cond.code mn7 prog_19_method_1_code 2 none :: ws) ({ frames := 2, cells := 21, slots := 11, locals := 30 } : Room)) (fun aA U => aA = #[(.ref a), (.ref b)] ∧ Z.Warmed39 U.vm ∧ U.heap = h0) (fun _ _ _ _ _ => True) (fun _ U o U' => ∃ vR LR, o = .returned vR ∧ QrmEl Z a b h0 n0 vR U'.heap LR ∧ FrameEnd U o U' LR ({ frames := 2, cells := 21, slots := 11, locals := 30 } : Room).cells ({ frames := 2, cells := 21, slots := 11, locals := 30 } : Room).slots) := by
 refine MetFree.of_bodySF (plainFor_of_name pn_com_example_netloom_netloom_embed_BasisFactor_Elimination) hisR ?_
 intro p e s m args below meth c s₁ Bd hml0 hPre hKk
 obtain ⟨rfl, hZ, hh⟩ := hPre
 have hx := Bd.exec
 have hby := Bd.bytes
 have hH : ∀ {pc r}, decode prog_19_method_1_code pc = r → decode c.code pc = r := fun q => hb hby q
 have hml : c.maxLocals = 2 := hml0
 have hown : s.vm.findClass "com/example/netloom/netloom/embed/BasisFactor$Elimination" = some m.cls := findClass_of_methodNamed Bd.named
 have hnm := (name_of_methodNamed Bd.named Bd.method).1
 have X0 : Stand p l e ({ frames := 2, cells := 21, slots := 11, locals := 30 } : Room) s m #[(.ref a), (.ref b)] below meth c s₁ [] 0 0 := Stand.of_body Bd
 have e0 : s₁.heap = h0 := by rw [← hh, Bd.state]; rfl
 have N0 := Fr.nil n0
 obtain ⟨E0, hE0⟩ : ∃ zE : State, zE = s₁.setTop (entryFrame m #[(.ref a), (.ref b)] 2) := ⟨_, rfl⟩
 have k0 : own_G p e below E0 s₁ (mkF m 0 #[vr a, vr b] []) := fun tz kz => hE0 ▸ castTop (ef_rmEl m a b) kz
 have K0 : Keep h0 h0 [a] := Keep.refl _ _
 have kJ0 : own_G p e below E0 s₁ (mkF m 2 #[vr a, vr b] [(.ref b), (.ref a)]) := by
  intro tQ kk
  refine k0 tQ ?_
  refine XS.aloadN X0.here hx rfl (hH p19_1_0) rfl rfl ?_
  refine XS.aloadN X0.here hx rfl (hH p19_1_1) rfl rfl ?_
  exact kk
 clear k0
 obtain ⟨voJ1, FJ2⟩ := fld_laid E1 (Unt.known U1) (tw112 hw) (Or.inr (tw118 hw))
 obtain ⟨TJ3, hJ4, XJ5, eJ6, WJ7, stJ8⟩ := putF X0 hx hZ hown (host := "") (Or.inl (tw117 hw)) Via.refl e0 FJ2 E1 (Or.inr ⟨(tw118 hw), rfl, hnm⟩) (tw112 hw) (ty := (.object "com/example/netloom/netloom/embed/BasisFactor")) (by decide) rfl rfl (g := (mkF m 2 #[vr a, vr b] [(.ref b), (.ref a)])) rfl rfl (hH p19_1_2)
 have NJ9 := Fr.snoc XJ5 N0 ge_a
 have kJA : own_G p e below E0 TJ3 (mkF m 5 #[vr a, vr b] []) := fun tQ kk => kJ0 tQ (stJ8 _ kk)
 clear kJ0 stJ8
 replace E1 := E1.wr WJ7
 replace U1 := U1.wr WJ7
 replace Z0 := own_wrle WJ7 Z0
 replace K0 := K0.wr WJ7 (Or.inl (List.mem_of_getElem? (i := 0) rfl))
 have kJB : own_G p e below E0 TJ3 (mkF m 6 #[vr a, vr b] [(.ref a)]) := by
  intro tQ kk
  refine kJA tQ ?_
  refine XS.aloadN XJ5.here hx rfl (hH p19_1_5) rfl rfl ?_
  exact kk
 clear kJA
 obtain ⟨TJC, XJD, eJE, stJF⟩ := initO XJ5 hx hZ hown (tw119 hw) (tw8 hw) (tw9 hw) eJ6 (g := (mkF m 6 #[vr a, vr b] [(.ref a)])) rfl (by rw [hml]; rfl) rfl (hH p19_1_6) (by decide) (W := 0) (by show 2 * 0 + _ ≤ _; exact Nat.le_of_eq rfl) (by decide)
 have kJG : own_G p e below E0 TJC (mkF m 9 #[vr a, vr b] []) := fun tQ kk => kJB tQ (stJF _ kk)
 clear kJB stJF
 have kJH : own_G p e below E0 TJC (mkF m 10 #[vr a, vr b] [(.ref a)]) := by
  intro tQ kk
  refine kJG tQ ?_
  refine XS.aloadN XJD.here hx rfl (hH p19_1_9) rfl rfl ?_
  exact kk
 clear kJG
 obtain ⟨TJI, hJJ, XJK, eJL, EJM, AJN, DJO, UnJS, stJP⟩ := newO XJD hx hZ hown (tw120 hw) (tw77 hw) (tw78 hw) eJE (g := (mkF m 10 #[vr a, vr b] [(.ref a)])) rfl (hH p19_1_10) (by decide) (by decide)
 obtain ⟨aJQ, gJR⟩ : ∃ zA : Nat, zA = hJ4.size := ⟨_, rfl⟩
 rw [← gJR] at AJN DJO stJP UnJS
 have nJT := own_lt_ne E1.lt gJR
 have nwJU : h0.size ≤ aJQ := own_ge_of K0.1 gJR
 have geJV : n0 ≤ aJQ := own_ge_of Z0 gJR
 replace Z0 := Nat.le_trans Z0 EJM.1
 replace E1 := E1.ext EJM
 replace U1 := U1.ext EJM
 replace K0 := K0.ext EJM
 have UnJW : Unt hJJ aJQ := UnJS
 have kJX : own_G p e below E0 TJI (mkF m 13 #[vr a, vr b] [(.ref aJQ), (.ref a)]) := fun tQ kk => kJH tQ (stJP _ kk)
 clear kJH stJP
 have kJY : own_G p e below E0 TJI (mkF m 14 #[vr a, vr b] [(.ref aJQ), (.ref aJQ), (.ref a)]) := by
  intro tQ kk
  refine kJX tQ ?_
  refine XS.dup XJK.here hx rfl (hH p19_1_13) rfl rfl ?_
  exact kk
 clear kJX
 obtain ⟨_, _, ⟨TJZ, LK0, kcK1, ncK2⟩, -, XK3, ⟨LcK4, hQK5, lK6, yK7, zK8⟩, stK9⟩ := XJK.specialBackNest hx (y := mn3) rfl hown (own_mvNest hZ (tw121 hw)) (mvT hZ (tw80 hw)) (mvT hZ (tw81 hw)) (by decide) (backOf (W := 2) (rmEn l Z a0 hw [] aJQ hJJ n0 Z0 AJN UnJW geJV) hZ (tw81 hw) (tw78 hw) (by decide) (by decide)) (g := (mkF m 14 #[vr a, vr b] [(.ref aJQ), (.ref aJQ), (.ref a)])) rfl (by rw [hml]; rfl) (Steps.refl _) (a := aJQ) (argsL := []) (rest := [(.ref aJQ), (.ref a)]) (lenOf pd_8 rfl) rfl (by show 2 * 0 + _ ≤ _; exact Nat.le_of_eq rfl) (hH p19_1_14) (fun _ _ => ⟨rfl, eJL, (by decide : 1 + 3 ≤ _), (by decide : 3 + 0 ≤ _)⟩)
 dsimp only [Pt.U, Pt.locs, Pt.cells, Pt.slots] at XK3 lK6 yK7 zK8 stK9 hQK5
 subst yK7 zK8
 obtain ⟨rfl, NKA, KKD⟩ := hQK5
 have NKE : Fr n0 LK0 := by rw [lK6]; exact Fr.app NJ9 NKA
 clear lK6 NKA
 replace Z0 := Nat.le_trans Z0 KKD.1
 replace E1 := E1.keep KKD
 replace U1 := U1.keep KKD (ninS nJT nin0)
 replace AJN := AJN.keep KKD
 clear UnJW
 replace K0 := K0.trans KKD (allS (Or.inr nwJU) all0)
 have kKF : own_G p e below E0 TJZ (mkF m 17 #[vr a, vr b] [(.ref aJQ), (.ref a)]) := fun tQ kk => kJY tQ (stK9.trans kk)
 clear kJY stK9
 obtain ⟨voKG, FKH⟩ := fld_laid E1 (Unt.known U1) (tw112 hw) (Or.inr (tw123 hw))
 obtain ⟨TKI, hKJ, XKK, eKL, WKM, stKN⟩ := putF XK3 hx hZ hown (host := "") (Or.inl (tw122 hw)) Via.refl rfl FKH E1 (Or.inr ⟨(tw123 hw), rfl, hnm⟩) (tw112 hw) (ty := (.object "com/example/netloom/netloom/embed/BasisFactor$Entries")) (by decide) rfl rfl (g := (mkF m 17 #[vr a, vr b] [(.ref aJQ), (.ref a)])) rfl rfl (hH p19_1_17)
 have NKO := Fr.snoc XKK NKE ge_a
 have kKP : own_G p e below E0 TKI (mkF m 20 #[vr a, vr b] []) := fun tQ kk => kKF tQ (stKN _ kk)
 clear kKF stKN
 replace E1 := E1.wr WKM
 replace U1 := U1.wr WKM
 replace AJN := AJN.wr WKM
 replace Z0 := own_wrle WKM Z0
 replace K0 := K0.wr WKM (Or.inl (List.mem_of_getElem? (i := 0) rfl))
 have kKQ : own_G p e below E0 TKI (mkF m 22 #[vr a, vr b] [(.int (0 : Int32)), (.ref a)]) := by
  intro tQ kk
  refine kKP tQ ?_
  refine XS.aloadN XKK.here hx rfl (hH p19_1_20) rfl rfl ?_
  refine XS.iconst XKK.here hx rfl (hH p19_1_21) ?_
  exact kk
 clear kKP
 obtain ⟨TKR, hKS, cAKT, XKU, eKV, EKW, -, -, -, stKZ⟩ := newRA (ty := .int) XKK hx hZ hown rfl (tw124 hw) (tw84 hw) eKL (g := (mkF m 22 #[vr a, vr b] [(.int (0 : Int32)), (.ref a)])) rfl (hH p19_1_22) rfl (by decide) (cap := 0) (by decide) (by decide) (by decide) (by decide) rfl
 obtain ⟨aL0, gL1⟩ : ∃ zA : Nat, zA = hKJ.size := ⟨_, rfl⟩
 rw [← gL1] at stKZ
 have nL2 := own_lt_ne E1.lt gL1
 have nL3 := own_lt_ne AJN.lt gL1
 have nwL4 : h0.size ≤ aL0 := own_ge_of K0.1 gL1
 have geL5 : n0 ≤ aL0 := own_ge_of Z0 gL1
 replace Z0 := Nat.le_trans Z0 EKW.1
 replace E1 := E1.ext EKW
 replace U1 := U1.ext EKW
 replace AJN := AJN.ext EKW
 replace K0 := K0.ext EKW
 have kL6 : own_G p e below E0 TKR (mkF m 25 #[vr a, vr b] [(.ref aL0), (.ref a)]) := fun tQ kk => kKQ tQ (stKZ _ kk)
 clear kKQ stKZ
 obtain ⟨voL7, FL8⟩ := fld_laid E1 (Unt.known U1) (tw112 hw) (Or.inl (tw126 hw))
 obtain ⟨TL9, hLA, XLB, eLC, WLD, stLE⟩ := putF XKU hx hZ hown (host := "") (Or.inl (tw125 hw)) Via.refl eKV FL8 E1 (Or.inl (tw126 hw)) (tw112 hw) (ty := (.array (.array .int))) (by decide) rfl rfl (g := (mkF m 25 #[vr a, vr b] [(.ref aL0), (.ref a)])) rfl rfl (hH p19_1_25)
 have NLF := Fr.snoc XLB NKO ge_a
 have kLG : own_G p e below E0 TL9 (mkF m 28 #[vr a, vr b] []) := fun tQ kk => kL6 tQ (stLE _ kk)
 clear kL6 stLE
 replace E1 := E1.wr WLD
 replace U1 := U1.wr WLD
 replace AJN := AJN.wr WLD
 replace Z0 := own_wrle WLD Z0
 replace K0 := K0.wr WLD (Or.inl (List.mem_of_getElem? (i := 0) rfl))
 have kLH : own_G p e below E0 TL9 (mkF m 30 #[vr a, vr b] [(.int (0 : Int32)), (.ref a)]) := by
  intro tQ kk
  refine kLG tQ ?_
  refine XS.aloadN XLB.here hx rfl (hH p19_1_28) rfl rfl ?_
  refine XS.iconst XLB.here hx rfl (hH p19_1_29) ?_
  exact kk
 clear kLG
 obtain ⟨TLI, hLJ, cALK, XLL, eLM, ELN, ALO, stLP⟩ := newP (aty := .int) XLB hx hZ (tw41 hw) eLC (g := (mkF m 30 #[vr a, vr b] [(.int (0 : Int32)), (.ref a)])) rfl (hH p19_1_30) rfl (by decide) (cap := 0) (by decide) (by decide) (by decide) (by decide)
 obtain ⟨aLQ, gLR⟩ : ∃ zA : Nat, zA = hLA.size := ⟨_, rfl⟩
 rw [← gLR] at ALO stLP
 have nLS := own_lt_ne E1.lt gLR
 have nLT := own_lt_ne AJN.lt gLR
 have nwLU : h0.size ≤ aLQ := own_ge_of K0.1 gLR
 have geLV : n0 ≤ aLQ := own_ge_of Z0 gLR
 replace Z0 := Nat.le_trans Z0 ELN.1
 replace E1 := E1.ext ELN
 replace U1 := U1.ext ELN
 replace AJN := AJN.ext ELN
 replace K0 := K0.ext ELN
 have kLW : own_G p e below E0 TLI (mkF m 32 #[vr a, vr b] [(.ref aLQ), (.ref a)]) := fun tQ kk => kLH tQ (stLP _ kk)
 clear kLH stLP
 obtain ⟨voLX, FLY⟩ := fld_laid E1 (Unt.known U1) (tw112 hw) (Or.inl (tw128 hw))
 obtain ⟨TLZ, hM0, XM1, eM2, WM3, stM4⟩ := putF XLL hx hZ hown (host := "") (Or.inl (tw127 hw)) Via.refl eLM FLY E1 (Or.inl (tw128 hw)) (tw112 hw) (ty := (.array .int)) (by decide) rfl rfl (g := (mkF m 32 #[vr a, vr b] [(.ref aLQ), (.ref a)])) rfl rfl (hH p19_1_32)
 have NM5 := Fr.snoc XM1 NLF ge_a
 have kM6 : own_G p e below E0 TLZ (mkF m 35 #[vr a, vr b] []) := fun tQ kk => kLW tQ (stM4 _ kk)
 clear kLW stM4
 replace E1 := E1.wr WM3
 replace U1 := U1.wr WM3
 replace AJN := AJN.wr WM3
 replace Z0 := own_wrle WM3 Z0
 replace K0 := K0.wr WM3 (Or.inl (List.mem_of_getElem? (i := 0) rfl))
 have kM7 : own_G p e below E0 TLZ (mkF m 37 #[vr a, vr b] [(.int (0 : Int32)), (.ref a)]) := by
  intro tQ kk
  refine kM6 tQ ?_
  refine XS.aloadN XM1.here hx rfl (hH p19_1_35) rfl rfl ?_
  refine XS.iconst XM1.here hx rfl (hH p19_1_36) ?_
  exact kk
 clear kM6
 obtain ⟨TM8, hM9, cAMA, XMB, eMC, EMD, AME, stMF⟩ := newP (aty := .int) XM1 hx hZ (tw41 hw) eM2 (g := (mkF m 37 #[vr a, vr b] [(.int (0 : Int32)), (.ref a)])) rfl (hH p19_1_37) rfl (by decide) (cap := 0) (by decide) (by decide) (by decide) (by decide)
 obtain ⟨aMG, gMH⟩ : ∃ zA : Nat, zA = hM0.size := ⟨_, rfl⟩
 rw [← gMH] at AME stMF
 have nMI := own_lt_ne E1.lt gMH
 have nMJ := own_lt_ne AJN.lt gMH
 have nwMK : h0.size ≤ aMG := own_ge_of K0.1 gMH
 have geML : n0 ≤ aMG := own_ge_of Z0 gMH
 replace Z0 := Nat.le_trans Z0 EMD.1
 replace E1 := E1.ext EMD
 replace U1 := U1.ext EMD
 replace AJN := AJN.ext EMD
 replace K0 := K0.ext EMD
 have kMM : own_G p e below E0 TM8 (mkF m 39 #[vr a, vr b] [(.ref aMG), (.ref a)]) := fun tQ kk => kM7 tQ (stMF _ kk)
 clear kM7 stMF
 obtain ⟨voMN, FMO⟩ := fld_laid E1 (Unt.known U1) (tw112 hw) (Or.inl (tw130 hw))
 obtain ⟨TMP, hMQ, XMR, eMS, WMT, stMU⟩ := putF XMB hx hZ hown (host := "") (Or.inl (tw129 hw)) Via.refl eMC FMO E1 (Or.inl (tw130 hw)) (tw112 hw) (ty := (.array .int)) (by decide) rfl rfl (g := (mkF m 39 #[vr a, vr b] [(.ref aMG), (.ref a)])) rfl rfl (hH p19_1_39)
 have NMV := Fr.snoc XMR NM5 ge_a
 have kMW : own_G p e below E0 TMP (mkF m 42 #[vr a, vr b] []) := fun tQ kk => kMM tQ (stMU _ kk)
 clear kMM stMU
 replace E1 := E1.wr WMT
 replace U1 := U1.wr WMT
 replace AJN := AJN.wr WMT
 replace Z0 := own_wrle WMT Z0
 replace K0 := K0.wr WMT (Or.inl (List.mem_of_getElem? (i := 0) rfl))
 have kMX : own_G p e below E0 TMP (mkF m 44 #[vr a, vr b] [(.int (0 : Int32)), (.ref a)]) := by
  intro tQ kk
  refine kMW tQ ?_
  refine XS.aloadN XMR.here hx rfl (hH p19_1_42) rfl rfl ?_
  refine XS.iconst XMR.here hx rfl (hH p19_1_43) ?_
  exact kk
 clear kMW
 obtain ⟨TMY, hMZ, cAN0, XN1, eN2, EN3, AN4, stN5⟩ := newP (aty := .boolean) XMR hx hZ (tw131 hw) eMS (g := (mkF m 44 #[vr a, vr b] [(.int (0 : Int32)), (.ref a)])) rfl (hH p19_1_44) rfl (by decide) (cap := 0) (by decide) (by decide) (by decide) (by decide)
 obtain ⟨aN6, gN7⟩ : ∃ zA : Nat, zA = hMQ.size := ⟨_, rfl⟩
 rw [← gN7] at AN4 stN5
 have nN8 := own_lt_ne E1.lt gN7
 have nN9 := own_lt_ne AJN.lt gN7
 have nwNA : h0.size ≤ aN6 := own_ge_of K0.1 gN7
 have geNB : n0 ≤ aN6 := own_ge_of Z0 gN7
 replace Z0 := Nat.le_trans Z0 EN3.1
 replace E1 := E1.ext EN3
 replace U1 := U1.ext EN3
 replace AJN := AJN.ext EN3
 replace K0 := K0.ext EN3
 have kNC : own_G p e below E0 TMY (mkF m 46 #[vr a, vr b] [(.ref aN6), (.ref a)]) := fun tQ kk => kMX tQ (stN5 _ kk)
 clear kMX stN5
 obtain ⟨voND, FNE⟩ := fld_laid E1 (Unt.known U1) (tw112 hw) (Or.inl (tw133 hw))
 obtain ⟨TNF, hNG, XNH, eNI, WNJ, stNK⟩ := putF XN1 hx hZ hown (host := "") (Or.inl (tw132 hw)) Via.refl eN2 FNE E1 (Or.inl (tw133 hw)) (tw112 hw) (ty := (.array .boolean)) (by decide) rfl rfl (g := (mkF m 46 #[vr a, vr b] [(.ref aN6), (.ref a)])) rfl rfl (hH p19_1_46)
 have NNL := Fr.snoc XNH NMV ge_a
 have kNM : own_G p e below E0 TNF (mkF m 49 #[vr a, vr b] []) := fun tQ kk => kNC tQ (stNK _ kk)
 clear kNC stNK
 replace E1 := E1.wr WNJ
 replace U1 := U1.wr WNJ
 replace AJN := AJN.wr WNJ
 replace Z0 := own_wrle WNJ Z0
 replace K0 := K0.wr WNJ (Or.inl (List.mem_of_getElem? (i := 0) rfl))
 have kNN : own_G p e below E0 TNF (mkF m 50 #[vr a, vr b] [(.ref a)]) := by
  intro tQ kk
  refine kNM tQ ?_
  refine XS.aloadN XNH.here hx rfl (hH p19_1_49) rfl rfl ?_
  exact kk
 clear kNM
 obtain ⟨TNO, hNP, XNQ, eNR, ENS, ANT, DNU, UnNY, stNV⟩ := newO XNH hx hZ hown (tw134 hw) (tw135 hw) (tw136 hw) eNI (g := (mkF m 50 #[vr a, vr b] [(.ref a)])) rfl (hH p19_1_50) (by decide) (by decide)
 obtain ⟨aNW, gNX⟩ : ∃ zA : Nat, zA = hNG.size := ⟨_, rfl⟩
 rw [← gNX] at ANT DNU stNV UnNY
 have nNZ := own_lt_ne E1.lt gNX
 have nP0 := own_lt_ne AJN.lt gNX
 have nwP1 : h0.size ≤ aNW := own_ge_of K0.1 gNX
 have geP2 : n0 ≤ aNW := own_ge_of Z0 gNX
 replace Z0 := Nat.le_trans Z0 ENS.1
 replace E1 := E1.ext ENS
 replace U1 := U1.ext ENS
 replace AJN := AJN.ext ENS
 replace K0 := K0.ext ENS
 have UnP3 : Unt hNP aNW := UnNY
 have kP4 : own_G p e below E0 TNO (mkF m 53 #[vr a, vr b] [(.ref aNW), (.ref a)]) := fun tQ kk => kNN tQ (stNV _ kk)
 clear kNN stNV
 have kP5 : own_G p e below E0 TNO (mkF m 54 #[vr a, vr b] [(.ref aNW), (.ref aNW), (.ref a)]) := by
  intro tQ kk
  refine kP4 tQ ?_
  refine XS.dup XNQ.here hx rfl (hH p19_1_53) rfl rfl ?_
  exact kk
 clear kP4
 obtain ⟨_, _, ⟨TP6, LP7, kcP8, ncP9⟩, -, XPA, ⟨LcPB, hQPC, lPD, yPE, zPF⟩, stPG⟩ := XNQ.specialBackNest hx (y := mn5) rfl hown (own_mvNest hZ (tw137 hw)) (mvT hZ (tw138 hw)) (mvT hZ (tw139 hw)) (by decide) (backOf (W := 2) (rmCl l Z a0 hw [] aNW hNP n0 Z0 ANT UnP3 geP2) hZ (tw139 hw) (tw136 hw) (by decide) (by decide)) (g := (mkF m 54 #[vr a, vr b] [(.ref aNW), (.ref aNW), (.ref a)])) rfl (by rw [hml]; rfl) (Steps.refl _) (a := aNW) (argsL := []) (rest := [(.ref aNW), (.ref a)]) (lenOf pd_8 rfl) rfl (by show 2 * 0 + _ ≤ _; exact Nat.le_of_eq rfl) (hH p19_1_54) (fun _ _ => ⟨rfl, eNR, (by decide : 9 + 4 ≤ _), (by decide : 7 + 0 ≤ _)⟩)
 dsimp only [Pt.U, Pt.locs, Pt.cells, Pt.slots] at XPA lPD yPE zPF stPG hQPC
 subst yPE zPF
 obtain ⟨rfl, NPH, KPK⟩ := hQPC
 have NPL : Fr n0 LP7 := by rw [lPD]; exact Fr.app NNL NPH
 clear lPD NPH
 replace Z0 := Nat.le_trans Z0 KPK.1
 replace E1 := E1.keep KPK
 replace U1 := U1.keep KPK (ninS nNZ nin0)
 replace AJN := AJN.keep KPK
 replace ANT := ANT.keep KPK
 clear UnP3
 replace K0 := K0.trans KPK (allS (Or.inr nwP1) all0)
 have kPM : own_G p e below E0 TP6 (mkF m 57 #[vr a, vr b] [(.ref aNW), (.ref a)]) := fun tQ kk => kP5 tQ (stPG.trans kk)
 clear kP5 stPG
 obtain ⟨voPN, FPO⟩ := fld_laid E1 (Unt.known U1) (tw112 hw) (Or.inr (tw150 hw))
 obtain ⟨TPP, hPQ, XPR, ePS, WPT, stPU⟩ := putF XPA hx hZ hown (host := "") (Or.inl (tw149 hw)) Via.refl rfl FPO E1 (Or.inr ⟨(tw150 hw), rfl, hnm⟩) (tw112 hw) (ty := (.object "com/example/netloom/netloom/embed/BasisFactor$CountLists")) (by decide) rfl rfl (g := (mkF m 57 #[vr a, vr b] [(.ref aNW), (.ref a)])) rfl rfl (hH p19_1_57)
 have NPV := Fr.snoc XPR NPL ge_a
 have kPW : own_G p e below E0 TPP (mkF m 60 #[vr a, vr b] []) := fun tQ kk => kPM tQ (stPU _ kk)
 clear kPM stPU
 replace E1 := E1.wr WPT
 replace U1 := U1.wr WPT
 replace AJN := AJN.wr WPT
 replace ANT := ANT.wr WPT
 replace Z0 := own_wrle WPT Z0
 replace K0 := K0.wr WPT (Or.inl (List.mem_of_getElem? (i := 0) rfl))
 have kPX : own_G p e below E0 TPP (mkF m 61 #[vr a, vr b] [(.ref a)]) := by
  intro tQ kk
  refine kPW tQ ?_
  refine XS.aloadN XPR.here hx rfl (hH p19_1_60) rfl rfl ?_
  exact kk
 clear kPW
 obtain ⟨TPY, hPZ, XQ0, eQ1, EQ2, AQ3, DQ4, UnQ8, stQ5⟩ := newO XPR hx hZ hown (tw134 hw) (tw135 hw) (tw136 hw) ePS (g := (mkF m 61 #[vr a, vr b] [(.ref a)])) rfl (hH p19_1_61) (by decide) (by decide)
 obtain ⟨aQ6, gQ7⟩ : ∃ zA : Nat, zA = hPQ.size := ⟨_, rfl⟩
 rw [← gQ7] at AQ3 DQ4 stQ5 UnQ8
 have nQ9 := own_lt_ne E1.lt gQ7
 have nQA := own_lt_ne AJN.lt gQ7
 have nQB := own_lt_ne ANT.lt gQ7
 have nwQC : h0.size ≤ aQ6 := own_ge_of K0.1 gQ7
 have geQD : n0 ≤ aQ6 := own_ge_of Z0 gQ7
 replace Z0 := Nat.le_trans Z0 EQ2.1
 replace E1 := E1.ext EQ2
 replace U1 := U1.ext EQ2
 replace AJN := AJN.ext EQ2
 replace ANT := ANT.ext EQ2
 replace K0 := K0.ext EQ2
 have UnQE : Unt hPZ aQ6 := UnQ8
 have kQF : own_G p e below E0 TPY (mkF m 64 #[vr a, vr b] [(.ref aQ6), (.ref a)]) := fun tQ kk => kPX tQ (stQ5 _ kk)
 clear kPX stQ5
 have kQG : own_G p e below E0 TPY (mkF m 65 #[vr a, vr b] [(.ref aQ6), (.ref aQ6), (.ref a)]) := by
  intro tQ kk
  refine kQF tQ ?_
  refine XS.dup XQ0.here hx rfl (hH p19_1_64) rfl rfl ?_
  exact kk
 clear kQF
 obtain ⟨_, _, ⟨TQH, LQI, kcQJ, ncQK⟩, -, XQL, ⟨LcQM, hQQN, lQO, yQP, zQQ⟩, stQR⟩ := XQ0.specialBackNest hx (y := mn5) rfl hown (own_mvNest hZ (tw137 hw)) (mvT hZ (tw138 hw)) (mvT hZ (tw139 hw)) (by decide) (backOf (W := 2) (rmCl l Z a0 hw [] aQ6 hPZ n0 Z0 AQ3 UnQE geQD) hZ (tw139 hw) (tw136 hw) (by decide) (by decide)) (g := (mkF m 65 #[vr a, vr b] [(.ref aQ6), (.ref aQ6), (.ref a)])) rfl (by rw [hml]; rfl) (Steps.refl _) (a := aQ6) (argsL := []) (rest := [(.ref aQ6), (.ref a)]) (lenOf pd_8 rfl) rfl (by show 2 * 0 + _ ≤ _; exact Nat.le_of_eq rfl) (hH p19_1_65) (fun _ _ => ⟨rfl, eQ1, (by decide : 14 + 4 ≤ _), (by decide : 11 + 0 ≤ _)⟩)
 dsimp only [Pt.U, Pt.locs, Pt.cells, Pt.slots] at XQL lQO yQP zQQ stQR hQQN
 subst yQP zQQ
 obtain ⟨rfl, NQS, KQV⟩ := hQQN
 have NQW : Fr n0 LQI := by rw [lQO]; exact Fr.app NPV NQS
 clear lQO NQS
 replace Z0 := Nat.le_trans Z0 KQV.1
 replace E1 := E1.keep KQV
 replace U1 := U1.keep KQV (ninS nQ9 nin0)
 replace AJN := AJN.keep KQV
 replace ANT := ANT.keep KQV
 replace AQ3 := AQ3.keep KQV
 clear UnQE
 replace K0 := K0.trans KQV (allS (Or.inr nwQC) all0)
 have kQX : own_G p e below E0 TQH (mkF m 68 #[vr a, vr b] [(.ref aQ6), (.ref a)]) := fun tQ kk => kQG tQ (stQR.trans kk)
 clear kQG stQR
 obtain ⟨voQY, FQZ⟩ := fld_laid E1 (Unt.known U1) (tw112 hw) (Or.inr (tw152 hw))
 obtain ⟨TR0, hR1, XR2, eR3, WR4, stR5⟩ := putF XQL hx hZ hown (host := "") (Or.inl (tw151 hw)) Via.refl rfl FQZ E1 (Or.inr ⟨(tw152 hw), rfl, hnm⟩) (tw112 hw) (ty := (.object "com/example/netloom/netloom/embed/BasisFactor$CountLists")) (by decide) rfl rfl (g := (mkF m 68 #[vr a, vr b] [(.ref aQ6), (.ref a)])) rfl rfl (hH p19_1_68)
 have NR6 := Fr.snoc XR2 NQW ge_a
 have kR7 : own_G p e below E0 TR0 (mkF m 71 #[vr a, vr b] []) := fun tQ kk => kQX tQ (stR5 _ kk)
 clear kQX stR5
 replace E1 := E1.wr WR4
 replace U1 := U1.wr WR4
 replace AJN := AJN.wr WR4
 replace ANT := ANT.wr WR4
 replace AQ3 := AQ3.wr WR4
 replace Z0 := own_wrle WR4 Z0
 replace K0 := K0.wr WR4 (Or.inl (List.mem_of_getElem? (i := 0) rfl))
 have kR8 : own_G p e below E0 TR0 (mkF m 73 #[vr a, vr b] [(.int (0 : Int32)), (.ref a)]) := by
  intro tQ kk
  refine kR7 tQ ?_
  refine XS.aloadN XR2.here hx rfl (hH p19_1_71) rfl rfl ?_
  refine XS.iconst XR2.here hx rfl (hH p19_1_72) ?_
  exact kk
 clear kR7
 obtain ⟨TR9, hRA, cARB, XRC, eRD, ERE, ARF, stRG⟩ := newP (aty := .double) XR2 hx hZ (tw36 hw) eR3 (g := (mkF m 73 #[vr a, vr b] [(.int (0 : Int32)), (.ref a)])) rfl (hH p19_1_73) rfl (by decide) (cap := 0) (by decide) (by decide) (by decide) (by decide)
 obtain ⟨aRH, gRI⟩ : ∃ zA : Nat, zA = hR1.size := ⟨_, rfl⟩
 rw [← gRI] at ARF stRG
 have nRJ := own_lt_ne E1.lt gRI
 have nRK := own_lt_ne AJN.lt gRI
 have nRL := own_lt_ne ANT.lt gRI
 have nRM := own_lt_ne AQ3.lt gRI
 have nwRN : h0.size ≤ aRH := own_ge_of K0.1 gRI
 have geRO : n0 ≤ aRH := own_ge_of Z0 gRI
 replace Z0 := Nat.le_trans Z0 ERE.1
 replace E1 := E1.ext ERE
 replace U1 := U1.ext ERE
 replace AJN := AJN.ext ERE
 replace ANT := ANT.ext ERE
 replace AQ3 := AQ3.ext ERE
 replace K0 := K0.ext ERE
 have kRP : own_G p e below E0 TR9 (mkF m 75 #[vr a, vr b] [(.ref aRH), (.ref a)]) := fun tQ kk => kR8 tQ (stRG _ kk)
 clear kR8 stRG
 obtain ⟨voRQ, FRR⟩ := fld_laid E1 (Unt.known U1) (tw112 hw) (Or.inl (tw154 hw))
 obtain ⟨TRS, hRT, XRU, eRV, WRW, stRX⟩ := putF XRC hx hZ hown (host := "") (Or.inl (tw153 hw)) Via.refl eRD FRR E1 (Or.inl (tw154 hw)) (tw112 hw) (ty := (.array .double)) (by decide) rfl rfl (g := (mkF m 75 #[vr a, vr b] [(.ref aRH), (.ref a)])) rfl rfl (hH p19_1_75)
 have NRY := Fr.snoc XRU NR6 ge_a
 have kRZ : own_G p e below E0 TRS (mkF m 78 #[vr a, vr b] []) := fun tQ kk => kRP tQ (stRX _ kk)
 clear kRP stRX
 replace E1 := E1.wr WRW
 replace U1 := U1.wr WRW
 replace AJN := AJN.wr WRW
 replace ANT := ANT.wr WRW
 replace AQ3 := AQ3.wr WRW
 replace Z0 := own_wrle WRW Z0
 replace K0 := K0.wr WRW (Or.inl (List.mem_of_getElem? (i := 0) rfl))
 have kS0 : own_G p e below E0 TRS (mkF m 80 #[vr a, vr b] [(.int (0 : Int32)), (.ref a)]) := by
  intro tQ kk
  refine kRZ tQ ?_
  refine XS.aloadN XRU.here hx rfl (hH p19_1_78) rfl rfl ?_
  refine XS.iconst XRU.here hx rfl (hH p19_1_79) ?_
  exact kk
 clear kRZ
 obtain ⟨TS1, hS2, cAS3, XS4, eS5, ES6, AS7, stS8⟩ := newP (aty := .int) XRU hx hZ (tw41 hw) eRV (g := (mkF m 80 #[vr a, vr b] [(.int (0 : Int32)), (.ref a)])) rfl (hH p19_1_80) rfl (by decide) (cap := 0) (by decide) (by decide) (by decide) (by decide)
 obtain ⟨aS9, gSA⟩ : ∃ zA : Nat, zA = hRT.size := ⟨_, rfl⟩
 rw [← gSA] at AS7 stS8
 have nSB := own_lt_ne E1.lt gSA
 have nSC := own_lt_ne AJN.lt gSA
 have nSD := own_lt_ne ANT.lt gSA
 have nSE := own_lt_ne AQ3.lt gSA
 have nwSF : h0.size ≤ aS9 := own_ge_of K0.1 gSA
 have geSG : n0 ≤ aS9 := own_ge_of Z0 gSA
 replace Z0 := Nat.le_trans Z0 ES6.1
 replace E1 := E1.ext ES6
 replace U1 := U1.ext ES6
 replace AJN := AJN.ext ES6
 replace ANT := ANT.ext ES6
 replace AQ3 := AQ3.ext ES6
 replace K0 := K0.ext ES6
 have kSH : own_G p e below E0 TS1 (mkF m 82 #[vr a, vr b] [(.ref aS9), (.ref a)]) := fun tQ kk => kS0 tQ (stS8 _ kk)
 clear kS0 stS8
 obtain ⟨voSI, FSJ⟩ := fld_laid E1 (Unt.known U1) (tw112 hw) (Or.inl (tw156 hw))
 obtain ⟨TSK, hSL, XSM, eSN, WSO, stSP⟩ := putF XS4 hx hZ hown (host := "") (Or.inl (tw155 hw)) Via.refl eS5 FSJ E1 (Or.inl (tw156 hw)) (tw112 hw) (ty := (.array .int)) (by decide) rfl rfl (g := (mkF m 82 #[vr a, vr b] [(.ref aS9), (.ref a)])) rfl rfl (hH p19_1_82)
 have NSQ := Fr.snoc XSM NRY ge_a
 have kSR : own_G p e below E0 TSK (mkF m 85 #[vr a, vr b] []) := fun tQ kk => kSH tQ (stSP _ kk)
 clear kSH stSP
 replace E1 := E1.wr WSO
 replace U1 := U1.wr WSO
 replace AJN := AJN.wr WSO
 replace ANT := ANT.wr WSO
 replace AQ3 := AQ3.wr WSO
 replace Z0 := own_wrle WSO Z0
 replace K0 := K0.wr WSO (Or.inl (List.mem_of_getElem? (i := 0) rfl))
 have kSS : own_G p e below E0 TSK (mkF m 87 #[vr a, vr b] [(.int (0 : Int32)), (.ref a)]) := by
  intro tQ kk
  refine kSR tQ ?_
  refine XS.aloadN XSM.here hx rfl (hH p19_1_85) rfl rfl ?_
  refine XS.iconst XSM.here hx rfl (hH p19_1_86) ?_
  exact kk
 clear kSR
 obtain ⟨TST, hSU, cASV, XSW, eSX, ESY, ASZ, stT0⟩ := newP (aty := .int) XSM hx hZ (tw41 hw) eSN (g := (mkF m 87 #[vr a, vr b] [(.int (0 : Int32)), (.ref a)])) rfl (hH p19_1_87) rfl (by decide) (cap := 0) (by decide) (by decide) (by decide) (by decide)
 obtain ⟨aT1, gT2⟩ : ∃ zA : Nat, zA = hSL.size := ⟨_, rfl⟩
 rw [← gT2] at ASZ stT0
 have nT3 := own_lt_ne E1.lt gT2
 have nT4 := own_lt_ne AJN.lt gT2
 have nT5 := own_lt_ne ANT.lt gT2
 have nT6 := own_lt_ne AQ3.lt gT2
 have nwT7 : h0.size ≤ aT1 := own_ge_of K0.1 gT2
 have geT8 : n0 ≤ aT1 := own_ge_of Z0 gT2
 replace Z0 := Nat.le_trans Z0 ESY.1
 replace E1 := E1.ext ESY
 replace U1 := U1.ext ESY
 replace AJN := AJN.ext ESY
 replace ANT := ANT.ext ESY
 replace AQ3 := AQ3.ext ESY
 replace K0 := K0.ext ESY
 have kT9 : own_G p e below E0 TST (mkF m 89 #[vr a, vr b] [(.ref aT1), (.ref a)]) := fun tQ kk => kSS tQ (stT0 _ kk)
 clear kSS stT0
 obtain ⟨voTA, FTB⟩ := fld_laid E1 (Unt.known U1) (tw112 hw) (Or.inl (tw158 hw))
 obtain ⟨TTC, hTD, XTE, eTF, WTG, stTH⟩ := putF XSW hx hZ hown (host := "") (Or.inl (tw157 hw)) Via.refl eSX FTB E1 (Or.inl (tw158 hw)) (tw112 hw) (ty := (.array .int)) (by decide) rfl rfl (g := (mkF m 89 #[vr a, vr b] [(.ref aT1), (.ref a)])) rfl rfl (hH p19_1_89)
 have NTI := Fr.snoc XTE NSQ ge_a
 have kTJ : own_G p e below E0 TTC (mkF m 92 #[vr a, vr b] []) := fun tQ kk => kT9 tQ (stTH _ kk)
 clear kT9 stTH
 replace E1 := E1.wr WTG
 replace U1 := U1.wr WTG
 replace AJN := AJN.wr WTG
 replace ANT := ANT.wr WTG
 replace AQ3 := AQ3.wr WTG
 replace Z0 := own_wrle WTG Z0
 replace K0 := K0.wr WTG (Or.inl (List.mem_of_getElem? (i := 0) rfl))
 obtain ⟨fs, hr, hrun, hended, hW, hsame⟩ := XTE.leave (v := none) (fun _ => rfl)
 have hrun0 := kTJ _ (XTE.returnOut hx Bd.returns (hH p19_1_92) hr)
 subst hE0
 refine ⟨_, _, hrun0, hrun, hended, _, _, rfl, ?_, ⟨_, rfl⟩, hW, hsame.mono (by decide) (by decide)⟩
 show QrmEl Z a b h0 n0 _ TTC.heap _
 rw [eTF]
 exact ⟨rfl, NTI, K0⟩
abbrev fd9 (Z : State) (h : Heap) (a : Addr) (v : Value) : Prop := Fld Z h a "com/example/netloom/netloom/embed/BasisFactor" "size" "I" v
def QrmBf (Z : State) (a : Addr) (h0 : Heap) (n0 : Nat) (vQ : Option Value) (hQ : Heap) (LQ : List Loc) : Prop := vQ = none ∧ Fr n0 LQ ∧ Keep h0 hQ [a] ∧ (fd9 Z hQ a (.int (-1 : Int32)))
theorem ef_rmBf (m : MethodId) (a : Addr) : entryFrame m #[(.ref a)] 1 = mkF m 0 #[vr a] [] := by first | (simp [entryFrame, mkF, argsToLocals, Value.category]; done) | rfl
abbrev xa10 (Z : State) (h : Heap) (a : Addr) : Prop := Exa Z h a "com/example/netloom/netloom/embed/BasisFactor"
abbrev mn11 : MethodName := ⟨"com/example/netloom/netloom/embed/BasisFactor", "<init>", "()V"⟩
theorem pn_com_example_netloom_netloom_embed_BasisFactor : plainName "com/example/netloom/netloom/embed/BasisFactor" = true := by first | (simp [plainName, overriddenIn]; done) | decide +kernel
theorem p17_1_0 : decode prog_17_method_1_code 0 = .ok (.aload_n 0, 1) := by decide +kernel
theorem p17_1_1 : decode prog_17_method_1_code 1 = .ok (.invokespecial 1, 3) := by decide +kernel
def tw52 {Z a0} (hw : HW Z a0) := hw _ (List.mem_of_getElem? (i := 52) rfl)
theorem p17_1_4 : decode prog_17_method_1_code 4 = .ok (.aload_n 0, 1) := by decide +kernel
theorem p17_1_5 : decode prog_17_method_1_code 5 = .ok (.iconst (-1), 1) := by decide +kernel
theorem p17_1_6 : decode prog_17_method_1_code 6 = .ok (.putfield 7, 3) := by decide +kernel
def tw53 {Z a0} (hw : HW Z a0) := hw _ (List.mem_of_getElem? (i := 53) rfl)
def tw47 {Z a0} (hw : HW Z a0) := hw _ (List.mem_of_getElem? (i := 47) rfl)
def tw54 {Z a0} (hw : HW Z a0) := hw _ (List.mem_of_getElem? (i := 54) rfl)
theorem p17_1_9 : decode prog_17_method_1_code 9 = .ok (.aload_n 0, 1) := by decide +kernel
theorem p17_1_10 : decode prog_17_method_1_code 10 = .ok (.new 13, 3) := by decide +kernel
def tw55 {Z a0} (hw : HW Z a0) := hw _ (List.mem_of_getElem? (i := 55) rfl)
def tw57 {Z a0} (hw : HW Z a0) := hw _ (List.mem_of_getElem? (i := 57) rfl)
theorem p17_1_13 : decode prog_17_method_1_code 13 = .ok (.dup, 1) := by decide +kernel
theorem p17_1_14 : decode prog_17_method_1_code 14 = .ok (.invokespecial 15, 3) := by decide +kernel
def tw58 {Z a0} (hw : HW Z a0) := hw _ (List.mem_of_getElem? (i := 58) rfl)
def tw60 {Z a0} (hw : HW Z a0) := hw _ (List.mem_of_getElem? (i := 60) rfl)
def tw59 {Z a0} (hw : HW Z a0) := hw _ (List.mem_of_getElem? (i := 59) rfl)
theorem p17_1_17 : decode prog_17_method_1_code 17 = .ok (.putfield 16, 3) := by decide +kernel
def tw68 {Z a0} (hw : HW Z a0) := hw _ (List.mem_of_getElem? (i := 68) rfl)
def tw69 {Z a0} (hw : HW Z a0) := hw _ (List.mem_of_getElem? (i := 69) rfl)
abbrev cn13 : String := "com/example/netloom/netloom/embed/BasisFactor"
theorem sn12 {Z a0} (hw : HW Z a0) : RoadKit.slotOf Z cn13 "size" "I" ≠ RoadKit.slotOf Z cn13 "lower" "Lcom/example/netloom/netloom/embed/BasisFactor$Lines;" := (slot_ne (C := cn13) (Or.inl (tw54 hw)) (Or.inr (tw69 hw)) (by decide) (t := .int) (t' := (.object "com/example/netloom/netloom/embed/BasisFactor$Lines")) (by decide) (by decide))
theorem p17_1_20 : decode prog_17_method_1_code 20 = .ok (.aload_n 0, 1) := by decide +kernel
theorem p17_1_21 : decode prog_17_method_1_code 21 = .ok (.bipush 16, 2) := by decide +kernel
theorem p17_1_23 : decode prog_17_method_1_code 23 = .ok (.newarray .int, 2) := by decide +kernel
theorem p17_1_25 : decode prog_17_method_1_code 25 = .ok (.putfield 20, 3) := by decide +kernel
def tw70 {Z a0} (hw : HW Z a0) := hw _ (List.mem_of_getElem? (i := 70) rfl)
def tw71 {Z a0} (hw : HW Z a0) := hw _ (List.mem_of_getElem? (i := 71) rfl)
theorem sn14 {Z a0} (hw : HW Z a0) : RoadKit.slotOf Z cn13 "size" "I" ≠ RoadKit.slotOf Z cn13 "stepRow" "[I" := (slot_ne (C := cn13) (Or.inl (tw54 hw)) (Or.inl (tw71 hw)) (by decide) (t := .int) (t' := (.array .int)) (by decide) (by decide))
theorem p17_1_28 : decode prog_17_method_1_code 28 = .ok (.aload_n 0, 1) := by decide +kernel
theorem p17_1_29 : decode prog_17_method_1_code 29 = .ok (.new 13, 3) := by decide +kernel
theorem p17_1_32 : decode prog_17_method_1_code 32 = .ok (.dup, 1) := by decide +kernel
theorem p17_1_33 : decode prog_17_method_1_code 33 = .ok (.invokespecial 15, 3) := by decide +kernel
theorem p17_1_36 : decode prog_17_method_1_code 36 = .ok (.putfield 24, 3) := by decide +kernel
def tw72 {Z a0} (hw : HW Z a0) := hw _ (List.mem_of_getElem? (i := 72) rfl)
def tw73 {Z a0} (hw : HW Z a0) := hw _ (List.mem_of_getElem? (i := 73) rfl)
theorem sn15 {Z a0} (hw : HW Z a0) : RoadKit.slotOf Z cn13 "size" "I" ≠ RoadKit.slotOf Z cn13 "etas" "Lcom/example/netloom/netloom/embed/BasisFactor$Lines;" := (slot_ne (C := cn13) (Or.inl (tw54 hw)) (Or.inr (tw73 hw)) (by decide) (t := .int) (t' := (.object "com/example/netloom/netloom/embed/BasisFactor$Lines")) (by decide) (by decide))
theorem p17_1_39 : decode prog_17_method_1_code 39 = .ok (.aload_n 0, 1) := by decide +kernel
theorem p17_1_40 : decode prog_17_method_1_code 40 = .ok (.bipush 16, 2) := by decide +kernel
theorem p17_1_42 : decode prog_17_method_1_code 42 = .ok (.newarray .int, 2) := by decide +kernel
theorem p17_1_44 : decode prog_17_method_1_code 44 = .ok (.putfield 27, 3) := by decide +kernel
def tw74 {Z a0} (hw : HW Z a0) := hw _ (List.mem_of_getElem? (i := 74) rfl)
def tw75 {Z a0} (hw : HW Z a0) := hw _ (List.mem_of_getElem? (i := 75) rfl)
theorem sn16 {Z a0} (hw : HW Z a0) : RoadKit.slotOf Z cn13 "size" "I" ≠ RoadKit.slotOf Z cn13 "etaRow" "[I" := (slot_ne (C := cn13) (Or.inl (tw54 hw)) (Or.inl (tw75 hw)) (by decide) (t := .int) (t' := (.array .int)) (by decide) (by decide))
theorem p17_1_47 : decode prog_17_method_1_code 47 = .ok (.aload_n 0, 1) := by decide +kernel
theorem p17_1_48 : decode prog_17_method_1_code 48 = .ok (.new 30, 3) := by decide +kernel
def tw76 {Z a0} (hw : HW Z a0) := hw _ (List.mem_of_getElem? (i := 76) rfl)
theorem p17_1_51 : decode prog_17_method_1_code 51 = .ok (.dup, 1) := by decide +kernel
theorem p17_1_52 : decode prog_17_method_1_code 52 = .ok (.invokespecial 32, 3) := by decide +kernel
def tw79 {Z a0} (hw : HW Z a0) := hw _ (List.mem_of_getElem? (i := 79) rfl)
theorem p17_1_55 : decode prog_17_method_1_code 55 = .ok (.putfield 33, 3) := by decide +kernel
def tw93 {Z a0} (hw : HW Z a0) := hw _ (List.mem_of_getElem? (i := 93) rfl)
def tw94 {Z a0} (hw : HW Z a0) := hw _ (List.mem_of_getElem? (i := 94) rfl)
theorem sn17 {Z a0} (hw : HW Z a0) : RoadKit.slotOf Z cn13 "size" "I" ≠ RoadKit.slotOf Z cn13 "upperRows" "Lcom/example/netloom/netloom/embed/BasisFactor$Entries;" := (slot_ne (C := cn13) (Or.inl (tw54 hw)) (Or.inr (tw94 hw)) (by decide) (t := .int) (t' := (.object "com/example/netloom/netloom/embed/BasisFactor$Entries")) (by decide) (by decide))
theorem p17_1_58 : decode prog_17_method_1_code 58 = .ok (.aload_n 0, 1) := by decide +kernel
theorem p17_1_59 : decode prog_17_method_1_code 59 = .ok (.new 30, 3) := by decide +kernel
theorem p17_1_62 : decode prog_17_method_1_code 62 = .ok (.dup, 1) := by decide +kernel
theorem p17_1_63 : decode prog_17_method_1_code 63 = .ok (.invokespecial 32, 3) := by decide +kernel
theorem p17_1_66 : decode prog_17_method_1_code 66 = .ok (.putfield 37, 3) := by decide +kernel
def tw95 {Z a0} (hw : HW Z a0) := hw _ (List.mem_of_getElem? (i := 95) rfl)
def tw96 {Z a0} (hw : HW Z a0) := hw _ (List.mem_of_getElem? (i := 96) rfl)
theorem sn18 {Z a0} (hw : HW Z a0) : RoadKit.slotOf Z cn13 "size" "I" ≠ RoadKit.slotOf Z cn13 "upperColumns" "Lcom/example/netloom/netloom/embed/BasisFactor$Entries;" := (slot_ne (C := cn13) (Or.inl (tw54 hw)) (Or.inr (tw96 hw)) (by decide) (t := .int) (t' := (.object "com/example/netloom/netloom/embed/BasisFactor$Entries")) (by decide) (by decide))
theorem p17_1_69 : decode prog_17_method_1_code 69 = .ok (.aload_n 0, 1) := by decide +kernel
theorem p17_1_70 : decode prog_17_method_1_code 70 = .ok (.bipush 16, 2) := by decide +kernel
theorem p17_1_72 : decode prog_17_method_1_code 72 = .ok (.newarray .double, 2) := by decide +kernel
theorem p17_1_74 : decode prog_17_method_1_code 74 = .ok (.putfield 40, 3) := by decide +kernel
def tw97 {Z a0} (hw : HW Z a0) := hw _ (List.mem_of_getElem? (i := 97) rfl)
def tw98 {Z a0} (hw : HW Z a0) := hw _ (List.mem_of_getElem? (i := 98) rfl)
theorem sn19 {Z a0} (hw : HW Z a0) : RoadKit.slotOf Z cn13 "size" "I" ≠ RoadKit.slotOf Z cn13 "diagonal" "[D" := (slot_ne (C := cn13) (Or.inl (tw54 hw)) (Or.inl (tw98 hw)) (by decide) (t := .int) (t' := (.array .double)) (by decide) (by decide))
theorem p17_1_77 : decode prog_17_method_1_code 77 = .ok (.aload_n 0, 1) := by decide +kernel
theorem p17_1_78 : decode prog_17_method_1_code 78 = .ok (.bipush 16, 2) := by decide +kernel
theorem p17_1_80 : decode prog_17_method_1_code 80 = .ok (.newarray .int, 2) := by decide +kernel
theorem p17_1_82 : decode prog_17_method_1_code 82 = .ok (.putfield 44, 3) := by decide +kernel
def tw99 {Z a0} (hw : HW Z a0) := hw _ (List.mem_of_getElem? (i := 99) rfl)
def tw100 {Z a0} (hw : HW Z a0) := hw _ (List.mem_of_getElem? (i := 100) rfl)
theorem sn20 {Z a0} (hw : HW Z a0) : RoadKit.slotOf Z cn13 "size" "I" ≠ RoadKit.slotOf Z cn13 "positionOf" "[I" := (slot_ne (C := cn13) (Or.inl (tw54 hw)) (Or.inl (tw100 hw)) (by decide) (t := .int) (t' := (.array .int)) (by decide) (by decide))
theorem p17_1_85 : decode prog_17_method_1_code 85 = .ok (.aload_n 0, 1) := by decide +kernel
theorem p17_1_86 : decode prog_17_method_1_code 86 = .ok (.bipush 16, 2) := by decide +kernel
theorem p17_1_88 : decode prog_17_method_1_code 88 = .ok (.newarray .int, 2) := by decide +kernel
theorem p17_1_90 : decode prog_17_method_1_code 90 = .ok (.putfield 47, 3) := by decide +kernel
def tw101 {Z a0} (hw : HW Z a0) := hw _ (List.mem_of_getElem? (i := 101) rfl)
def tw102 {Z a0} (hw : HW Z a0) := hw _ (List.mem_of_getElem? (i := 102) rfl)
theorem sn21 {Z a0} (hw : HW Z a0) : RoadKit.slotOf Z cn13 "size" "I" ≠ RoadKit.slotOf Z cn13 "rowOf" "[I" := (slot_ne (C := cn13) (Or.inl (tw54 hw)) (Or.inl (tw102 hw)) (by decide) (t := .int) (t' := (.array .int)) (by decide) (by decide))
theorem p17_1_93 : decode prog_17_method_1_code 93 = .ok (.aload_n 0, 1) := by decide +kernel
theorem p17_1_94 : decode prog_17_method_1_code 94 = .ok (.bipush 16, 2) := by decide +kernel
theorem p17_1_96 : decode prog_17_method_1_code 96 = .ok (.newarray .int, 2) := by decide +kernel
theorem p17_1_98 : decode prog_17_method_1_code 98 = .ok (.putfield 50, 3) := by decide +kernel
def tw103 {Z a0} (hw : HW Z a0) := hw _ (List.mem_of_getElem? (i := 103) rfl)
def tw104 {Z a0} (hw : HW Z a0) := hw _ (List.mem_of_getElem? (i := 104) rfl)
theorem sn22 {Z a0} (hw : HW Z a0) : RoadKit.slotOf Z cn13 "size" "I" ≠ RoadKit.slotOf Z cn13 "after" "[I" := (slot_ne (C := cn13) (Or.inl (tw54 hw)) (Or.inl (tw104 hw)) (by decide) (t := .int) (t' := (.array .int)) (by decide) (by decide))
theorem p17_1_101 : decode prog_17_method_1_code 101 = .ok (.aload_n 0, 1) := by decide +kernel
theorem p17_1_102 : decode prog_17_method_1_code 102 = .ok (.bipush 16, 2) := by decide +kernel
theorem p17_1_104 : decode prog_17_method_1_code 104 = .ok (.newarray .int, 2) := by decide +kernel
theorem p17_1_106 : decode prog_17_method_1_code 106 = .ok (.putfield 53, 3) := by decide +kernel
def tw105 {Z a0} (hw : HW Z a0) := hw _ (List.mem_of_getElem? (i := 105) rfl)
def tw106 {Z a0} (hw : HW Z a0) := hw _ (List.mem_of_getElem? (i := 106) rfl)
theorem sn23 {Z a0} (hw : HW Z a0) : RoadKit.slotOf Z cn13 "size" "I" ≠ RoadKit.slotOf Z cn13 "before" "[I" := (slot_ne (C := cn13) (Or.inl (tw54 hw)) (Or.inl (tw106 hw)) (by decide) (t := .int) (t' := (.array .int)) (by decide) (by decide))
theorem p17_1_109 : decode prog_17_method_1_code 109 = .ok (.aload_n 0, 1) := by decide +kernel
theorem p17_1_110 : decode prog_17_method_1_code 110 = .ok (.bipush 16, 2) := by decide +kernel
theorem p17_1_112 : decode prog_17_method_1_code 112 = .ok (.newarray .double, 2) := by decide +kernel
theorem p17_1_114 : decode prog_17_method_1_code 114 = .ok (.putfield 56, 3) := by decide +kernel
def tw107 {Z a0} (hw : HW Z a0) := hw _ (List.mem_of_getElem? (i := 107) rfl)
def tw108 {Z a0} (hw : HW Z a0) := hw _ (List.mem_of_getElem? (i := 108) rfl)
theorem sn24 {Z a0} (hw : HW Z a0) : RoadKit.slotOf Z cn13 "size" "I" ≠ RoadKit.slotOf Z cn13 "spike" "[D" := (slot_ne (C := cn13) (Or.inl (tw54 hw)) (Or.inl (tw108 hw)) (by decide) (t := .int) (t' := (.array .double)) (by decide) (by decide))
theorem p17_1_117 : decode prog_17_method_1_code 117 = .ok (.aload_n 0, 1) := by decide +kernel
theorem p17_1_118 : decode prog_17_method_1_code 118 = .ok (.bipush 16, 2) := by decide +kernel
theorem p17_1_120 : decode prog_17_method_1_code 120 = .ok (.newarray .double, 2) := by decide +kernel
theorem p17_1_122 : decode prog_17_method_1_code 122 = .ok (.putfield 59, 3) := by decide +kernel
def tw109 {Z a0} (hw : HW Z a0) := hw _ (List.mem_of_getElem? (i := 109) rfl)
def tw110 {Z a0} (hw : HW Z a0) := hw _ (List.mem_of_getElem? (i := 110) rfl)
theorem sn25 {Z a0} (hw : HW Z a0) : RoadKit.slotOf Z cn13 "size" "I" ≠ RoadKit.slotOf Z cn13 "along" "[D" := (slot_ne (C := cn13) (Or.inl (tw54 hw)) (Or.inl (tw110 hw)) (by decide) (t := .int) (t' := (.array .double)) (by decide) (by decide))
theorem p17_1_125 : decode prog_17_method_1_code 125 = .ok (.aload_n 0, 1) := by decide +kernel
theorem p17_1_126 : decode prog_17_method_1_code 126 = .ok (.new 62, 3) := by decide +kernel
def tw111 {Z a0} (hw : HW Z a0) := hw _ (List.mem_of_getElem? (i := 111) rfl)
def tw113 {Z a0} (hw : HW Z a0) := hw _ (List.mem_of_getElem? (i := 113) rfl)
theorem p17_1_129 : decode prog_17_method_1_code 129 = .ok (.dup, 1) := by decide +kernel
theorem p17_1_130 : decode prog_17_method_1_code 130 = .ok (.aload_n 0, 1) := by decide +kernel
theorem p17_1_131 : decode prog_17_method_1_code 131 = .ok (.invokespecial 64, 3) := by decide +kernel
def tw114 {Z a0} (hw : HW Z a0) := hw _ (List.mem_of_getElem? (i := 114) rfl)
def tw116 {Z a0} (hw : HW Z a0) := hw _ (List.mem_of_getElem? (i := 116) rfl)
theorem pd_26 : parseMethodDescriptor "(Lcom/example/netloom/netloom/embed/BasisFactor;)V" = some ⟨[(.object "com/example/netloom/netloom/embed/BasisFactor")], none⟩ := by decide +kernel
def tw115 {Z a0} (hw : HW Z a0) := hw _ (List.mem_of_getElem? (i := 115) rfl)
theorem p17_1_134 : decode prog_17_method_1_code 134 = .ok (.putfield 67, 3) := by decide +kernel
def tw159 {Z a0} (hw : HW Z a0) := hw _ (List.mem_of_getElem? (i := 159) rfl)
def tw160 {Z a0} (hw : HW Z a0) := hw _ (List.mem_of_getElem? (i := 160) rfl)
theorem sn27 {Z a0} (hw : HW Z a0) : RoadKit.slotOf Z cn13 "size" "I" ≠ RoadKit.slotOf Z cn13 "elimination" "Lcom/example/netloom/netloom/embed/BasisFactor$Elimination;" := (slot_ne (C := cn13) (Or.inl (tw54 hw)) (Or.inr (tw160 hw)) (by decide) (t := .int) (t' := (.object "com/example/netloom/netloom/embed/BasisFactor$Elimination")) (by decide) (by decide))
theorem p17_1_137 : decode prog_17_method_1_code 137 = .ok (.return_, 1) := by decide +kernel
set_option maxRecDepth 65536 in
set_option maxHeartbeats 40000000 in
theorem rmBf (l : Launch) (Z : State) (a0 : Array Value) (hw : ∀ d ∈ tables_1, d.before a0 Z = true) (ws : List Jvm.Cond) (a : Addr) (h0 : Heap) (n0 : Nat) (Z0 : n0 ≤ h0.size) (E1 : xa10 Z h0 a) (U1 : Unt h0 a) (ge_a : n0 ≤ a) :
  MetFree l mn11 (head1 (Jvm.Cond.code mn11 prog_17_method_1_code 1 none :: ws) ({ frames := 3, cells := 47, slots := 476, locals := 48 } : Room)) (fun aA U => aA = #[(.ref a)] ∧ Z.Warmed39 U.vm ∧ U.heap = h0) (fun _ _ _ _ _ => True) (fun _ U o U' => ∃ vR LR, o = .returned vR ∧ QrmBf Z a h0 n0 vR U'.heap LR ∧ FrameEnd U o U' LR ({ frames := 3, cells := 47, slots := 476, locals := 48 } : Room).cells ({ frames := 3, cells := 47, slots := 476, locals := 48 } : Room).slots) := by
 refine MetFree.of_bodySF (plainFor_of_name pn_com_example_netloom_netloom_embed_BasisFactor) hisR ?_
 intro p e s m args below meth c s₁ Bd hml0 hPre hKk
 obtain ⟨rfl, hZ, hh⟩ := hPre
 have hx := Bd.exec
 have hby := Bd.bytes
 have hH : ∀ {pc r}, decode prog_17_method_1_code pc = r → decode c.code pc = r := fun q => hb hby q
 have hml : c.maxLocals = 1 := hml0
 have hown : s.vm.findClass "com/example/netloom/netloom/embed/BasisFactor" = some m.cls := findClass_of_methodNamed Bd.named
 have hnm := (name_of_methodNamed Bd.named Bd.method).1
 have X0 : Stand p l e ({ frames := 3, cells := 47, slots := 476, locals := 48 } : Room) s m #[(.ref a)] below meth c s₁ [] 0 0 := Stand.of_body Bd
 have e0 : s₁.heap = h0 := by rw [← hh, Bd.state]; rfl
 have N0 := Fr.nil n0
 obtain ⟨E0, hE0⟩ : ∃ zE : State, zE = s₁.setTop (entryFrame m #[(.ref a)] 1) := ⟨_, rfl⟩
 have k0 : own_G p e below E0 s₁ (mkF m 0 #[vr a] []) := fun tz kz => hE0 ▸ castTop (ef_rmBf m a) kz
 have K0 : Keep h0 h0 [a] := Keep.refl _ _
 have kJ0 : own_G p e below E0 s₁ (mkF m 1 #[vr a] [(.ref a)]) := by
  intro tQ kk
  refine k0 tQ ?_
  refine XS.aloadN X0.here hx rfl (hH p17_1_0) rfl rfl ?_
  exact kk
 clear k0
 obtain ⟨TJ1, XJ2, eJ3, stJ4⟩ := initO X0 hx hZ hown (tw52 hw) (tw8 hw) (tw9 hw) e0 (g := (mkF m 1 #[vr a] [(.ref a)])) rfl (by rw [hml]; rfl) rfl (hH p17_1_1) (by decide) (W := 0) (by show 2 * 0 + _ ≤ _; exact Nat.le_of_eq rfl) (by decide)
 have kJ5 : own_G p e below E0 TJ1 (mkF m 4 #[vr a] []) := fun tQ kk => kJ0 tQ (stJ4 _ kk)
 clear kJ0 stJ4
 have kJ6 : own_G p e below E0 TJ1 (mkF m 6 #[vr a] [(.int (-1 : Int32)), (.ref a)]) := by
  intro tQ kk
  refine kJ5 tQ ?_
  refine XS.aloadN XJ2.here hx rfl (hH p17_1_4) rfl rfl ?_
  refine XS.iconst XJ2.here hx rfl (hH p17_1_5) ?_
  exact kk
 clear kJ5
 obtain ⟨voJ7, FJ8⟩ := fld_laid E1 (Unt.known U1) (tw47 hw) (Or.inl (tw54 hw))
 obtain ⟨TJ9, hJA, XJB, eJC, WJD, stJE⟩ := putF XJ2 hx hZ hown (host := "") (Or.inl (tw53 hw)) Via.refl eJ3 FJ8 E1 (Or.inl (tw54 hw)) (tw47 hw) (ty := .int) (by decide) rfl rfl (g := (mkF m 6 #[vr a] [(.int (-1 : Int32)), (.ref a)])) rfl rfl (hH p17_1_6)
 have NJF := Fr.snoc XJB N0 ge_a
 have kJG : own_G p e below E0 TJ9 (mkF m 9 #[vr a] []) := fun tQ kk => kJ6 tQ (stJE _ kk)
 clear kJ6 stJE
 replace E1 := E1.wr WJD
 replace U1 := U1.wr WJD
 replace FJ8 := FJ8.same WJD
 replace Z0 := own_wrle WJD Z0
 replace K0 := K0.wr WJD (Or.inl (List.mem_of_getElem? (i := 0) rfl))
 have kJH : own_G p e below E0 TJ9 (mkF m 10 #[vr a] [(.ref a)]) := by
  intro tQ kk
  refine kJG tQ ?_
  refine XS.aloadN XJB.here hx rfl (hH p17_1_9) rfl rfl ?_
  exact kk
 clear kJG
 obtain ⟨TJI, hJJ, XJK, eJL, EJM, AJN, DJO, UnJS, stJP⟩ := newO XJB hx hZ hown (tw55 hw) (tw56 hw) (tw57 hw) eJC (g := (mkF m 10 #[vr a] [(.ref a)])) rfl (hH p17_1_10) (by decide) (by decide)
 obtain ⟨aJQ, gJR⟩ : ∃ zA : Nat, zA = hJA.size := ⟨_, rfl⟩
 rw [← gJR] at AJN DJO stJP UnJS
 have nJT := own_lt_ne E1.lt gJR
 have nwJU : h0.size ≤ aJQ := own_ge_of K0.1 gJR
 have geJV : n0 ≤ aJQ := own_ge_of Z0 gJR
 replace Z0 := Nat.le_trans Z0 EJM.1
 replace E1 := E1.ext EJM
 replace U1 := U1.ext EJM
 replace FJ8 := FJ8.ext EJM
 replace K0 := K0.ext EJM
 have UnJW : Unt hJJ aJQ := UnJS
 have kJX : own_G p e below E0 TJI (mkF m 13 #[vr a] [(.ref aJQ), (.ref a)]) := fun tQ kk => kJH tQ (stJP _ kk)
 clear kJH stJP
 have kJY : own_G p e below E0 TJI (mkF m 14 #[vr a] [(.ref aJQ), (.ref aJQ), (.ref a)]) := by
  intro tQ kk
  refine kJX tQ ?_
  refine XS.dup XJK.here hx rfl (hH p17_1_13) rfl rfl ?_
  exact kk
 clear kJX
 obtain ⟨_, _, ⟨TJZ, LK0, kcK1, ncK2⟩, -, XK3, ⟨LcK4, hQK5, lK6, yK7, zK8⟩, stK9⟩ := own_specialRef XJK hx (y := mn1) rfl hown (own_mvRef hZ (by decide) (tw59 hw) (tw58 hw)) (mvT hZ (tw59 hw)) (mvT hZ (tw60 hw)) (by decide) (backOf (W := 2) (rmLi l Z a0 hw [] aJQ hJJ n0 Z0 AJN UnJW geJV) hZ (tw60 hw) (tw57 hw) (by decide) (by decide)) (g := (mkF m 14 #[vr a] [(.ref aJQ), (.ref aJQ), (.ref a)])) rfl (by rw [hml]; rfl) (Steps.refl _) (a := aJQ) (argsL := []) (rest := [(.ref aJQ), (.ref a)]) (lenOf pd_8 rfl) rfl (by show 2 * 0 + _ ≤ _; exact Nat.le_of_eq rfl) (hH p17_1_14) (fun _ _ => ⟨rfl, eJL, (by decide : 1 + 3 ≤ _), (by decide : 5 + 145 ≤ _)⟩)
 dsimp only [Pt.U, Pt.locs, Pt.cells, Pt.slots] at XK3 lK6 yK7 zK8 stK9 hQK5
 subst yK7 zK8
 obtain ⟨rfl, NKA, KKD⟩ := hQK5
 have NKE : Fr n0 LK0 := by rw [lK6]; exact Fr.app NJF NKA
 clear lK6 NKA
 replace Z0 := Nat.le_trans Z0 KKD.1
 replace E1 := E1.keep KKD
 replace U1 := U1.keep KKD (ninS nJT nin0)
 replace FJ8 := FJ8.keep KKD (ninS nJT nin0)
 replace AJN := AJN.keep KKD
 clear UnJW
 replace K0 := K0.trans KKD (allS (Or.inr nwJU) all0)
 have kKF : own_G p e below E0 TJZ (mkF m 17 #[vr a] [(.ref aJQ), (.ref a)]) := fun tQ kk => kJY tQ (stK9.trans kk)
 clear kJY stK9
 obtain ⟨voKG, FKH⟩ := fld_laid E1 (Unt.known U1) (tw47 hw) (Or.inr (tw69 hw))
 obtain ⟨TKI, hKJ, XKK, eKL, WKM, stKN⟩ := putF XK3 hx hZ hown (host := "") (Or.inl (tw68 hw)) Via.refl rfl FKH E1 (Or.inr ⟨(tw69 hw), rfl, hnm⟩) (tw47 hw) (ty := (.object "com/example/netloom/netloom/embed/BasisFactor$Lines")) (by decide) rfl rfl (g := (mkF m 17 #[vr a] [(.ref aJQ), (.ref a)])) rfl rfl (hH p17_1_17)
 have NKO := Fr.snoc XKK NKE ge_a
 have kKP : own_G p e below E0 TKI (mkF m 20 #[vr a] []) := fun tQ kk => kKF tQ (stKN _ kk)
 clear kKF stKN
 replace E1 := E1.wr WKM
 replace U1 := U1.wr WKM
 replace FJ8 := FJ8.other WKM (Or.inr (sn12 hw))
 replace AJN := AJN.wr WKM
 replace Z0 := own_wrle WKM Z0
 replace K0 := K0.wr WKM (Or.inl (List.mem_of_getElem? (i := 0) rfl))
 have kKQ : own_G p e below E0 TKI (mkF m 23 #[vr a] [(.int (16 : Int32)), (.ref a)]) := by
  intro tQ kk
  refine kKP tQ ?_
  refine XS.aloadN XKK.here hx rfl (hH p17_1_20) rfl rfl ?_
  refine XS.bipush XKK.here hx rfl (hH p17_1_21) ?_
  exact kk
 clear kKP
 obtain ⟨TKR, hKS, cAKT, XKU, eKV, EKW, AKX, stKY⟩ := newP (aty := .int) XKK hx hZ (tw41 hw) eKL (g := (mkF m 23 #[vr a] [(.int (16 : Int32)), (.ref a)])) rfl (hH p17_1_23) rfl (by decide) (cap := 16) (by decide) (by decide) (by decide) (by decide)
 obtain ⟨aKZ, gL0⟩ : ∃ zA : Nat, zA = hKJ.size := ⟨_, rfl⟩
 rw [← gL0] at AKX stKY
 have nL1 := own_lt_ne E1.lt gL0
 have nL2 := own_lt_ne AJN.lt gL0
 have nwL3 : h0.size ≤ aKZ := own_ge_of K0.1 gL0
 have geL4 : n0 ≤ aKZ := own_ge_of Z0 gL0
 replace Z0 := Nat.le_trans Z0 EKW.1
 replace E1 := E1.ext EKW
 replace U1 := U1.ext EKW
 replace FJ8 := FJ8.ext EKW
 replace AJN := AJN.ext EKW
 replace K0 := K0.ext EKW
 have kL5 : own_G p e below E0 TKR (mkF m 25 #[vr a] [(.ref aKZ), (.ref a)]) := fun tQ kk => kKQ tQ (stKY _ kk)
 clear kKQ stKY
 obtain ⟨voL6, FL7⟩ := fld_laid E1 (Unt.known U1) (tw47 hw) (Or.inl (tw71 hw))
 obtain ⟨TL8, hL9, XLA, eLB, WLC, stLD⟩ := putF XKU hx hZ hown (host := "") (Or.inl (tw70 hw)) Via.refl eKV FL7 E1 (Or.inl (tw71 hw)) (tw47 hw) (ty := (.array .int)) (by decide) rfl rfl (g := (mkF m 25 #[vr a] [(.ref aKZ), (.ref a)])) rfl rfl (hH p17_1_25)
 have NLE := Fr.snoc XLA NKO ge_a
 have kLF : own_G p e below E0 TL8 (mkF m 28 #[vr a] []) := fun tQ kk => kL5 tQ (stLD _ kk)
 clear kL5 stLD
 replace E1 := E1.wr WLC
 replace U1 := U1.wr WLC
 replace FJ8 := FJ8.other WLC (Or.inr (sn14 hw))
 replace AJN := AJN.wr WLC
 replace Z0 := own_wrle WLC Z0
 replace K0 := K0.wr WLC (Or.inl (List.mem_of_getElem? (i := 0) rfl))
 have kLG : own_G p e below E0 TL8 (mkF m 29 #[vr a] [(.ref a)]) := by
  intro tQ kk
  refine kLF tQ ?_
  refine XS.aloadN XLA.here hx rfl (hH p17_1_28) rfl rfl ?_
  exact kk
 clear kLF
 obtain ⟨TLH, hLI, XLJ, eLK, ELL, ALM, DLN, UnLR, stLO⟩ := newO XLA hx hZ hown (tw55 hw) (tw56 hw) (tw57 hw) eLB (g := (mkF m 29 #[vr a] [(.ref a)])) rfl (hH p17_1_29) (by decide) (by decide)
 obtain ⟨aLP, gLQ⟩ : ∃ zA : Nat, zA = hL9.size := ⟨_, rfl⟩
 rw [← gLQ] at ALM DLN stLO UnLR
 have nLS := own_lt_ne E1.lt gLQ
 have nLT := own_lt_ne AJN.lt gLQ
 have nwLU : h0.size ≤ aLP := own_ge_of K0.1 gLQ
 have geLV : n0 ≤ aLP := own_ge_of Z0 gLQ
 replace Z0 := Nat.le_trans Z0 ELL.1
 replace E1 := E1.ext ELL
 replace U1 := U1.ext ELL
 replace FJ8 := FJ8.ext ELL
 replace AJN := AJN.ext ELL
 replace K0 := K0.ext ELL
 have UnLW : Unt hLI aLP := UnLR
 have kLX : own_G p e below E0 TLH (mkF m 32 #[vr a] [(.ref aLP), (.ref a)]) := fun tQ kk => kLG tQ (stLO _ kk)
 clear kLG stLO
 have kLY : own_G p e below E0 TLH (mkF m 33 #[vr a] [(.ref aLP), (.ref aLP), (.ref a)]) := by
  intro tQ kk
  refine kLX tQ ?_
  refine XS.dup XLJ.here hx rfl (hH p17_1_32) rfl rfl ?_
  exact kk
 clear kLX
 obtain ⟨_, _, ⟨TLZ, LM0, kcM1, ncM2⟩, -, XM3, ⟨LcM4, hQM5, lM6, yM7, zM8⟩, stM9⟩ := own_specialRef XLJ hx (y := mn1) rfl hown (own_mvRef hZ (by decide) (tw59 hw) (tw58 hw)) (mvT hZ (tw59 hw)) (mvT hZ (tw60 hw)) (by decide) (backOf (W := 2) (rmLi l Z a0 hw [] aLP hLI n0 Z0 ALM UnLW geLV) hZ (tw60 hw) (tw57 hw) (by decide) (by decide)) (g := (mkF m 33 #[vr a] [(.ref aLP), (.ref aLP), (.ref a)])) rfl (by rw [hml]; rfl) (Steps.refl _) (a := aLP) (argsL := []) (rest := [(.ref aLP), (.ref a)]) (lenOf pd_8 rfl) rfl (by show 2 * 0 + _ ≤ _; exact Nat.le_of_eq rfl) (hH p17_1_33) (fun _ _ => ⟨rfl, eLK, (by decide : 6 + 3 ≤ _), (by decide : 171 + 145 ≤ _)⟩)
 dsimp only [Pt.U, Pt.locs, Pt.cells, Pt.slots] at XM3 lM6 yM7 zM8 stM9 hQM5
 subst yM7 zM8
 obtain ⟨rfl, NMA, KMD⟩ := hQM5
 have NME : Fr n0 LM0 := by rw [lM6]; exact Fr.app NLE NMA
 clear lM6 NMA
 replace Z0 := Nat.le_trans Z0 KMD.1
 replace E1 := E1.keep KMD
 replace U1 := U1.keep KMD (ninS nLS nin0)
 replace FJ8 := FJ8.keep KMD (ninS nLS nin0)
 replace AJN := AJN.keep KMD
 replace ALM := ALM.keep KMD
 clear UnLW
 replace K0 := K0.trans KMD (allS (Or.inr nwLU) all0)
 have kMF : own_G p e below E0 TLZ (mkF m 36 #[vr a] [(.ref aLP), (.ref a)]) := fun tQ kk => kLY tQ (stM9.trans kk)
 clear kLY stM9
 obtain ⟨voMG, FMH⟩ := fld_laid E1 (Unt.known U1) (tw47 hw) (Or.inr (tw73 hw))
 obtain ⟨TMI, hMJ, XMK, eML, WMM, stMN⟩ := putF XM3 hx hZ hown (host := "") (Or.inl (tw72 hw)) Via.refl rfl FMH E1 (Or.inr ⟨(tw73 hw), rfl, hnm⟩) (tw47 hw) (ty := (.object "com/example/netloom/netloom/embed/BasisFactor$Lines")) (by decide) rfl rfl (g := (mkF m 36 #[vr a] [(.ref aLP), (.ref a)])) rfl rfl (hH p17_1_36)
 have NMO := Fr.snoc XMK NME ge_a
 have kMP : own_G p e below E0 TMI (mkF m 39 #[vr a] []) := fun tQ kk => kMF tQ (stMN _ kk)
 clear kMF stMN
 replace E1 := E1.wr WMM
 replace U1 := U1.wr WMM
 replace FJ8 := FJ8.other WMM (Or.inr (sn15 hw))
 replace AJN := AJN.wr WMM
 replace ALM := ALM.wr WMM
 replace Z0 := own_wrle WMM Z0
 replace K0 := K0.wr WMM (Or.inl (List.mem_of_getElem? (i := 0) rfl))
 have kMQ : own_G p e below E0 TMI (mkF m 42 #[vr a] [(.int (16 : Int32)), (.ref a)]) := by
  intro tQ kk
  refine kMP tQ ?_
  refine XS.aloadN XMK.here hx rfl (hH p17_1_39) rfl rfl ?_
  refine XS.bipush XMK.here hx rfl (hH p17_1_40) ?_
  exact kk
 clear kMP
 obtain ⟨TMR, hMS, cAMT, XMU, eMV, EMW, AMX, stMY⟩ := newP (aty := .int) XMK hx hZ (tw41 hw) eML (g := (mkF m 42 #[vr a] [(.int (16 : Int32)), (.ref a)])) rfl (hH p17_1_42) rfl (by decide) (cap := 16) (by decide) (by decide) (by decide) (by decide)
 obtain ⟨aMZ, gN0⟩ : ∃ zA : Nat, zA = hMJ.size := ⟨_, rfl⟩
 rw [← gN0] at AMX stMY
 have nN1 := own_lt_ne E1.lt gN0
 have nN2 := own_lt_ne AJN.lt gN0
 have nN3 := own_lt_ne ALM.lt gN0
 have nwN4 : h0.size ≤ aMZ := own_ge_of K0.1 gN0
 have geN5 : n0 ≤ aMZ := own_ge_of Z0 gN0
 replace Z0 := Nat.le_trans Z0 EMW.1
 replace E1 := E1.ext EMW
 replace U1 := U1.ext EMW
 replace FJ8 := FJ8.ext EMW
 replace AJN := AJN.ext EMW
 replace ALM := ALM.ext EMW
 replace K0 := K0.ext EMW
 have kN6 : own_G p e below E0 TMR (mkF m 44 #[vr a] [(.ref aMZ), (.ref a)]) := fun tQ kk => kMQ tQ (stMY _ kk)
 clear kMQ stMY
 obtain ⟨voN7, FN8⟩ := fld_laid E1 (Unt.known U1) (tw47 hw) (Or.inl (tw75 hw))
 obtain ⟨TN9, hNA, XNB, eNC, WND, stNE⟩ := putF XMU hx hZ hown (host := "") (Or.inl (tw74 hw)) Via.refl eMV FN8 E1 (Or.inl (tw75 hw)) (tw47 hw) (ty := (.array .int)) (by decide) rfl rfl (g := (mkF m 44 #[vr a] [(.ref aMZ), (.ref a)])) rfl rfl (hH p17_1_44)
 have NNF := Fr.snoc XNB NMO ge_a
 have kNG : own_G p e below E0 TN9 (mkF m 47 #[vr a] []) := fun tQ kk => kN6 tQ (stNE _ kk)
 clear kN6 stNE
 replace E1 := E1.wr WND
 replace U1 := U1.wr WND
 replace FJ8 := FJ8.other WND (Or.inr (sn16 hw))
 replace AJN := AJN.wr WND
 replace ALM := ALM.wr WND
 replace Z0 := own_wrle WND Z0
 replace K0 := K0.wr WND (Or.inl (List.mem_of_getElem? (i := 0) rfl))
 have kNH : own_G p e below E0 TN9 (mkF m 48 #[vr a] [(.ref a)]) := by
  intro tQ kk
  refine kNG tQ ?_
  refine XS.aloadN XNB.here hx rfl (hH p17_1_47) rfl rfl ?_
  exact kk
 clear kNG
 obtain ⟨TNI, hNJ, XNK, eNL, ENM, ANN, DNO, UnNS, stNP⟩ := newO XNB hx hZ hown (tw76 hw) (tw77 hw) (tw78 hw) eNC (g := (mkF m 48 #[vr a] [(.ref a)])) rfl (hH p17_1_48) (by decide) (by decide)
 obtain ⟨aNQ, gNR⟩ : ∃ zA : Nat, zA = hNA.size := ⟨_, rfl⟩
 rw [← gNR] at ANN DNO stNP UnNS
 have nNT := own_lt_ne E1.lt gNR
 have nNU := own_lt_ne AJN.lt gNR
 have nNV := own_lt_ne ALM.lt gNR
 have nwNW : h0.size ≤ aNQ := own_ge_of K0.1 gNR
 have geNX : n0 ≤ aNQ := own_ge_of Z0 gNR
 replace Z0 := Nat.le_trans Z0 ENM.1
 replace E1 := E1.ext ENM
 replace U1 := U1.ext ENM
 replace FJ8 := FJ8.ext ENM
 replace AJN := AJN.ext ENM
 replace ALM := ALM.ext ENM
 replace K0 := K0.ext ENM
 have UnNY : Unt hNJ aNQ := UnNS
 have kNZ : own_G p e below E0 TNI (mkF m 51 #[vr a] [(.ref aNQ), (.ref a)]) := fun tQ kk => kNH tQ (stNP _ kk)
 clear kNH stNP
 have kP0 : own_G p e below E0 TNI (mkF m 52 #[vr a] [(.ref aNQ), (.ref aNQ), (.ref a)]) := by
  intro tQ kk
  refine kNZ tQ ?_
  refine XS.dup XNK.here hx rfl (hH p17_1_51) rfl rfl ?_
  exact kk
 clear kNZ
 obtain ⟨_, _, ⟨TP1, LP2, kcP3, ncP4⟩, -, XP5, ⟨LcP6, hQP7, lP8, yP9, zPA⟩, stPB⟩ := own_specialRef XNK hx (y := mn3) rfl hown (own_mvRef hZ (by decide) (tw80 hw) (tw79 hw)) (mvT hZ (tw80 hw)) (mvT hZ (tw81 hw)) (by decide) (backOf (W := 2) (rmEn l Z a0 hw [] aNQ hNJ n0 Z0 ANN UnNY geNX) hZ (tw81 hw) (tw78 hw) (by decide) (by decide)) (g := (mkF m 52 #[vr a] [(.ref aNQ), (.ref aNQ), (.ref a)])) rfl (by rw [hml]; rfl) (Steps.refl _) (a := aNQ) (argsL := []) (rest := [(.ref aNQ), (.ref a)]) (lenOf pd_8 rfl) rfl (by show 2 * 0 + _ ≤ _; exact Nat.le_of_eq rfl) (hH p17_1_52) (fun _ _ => ⟨rfl, eNL, (by decide : 11 + 3 ≤ _), (by decide : 335 + 0 ≤ _)⟩)
 dsimp only [Pt.U, Pt.locs, Pt.cells, Pt.slots] at XP5 lP8 yP9 zPA stPB hQP7
 subst yP9 zPA
 obtain ⟨rfl, NPC, KPF⟩ := hQP7
 have NPG : Fr n0 LP2 := by rw [lP8]; exact Fr.app NNF NPC
 clear lP8 NPC
 replace Z0 := Nat.le_trans Z0 KPF.1
 replace E1 := E1.keep KPF
 replace U1 := U1.keep KPF (ninS nNT nin0)
 replace FJ8 := FJ8.keep KPF (ninS nNT nin0)
 replace AJN := AJN.keep KPF
 replace ALM := ALM.keep KPF
 replace ANN := ANN.keep KPF
 clear UnNY
 replace K0 := K0.trans KPF (allS (Or.inr nwNW) all0)
 have kPH : own_G p e below E0 TP1 (mkF m 55 #[vr a] [(.ref aNQ), (.ref a)]) := fun tQ kk => kP0 tQ (stPB.trans kk)
 clear kP0 stPB
 obtain ⟨voPI, FPJ⟩ := fld_laid E1 (Unt.known U1) (tw47 hw) (Or.inr (tw94 hw))
 obtain ⟨TPK, hPL, XPM, ePN, WPO, stPP⟩ := putF XP5 hx hZ hown (host := "") (Or.inl (tw93 hw)) Via.refl rfl FPJ E1 (Or.inr ⟨(tw94 hw), rfl, hnm⟩) (tw47 hw) (ty := (.object "com/example/netloom/netloom/embed/BasisFactor$Entries")) (by decide) rfl rfl (g := (mkF m 55 #[vr a] [(.ref aNQ), (.ref a)])) rfl rfl (hH p17_1_55)
 have NPQ := Fr.snoc XPM NPG ge_a
 have kPR : own_G p e below E0 TPK (mkF m 58 #[vr a] []) := fun tQ kk => kPH tQ (stPP _ kk)
 clear kPH stPP
 replace E1 := E1.wr WPO
 replace U1 := U1.wr WPO
 replace FJ8 := FJ8.other WPO (Or.inr (sn17 hw))
 replace AJN := AJN.wr WPO
 replace ALM := ALM.wr WPO
 replace ANN := ANN.wr WPO
 replace Z0 := own_wrle WPO Z0
 replace K0 := K0.wr WPO (Or.inl (List.mem_of_getElem? (i := 0) rfl))
 have kPS : own_G p e below E0 TPK (mkF m 59 #[vr a] [(.ref a)]) := by
  intro tQ kk
  refine kPR tQ ?_
  refine XS.aloadN XPM.here hx rfl (hH p17_1_58) rfl rfl ?_
  exact kk
 clear kPR
 obtain ⟨TPT, hPU, XPV, ePW, EPX, APY, DPZ, UnQ3, stQ0⟩ := newO XPM hx hZ hown (tw76 hw) (tw77 hw) (tw78 hw) ePN (g := (mkF m 59 #[vr a] [(.ref a)])) rfl (hH p17_1_59) (by decide) (by decide)
 obtain ⟨aQ1, gQ2⟩ : ∃ zA : Nat, zA = hPL.size := ⟨_, rfl⟩
 rw [← gQ2] at APY DPZ stQ0 UnQ3
 have nQ4 := own_lt_ne E1.lt gQ2
 have nQ5 := own_lt_ne AJN.lt gQ2
 have nQ6 := own_lt_ne ALM.lt gQ2
 have nQ7 := own_lt_ne ANN.lt gQ2
 have nwQ8 : h0.size ≤ aQ1 := own_ge_of K0.1 gQ2
 have geQ9 : n0 ≤ aQ1 := own_ge_of Z0 gQ2
 replace Z0 := Nat.le_trans Z0 EPX.1
 replace E1 := E1.ext EPX
 replace U1 := U1.ext EPX
 replace FJ8 := FJ8.ext EPX
 replace AJN := AJN.ext EPX
 replace ALM := ALM.ext EPX
 replace ANN := ANN.ext EPX
 replace K0 := K0.ext EPX
 have UnQA : Unt hPU aQ1 := UnQ3
 have kQB : own_G p e below E0 TPT (mkF m 62 #[vr a] [(.ref aQ1), (.ref a)]) := fun tQ kk => kPS tQ (stQ0 _ kk)
 clear kPS stQ0
 have kQC : own_G p e below E0 TPT (mkF m 63 #[vr a] [(.ref aQ1), (.ref aQ1), (.ref a)]) := by
  intro tQ kk
  refine kQB tQ ?_
  refine XS.dup XPV.here hx rfl (hH p17_1_62) rfl rfl ?_
  exact kk
 clear kQB
 obtain ⟨_, _, ⟨TQD, LQE, kcQF, ncQG⟩, -, XQH, ⟨LcQI, hQQJ, lQK, yQL, zQM⟩, stQN⟩ := own_specialRef XPV hx (y := mn3) rfl hown (own_mvRef hZ (by decide) (tw80 hw) (tw79 hw)) (mvT hZ (tw80 hw)) (mvT hZ (tw81 hw)) (by decide) (backOf (W := 2) (rmEn l Z a0 hw [] aQ1 hPU n0 Z0 APY UnQA geQ9) hZ (tw81 hw) (tw78 hw) (by decide) (by decide)) (g := (mkF m 63 #[vr a] [(.ref aQ1), (.ref aQ1), (.ref a)])) rfl (by rw [hml]; rfl) (Steps.refl _) (a := aQ1) (argsL := []) (rest := [(.ref aQ1), (.ref a)]) (lenOf pd_8 rfl) rfl (by show 2 * 0 + _ ≤ _; exact Nat.le_of_eq rfl) (hH p17_1_63) (fun _ _ => ⟨rfl, ePW, (by decide : 15 + 3 ≤ _), (by decide : 338 + 0 ≤ _)⟩)
 dsimp only [Pt.U, Pt.locs, Pt.cells, Pt.slots] at XQH lQK yQL zQM stQN hQQJ
 subst yQL zQM
 obtain ⟨rfl, NQO, KQR⟩ := hQQJ
 have NQS : Fr n0 LQE := by rw [lQK]; exact Fr.app NPQ NQO
 clear lQK NQO
 replace Z0 := Nat.le_trans Z0 KQR.1
 replace E1 := E1.keep KQR
 replace U1 := U1.keep KQR (ninS nQ4 nin0)
 replace FJ8 := FJ8.keep KQR (ninS nQ4 nin0)
 replace AJN := AJN.keep KQR
 replace ALM := ALM.keep KQR
 replace ANN := ANN.keep KQR
 replace APY := APY.keep KQR
 clear UnQA
 replace K0 := K0.trans KQR (allS (Or.inr nwQ8) all0)
 have kQT : own_G p e below E0 TQD (mkF m 66 #[vr a] [(.ref aQ1), (.ref a)]) := fun tQ kk => kQC tQ (stQN.trans kk)
 clear kQC stQN
 obtain ⟨voQU, FQV⟩ := fld_laid E1 (Unt.known U1) (tw47 hw) (Or.inr (tw96 hw))
 obtain ⟨TQW, hQX, XQY, eQZ, WR0, stR1⟩ := putF XQH hx hZ hown (host := "") (Or.inl (tw95 hw)) Via.refl rfl FQV E1 (Or.inr ⟨(tw96 hw), rfl, hnm⟩) (tw47 hw) (ty := (.object "com/example/netloom/netloom/embed/BasisFactor$Entries")) (by decide) rfl rfl (g := (mkF m 66 #[vr a] [(.ref aQ1), (.ref a)])) rfl rfl (hH p17_1_66)
 have NR2 := Fr.snoc XQY NQS ge_a
 have kR3 : own_G p e below E0 TQW (mkF m 69 #[vr a] []) := fun tQ kk => kQT tQ (stR1 _ kk)
 clear kQT stR1
 replace E1 := E1.wr WR0
 replace U1 := U1.wr WR0
 replace FJ8 := FJ8.other WR0 (Or.inr (sn18 hw))
 replace AJN := AJN.wr WR0
 replace ALM := ALM.wr WR0
 replace ANN := ANN.wr WR0
 replace APY := APY.wr WR0
 replace Z0 := own_wrle WR0 Z0
 replace K0 := K0.wr WR0 (Or.inl (List.mem_of_getElem? (i := 0) rfl))
 have kR4 : own_G p e below E0 TQW (mkF m 72 #[vr a] [(.int (16 : Int32)), (.ref a)]) := by
  intro tQ kk
  refine kR3 tQ ?_
  refine XS.aloadN XQY.here hx rfl (hH p17_1_69) rfl rfl ?_
  refine XS.bipush XQY.here hx rfl (hH p17_1_70) ?_
  exact kk
 clear kR3
 obtain ⟨TR5, hR6, cAR7, XR8, eR9, ERA, ARB, stRC⟩ := newP (aty := .double) XQY hx hZ (tw36 hw) eQZ (g := (mkF m 72 #[vr a] [(.int (16 : Int32)), (.ref a)])) rfl (hH p17_1_72) rfl (by decide) (cap := 16) (by decide) (by decide) (by decide) (by decide)
 obtain ⟨aRD, gRE⟩ : ∃ zA : Nat, zA = hQX.size := ⟨_, rfl⟩
 rw [← gRE] at ARB stRC
 have nRF := own_lt_ne E1.lt gRE
 have nRG := own_lt_ne AJN.lt gRE
 have nRH := own_lt_ne ALM.lt gRE
 have nRI := own_lt_ne ANN.lt gRE
 have nRJ := own_lt_ne APY.lt gRE
 have nwRK : h0.size ≤ aRD := own_ge_of K0.1 gRE
 have geRL : n0 ≤ aRD := own_ge_of Z0 gRE
 replace Z0 := Nat.le_trans Z0 ERA.1
 replace E1 := E1.ext ERA
 replace U1 := U1.ext ERA
 replace FJ8 := FJ8.ext ERA
 replace AJN := AJN.ext ERA
 replace ALM := ALM.ext ERA
 replace ANN := ANN.ext ERA
 replace APY := APY.ext ERA
 replace K0 := K0.ext ERA
 have kRM : own_G p e below E0 TR5 (mkF m 74 #[vr a] [(.ref aRD), (.ref a)]) := fun tQ kk => kR4 tQ (stRC _ kk)
 clear kR4 stRC
 obtain ⟨voRN, FRO⟩ := fld_laid E1 (Unt.known U1) (tw47 hw) (Or.inl (tw98 hw))
 obtain ⟨TRP, hRQ, XRR, eRS, WRT, stRU⟩ := putF XR8 hx hZ hown (host := "") (Or.inl (tw97 hw)) Via.refl eR9 FRO E1 (Or.inl (tw98 hw)) (tw47 hw) (ty := (.array .double)) (by decide) rfl rfl (g := (mkF m 74 #[vr a] [(.ref aRD), (.ref a)])) rfl rfl (hH p17_1_74)
 have NRV := Fr.snoc XRR NR2 ge_a
 have kRW : own_G p e below E0 TRP (mkF m 77 #[vr a] []) := fun tQ kk => kRM tQ (stRU _ kk)
 clear kRM stRU
 replace E1 := E1.wr WRT
 replace U1 := U1.wr WRT
 replace FJ8 := FJ8.other WRT (Or.inr (sn19 hw))
 replace AJN := AJN.wr WRT
 replace ALM := ALM.wr WRT
 replace ANN := ANN.wr WRT
 replace APY := APY.wr WRT
 replace Z0 := own_wrle WRT Z0
 replace K0 := K0.wr WRT (Or.inl (List.mem_of_getElem? (i := 0) rfl))
 have kRX : own_G p e below E0 TRP (mkF m 80 #[vr a] [(.int (16 : Int32)), (.ref a)]) := by
  intro tQ kk
  refine kRW tQ ?_
  refine XS.aloadN XRR.here hx rfl (hH p17_1_77) rfl rfl ?_
  refine XS.bipush XRR.here hx rfl (hH p17_1_78) ?_
  exact kk
 clear kRW
 obtain ⟨TRY, hRZ, cAS0, XS1, eS2, ES3, AS4, stS5⟩ := newP (aty := .int) XRR hx hZ (tw41 hw) eRS (g := (mkF m 80 #[vr a] [(.int (16 : Int32)), (.ref a)])) rfl (hH p17_1_80) rfl (by decide) (cap := 16) (by decide) (by decide) (by decide) (by decide)
 obtain ⟨aS6, gS7⟩ : ∃ zA : Nat, zA = hRQ.size := ⟨_, rfl⟩
 rw [← gS7] at AS4 stS5
 have nS8 := own_lt_ne E1.lt gS7
 have nS9 := own_lt_ne AJN.lt gS7
 have nSA := own_lt_ne ALM.lt gS7
 have nSB := own_lt_ne ANN.lt gS7
 have nSC := own_lt_ne APY.lt gS7
 have nwSD : h0.size ≤ aS6 := own_ge_of K0.1 gS7
 have geSE : n0 ≤ aS6 := own_ge_of Z0 gS7
 replace Z0 := Nat.le_trans Z0 ES3.1
 replace E1 := E1.ext ES3
 replace U1 := U1.ext ES3
 replace FJ8 := FJ8.ext ES3
 replace AJN := AJN.ext ES3
 replace ALM := ALM.ext ES3
 replace ANN := ANN.ext ES3
 replace APY := APY.ext ES3
 replace K0 := K0.ext ES3
 have kSF : own_G p e below E0 TRY (mkF m 82 #[vr a] [(.ref aS6), (.ref a)]) := fun tQ kk => kRX tQ (stS5 _ kk)
 clear kRX stS5
 obtain ⟨voSG, FSH⟩ := fld_laid E1 (Unt.known U1) (tw47 hw) (Or.inl (tw100 hw))
 obtain ⟨TSI, hSJ, XSK, eSL, WSM, stSN⟩ := putF XS1 hx hZ hown (host := "") (Or.inl (tw99 hw)) Via.refl eS2 FSH E1 (Or.inl (tw100 hw)) (tw47 hw) (ty := (.array .int)) (by decide) rfl rfl (g := (mkF m 82 #[vr a] [(.ref aS6), (.ref a)])) rfl rfl (hH p17_1_82)
 have NSO := Fr.snoc XSK NRV ge_a
 have kSP : own_G p e below E0 TSI (mkF m 85 #[vr a] []) := fun tQ kk => kSF tQ (stSN _ kk)
 clear kSF stSN
 replace E1 := E1.wr WSM
 replace U1 := U1.wr WSM
 replace FJ8 := FJ8.other WSM (Or.inr (sn20 hw))
 replace AJN := AJN.wr WSM
 replace ALM := ALM.wr WSM
 replace ANN := ANN.wr WSM
 replace APY := APY.wr WSM
 replace Z0 := own_wrle WSM Z0
 replace K0 := K0.wr WSM (Or.inl (List.mem_of_getElem? (i := 0) rfl))
 have kSQ : own_G p e below E0 TSI (mkF m 88 #[vr a] [(.int (16 : Int32)), (.ref a)]) := by
  intro tQ kk
  refine kSP tQ ?_
  refine XS.aloadN XSK.here hx rfl (hH p17_1_85) rfl rfl ?_
  refine XS.bipush XSK.here hx rfl (hH p17_1_86) ?_
  exact kk
 clear kSP
 obtain ⟨TSR, hSS, cAST, XSU, eSV, ESW, ASX, stSY⟩ := newP (aty := .int) XSK hx hZ (tw41 hw) eSL (g := (mkF m 88 #[vr a] [(.int (16 : Int32)), (.ref a)])) rfl (hH p17_1_88) rfl (by decide) (cap := 16) (by decide) (by decide) (by decide) (by decide)
 obtain ⟨aSZ, gT0⟩ : ∃ zA : Nat, zA = hSJ.size := ⟨_, rfl⟩
 rw [← gT0] at ASX stSY
 have nT1 := own_lt_ne E1.lt gT0
 have nT2 := own_lt_ne AJN.lt gT0
 have nT3 := own_lt_ne ALM.lt gT0
 have nT4 := own_lt_ne ANN.lt gT0
 have nT5 := own_lt_ne APY.lt gT0
 have nwT6 : h0.size ≤ aSZ := own_ge_of K0.1 gT0
 have geT7 : n0 ≤ aSZ := own_ge_of Z0 gT0
 replace Z0 := Nat.le_trans Z0 ESW.1
 replace E1 := E1.ext ESW
 replace U1 := U1.ext ESW
 replace FJ8 := FJ8.ext ESW
 replace AJN := AJN.ext ESW
 replace ALM := ALM.ext ESW
 replace ANN := ANN.ext ESW
 replace APY := APY.ext ESW
 replace K0 := K0.ext ESW
 have kT8 : own_G p e below E0 TSR (mkF m 90 #[vr a] [(.ref aSZ), (.ref a)]) := fun tQ kk => kSQ tQ (stSY _ kk)
 clear kSQ stSY
 obtain ⟨voT9, FTA⟩ := fld_laid E1 (Unt.known U1) (tw47 hw) (Or.inl (tw102 hw))
 obtain ⟨TTB, hTC, XTD, eTE, WTF, stTG⟩ := putF XSU hx hZ hown (host := "") (Or.inl (tw101 hw)) Via.refl eSV FTA E1 (Or.inl (tw102 hw)) (tw47 hw) (ty := (.array .int)) (by decide) rfl rfl (g := (mkF m 90 #[vr a] [(.ref aSZ), (.ref a)])) rfl rfl (hH p17_1_90)
 have NTH := Fr.snoc XTD NSO ge_a
 have kTI : own_G p e below E0 TTB (mkF m 93 #[vr a] []) := fun tQ kk => kT8 tQ (stTG _ kk)
 clear kT8 stTG
 replace E1 := E1.wr WTF
 replace U1 := U1.wr WTF
 replace FJ8 := FJ8.other WTF (Or.inr (sn21 hw))
 replace AJN := AJN.wr WTF
 replace ALM := ALM.wr WTF
 replace ANN := ANN.wr WTF
 replace APY := APY.wr WTF
 replace Z0 := own_wrle WTF Z0
 replace K0 := K0.wr WTF (Or.inl (List.mem_of_getElem? (i := 0) rfl))
 have kTJ : own_G p e below E0 TTB (mkF m 96 #[vr a] [(.int (16 : Int32)), (.ref a)]) := by
  intro tQ kk
  refine kTI tQ ?_
  refine XS.aloadN XTD.here hx rfl (hH p17_1_93) rfl rfl ?_
  refine XS.bipush XTD.here hx rfl (hH p17_1_94) ?_
  exact kk
 clear kTI
 obtain ⟨TTK, hTL, cATM, XTN, eTO, ETP, ATQ, stTR⟩ := newP (aty := .int) XTD hx hZ (tw41 hw) eTE (g := (mkF m 96 #[vr a] [(.int (16 : Int32)), (.ref a)])) rfl (hH p17_1_96) rfl (by decide) (cap := 16) (by decide) (by decide) (by decide) (by decide)
 obtain ⟨aTS, gTT⟩ : ∃ zA : Nat, zA = hTC.size := ⟨_, rfl⟩
 rw [← gTT] at ATQ stTR
 have nTU := own_lt_ne E1.lt gTT
 have nTV := own_lt_ne AJN.lt gTT
 have nTW := own_lt_ne ALM.lt gTT
 have nTX := own_lt_ne ANN.lt gTT
 have nTY := own_lt_ne APY.lt gTT
 have nwTZ : h0.size ≤ aTS := own_ge_of K0.1 gTT
 have geU0 : n0 ≤ aTS := own_ge_of Z0 gTT
 replace Z0 := Nat.le_trans Z0 ETP.1
 replace E1 := E1.ext ETP
 replace U1 := U1.ext ETP
 replace FJ8 := FJ8.ext ETP
 replace AJN := AJN.ext ETP
 replace ALM := ALM.ext ETP
 replace ANN := ANN.ext ETP
 replace APY := APY.ext ETP
 replace K0 := K0.ext ETP
 have kU1 : own_G p e below E0 TTK (mkF m 98 #[vr a] [(.ref aTS), (.ref a)]) := fun tQ kk => kTJ tQ (stTR _ kk)
 clear kTJ stTR
 obtain ⟨voU2, FU3⟩ := fld_laid E1 (Unt.known U1) (tw47 hw) (Or.inl (tw104 hw))
 obtain ⟨TU4, hU5, XU6, eU7, WU8, stU9⟩ := putF XTN hx hZ hown (host := "") (Or.inl (tw103 hw)) Via.refl eTO FU3 E1 (Or.inl (tw104 hw)) (tw47 hw) (ty := (.array .int)) (by decide) rfl rfl (g := (mkF m 98 #[vr a] [(.ref aTS), (.ref a)])) rfl rfl (hH p17_1_98)
 have NUA := Fr.snoc XU6 NTH ge_a
 have kUB : own_G p e below E0 TU4 (mkF m 101 #[vr a] []) := fun tQ kk => kU1 tQ (stU9 _ kk)
 clear kU1 stU9
 replace E1 := E1.wr WU8
 replace U1 := U1.wr WU8
 replace FJ8 := FJ8.other WU8 (Or.inr (sn22 hw))
 replace AJN := AJN.wr WU8
 replace ALM := ALM.wr WU8
 replace ANN := ANN.wr WU8
 replace APY := APY.wr WU8
 replace Z0 := own_wrle WU8 Z0
 replace K0 := K0.wr WU8 (Or.inl (List.mem_of_getElem? (i := 0) rfl))
 have kUC : own_G p e below E0 TU4 (mkF m 104 #[vr a] [(.int (16 : Int32)), (.ref a)]) := by
  intro tQ kk
  refine kUB tQ ?_
  refine XS.aloadN XU6.here hx rfl (hH p17_1_101) rfl rfl ?_
  refine XS.bipush XU6.here hx rfl (hH p17_1_102) ?_
  exact kk
 clear kUB
 obtain ⟨TUD, hUE, cAUF, XUG, eUH, EUI, AUJ, stUK⟩ := newP (aty := .int) XU6 hx hZ (tw41 hw) eU7 (g := (mkF m 104 #[vr a] [(.int (16 : Int32)), (.ref a)])) rfl (hH p17_1_104) rfl (by decide) (cap := 16) (by decide) (by decide) (by decide) (by decide)
 obtain ⟨aUL, gUM⟩ : ∃ zA : Nat, zA = hU5.size := ⟨_, rfl⟩
 rw [← gUM] at AUJ stUK
 have nUN := own_lt_ne E1.lt gUM
 have nUO := own_lt_ne AJN.lt gUM
 have nUP := own_lt_ne ALM.lt gUM
 have nUQ := own_lt_ne ANN.lt gUM
 have nUR := own_lt_ne APY.lt gUM
 have nwUS : h0.size ≤ aUL := own_ge_of K0.1 gUM
 have geUT : n0 ≤ aUL := own_ge_of Z0 gUM
 replace Z0 := Nat.le_trans Z0 EUI.1
 replace E1 := E1.ext EUI
 replace U1 := U1.ext EUI
 replace FJ8 := FJ8.ext EUI
 replace AJN := AJN.ext EUI
 replace ALM := ALM.ext EUI
 replace ANN := ANN.ext EUI
 replace APY := APY.ext EUI
 replace K0 := K0.ext EUI
 have kUU : own_G p e below E0 TUD (mkF m 106 #[vr a] [(.ref aUL), (.ref a)]) := fun tQ kk => kUC tQ (stUK _ kk)
 clear kUC stUK
 obtain ⟨voUV, FUW⟩ := fld_laid E1 (Unt.known U1) (tw47 hw) (Or.inl (tw106 hw))
 obtain ⟨TUX, hUY, XUZ, eV0, WV1, stV2⟩ := putF XUG hx hZ hown (host := "") (Or.inl (tw105 hw)) Via.refl eUH FUW E1 (Or.inl (tw106 hw)) (tw47 hw) (ty := (.array .int)) (by decide) rfl rfl (g := (mkF m 106 #[vr a] [(.ref aUL), (.ref a)])) rfl rfl (hH p17_1_106)
 have NV3 := Fr.snoc XUZ NUA ge_a
 have kV4 : own_G p e below E0 TUX (mkF m 109 #[vr a] []) := fun tQ kk => kUU tQ (stV2 _ kk)
 clear kUU stV2
 replace E1 := E1.wr WV1
 replace U1 := U1.wr WV1
 replace FJ8 := FJ8.other WV1 (Or.inr (sn23 hw))
 replace AJN := AJN.wr WV1
 replace ALM := ALM.wr WV1
 replace ANN := ANN.wr WV1
 replace APY := APY.wr WV1
 replace Z0 := own_wrle WV1 Z0
 replace K0 := K0.wr WV1 (Or.inl (List.mem_of_getElem? (i := 0) rfl))
 have kV5 : own_G p e below E0 TUX (mkF m 112 #[vr a] [(.int (16 : Int32)), (.ref a)]) := by
  intro tQ kk
  refine kV4 tQ ?_
  refine XS.aloadN XUZ.here hx rfl (hH p17_1_109) rfl rfl ?_
  refine XS.bipush XUZ.here hx rfl (hH p17_1_110) ?_
  exact kk
 clear kV4
 obtain ⟨TV6, hV7, cAV8, XV9, eVA, EVB, AVC, stVD⟩ := newP (aty := .double) XUZ hx hZ (tw36 hw) eV0 (g := (mkF m 112 #[vr a] [(.int (16 : Int32)), (.ref a)])) rfl (hH p17_1_112) rfl (by decide) (cap := 16) (by decide) (by decide) (by decide) (by decide)
 obtain ⟨aVE, gVF⟩ : ∃ zA : Nat, zA = hUY.size := ⟨_, rfl⟩
 rw [← gVF] at AVC stVD
 have nVG := own_lt_ne E1.lt gVF
 have nVH := own_lt_ne AJN.lt gVF
 have nVI := own_lt_ne ALM.lt gVF
 have nVJ := own_lt_ne ANN.lt gVF
 have nVK := own_lt_ne APY.lt gVF
 have nwVL : h0.size ≤ aVE := own_ge_of K0.1 gVF
 have geVM : n0 ≤ aVE := own_ge_of Z0 gVF
 replace Z0 := Nat.le_trans Z0 EVB.1
 replace E1 := E1.ext EVB
 replace U1 := U1.ext EVB
 replace FJ8 := FJ8.ext EVB
 replace AJN := AJN.ext EVB
 replace ALM := ALM.ext EVB
 replace ANN := ANN.ext EVB
 replace APY := APY.ext EVB
 replace K0 := K0.ext EVB
 have kVN : own_G p e below E0 TV6 (mkF m 114 #[vr a] [(.ref aVE), (.ref a)]) := fun tQ kk => kV5 tQ (stVD _ kk)
 clear kV5 stVD
 obtain ⟨voVO, FVP⟩ := fld_laid E1 (Unt.known U1) (tw47 hw) (Or.inl (tw108 hw))
 obtain ⟨TVQ, hVR, XVS, eVT, WVU, stVV⟩ := putF XV9 hx hZ hown (host := "") (Or.inl (tw107 hw)) Via.refl eVA FVP E1 (Or.inl (tw108 hw)) (tw47 hw) (ty := (.array .double)) (by decide) rfl rfl (g := (mkF m 114 #[vr a] [(.ref aVE), (.ref a)])) rfl rfl (hH p17_1_114)
 have NVW := Fr.snoc XVS NV3 ge_a
 have kVX : own_G p e below E0 TVQ (mkF m 117 #[vr a] []) := fun tQ kk => kVN tQ (stVV _ kk)
 clear kVN stVV
 replace E1 := E1.wr WVU
 replace U1 := U1.wr WVU
 replace FJ8 := FJ8.other WVU (Or.inr (sn24 hw))
 replace AJN := AJN.wr WVU
 replace ALM := ALM.wr WVU
 replace ANN := ANN.wr WVU
 replace APY := APY.wr WVU
 replace Z0 := own_wrle WVU Z0
 replace K0 := K0.wr WVU (Or.inl (List.mem_of_getElem? (i := 0) rfl))
 have kVY : own_G p e below E0 TVQ (mkF m 120 #[vr a] [(.int (16 : Int32)), (.ref a)]) := by
  intro tQ kk
  refine kVX tQ ?_
  refine XS.aloadN XVS.here hx rfl (hH p17_1_117) rfl rfl ?_
  refine XS.bipush XVS.here hx rfl (hH p17_1_118) ?_
  exact kk
 clear kVX
 obtain ⟨TVZ, hW0, cAW1, XW2, eW3, EW4, AW5, stW6⟩ := newP (aty := .double) XVS hx hZ (tw36 hw) eVT (g := (mkF m 120 #[vr a] [(.int (16 : Int32)), (.ref a)])) rfl (hH p17_1_120) rfl (by decide) (cap := 16) (by decide) (by decide) (by decide) (by decide)
 obtain ⟨aW7, gW8⟩ : ∃ zA : Nat, zA = hVR.size := ⟨_, rfl⟩
 rw [← gW8] at AW5 stW6
 have nW9 := own_lt_ne E1.lt gW8
 have nWA := own_lt_ne AJN.lt gW8
 have nWB := own_lt_ne ALM.lt gW8
 have nWC := own_lt_ne ANN.lt gW8
 have nWD := own_lt_ne APY.lt gW8
 have nwWE : h0.size ≤ aW7 := own_ge_of K0.1 gW8
 have geWF : n0 ≤ aW7 := own_ge_of Z0 gW8
 replace Z0 := Nat.le_trans Z0 EW4.1
 replace E1 := E1.ext EW4
 replace U1 := U1.ext EW4
 replace FJ8 := FJ8.ext EW4
 replace AJN := AJN.ext EW4
 replace ALM := ALM.ext EW4
 replace ANN := ANN.ext EW4
 replace APY := APY.ext EW4
 replace K0 := K0.ext EW4
 have kWG : own_G p e below E0 TVZ (mkF m 122 #[vr a] [(.ref aW7), (.ref a)]) := fun tQ kk => kVY tQ (stW6 _ kk)
 clear kVY stW6
 obtain ⟨voWH, FWI⟩ := fld_laid E1 (Unt.known U1) (tw47 hw) (Or.inl (tw110 hw))
 obtain ⟨TWJ, hWK, XWL, eWM, WWN, stWO⟩ := putF XW2 hx hZ hown (host := "") (Or.inl (tw109 hw)) Via.refl eW3 FWI E1 (Or.inl (tw110 hw)) (tw47 hw) (ty := (.array .double)) (by decide) rfl rfl (g := (mkF m 122 #[vr a] [(.ref aW7), (.ref a)])) rfl rfl (hH p17_1_122)
 have NWP := Fr.snoc XWL NVW ge_a
 have kWQ : own_G p e below E0 TWJ (mkF m 125 #[vr a] []) := fun tQ kk => kWG tQ (stWO _ kk)
 clear kWG stWO
 replace E1 := E1.wr WWN
 replace U1 := U1.wr WWN
 replace FJ8 := FJ8.other WWN (Or.inr (sn25 hw))
 replace AJN := AJN.wr WWN
 replace ALM := ALM.wr WWN
 replace ANN := ANN.wr WWN
 replace APY := APY.wr WWN
 replace Z0 := own_wrle WWN Z0
 replace K0 := K0.wr WWN (Or.inl (List.mem_of_getElem? (i := 0) rfl))
 have kWR : own_G p e below E0 TWJ (mkF m 126 #[vr a] [(.ref a)]) := by
  intro tQ kk
  refine kWQ tQ ?_
  refine XS.aloadN XWL.here hx rfl (hH p17_1_125) rfl rfl ?_
  exact kk
 clear kWQ
 obtain ⟨TWS, hWT, XWU, eWV, EWW, AWX, DWY, UnX2, stWZ⟩ := newO XWL hx hZ hown (tw111 hw) (tw112 hw) (tw113 hw) eWM (g := (mkF m 126 #[vr a] [(.ref a)])) rfl (hH p17_1_126) (by decide) (by decide)
 obtain ⟨aX0, gX1⟩ : ∃ zA : Nat, zA = hWK.size := ⟨_, rfl⟩
 rw [← gX1] at AWX DWY stWZ UnX2
 have nX3 := own_lt_ne E1.lt gX1
 have nX4 := own_lt_ne AJN.lt gX1
 have nX5 := own_lt_ne ALM.lt gX1
 have nX6 := own_lt_ne ANN.lt gX1
 have nX7 := own_lt_ne APY.lt gX1
 have nwX8 : h0.size ≤ aX0 := own_ge_of K0.1 gX1
 have geX9 : n0 ≤ aX0 := own_ge_of Z0 gX1
 replace Z0 := Nat.le_trans Z0 EWW.1
 replace E1 := E1.ext EWW
 replace U1 := U1.ext EWW
 replace FJ8 := FJ8.ext EWW
 replace AJN := AJN.ext EWW
 replace ALM := ALM.ext EWW
 replace ANN := ANN.ext EWW
 replace APY := APY.ext EWW
 replace K0 := K0.ext EWW
 have UnXA : Unt hWT aX0 := UnX2
 have kXB : own_G p e below E0 TWS (mkF m 129 #[vr a] [(.ref aX0), (.ref a)]) := fun tQ kk => kWR tQ (stWZ _ kk)
 clear kWR stWZ
 have kXC : own_G p e below E0 TWS (mkF m 131 #[vr a] [(.ref a), (.ref aX0), (.ref aX0), (.ref a)]) := by
  intro tQ kk
  refine kXB tQ ?_
  refine XS.dup XWU.here hx rfl (hH p17_1_129) rfl rfl ?_
  refine XS.aloadN XWU.here hx rfl (hH p17_1_130) rfl rfl ?_
  exact kk
 clear kXB
 obtain ⟨_, _, ⟨TXD, LXE, kcXF, ncXG⟩, -, XXH, ⟨LcXI, hQXJ, lXK, yXL, zXM⟩, stXN⟩ := own_specialRef XWU hx (y := mn7) rfl hown (own_mvRef hZ (by decide) (tw115 hw) (tw114 hw)) (mvT hZ (tw115 hw)) (mvT hZ (tw116 hw)) (by decide) (backOf (W := 2) (rmEl l Z a0 hw [] aX0 a hWT n0 Z0 AWX UnXA geX9) hZ (tw116 hw) (tw113 hw) (by decide) (by decide)) (g := (mkF m 131 #[vr a] [(.ref a), (.ref aX0), (.ref aX0), (.ref a)])) rfl (by rw [hml]; rfl) (Steps.refl _) (a := aX0) (argsL := [(.ref a)]) (rest := [(.ref aX0), (.ref a)]) (lenOf pd_26 rfl) rfl (by show 2 * 0 + _ ≤ _; exact Nat.le_of_eq rfl) (hH p17_1_131) (fun _ _ => ⟨rfl, eWV, (by decide : 26 + 21 ≤ _), (by decide : 465 + 11 ≤ _)⟩)
 dsimp only [Pt.U, Pt.locs, Pt.cells, Pt.slots] at XXH lXK yXL zXM stXN hQXJ
 subst yXL zXM
 obtain ⟨rfl, NXO, KXR⟩ := hQXJ
 have NXS : Fr n0 LXE := by rw [lXK]; exact Fr.app NWP NXO
 clear lXK NXO
 replace Z0 := Nat.le_trans Z0 KXR.1
 replace E1 := E1.keep KXR
 replace U1 := U1.keep KXR (ninS nX3 nin0)
 replace FJ8 := FJ8.keep KXR (ninS nX3 nin0)
 replace AJN := AJN.keep KXR
 replace ALM := ALM.keep KXR
 replace ANN := ANN.keep KXR
 replace APY := APY.keep KXR
 replace AWX := AWX.keep KXR
 clear UnXA
 replace K0 := K0.trans KXR (allS (Or.inr nwX8) all0)
 have kXT : own_G p e below E0 TXD (mkF m 134 #[vr a] [(.ref aX0), (.ref a)]) := fun tQ kk => kXC tQ (stXN.trans kk)
 clear kXC stXN
 obtain ⟨voXU, FXV⟩ := fld_laid E1 (Unt.known U1) (tw47 hw) (Or.inr (tw160 hw))
 obtain ⟨TXW, hXX, XXY, eXZ, WY0, stY1⟩ := putF XXH hx hZ hown (host := "") (Or.inl (tw159 hw)) Via.refl rfl FXV E1 (Or.inr ⟨(tw160 hw), rfl, hnm⟩) (tw47 hw) (ty := (.object "com/example/netloom/netloom/embed/BasisFactor$Elimination")) (by decide) rfl rfl (g := (mkF m 134 #[vr a] [(.ref aX0), (.ref a)])) rfl rfl (hH p17_1_134)
 have NY2 := Fr.snoc XXY NXS ge_a
 have kY3 : own_G p e below E0 TXW (mkF m 137 #[vr a] []) := fun tQ kk => kXT tQ (stY1 _ kk)
 clear kXT stY1
 replace E1 := E1.wr WY0
 replace U1 := U1.wr WY0
 replace FJ8 := FJ8.other WY0 (Or.inr (sn27 hw))
 replace AJN := AJN.wr WY0
 replace ALM := ALM.wr WY0
 replace ANN := ANN.wr WY0
 replace APY := APY.wr WY0
 replace AWX := AWX.wr WY0
 replace Z0 := own_wrle WY0 Z0
 replace K0 := K0.wr WY0 (Or.inl (List.mem_of_getElem? (i := 0) rfl))
 obtain ⟨fs, hr, hrun, hended, hW, hsame⟩ := XXY.leave (v := none) (fun _ => rfl)
 have hrun0 := kY3 _ (XXY.returnOut hx Bd.returns (hH p17_1_137) hr)
 subst hE0
 refine ⟨_, _, hrun0, hrun, hended, _, _, rfl, ?_, ⟨_, rfl⟩, hW, hsame.mono (by decide) (by decide)⟩
 show QrmBf Z a h0 n0 _ TXW.heap _
 rw [eXZ]
 exact ⟨rfl, NY2, K0, FJ8⟩
def QrmAc (Z : State) (a : Addr) (h0 : Heap) (n0 : Nat) (vQ : Option Value) (hQ : Heap) (LQ : List Loc) : Prop := vQ = none ∧ Fr n0 LQ ∧ hQ = h0
theorem ef_rmAc (m : MethodId) (a : Addr) : entryFrame m #[(.ref a)] 1 = mkF m 0 #[vr a] [] := by first | (simp [entryFrame, mkF, argsToLocals, Value.category]; done) | rfl
abbrev mn28 : MethodName := ⟨"java/util/AbstractCollection", "<init>", "()V"⟩
theorem pn_java_util_AbstractCollection : plainName "java/util/AbstractCollection" = true := by first | (simp [plainName, overriddenIn]; done) | decide +kernel
theorem j22_1_0 : decode jdk_22_method_1_code 0 = .ok (.aload_n 0, 1) := by decide +kernel
theorem j22_1_1 : decode jdk_22_method_1_code 1 = .ok (.invokespecial 1, 3) := by decide +kernel
def tw28 {Z a0} (hw : HW Z a0) := hw _ (List.mem_of_getElem? (i := 28) rfl)
theorem j22_1_4 : decode jdk_22_method_1_code 4 = .ok (.return_, 1) := by decide +kernel
set_option maxRecDepth 65536 in
set_option maxHeartbeats 40000000 in
theorem rmAc (l : Launch) (Z : State) (a0 : Array Value) (hw : ∀ d ∈ tables_1, d.before a0 Z = true) (ws : List Jvm.Cond) (a : Addr) (h0 : Heap) (n0 : Nat) (Z0 : n0 ≤ h0.size)  :
  MetFree l mn28 (head1 (Jvm.Cond.code mn28 jdk_22_method_1_code 1 none :: ws) ({ frames := 1, cells := 0, slots := 0, locals := 12 } : Room)) (fun aA U => aA = #[(.ref a)] ∧ Z.Warmed39 U.vm ∧ U.heap = h0) (fun _ _ _ _ _ => True) (fun _ U o U' => ∃ vR LR, o = .returned vR ∧ QrmAc Z a h0 n0 vR U'.heap LR ∧ FrameEnd U o U' LR ({ frames := 1, cells := 0, slots := 0, locals := 12 } : Room).cells ({ frames := 1, cells := 0, slots := 0, locals := 12 } : Room).slots) := by
 refine MetFree.of_bodySF (plainFor_of_name pn_java_util_AbstractCollection) hisR ?_
 intro p e s m args below meth c s₁ Bd hml0 hPre hKk
 obtain ⟨rfl, hZ, hh⟩ := hPre
 have hx := Bd.exec
 have hby := Bd.bytes
 have hH : ∀ {pc r}, decode jdk_22_method_1_code pc = r → decode c.code pc = r := fun q => hb hby q
 have hml : c.maxLocals = 1 := hml0
 have hown : s.vm.findClass "java/util/AbstractCollection" = some m.cls := findClass_of_methodNamed Bd.named
 have hnm := (name_of_methodNamed Bd.named Bd.method).1
 have X0 : Stand p l e ({ frames := 1, cells := 0, slots := 0, locals := 12 } : Room) s m #[(.ref a)] below meth c s₁ [] 0 0 := Stand.of_body Bd
 have e0 : s₁.heap = h0 := by rw [← hh, Bd.state]; rfl
 have N0 := Fr.nil n0
 obtain ⟨E0, hE0⟩ : ∃ zE : State, zE = s₁.setTop (entryFrame m #[(.ref a)] 1) := ⟨_, rfl⟩
 have k0 : own_G p e below E0 s₁ (mkF m 0 #[vr a] []) := fun tz kz => hE0 ▸ castTop (ef_rmAc m a) kz
 have kJ0 : own_G p e below E0 s₁ (mkF m 1 #[vr a] [(.ref a)]) := by
  intro tQ kk
  refine k0 tQ ?_
  refine XS.aloadN X0.here hx rfl (hH j22_1_0) rfl rfl ?_
  exact kk
 clear k0
 obtain ⟨TJ1, XJ2, eJ3, stJ4⟩ := initO X0 hx hZ hown (tw28 hw) (tw8 hw) (tw9 hw) e0 (g := (mkF m 1 #[vr a] [(.ref a)])) rfl (by rw [hml]; rfl) rfl (hH j22_1_1) (by decide) (W := 0) (by show 2 * 0 + _ ≤ _; exact Nat.le_of_eq rfl) (by decide)
 have kJ5 : own_G p e below E0 TJ1 (mkF m 4 #[vr a] []) := fun tQ kk => kJ0 tQ (stJ4 _ kk)
 clear kJ0 stJ4
 obtain ⟨fs, hr, hrun, hended, hW, hsame⟩ := XJ2.leave (v := none) (fun _ => rfl)
 have hrun0 := kJ5 _ (XJ2.returnOut hx Bd.returns (hH j22_1_4) hr)
 subst hE0
 refine ⟨_, _, hrun0, hrun, hended, _, _, rfl, ?_, ⟨_, rfl⟩, hW, hsame.mono (by decide) (by decide)⟩
 show QrmAc Z a h0 n0 _ TJ1.heap _
 rw [eJ3]
 exact ⟨rfl, N0, rfl⟩
abbrev fd29 (Z : State) (h : Heap) (a : Addr) (v : Value) : Prop := Fld Z h a "java/util/AbstractList" "modCount" "I" v
abbrev fd30 (Z : State) (h : Heap) (a : Addr) (v : Value) : Prop := Fld Z h a "java/util/ArrayList" "elementData" "[Ljava/lang/Object;" v
abbrev fd31 (Z : State) (h : Heap) (a : Addr) (v : Value) : Prop := Fld Z h a "java/util/ArrayList" "size" "I" v
def QrmAb (Z : State) (a : Addr) (h0 : Heap) (n0 : Nat) (vQ : Option Value) (hQ : Heap) (LQ : List Loc) : Prop := vQ = none ∧ Fr n0 LQ ∧ Keep h0 hQ [a] ∧ (fd29 Z hQ a (.int (0 : Int32))) ∧ (fd30 Z hQ a .null) ∧ (fd31 Z hQ a (.int (0 : Int32)))
theorem ef_rmAb (m : MethodId) (a : Addr) : entryFrame m #[(.ref a)] 1 = mkF m 0 #[vr a] [] := by first | (simp [entryFrame, mkF, argsToLocals, Value.category]; done) | rfl
abbrev xa32 (Z : State) (h : Heap) (a : Addr) : Prop := Exa Z h a "java/util/ArrayList"
abbrev mn33 : MethodName := ⟨"java/util/AbstractList", "<init>", "()V"⟩
theorem pn_java_util_AbstractList : plainName "java/util/AbstractList" = true := by first | (simp [plainName, overriddenIn]; done) | decide +kernel
theorem j39_1_0 : decode jdk_39_method_1_code 0 = .ok (.aload_n 0, 1) := by decide +kernel
theorem j39_1_1 : decode jdk_39_method_1_code 1 = .ok (.invokespecial 1, 3) := by decide +kernel
def tw22 {Z a0} (hw : HW Z a0) := hw _ (List.mem_of_getElem? (i := 22) rfl)
def tw27 {Z a0} (hw : HW Z a0) := hw _ (List.mem_of_getElem? (i := 27) rfl)
def tw26 {Z a0} (hw : HW Z a0) := hw _ (List.mem_of_getElem? (i := 26) rfl)
def tw23 {Z a0} (hw : HW Z a0) := hw _ (List.mem_of_getElem? (i := 23) rfl)
theorem j39_1_4 : decode jdk_39_method_1_code 4 = .ok (.aload_n 0, 1) := by decide +kernel
theorem j39_1_5 : decode jdk_39_method_1_code 5 = .ok (.iconst 0, 1) := by decide +kernel
theorem j39_1_6 : decode jdk_39_method_1_code 6 = .ok (.putfield 7, 3) := by decide +kernel
def tw29 {Z a0} (hw : HW Z a0) := hw _ (List.mem_of_getElem? (i := 29) rfl)
def tw11 {Z a0} (hw : HW Z a0) := hw _ (List.mem_of_getElem? (i := 11) rfl)
def tw30 {Z a0} (hw : HW Z a0) := hw _ (List.mem_of_getElem? (i := 30) rfl)
def tw33 {Z a0} (hw : HW Z a0) := hw _ (List.mem_of_getElem? (i := 33) rfl)
abbrev cn35 : String := "java/util/ArrayList"
abbrev cn36 : String := "java/util/AbstractList"
theorem sn34 {Z a0} (hw : HW Z a0) : RoadKit.slotOf Z cn35 "elementData" "[Ljava/lang/Object;" ≠ RoadKit.slotOf Z cn36 "modCount" "I" := (slot_ne (C := cn35) (Or.inl (tw33 hw)) (Or.inl (tw30 hw)) (by decide) (t := (.array (.object "java/lang/Object"))) (t' := .int) (by decide) (by decide))
def tw182 {Z a0} (hw : HW Z a0) := hw _ (List.mem_of_getElem? (i := 182) rfl)
theorem sn37 {Z a0} (hw : HW Z a0) : RoadKit.slotOf Z cn35 "size" "I" ≠ RoadKit.slotOf Z cn36 "modCount" "I" := (slot_ne (C := cn35) (Or.inl (tw182 hw)) (Or.inl (tw30 hw)) (by decide) (t := .int) (t' := .int) (by decide) (by decide))
theorem j39_1_9 : decode jdk_39_method_1_code 9 = .ok (.return_, 1) := by decide +kernel
set_option maxRecDepth 65536 in
set_option maxHeartbeats 40000000 in
theorem rmAb (l : Launch) (Z : State) (a0 : Array Value) (hw : ∀ d ∈ tables_1, d.before a0 Z = true) (ws : List Jvm.Cond) (a : Addr) (h0 : Heap) (n0 : Nat) (Z0 : n0 ≤ h0.size) (E1 : xa32 Z h0 a) (F0 : fd29 Z h0 a (.int (0 : Int32))) (F1 : fd30 Z h0 a .null) (F2 : fd31 Z h0 a (.int (0 : Int32))) (ge_a : n0 ≤ a) :
  MetFree l mn33 (head1 (Jvm.Cond.code mn33 jdk_39_method_1_code 1 none :: ws) ({ frames := 2, cells := 0, slots := 0, locals := 26 } : Room)) (fun aA U => aA = #[(.ref a)] ∧ Z.Warmed39 U.vm ∧ U.heap = h0) (fun _ _ _ _ _ => True) (fun _ U o U' => ∃ vR LR, o = .returned vR ∧ QrmAb Z a h0 n0 vR U'.heap LR ∧ FrameEnd U o U' LR ({ frames := 2, cells := 0, slots := 0, locals := 26 } : Room).cells ({ frames := 2, cells := 0, slots := 0, locals := 26 } : Room).slots) := by
 refine MetFree.of_bodySF (plainFor_of_name pn_java_util_AbstractList) hisR ?_
 intro p e s m args below meth c s₁ Bd hml0 hPre hKk
 obtain ⟨rfl, hZ, hh⟩ := hPre
 have hx := Bd.exec
 have hby := Bd.bytes
 have hH : ∀ {pc r}, decode jdk_39_method_1_code pc = r → decode c.code pc = r := fun q => hb hby q
 have hml : c.maxLocals = 1 := hml0
 have hown : s.vm.findClass "java/util/AbstractList" = some m.cls := findClass_of_methodNamed Bd.named
 have hnm := (name_of_methodNamed Bd.named Bd.method).1
 have X0 : Stand p l e ({ frames := 2, cells := 0, slots := 0, locals := 26 } : Room) s m #[(.ref a)] below meth c s₁ [] 0 0 := Stand.of_body Bd
 have e0 : s₁.heap = h0 := by rw [← hh, Bd.state]; rfl
 have N0 := Fr.nil n0
 obtain ⟨E0, hE0⟩ : ∃ zE : State, zE = s₁.setTop (entryFrame m #[(.ref a)] 1) := ⟨_, rfl⟩
 have k0 : own_G p e below E0 s₁ (mkF m 0 #[vr a] []) := fun tz kz => hE0 ▸ castTop (ef_rmAb m a) kz
 have K0 : Keep h0 h0 [a] := Keep.refl _ _
 have kJ0 : own_G p e below E0 s₁ (mkF m 1 #[vr a] [(.ref a)]) := by
  intro tQ kk
  refine k0 tQ ?_
  refine XS.aloadN X0.here hx rfl (hH j39_1_0) rfl rfl ?_
  exact kk
 clear k0
 obtain ⟨_, _, ⟨TJ1, LJ2, kcJ3, ncJ4⟩, -, XJ5, ⟨LcJ6, hQJ7, lJ8, yJ9, zJA⟩, stJB⟩ := X0.specialBack hx (y := mn28) rfl hown (mvT hZ (tw22 hw)) (mvT hZ (tw23 hw)) (mvT hZ (tw27 hw)) (by decide) (backOf (W := 0) (rmAc l Z a0 hw [] a h0 n0 Z0 ) hZ (tw27 hw) (tw26 hw) (by decide) (by decide)) (g := (mkF m 1 #[vr a] [(.ref a)])) rfl (by rw [hml]; rfl) (Steps.refl _) (a := a) (argsL := []) (rest := []) (lenOf pd_8 rfl) rfl (by show 2 * 0 + _ ≤ _; exact Nat.le_of_eq rfl) (hH j39_1_1) (fun _ _ => ⟨rfl, e0, (by decide : 0 + 0 ≤ _), (by decide : 0 + 0 ≤ _)⟩)
 dsimp only [Pt.U, Pt.locs, Pt.cells, Pt.slots] at XJ5 lJ8 yJ9 zJA stJB hQJ7
 subst yJ9 zJA
 obtain ⟨rfl, NJC, eJD⟩ := hQJ7
 have NJF : Fr n0 LJ2 := by rw [lJ8]; exact Fr.app N0 NJC
 clear lJ8 NJC
 have kJG : own_G p e below E0 TJ1 (mkF m 4 #[vr a] []) := fun tQ kk => kJ0 tQ (stJB.trans kk)
 clear kJ0 stJB
 have kJH : own_G p e below E0 TJ1 (mkF m 6 #[vr a] [(.int (0 : Int32)), (.ref a)]) := by
  intro tQ kk
  refine kJG tQ ?_
  refine XS.aloadN XJ5.here hx rfl (hH j39_1_4) rfl rfl ?_
  refine XS.iconst XJ5.here hx rfl (hH j39_1_5) ?_
  exact kk
 clear kJG
 obtain ⟨TJI, hJJ, XJK, eJL, WJM, stJN⟩ := putF XJ5 hx hZ hown (host := "") (Or.inl (tw29 hw)) Via.refl eJD F0 E1 (Or.inl (tw30 hw)) (tw11 hw) (ty := .int) (by decide) rfl rfl (g := (mkF m 6 #[vr a] [(.int (0 : Int32)), (.ref a)])) rfl rfl (hH j39_1_6)
 have NJO := Fr.snoc XJK NJF ge_a
 have kJP : own_G p e below E0 TJI (mkF m 9 #[vr a] []) := fun tQ kk => kJH tQ (stJN _ kk)
 clear kJH stJN
 replace E1 := E1.wr WJM
 replace F0 := F0.same WJM
 replace F1 := F1.other WJM (Or.inr (sn34 hw))
 replace F2 := F2.other WJM (Or.inr (sn37 hw))
 replace Z0 := own_wrle WJM Z0
 replace K0 := K0.wr WJM (Or.inl (List.mem_of_getElem? (i := 0) rfl))
 obtain ⟨fs, hr, hrun, hended, hW, hsame⟩ := XJK.leave (v := none) (fun _ => rfl)
 have hrun0 := kJP _ (XJK.returnOut hx Bd.returns (hH j39_1_9) hr)
 subst hE0
 refine ⟨_, _, hrun0, hrun, hended, _, _, rfl, ?_, ⟨_, rfl⟩, hW, hsame.mono (by decide) (by decide)⟩
 show QrmAb Z a h0 n0 _ TJI.heap _
 rw [eJL]
 exact ⟨rfl, NJO, K0, F0, F1, F2⟩
def QrmAl (Z : State) (a : Addr) (dE : Addr) (h0 : Heap) (n0 : Nat) (vQ : Option Value) (hQ : Heap) (LQ : List Loc) : Prop := vQ = none ∧ Fr n0 LQ ∧ Keep h0 hQ [a] ∧ (fd29 Z hQ a (.int (0 : Int32))) ∧ (fd30 Z hQ a (.ref dE)) ∧ (fd31 Z hQ a (.int (0 : Int32)))
theorem ef_rmAl (m : MethodId) (a : Addr) (dE : Addr) : entryFrame m #[(.ref a)] 1 = mkF m 0 #[vr a] [] := by first | (simp [entryFrame, mkF, argsToLocals, Value.category]; done) | rfl
abbrev mn38 : MethodName := ⟨"java/util/ArrayList", "<init>", "()V"⟩
theorem pn_java_util_ArrayList : plainName "java/util/ArrayList" = true := by first | (simp [plainName, overriddenIn]; done) | decide +kernel
theorem j38_2_0 : decode jdk_38_method_2_code 0 = .ok (.aload_n 0, 1) := by decide +kernel
theorem j38_2_1 : decode jdk_38_method_2_code 1 = .ok (.invokespecial 1, 3) := by decide +kernel
def tw16 {Z a0} (hw : HW Z a0) := hw _ (List.mem_of_getElem? (i := 16) rfl)
def tw21 {Z a0} (hw : HW Z a0) := hw _ (List.mem_of_getElem? (i := 21) rfl)
def tw20 {Z a0} (hw : HW Z a0) := hw _ (List.mem_of_getElem? (i := 20) rfl)
def tw17 {Z a0} (hw : HW Z a0) := hw _ (List.mem_of_getElem? (i := 17) rfl)
theorem j38_2_4 : decode jdk_38_method_2_code 4 = .ok (.aload_n 0, 1) := by decide +kernel
theorem j38_2_5 : decode jdk_38_method_2_code 5 = .ok (.getstatic 39, 3) := by decide +kernel
def tw31 {Z a0} (hw : HW Z a0) := hw _ (List.mem_of_getElem? (i := 31) rfl)
theorem j38_2_8 : decode jdk_38_method_2_code 8 = .ok (.putfield 9, 3) := by decide +kernel
def tw32 {Z a0} (hw : HW Z a0) := hw _ (List.mem_of_getElem? (i := 32) rfl)
theorem sn39 {Z a0} (hw : HW Z a0) : RoadKit.slotOf Z cn36 "modCount" "I" ≠ RoadKit.slotOf Z cn35 "elementData" "[Ljava/lang/Object;" := (slot_ne (C := cn35) (Or.inl (tw30 hw)) (Or.inl (tw33 hw)) (by decide) (t := .int) (t' := (.array (.object "java/lang/Object"))) (by decide) (by decide))
theorem sn40 {Z a0} (hw : HW Z a0) : RoadKit.slotOf Z cn35 "size" "I" ≠ RoadKit.slotOf Z cn35 "elementData" "[Ljava/lang/Object;" := (slot_ne (C := cn35) (Or.inl (tw182 hw)) (Or.inl (tw33 hw)) (by decide) (t := .int) (t' := (.array (.object "java/lang/Object"))) (by decide) (by decide))
theorem j38_2_11 : decode jdk_38_method_2_code 11 = .ok (.return_, 1) := by decide +kernel
set_option maxRecDepth 65536 in
set_option maxHeartbeats 40000000 in
theorem rmAl (l : Launch) (Z : State) (a0 : Array Value) (hw : ∀ d ∈ tables_1, d.before a0 Z = true) (ws : List Jvm.Cond) (a : Addr) (dE : Addr) (h0 : Heap) (n0 : Nat) (Z0 : n0 ≤ h0.size) (O1 : Old Z n0 h0) (E1 : xa32 Z h0 a) (F0 : fd29 Z h0 a (.int (0 : Int32))) (F1 : fd30 Z h0 a .null) (F2 : fd31 Z h0 a (.int (0 : Int32))) (ge_a : n0 ≤ a) (oD : Sta Z Z.heap "java/util/ArrayList" "DEFAULTCAPACITY_EMPTY_ELEMENTDATA" "[Ljava/lang/Object;" (.ref dE)) :
  MetFree l mn38 (head1 (Jvm.Cond.code mn38 jdk_38_method_2_code 1 none :: ws) ({ frames := 3, cells := 0, slots := 0, locals := 40 } : Room)) (fun aA U => aA = #[(.ref a)] ∧ Z.Warmed39 U.vm ∧ U.heap = h0) (fun _ _ _ _ _ => True) (fun _ U o U' => ∃ vR LR, o = .returned vR ∧ QrmAl Z a dE h0 n0 vR U'.heap LR ∧ FrameEnd U o U' LR ({ frames := 3, cells := 0, slots := 0, locals := 40 } : Room).cells ({ frames := 3, cells := 0, slots := 0, locals := 40 } : Room).slots) := by
 refine MetFree.of_bodySF (plainFor_of_name pn_java_util_ArrayList) hisR ?_
 intro p e s m args below meth c s₁ Bd hml0 hPre hKk
 obtain ⟨rfl, hZ, hh⟩ := hPre
 have hx := Bd.exec
 have hby := Bd.bytes
 have hH : ∀ {pc r}, decode jdk_38_method_2_code pc = r → decode c.code pc = r := fun q => hb hby q
 have hml : c.maxLocals = 1 := hml0
 have hown : s.vm.findClass "java/util/ArrayList" = some m.cls := findClass_of_methodNamed Bd.named
 have hnm := (name_of_methodNamed Bd.named Bd.method).1
 have X0 : Stand p l e ({ frames := 3, cells := 0, slots := 0, locals := 40 } : Room) s m #[(.ref a)] below meth c s₁ [] 0 0 := Stand.of_body Bd
 have e0 : s₁.heap = h0 := by rw [← hh, Bd.state]; rfl
 have N0 := Fr.nil n0
 obtain ⟨E0, hE0⟩ : ∃ zE : State, zE = s₁.setTop (entryFrame m #[(.ref a)] 1) := ⟨_, rfl⟩
 have k0 : own_G p e below E0 s₁ (mkF m 0 #[vr a] []) := fun tz kz => hE0 ▸ castTop (ef_rmAl m a dE) kz
 have K0 : Keep h0 h0 [a] := Keep.refl _ _
 have kJ0 : own_G p e below E0 s₁ (mkF m 1 #[vr a] [(.ref a)]) := by
  intro tQ kk
  refine k0 tQ ?_
  refine XS.aloadN X0.here hx rfl (hH j38_2_0) rfl rfl ?_
  exact kk
 clear k0
 obtain ⟨_, _, ⟨TJ1, LJ2, kcJ3, ncJ4⟩, -, XJ5, ⟨LcJ6, hQJ7, lJ8, yJ9, zJA⟩, stJB⟩ := X0.specialBack hx (y := mn33) rfl hown (mvT hZ (tw16 hw)) (mvT hZ (tw17 hw)) (mvT hZ (tw21 hw)) (by decide) (backOf (W := 0) (rmAb l Z a0 hw [] a h0 n0 Z0 E1 F0 F1 F2 ge_a) hZ (tw21 hw) (tw20 hw) (by decide) (by decide)) (g := (mkF m 1 #[vr a] [(.ref a)])) rfl (by rw [hml]; rfl) (Steps.refl _) (a := a) (argsL := []) (rest := []) (lenOf pd_8 rfl) rfl (by show 2 * 0 + _ ≤ _; exact Nat.le_of_eq rfl) (hH j38_2_1) (fun _ _ => ⟨rfl, e0, (by decide : 0 + 0 ≤ _), (by decide : 0 + 0 ≤ _)⟩)
 dsimp only [Pt.U, Pt.locs, Pt.cells, Pt.slots] at XJ5 lJ8 yJ9 zJA stJB hQJ7
 subst yJ9 zJA
 obtain ⟨rfl, NJC, KJF, gJG, gJH, gJI⟩ := hQJ7
 have NJJ : Fr n0 LJ2 := by rw [lJ8]; exact Fr.app N0 NJC
 clear lJ8 NJC
 replace Z0 := Nat.le_trans Z0 KJF.1
 replace O1 := O1.keep KJF (allS ge_a all0)
 replace E1 := E1.keep KJF
 clear F0
 clear F1
 clear F2
 replace K0 := K0.trans KJF (allS (Or.inl (List.mem_of_getElem? (i := 0) rfl)) all0)
 have kJK : own_G p e below E0 TJ1 (mkF m 4 #[vr a] []) := fun tQ kk => kJ0 tQ (stJB.trans kk)
 clear kJ0 stJB
 have FJL : Sta Z TJ1.heap "java/util/ArrayList" "DEFAULTCAPACITY_EMPTY_ELEMENTDATA" "[Ljava/lang/Object;" (.ref dE) := oD.ext O1.2
 have kJM : own_G p e below E0 TJ1 (mkF m 5 #[vr a] [(.ref a)]) := by
  intro tQ kk
  refine kJK tQ ?_
  refine XS.aloadN XJ5.here hx rfl (hH j38_2_4) rfl rfl ?_
  exact kk
 clear kJK
 obtain ⟨TJN, XJO, eJP, stJQ⟩ := getS XJ5 hx hZ hown (host := "") (tw31 hw) Via.refl rfl FJL (g := (mkF m 5 #[vr a] [(.ref a)])) rfl (hH j38_2_5)
 have kJR : own_G p e below E0 TJN (mkF m 8 #[vr a] [(.ref dE), (.ref a)]) := fun tQ kk => kJM tQ (stJQ _ kk)
 clear kJM stJQ
 obtain ⟨TJS, hJT, XJU, eJV, WJW, stJX⟩ := putF XJO hx hZ hown (host := "") (Or.inl (tw32 hw)) Via.refl eJP gJH E1 (Or.inl (tw33 hw)) (tw11 hw) (ty := (.array (.object "java/lang/Object"))) (by decide) rfl rfl (g := (mkF m 8 #[vr a] [(.ref dE), (.ref a)])) rfl rfl (hH j38_2_8)
 have NJY := Fr.snoc XJU NJJ ge_a
 have kJZ : own_G p e below E0 TJS (mkF m 11 #[vr a] []) := fun tQ kk => kJR tQ (stJX _ kk)
 clear kJR stJX
 replace O1 := O1.wr WJW ge_a
 replace E1 := E1.wr WJW
 replace gJG := gJG.other WJW (Or.inr (sn39 hw))
 replace gJH := gJH.same WJW
 replace gJI := gJI.other WJW (Or.inr (sn40 hw))
 replace FJL := FJL.wr WJW
 replace Z0 := own_wrle WJW Z0
 replace K0 := K0.wr WJW (Or.inl (List.mem_of_getElem? (i := 0) rfl))
 obtain ⟨fs, hr, hrun, hended, hW, hsame⟩ := XJU.leave (v := none) (fun _ => rfl)
 have hrun0 := kJZ _ (XJU.returnOut hx Bd.returns (hH j38_2_11) hr)
 subst hE0
 refine ⟨_, _, hrun0, hrun, hended, _, _, rfl, ?_, ⟨_, rfl⟩, hW, hsame.mono (by decide) (by decide)⟩
 show QrmAl Z a dE h0 n0 _ TJS.heap _
 rw [eJV]
 exact ⟨rfl, NJY, K0, gJG, gJH, gJI⟩
abbrev fd41 (Z : State) (h : Heap) (a : Addr) (v : Value) : Prop := Fld Z h a "com/example/netloom/netloom/embed/Simplex" "columns" "Ljava/util/List;" v
abbrev fd42 (Z : State) (h : Heap) (a : Addr) (v : Value) : Prop := Fld Z h a "com/example/netloom/netloom/embed/Simplex" "cost" "[D" v
abbrev fd43 (Z : State) (h : Heap) (a : Addr) (v : Value) : Prop := Fld Z h a "com/example/netloom/netloom/embed/Simplex" "rhs" "[D" v
abbrev fd44 (Z : State) (h : Heap) (a : Addr) (v : Value) : Prop := Fld Z h a "com/example/netloom/netloom/embed/Simplex" "basic" "[I" v
abbrev fd45 (Z : State) (h : Heap) (a : Addr) (v : Value) : Prop := Fld Z h a "com/example/netloom/netloom/embed/Simplex" "positionOf" "[I" v
abbrev fd46 (Z : State) (h : Heap) (a : Addr) (v : Value) : Prop := Fld Z h a "com/example/netloom/netloom/embed/Simplex" "factor" "Lcom/example/netloom/netloom/embed/BasisFactor;" v
abbrev fd47 (Z : State) (h : Heap) (a : Addr) (v : Value) : Prop := Fld Z h a "com/example/netloom/netloom/embed/Simplex" "value" "[D" v
abbrev fd48 (Z : State) (h : Heap) (a : Addr) (v : Value) : Prop := Fld Z h a "com/example/netloom/netloom/embed/Simplex" "rowCount" "I" v
def QrmSx (Z : State) (a : Addr) (dE : Addr) (h0 : Heap) (n0 : Nat) (vQ : Option Value) (hQ : Heap) (LQ : List Loc) : Prop := ∃ (al : Addr), ∃ (cA : Addr), ∃ (ro : Addr), ∃ (ba : Addr), ∃ (pA : Addr), ∃ (fa : Addr), ∃ (va : Addr), vQ = none ∧ Fr n0 LQ ∧ Keep h0 hQ [a] ∧ (fd41 Z hQ a (.ref al)) ∧ (fd42 Z hQ a (.ref cA)) ∧ (fd43 Z hQ a (.ref ro)) ∧ (fd44 Z hQ a (.ref ba)) ∧ (fd45 Z hQ a (.ref pA)) ∧ (fd46 Z hQ a (.ref fa)) ∧ (fd47 Z hQ a (.ref va)) ∧ (fd48 Z hQ a (.int (0 : Int32))) ∧ (xa32 Z hQ al) ∧ (fd29 Z hQ al (.int (0 : Int32))) ∧ (fd30 Z hQ al (.ref dE)) ∧ (fd31 Z hQ al (.int (0 : Int32))) ∧ (xa10 Z hQ fa) ∧ (fd9 Z hQ fa (.int (-1 : Int32))) ∧ (own_A Z hQ cA .double own_d16) ∧ (own_A Z hQ ro .double own_d16) ∧ (own_A Z hQ ba .int own_i16) ∧ (own_A Z hQ pA .int own_i16) ∧ (own_A Z hQ va .double own_d16) ∧ (h0.size ≤ al) ∧ (h0.size ≤ cA) ∧ (h0.size ≤ ro) ∧ (h0.size ≤ ba) ∧ (h0.size ≤ pA) ∧ (h0.size ≤ fa) ∧ (h0.size ≤ va) ∧ (al ≠ cA) ∧ (al ≠ ro) ∧ (al ≠ ba) ∧ (al ≠ pA) ∧ (al ≠ fa) ∧ (al ≠ va) ∧ (cA ≠ ro) ∧ (cA ≠ ba) ∧ (cA ≠ pA) ∧ (cA ≠ fa) ∧ (cA ≠ va) ∧ (ro ≠ ba) ∧ (ro ≠ pA) ∧ (ro ≠ fa) ∧ (ro ≠ va) ∧ (ba ≠ pA) ∧ (ba ≠ fa) ∧ (ba ≠ va) ∧ (pA ≠ fa) ∧ (pA ≠ va) ∧ (fa ≠ va)
theorem ef_rmSx (m : MethodId) (a : Addr) (dE : Addr) : entryFrame m #[(.ref a)] 1 = mkF m 0 #[vr a] [] := by first | (simp [entryFrame, mkF, argsToLocals, Value.category]; done) | rfl
abbrev xa49 (Z : State) (h : Heap) (a : Addr) : Prop := Exa Z h a "com/example/netloom/netloom/embed/Simplex"
abbrev fd50 (Z : State) (h : Heap) (a : Addr) (v : Value) : Prop := Fld Z h a "com/example/netloom/netloom/embed/Simplex" "dual" "[D" v
abbrev mn51 : MethodName := ⟨"com/example/netloom/netloom/embed/Simplex", "<init>", "()V"⟩
theorem pn_com_example_netloom_netloom_embed_Simplex : plainName "com/example/netloom/netloom/embed/Simplex" = true := by first | (simp [plainName, overriddenIn]; done) | decide +kernel
theorem p49_1_0 : decode prog_49_method_1_code 0 = .ok (.aload_n 0, 1) := by decide +kernel
theorem p49_1_1 : decode prog_49_method_1_code 1 = .ok (.invokespecial 1, 3) := by decide +kernel
def tw7 {Z a0} (hw : HW Z a0) := hw _ (List.mem_of_getElem? (i := 7) rfl)
theorem p49_1_4 : decode prog_49_method_1_code 4 = .ok (.aload_n 0, 1) := by decide +kernel
theorem p49_1_5 : decode prog_49_method_1_code 5 = .ok (.new 7, 3) := by decide +kernel
def tw10 {Z a0} (hw : HW Z a0) := hw _ (List.mem_of_getElem? (i := 10) rfl)
def tw12 {Z a0} (hw : HW Z a0) := hw _ (List.mem_of_getElem? (i := 12) rfl)
theorem p49_1_8 : decode prog_49_method_1_code 8 = .ok (.dup, 1) := by decide +kernel
theorem p49_1_9 : decode prog_49_method_1_code 9 = .ok (.invokespecial 9, 3) := by decide +kernel
def tw13 {Z a0} (hw : HW Z a0) := hw _ (List.mem_of_getElem? (i := 13) rfl)
def tw15 {Z a0} (hw : HW Z a0) := hw _ (List.mem_of_getElem? (i := 15) rfl)
def tw14 {Z a0} (hw : HW Z a0) := hw _ (List.mem_of_getElem? (i := 14) rfl)
theorem p49_1_12 : decode prog_49_method_1_code 12 = .ok (.putfield 10, 3) := by decide +kernel
def tw34 {Z a0} (hw : HW Z a0) := hw _ (List.mem_of_getElem? (i := 34) rfl)
def tw2 {Z a0} (hw : HW Z a0) := hw _ (List.mem_of_getElem? (i := 2) rfl)
def tw35 {Z a0} (hw : HW Z a0) := hw _ (List.mem_of_getElem? (i := 35) rfl)
def tw38 {Z a0} (hw : HW Z a0) := hw _ (List.mem_of_getElem? (i := 38) rfl)
abbrev cn53 : String := "com/example/netloom/netloom/embed/Simplex"
theorem sn52 {Z a0} (hw : HW Z a0) : RoadKit.slotOf Z cn53 "cost" "[D" ≠ RoadKit.slotOf Z cn53 "columns" "Ljava/util/List;" := (slot_ne (C := cn53) (Or.inl (tw38 hw)) (Or.inr (tw35 hw)) (by decide) (t := (.array .double)) (t' := (.object "java/util/List")) (by decide) (by decide))
def tw40 {Z a0} (hw : HW Z a0) := hw _ (List.mem_of_getElem? (i := 40) rfl)
theorem sn54 {Z a0} (hw : HW Z a0) : RoadKit.slotOf Z cn53 "rhs" "[D" ≠ RoadKit.slotOf Z cn53 "columns" "Ljava/util/List;" := (slot_ne (C := cn53) (Or.inl (tw40 hw)) (Or.inr (tw35 hw)) (by decide) (t := (.array .double)) (t' := (.object "java/util/List")) (by decide) (by decide))
def tw43 {Z a0} (hw : HW Z a0) := hw _ (List.mem_of_getElem? (i := 43) rfl)
theorem sn55 {Z a0} (hw : HW Z a0) : RoadKit.slotOf Z cn53 "basic" "[I" ≠ RoadKit.slotOf Z cn53 "columns" "Ljava/util/List;" := (slot_ne (C := cn53) (Or.inl (tw43 hw)) (Or.inr (tw35 hw)) (by decide) (t := (.array .int)) (t' := (.object "java/util/List")) (by decide) (by decide))
def tw45 {Z a0} (hw : HW Z a0) := hw _ (List.mem_of_getElem? (i := 45) rfl)
theorem sn56 {Z a0} (hw : HW Z a0) : RoadKit.slotOf Z cn53 "positionOf" "[I" ≠ RoadKit.slotOf Z cn53 "columns" "Ljava/util/List;" := (slot_ne (C := cn53) (Or.inl (tw45 hw)) (Or.inr (tw35 hw)) (by decide) (t := (.array .int)) (t' := (.object "java/util/List")) (by decide) (by decide))
def tw162 {Z a0} (hw : HW Z a0) := hw _ (List.mem_of_getElem? (i := 162) rfl)
theorem sn57 {Z a0} (hw : HW Z a0) : RoadKit.slotOf Z cn53 "factor" "Lcom/example/netloom/netloom/embed/BasisFactor;" ≠ RoadKit.slotOf Z cn53 "columns" "Ljava/util/List;" := (slot_ne (C := cn53) (Or.inr (tw162 hw)) (Or.inr (tw35 hw)) (by decide) (t := (.object "com/example/netloom/netloom/embed/BasisFactor")) (t' := (.object "java/util/List")) (by decide) (by decide))
def tw164 {Z a0} (hw : HW Z a0) := hw _ (List.mem_of_getElem? (i := 164) rfl)
theorem sn58 {Z a0} (hw : HW Z a0) : RoadKit.slotOf Z cn53 "value" "[D" ≠ RoadKit.slotOf Z cn53 "columns" "Ljava/util/List;" := (slot_ne (C := cn53) (Or.inl (tw164 hw)) (Or.inr (tw35 hw)) (by decide) (t := (.array .double)) (t' := (.object "java/util/List")) (by decide) (by decide))
def tw166 {Z a0} (hw : HW Z a0) := hw _ (List.mem_of_getElem? (i := 166) rfl)
theorem sn59 {Z a0} (hw : HW Z a0) : RoadKit.slotOf Z cn53 "dual" "[D" ≠ RoadKit.slotOf Z cn53 "columns" "Ljava/util/List;" := (slot_ne (C := cn53) (Or.inl (tw166 hw)) (Or.inr (tw35 hw)) (by decide) (t := (.array .double)) (t' := (.object "java/util/List")) (by decide) (by decide))
def tw239 {Z a0} (hw : HW Z a0) := hw _ (List.mem_of_getElem? (i := 239) rfl)
theorem sn60 {Z a0} (hw : HW Z a0) : RoadKit.slotOf Z cn53 "rowCount" "I" ≠ RoadKit.slotOf Z cn53 "columns" "Ljava/util/List;" := (slot_ne (C := cn53) (Or.inl (tw239 hw)) (Or.inr (tw35 hw)) (by decide) (t := .int) (t' := (.object "java/util/List")) (by decide) (by decide))
theorem p49_1_15 : decode prog_49_method_1_code 15 = .ok (.aload_n 0, 1) := by decide +kernel
theorem p49_1_16 : decode prog_49_method_1_code 16 = .ok (.bipush 16, 2) := by decide +kernel
theorem p49_1_18 : decode prog_49_method_1_code 18 = .ok (.newarray .double, 2) := by decide +kernel
theorem p49_1_20 : decode prog_49_method_1_code 20 = .ok (.putfield 16, 3) := by decide +kernel
def tw37 {Z a0} (hw : HW Z a0) := hw _ (List.mem_of_getElem? (i := 37) rfl)
theorem sn61 {Z a0} (hw : HW Z a0) : RoadKit.slotOf Z cn53 "columns" "Ljava/util/List;" ≠ RoadKit.slotOf Z cn53 "cost" "[D" := (slot_ne (C := cn53) (Or.inr (tw35 hw)) (Or.inl (tw38 hw)) (by decide) (t := (.object "java/util/List")) (t' := (.array .double)) (by decide) (by decide))
theorem sn62 {Z a0} (hw : HW Z a0) : RoadKit.slotOf Z cn53 "rhs" "[D" ≠ RoadKit.slotOf Z cn53 "cost" "[D" := (slot_ne (C := cn53) (Or.inl (tw40 hw)) (Or.inl (tw38 hw)) (by decide) (t := (.array .double)) (t' := (.array .double)) (by decide) (by decide))
theorem sn63 {Z a0} (hw : HW Z a0) : RoadKit.slotOf Z cn53 "basic" "[I" ≠ RoadKit.slotOf Z cn53 "cost" "[D" := (slot_ne (C := cn53) (Or.inl (tw43 hw)) (Or.inl (tw38 hw)) (by decide) (t := (.array .int)) (t' := (.array .double)) (by decide) (by decide))
theorem sn64 {Z a0} (hw : HW Z a0) : RoadKit.slotOf Z cn53 "positionOf" "[I" ≠ RoadKit.slotOf Z cn53 "cost" "[D" := (slot_ne (C := cn53) (Or.inl (tw45 hw)) (Or.inl (tw38 hw)) (by decide) (t := (.array .int)) (t' := (.array .double)) (by decide) (by decide))
theorem sn65 {Z a0} (hw : HW Z a0) : RoadKit.slotOf Z cn53 "factor" "Lcom/example/netloom/netloom/embed/BasisFactor;" ≠ RoadKit.slotOf Z cn53 "cost" "[D" := (slot_ne (C := cn53) (Or.inr (tw162 hw)) (Or.inl (tw38 hw)) (by decide) (t := (.object "com/example/netloom/netloom/embed/BasisFactor")) (t' := (.array .double)) (by decide) (by decide))
theorem sn66 {Z a0} (hw : HW Z a0) : RoadKit.slotOf Z cn53 "value" "[D" ≠ RoadKit.slotOf Z cn53 "cost" "[D" := (slot_ne (C := cn53) (Or.inl (tw164 hw)) (Or.inl (tw38 hw)) (by decide) (t := (.array .double)) (t' := (.array .double)) (by decide) (by decide))
theorem sn67 {Z a0} (hw : HW Z a0) : RoadKit.slotOf Z cn53 "dual" "[D" ≠ RoadKit.slotOf Z cn53 "cost" "[D" := (slot_ne (C := cn53) (Or.inl (tw166 hw)) (Or.inl (tw38 hw)) (by decide) (t := (.array .double)) (t' := (.array .double)) (by decide) (by decide))
theorem sn68 {Z a0} (hw : HW Z a0) : RoadKit.slotOf Z cn53 "rowCount" "I" ≠ RoadKit.slotOf Z cn53 "cost" "[D" := (slot_ne (C := cn53) (Or.inl (tw239 hw)) (Or.inl (tw38 hw)) (by decide) (t := .int) (t' := (.array .double)) (by decide) (by decide))
theorem p49_1_23 : decode prog_49_method_1_code 23 = .ok (.aload_n 0, 1) := by decide +kernel
theorem p49_1_24 : decode prog_49_method_1_code 24 = .ok (.bipush 16, 2) := by decide +kernel
theorem p49_1_26 : decode prog_49_method_1_code 26 = .ok (.newarray .double, 2) := by decide +kernel
theorem p49_1_28 : decode prog_49_method_1_code 28 = .ok (.putfield 20, 3) := by decide +kernel
def tw39 {Z a0} (hw : HW Z a0) := hw _ (List.mem_of_getElem? (i := 39) rfl)
theorem sn69 {Z a0} (hw : HW Z a0) : RoadKit.slotOf Z cn53 "columns" "Ljava/util/List;" ≠ RoadKit.slotOf Z cn53 "rhs" "[D" := (slot_ne (C := cn53) (Or.inr (tw35 hw)) (Or.inl (tw40 hw)) (by decide) (t := (.object "java/util/List")) (t' := (.array .double)) (by decide) (by decide))
theorem sn70 {Z a0} (hw : HW Z a0) : RoadKit.slotOf Z cn53 "cost" "[D" ≠ RoadKit.slotOf Z cn53 "rhs" "[D" := (slot_ne (C := cn53) (Or.inl (tw38 hw)) (Or.inl (tw40 hw)) (by decide) (t := (.array .double)) (t' := (.array .double)) (by decide) (by decide))
theorem sn71 {Z a0} (hw : HW Z a0) : RoadKit.slotOf Z cn53 "basic" "[I" ≠ RoadKit.slotOf Z cn53 "rhs" "[D" := (slot_ne (C := cn53) (Or.inl (tw43 hw)) (Or.inl (tw40 hw)) (by decide) (t := (.array .int)) (t' := (.array .double)) (by decide) (by decide))
theorem sn72 {Z a0} (hw : HW Z a0) : RoadKit.slotOf Z cn53 "positionOf" "[I" ≠ RoadKit.slotOf Z cn53 "rhs" "[D" := (slot_ne (C := cn53) (Or.inl (tw45 hw)) (Or.inl (tw40 hw)) (by decide) (t := (.array .int)) (t' := (.array .double)) (by decide) (by decide))
theorem sn73 {Z a0} (hw : HW Z a0) : RoadKit.slotOf Z cn53 "factor" "Lcom/example/netloom/netloom/embed/BasisFactor;" ≠ RoadKit.slotOf Z cn53 "rhs" "[D" := (slot_ne (C := cn53) (Or.inr (tw162 hw)) (Or.inl (tw40 hw)) (by decide) (t := (.object "com/example/netloom/netloom/embed/BasisFactor")) (t' := (.array .double)) (by decide) (by decide))
theorem sn74 {Z a0} (hw : HW Z a0) : RoadKit.slotOf Z cn53 "value" "[D" ≠ RoadKit.slotOf Z cn53 "rhs" "[D" := (slot_ne (C := cn53) (Or.inl (tw164 hw)) (Or.inl (tw40 hw)) (by decide) (t := (.array .double)) (t' := (.array .double)) (by decide) (by decide))
theorem sn75 {Z a0} (hw : HW Z a0) : RoadKit.slotOf Z cn53 "dual" "[D" ≠ RoadKit.slotOf Z cn53 "rhs" "[D" := (slot_ne (C := cn53) (Or.inl (tw166 hw)) (Or.inl (tw40 hw)) (by decide) (t := (.array .double)) (t' := (.array .double)) (by decide) (by decide))
theorem sn76 {Z a0} (hw : HW Z a0) : RoadKit.slotOf Z cn53 "rowCount" "I" ≠ RoadKit.slotOf Z cn53 "rhs" "[D" := (slot_ne (C := cn53) (Or.inl (tw239 hw)) (Or.inl (tw40 hw)) (by decide) (t := .int) (t' := (.array .double)) (by decide) (by decide))
theorem p49_1_31 : decode prog_49_method_1_code 31 = .ok (.aload_n 0, 1) := by decide +kernel
theorem p49_1_32 : decode prog_49_method_1_code 32 = .ok (.bipush 16, 2) := by decide +kernel
theorem p49_1_34 : decode prog_49_method_1_code 34 = .ok (.newarray .int, 2) := by decide +kernel
theorem p49_1_36 : decode prog_49_method_1_code 36 = .ok (.putfield 23, 3) := by decide +kernel
def tw42 {Z a0} (hw : HW Z a0) := hw _ (List.mem_of_getElem? (i := 42) rfl)
theorem sn77 {Z a0} (hw : HW Z a0) : RoadKit.slotOf Z cn53 "columns" "Ljava/util/List;" ≠ RoadKit.slotOf Z cn53 "basic" "[I" := (slot_ne (C := cn53) (Or.inr (tw35 hw)) (Or.inl (tw43 hw)) (by decide) (t := (.object "java/util/List")) (t' := (.array .int)) (by decide) (by decide))
theorem sn78 {Z a0} (hw : HW Z a0) : RoadKit.slotOf Z cn53 "cost" "[D" ≠ RoadKit.slotOf Z cn53 "basic" "[I" := (slot_ne (C := cn53) (Or.inl (tw38 hw)) (Or.inl (tw43 hw)) (by decide) (t := (.array .double)) (t' := (.array .int)) (by decide) (by decide))
theorem sn79 {Z a0} (hw : HW Z a0) : RoadKit.slotOf Z cn53 "rhs" "[D" ≠ RoadKit.slotOf Z cn53 "basic" "[I" := (slot_ne (C := cn53) (Or.inl (tw40 hw)) (Or.inl (tw43 hw)) (by decide) (t := (.array .double)) (t' := (.array .int)) (by decide) (by decide))
theorem sn80 {Z a0} (hw : HW Z a0) : RoadKit.slotOf Z cn53 "positionOf" "[I" ≠ RoadKit.slotOf Z cn53 "basic" "[I" := (slot_ne (C := cn53) (Or.inl (tw45 hw)) (Or.inl (tw43 hw)) (by decide) (t := (.array .int)) (t' := (.array .int)) (by decide) (by decide))
theorem sn81 {Z a0} (hw : HW Z a0) : RoadKit.slotOf Z cn53 "factor" "Lcom/example/netloom/netloom/embed/BasisFactor;" ≠ RoadKit.slotOf Z cn53 "basic" "[I" := (slot_ne (C := cn53) (Or.inr (tw162 hw)) (Or.inl (tw43 hw)) (by decide) (t := (.object "com/example/netloom/netloom/embed/BasisFactor")) (t' := (.array .int)) (by decide) (by decide))
theorem sn82 {Z a0} (hw : HW Z a0) : RoadKit.slotOf Z cn53 "value" "[D" ≠ RoadKit.slotOf Z cn53 "basic" "[I" := (slot_ne (C := cn53) (Or.inl (tw164 hw)) (Or.inl (tw43 hw)) (by decide) (t := (.array .double)) (t' := (.array .int)) (by decide) (by decide))
theorem sn83 {Z a0} (hw : HW Z a0) : RoadKit.slotOf Z cn53 "dual" "[D" ≠ RoadKit.slotOf Z cn53 "basic" "[I" := (slot_ne (C := cn53) (Or.inl (tw166 hw)) (Or.inl (tw43 hw)) (by decide) (t := (.array .double)) (t' := (.array .int)) (by decide) (by decide))
theorem sn84 {Z a0} (hw : HW Z a0) : RoadKit.slotOf Z cn53 "rowCount" "I" ≠ RoadKit.slotOf Z cn53 "basic" "[I" := (slot_ne (C := cn53) (Or.inl (tw239 hw)) (Or.inl (tw43 hw)) (by decide) (t := .int) (t' := (.array .int)) (by decide) (by decide))
theorem p49_1_39 : decode prog_49_method_1_code 39 = .ok (.aload_n 0, 1) := by decide +kernel
theorem p49_1_40 : decode prog_49_method_1_code 40 = .ok (.bipush 16, 2) := by decide +kernel
theorem p49_1_42 : decode prog_49_method_1_code 42 = .ok (.newarray .int, 2) := by decide +kernel
theorem p49_1_44 : decode prog_49_method_1_code 44 = .ok (.putfield 27, 3) := by decide +kernel
def tw44 {Z a0} (hw : HW Z a0) := hw _ (List.mem_of_getElem? (i := 44) rfl)
theorem sn85 {Z a0} (hw : HW Z a0) : RoadKit.slotOf Z cn53 "columns" "Ljava/util/List;" ≠ RoadKit.slotOf Z cn53 "positionOf" "[I" := (slot_ne (C := cn53) (Or.inr (tw35 hw)) (Or.inl (tw45 hw)) (by decide) (t := (.object "java/util/List")) (t' := (.array .int)) (by decide) (by decide))
theorem sn86 {Z a0} (hw : HW Z a0) : RoadKit.slotOf Z cn53 "cost" "[D" ≠ RoadKit.slotOf Z cn53 "positionOf" "[I" := (slot_ne (C := cn53) (Or.inl (tw38 hw)) (Or.inl (tw45 hw)) (by decide) (t := (.array .double)) (t' := (.array .int)) (by decide) (by decide))
theorem sn87 {Z a0} (hw : HW Z a0) : RoadKit.slotOf Z cn53 "rhs" "[D" ≠ RoadKit.slotOf Z cn53 "positionOf" "[I" := (slot_ne (C := cn53) (Or.inl (tw40 hw)) (Or.inl (tw45 hw)) (by decide) (t := (.array .double)) (t' := (.array .int)) (by decide) (by decide))
theorem sn88 {Z a0} (hw : HW Z a0) : RoadKit.slotOf Z cn53 "basic" "[I" ≠ RoadKit.slotOf Z cn53 "positionOf" "[I" := (slot_ne (C := cn53) (Or.inl (tw43 hw)) (Or.inl (tw45 hw)) (by decide) (t := (.array .int)) (t' := (.array .int)) (by decide) (by decide))
theorem sn89 {Z a0} (hw : HW Z a0) : RoadKit.slotOf Z cn53 "factor" "Lcom/example/netloom/netloom/embed/BasisFactor;" ≠ RoadKit.slotOf Z cn53 "positionOf" "[I" := (slot_ne (C := cn53) (Or.inr (tw162 hw)) (Or.inl (tw45 hw)) (by decide) (t := (.object "com/example/netloom/netloom/embed/BasisFactor")) (t' := (.array .int)) (by decide) (by decide))
theorem sn90 {Z a0} (hw : HW Z a0) : RoadKit.slotOf Z cn53 "value" "[D" ≠ RoadKit.slotOf Z cn53 "positionOf" "[I" := (slot_ne (C := cn53) (Or.inl (tw164 hw)) (Or.inl (tw45 hw)) (by decide) (t := (.array .double)) (t' := (.array .int)) (by decide) (by decide))
theorem sn91 {Z a0} (hw : HW Z a0) : RoadKit.slotOf Z cn53 "dual" "[D" ≠ RoadKit.slotOf Z cn53 "positionOf" "[I" := (slot_ne (C := cn53) (Or.inl (tw166 hw)) (Or.inl (tw45 hw)) (by decide) (t := (.array .double)) (t' := (.array .int)) (by decide) (by decide))
theorem sn92 {Z a0} (hw : HW Z a0) : RoadKit.slotOf Z cn53 "rowCount" "I" ≠ RoadKit.slotOf Z cn53 "positionOf" "[I" := (slot_ne (C := cn53) (Or.inl (tw239 hw)) (Or.inl (tw45 hw)) (by decide) (t := .int) (t' := (.array .int)) (by decide) (by decide))
theorem p49_1_47 : decode prog_49_method_1_code 47 = .ok (.aload_n 0, 1) := by decide +kernel
theorem p49_1_48 : decode prog_49_method_1_code 48 = .ok (.new 30, 3) := by decide +kernel
def tw46 {Z a0} (hw : HW Z a0) := hw _ (List.mem_of_getElem? (i := 46) rfl)
def tw48 {Z a0} (hw : HW Z a0) := hw _ (List.mem_of_getElem? (i := 48) rfl)
theorem p49_1_51 : decode prog_49_method_1_code 51 = .ok (.dup, 1) := by decide +kernel
theorem p49_1_52 : decode prog_49_method_1_code 52 = .ok (.invokespecial 32, 3) := by decide +kernel
def tw49 {Z a0} (hw : HW Z a0) := hw _ (List.mem_of_getElem? (i := 49) rfl)
def tw51 {Z a0} (hw : HW Z a0) := hw _ (List.mem_of_getElem? (i := 51) rfl)
def tw50 {Z a0} (hw : HW Z a0) := hw _ (List.mem_of_getElem? (i := 50) rfl)
theorem p49_1_55 : decode prog_49_method_1_code 55 = .ok (.putfield 33, 3) := by decide +kernel
def tw161 {Z a0} (hw : HW Z a0) := hw _ (List.mem_of_getElem? (i := 161) rfl)
theorem sn93 {Z a0} (hw : HW Z a0) : RoadKit.slotOf Z cn53 "columns" "Ljava/util/List;" ≠ RoadKit.slotOf Z cn53 "factor" "Lcom/example/netloom/netloom/embed/BasisFactor;" := (slot_ne (C := cn53) (Or.inr (tw35 hw)) (Or.inr (tw162 hw)) (by decide) (t := (.object "java/util/List")) (t' := (.object "com/example/netloom/netloom/embed/BasisFactor")) (by decide) (by decide))
theorem sn94 {Z a0} (hw : HW Z a0) : RoadKit.slotOf Z cn53 "cost" "[D" ≠ RoadKit.slotOf Z cn53 "factor" "Lcom/example/netloom/netloom/embed/BasisFactor;" := (slot_ne (C := cn53) (Or.inl (tw38 hw)) (Or.inr (tw162 hw)) (by decide) (t := (.array .double)) (t' := (.object "com/example/netloom/netloom/embed/BasisFactor")) (by decide) (by decide))
theorem sn95 {Z a0} (hw : HW Z a0) : RoadKit.slotOf Z cn53 "rhs" "[D" ≠ RoadKit.slotOf Z cn53 "factor" "Lcom/example/netloom/netloom/embed/BasisFactor;" := (slot_ne (C := cn53) (Or.inl (tw40 hw)) (Or.inr (tw162 hw)) (by decide) (t := (.array .double)) (t' := (.object "com/example/netloom/netloom/embed/BasisFactor")) (by decide) (by decide))
theorem sn96 {Z a0} (hw : HW Z a0) : RoadKit.slotOf Z cn53 "basic" "[I" ≠ RoadKit.slotOf Z cn53 "factor" "Lcom/example/netloom/netloom/embed/BasisFactor;" := (slot_ne (C := cn53) (Or.inl (tw43 hw)) (Or.inr (tw162 hw)) (by decide) (t := (.array .int)) (t' := (.object "com/example/netloom/netloom/embed/BasisFactor")) (by decide) (by decide))
theorem sn97 {Z a0} (hw : HW Z a0) : RoadKit.slotOf Z cn53 "positionOf" "[I" ≠ RoadKit.slotOf Z cn53 "factor" "Lcom/example/netloom/netloom/embed/BasisFactor;" := (slot_ne (C := cn53) (Or.inl (tw45 hw)) (Or.inr (tw162 hw)) (by decide) (t := (.array .int)) (t' := (.object "com/example/netloom/netloom/embed/BasisFactor")) (by decide) (by decide))
theorem sn98 {Z a0} (hw : HW Z a0) : RoadKit.slotOf Z cn53 "value" "[D" ≠ RoadKit.slotOf Z cn53 "factor" "Lcom/example/netloom/netloom/embed/BasisFactor;" := (slot_ne (C := cn53) (Or.inl (tw164 hw)) (Or.inr (tw162 hw)) (by decide) (t := (.array .double)) (t' := (.object "com/example/netloom/netloom/embed/BasisFactor")) (by decide) (by decide))
theorem sn99 {Z a0} (hw : HW Z a0) : RoadKit.slotOf Z cn53 "dual" "[D" ≠ RoadKit.slotOf Z cn53 "factor" "Lcom/example/netloom/netloom/embed/BasisFactor;" := (slot_ne (C := cn53) (Or.inl (tw166 hw)) (Or.inr (tw162 hw)) (by decide) (t := (.array .double)) (t' := (.object "com/example/netloom/netloom/embed/BasisFactor")) (by decide) (by decide))
theorem sn100 {Z a0} (hw : HW Z a0) : RoadKit.slotOf Z cn53 "rowCount" "I" ≠ RoadKit.slotOf Z cn53 "factor" "Lcom/example/netloom/netloom/embed/BasisFactor;" := (slot_ne (C := cn53) (Or.inl (tw239 hw)) (Or.inr (tw162 hw)) (by decide) (t := .int) (t' := (.object "com/example/netloom/netloom/embed/BasisFactor")) (by decide) (by decide))
theorem p49_1_58 : decode prog_49_method_1_code 58 = .ok (.aload_n 0, 1) := by decide +kernel
theorem p49_1_59 : decode prog_49_method_1_code 59 = .ok (.bipush 16, 2) := by decide +kernel
theorem p49_1_61 : decode prog_49_method_1_code 61 = .ok (.newarray .double, 2) := by decide +kernel
theorem p49_1_63 : decode prog_49_method_1_code 63 = .ok (.putfield 37, 3) := by decide +kernel
def tw163 {Z a0} (hw : HW Z a0) := hw _ (List.mem_of_getElem? (i := 163) rfl)
theorem sn101 {Z a0} (hw : HW Z a0) : RoadKit.slotOf Z cn53 "columns" "Ljava/util/List;" ≠ RoadKit.slotOf Z cn53 "value" "[D" := (slot_ne (C := cn53) (Or.inr (tw35 hw)) (Or.inl (tw164 hw)) (by decide) (t := (.object "java/util/List")) (t' := (.array .double)) (by decide) (by decide))
theorem sn102 {Z a0} (hw : HW Z a0) : RoadKit.slotOf Z cn53 "cost" "[D" ≠ RoadKit.slotOf Z cn53 "value" "[D" := (slot_ne (C := cn53) (Or.inl (tw38 hw)) (Or.inl (tw164 hw)) (by decide) (t := (.array .double)) (t' := (.array .double)) (by decide) (by decide))
theorem sn103 {Z a0} (hw : HW Z a0) : RoadKit.slotOf Z cn53 "rhs" "[D" ≠ RoadKit.slotOf Z cn53 "value" "[D" := (slot_ne (C := cn53) (Or.inl (tw40 hw)) (Or.inl (tw164 hw)) (by decide) (t := (.array .double)) (t' := (.array .double)) (by decide) (by decide))
theorem sn104 {Z a0} (hw : HW Z a0) : RoadKit.slotOf Z cn53 "basic" "[I" ≠ RoadKit.slotOf Z cn53 "value" "[D" := (slot_ne (C := cn53) (Or.inl (tw43 hw)) (Or.inl (tw164 hw)) (by decide) (t := (.array .int)) (t' := (.array .double)) (by decide) (by decide))
theorem sn105 {Z a0} (hw : HW Z a0) : RoadKit.slotOf Z cn53 "positionOf" "[I" ≠ RoadKit.slotOf Z cn53 "value" "[D" := (slot_ne (C := cn53) (Or.inl (tw45 hw)) (Or.inl (tw164 hw)) (by decide) (t := (.array .int)) (t' := (.array .double)) (by decide) (by decide))
theorem sn106 {Z a0} (hw : HW Z a0) : RoadKit.slotOf Z cn53 "factor" "Lcom/example/netloom/netloom/embed/BasisFactor;" ≠ RoadKit.slotOf Z cn53 "value" "[D" := (slot_ne (C := cn53) (Or.inr (tw162 hw)) (Or.inl (tw164 hw)) (by decide) (t := (.object "com/example/netloom/netloom/embed/BasisFactor")) (t' := (.array .double)) (by decide) (by decide))
theorem sn107 {Z a0} (hw : HW Z a0) : RoadKit.slotOf Z cn53 "dual" "[D" ≠ RoadKit.slotOf Z cn53 "value" "[D" := (slot_ne (C := cn53) (Or.inl (tw166 hw)) (Or.inl (tw164 hw)) (by decide) (t := (.array .double)) (t' := (.array .double)) (by decide) (by decide))
theorem sn108 {Z a0} (hw : HW Z a0) : RoadKit.slotOf Z cn53 "rowCount" "I" ≠ RoadKit.slotOf Z cn53 "value" "[D" := (slot_ne (C := cn53) (Or.inl (tw239 hw)) (Or.inl (tw164 hw)) (by decide) (t := .int) (t' := (.array .double)) (by decide) (by decide))
theorem p49_1_66 : decode prog_49_method_1_code 66 = .ok (.aload_n 0, 1) := by decide +kernel
theorem p49_1_67 : decode prog_49_method_1_code 67 = .ok (.iconst 0, 1) := by decide +kernel
theorem p49_1_68 : decode prog_49_method_1_code 68 = .ok (.newarray .double, 2) := by decide +kernel
theorem p49_1_70 : decode prog_49_method_1_code 70 = .ok (.putfield 40, 3) := by decide +kernel
def tw165 {Z a0} (hw : HW Z a0) := hw _ (List.mem_of_getElem? (i := 165) rfl)
theorem sn109 {Z a0} (hw : HW Z a0) : RoadKit.slotOf Z cn53 "columns" "Ljava/util/List;" ≠ RoadKit.slotOf Z cn53 "dual" "[D" := (slot_ne (C := cn53) (Or.inr (tw35 hw)) (Or.inl (tw166 hw)) (by decide) (t := (.object "java/util/List")) (t' := (.array .double)) (by decide) (by decide))
theorem sn110 {Z a0} (hw : HW Z a0) : RoadKit.slotOf Z cn53 "cost" "[D" ≠ RoadKit.slotOf Z cn53 "dual" "[D" := (slot_ne (C := cn53) (Or.inl (tw38 hw)) (Or.inl (tw166 hw)) (by decide) (t := (.array .double)) (t' := (.array .double)) (by decide) (by decide))
theorem sn111 {Z a0} (hw : HW Z a0) : RoadKit.slotOf Z cn53 "rhs" "[D" ≠ RoadKit.slotOf Z cn53 "dual" "[D" := (slot_ne (C := cn53) (Or.inl (tw40 hw)) (Or.inl (tw166 hw)) (by decide) (t := (.array .double)) (t' := (.array .double)) (by decide) (by decide))
theorem sn112 {Z a0} (hw : HW Z a0) : RoadKit.slotOf Z cn53 "basic" "[I" ≠ RoadKit.slotOf Z cn53 "dual" "[D" := (slot_ne (C := cn53) (Or.inl (tw43 hw)) (Or.inl (tw166 hw)) (by decide) (t := (.array .int)) (t' := (.array .double)) (by decide) (by decide))
theorem sn113 {Z a0} (hw : HW Z a0) : RoadKit.slotOf Z cn53 "positionOf" "[I" ≠ RoadKit.slotOf Z cn53 "dual" "[D" := (slot_ne (C := cn53) (Or.inl (tw45 hw)) (Or.inl (tw166 hw)) (by decide) (t := (.array .int)) (t' := (.array .double)) (by decide) (by decide))
theorem sn114 {Z a0} (hw : HW Z a0) : RoadKit.slotOf Z cn53 "factor" "Lcom/example/netloom/netloom/embed/BasisFactor;" ≠ RoadKit.slotOf Z cn53 "dual" "[D" := (slot_ne (C := cn53) (Or.inr (tw162 hw)) (Or.inl (tw166 hw)) (by decide) (t := (.object "com/example/netloom/netloom/embed/BasisFactor")) (t' := (.array .double)) (by decide) (by decide))
theorem sn115 {Z a0} (hw : HW Z a0) : RoadKit.slotOf Z cn53 "value" "[D" ≠ RoadKit.slotOf Z cn53 "dual" "[D" := (slot_ne (C := cn53) (Or.inl (tw164 hw)) (Or.inl (tw166 hw)) (by decide) (t := (.array .double)) (t' := (.array .double)) (by decide) (by decide))
theorem sn116 {Z a0} (hw : HW Z a0) : RoadKit.slotOf Z cn53 "rowCount" "I" ≠ RoadKit.slotOf Z cn53 "dual" "[D" := (slot_ne (C := cn53) (Or.inl (tw239 hw)) (Or.inl (tw166 hw)) (by decide) (t := .int) (t' := (.array .double)) (by decide) (by decide))
theorem p49_1_73 : decode prog_49_method_1_code 73 = .ok (.return_, 1) := by decide +kernel
set_option maxRecDepth 65536 in
set_option maxHeartbeats 40000000 in
theorem rmSx (l : Launch) (Z : State) (a0 : Array Value) (hw : ∀ d ∈ tables_1, d.before a0 Z = true) (ws : List Jvm.Cond) (a : Addr) (dE : Addr) (h0 : Heap) (n0 : Nat) (Z0 : n0 ≤ h0.size) (O1 : Old Z n0 h0) (E1 : xa49 Z h0 a) (F0 : fd41 Z h0 a .null) (F1 : fd42 Z h0 a .null) (F2 : fd43 Z h0 a .null) (F3 : fd44 Z h0 a .null) (F4 : fd45 Z h0 a .null) (F5 : fd46 Z h0 a .null) (F6 : fd47 Z h0 a .null) (F7 : fd50 Z h0 a .null) (F8 : fd48 Z h0 a (.int (0 : Int32))) (ge_a : n0 ≤ a) (oD : Sta Z Z.heap "java/util/ArrayList" "DEFAULTCAPACITY_EMPTY_ELEMENTDATA" "[Ljava/lang/Object;" (.ref dE)) :
  MetFree l mn51 (head1 (Jvm.Cond.code mn51 prog_49_method_1_code 1 none :: ws) ({ frames := 4, cells := 55, slots := 576, locals := 64 } : Room)) (fun aA U => aA = #[(.ref a)] ∧ Z.Warmed39 U.vm ∧ U.heap = h0) (fun _ _ _ _ _ => True) (fun _ U o U' => ∃ vR LR, o = .returned vR ∧ QrmSx Z a dE h0 n0 vR U'.heap LR ∧ FrameEnd U o U' LR ({ frames := 4, cells := 55, slots := 576, locals := 64 } : Room).cells ({ frames := 4, cells := 55, slots := 576, locals := 64 } : Room).slots) := by
 refine MetFree.of_bodySF (plainFor_of_name pn_com_example_netloom_netloom_embed_Simplex) hisR ?_
 intro p e s m args below meth c s₁ Bd hml0 hPre hKk
 obtain ⟨rfl, hZ, hh⟩ := hPre
 have hx := Bd.exec
 have hby := Bd.bytes
 have hH : ∀ {pc r}, decode prog_49_method_1_code pc = r → decode c.code pc = r := fun q => hb hby q
 have hml : c.maxLocals = 1 := hml0
 have hown : s.vm.findClass "com/example/netloom/netloom/embed/Simplex" = some m.cls := findClass_of_methodNamed Bd.named
 have hnm := (name_of_methodNamed Bd.named Bd.method).1
 have X0 : Stand p l e ({ frames := 4, cells := 55, slots := 576, locals := 64 } : Room) s m #[(.ref a)] below meth c s₁ [] 0 0 := Stand.of_body Bd
 have e0 : s₁.heap = h0 := by rw [← hh, Bd.state]; rfl
 have N0 := Fr.nil n0
 obtain ⟨E0, hE0⟩ : ∃ zE : State, zE = s₁.setTop (entryFrame m #[(.ref a)] 1) := ⟨_, rfl⟩
 have k0 : own_G p e below E0 s₁ (mkF m 0 #[vr a] []) := fun tz kz => hE0 ▸ castTop (ef_rmSx m a dE) kz
 have K0 : Keep h0 h0 [a] := Keep.refl _ _
 have kJ0 : own_G p e below E0 s₁ (mkF m 1 #[vr a] [(.ref a)]) := by
  intro tQ kk
  refine k0 tQ ?_
  refine XS.aloadN X0.here hx rfl (hH p49_1_0) rfl rfl ?_
  exact kk
 clear k0
 obtain ⟨TJ1, XJ2, eJ3, stJ4⟩ := initO X0 hx hZ hown (tw7 hw) (tw8 hw) (tw9 hw) e0 (g := (mkF m 1 #[vr a] [(.ref a)])) rfl (by rw [hml]; rfl) rfl (hH p49_1_1) (by decide) (W := 0) (by show 2 * 0 + _ ≤ _; exact Nat.le_of_eq rfl) (by decide)
 have kJ5 : own_G p e below E0 TJ1 (mkF m 4 #[vr a] []) := fun tQ kk => kJ0 tQ (stJ4 _ kk)
 clear kJ0 stJ4
 have kJ6 : own_G p e below E0 TJ1 (mkF m 5 #[vr a] [(.ref a)]) := by
  intro tQ kk
  refine kJ5 tQ ?_
  refine XS.aloadN XJ2.here hx rfl (hH p49_1_4) rfl rfl ?_
  exact kk
 clear kJ5
 obtain ⟨TJ7, hJ8, XJ9, eJA, EJB, AJC, DJD, UnJH, stJE⟩ := newO XJ2 hx hZ hown (tw10 hw) (tw11 hw) (tw12 hw) eJ3 (g := (mkF m 5 #[vr a] [(.ref a)])) rfl (hH p49_1_5) (by decide) (by decide)
 obtain ⟨aJF, gJG⟩ : ∃ zA : Nat, zA = h0.size := ⟨_, rfl⟩
 rw [← gJG] at AJC DJD stJE UnJH
 have nJI := own_lt_ne E1.lt gJG
 have nwJJ : h0.size ≤ aJF := own_ge_of K0.1 gJG
 have geJK : n0 ≤ aJF := own_ge_of Z0 gJG
 replace Z0 := Nat.le_trans Z0 EJB.1
 replace O1 := O1.ext EJB
 replace E1 := E1.ext EJB
 replace F0 := F0.ext EJB
 replace F1 := F1.ext EJB
 replace F2 := F2.ext EJB
 replace F3 := F3.ext EJB
 replace F4 := F4.ext EJB
 replace F5 := F5.ext EJB
 replace F6 := F6.ext EJB
 replace F7 := F7.ext EJB
 replace F8 := F8.ext EJB
 replace K0 := K0.ext EJB
 have UnJL : Unt hJ8 aJF := UnJH
 have FJM : Fld Z hJ8 aJF "java/util/AbstractList" "modCount" "I" (.int (0 : Int32)) := (DJD (Or.inl (tw30 hw)) (ty := .int) (by decide))
 have FJN : Fld Z hJ8 aJF "java/util/ArrayList" "elementData" "[Ljava/lang/Object;" .null := (DJD (Or.inl (tw33 hw)) (ty := (.array (.object "java/lang/Object"))) (by decide))
 have FJO : Fld Z hJ8 aJF "java/util/ArrayList" "size" "I" (.int (0 : Int32)) := (DJD (Or.inl (tw182 hw)) (ty := .int) (by decide))
 have kJP : own_G p e below E0 TJ7 (mkF m 8 #[vr a] [(.ref aJF), (.ref a)]) := fun tQ kk => kJ6 tQ (stJE _ kk)
 clear kJ6 stJE
 have kJQ : own_G p e below E0 TJ7 (mkF m 9 #[vr a] [(.ref aJF), (.ref aJF), (.ref a)]) := by
  intro tQ kk
  refine kJP tQ ?_
  refine XS.dup XJ9.here hx rfl (hH p49_1_8) rfl rfl ?_
  exact kk
 clear kJP
 obtain ⟨_, _, ⟨TJR, LJS, kcJT, ncJU⟩, -, XJV, ⟨LcJW, hQJX, lJY, yJZ, zK0⟩, stK1⟩ := XJ9.specialBack hx (y := mn38) rfl hown (mvT hZ (tw13 hw)) (mvT hZ (tw14 hw)) (mvT hZ (tw15 hw)) (by decide) (backOf (W := 2) (rmAl l Z a0 hw [] aJF dE hJ8 n0 Z0 O1 AJC FJM FJN FJO geJK oD) hZ (tw15 hw) (tw12 hw) (by decide) (by decide)) (g := (mkF m 9 #[vr a] [(.ref aJF), (.ref aJF), (.ref a)])) rfl (by rw [hml]; rfl) (Steps.refl _) (a := aJF) (argsL := []) (rest := [(.ref aJF), (.ref a)]) (lenOf pd_8 rfl) rfl (by show 2 * 0 + _ ≤ _; exact Nat.le_of_eq rfl) (hH p49_1_9) (fun _ _ => ⟨rfl, eJA, (by decide : 1 + 0 ≤ _), (by decide : 3 + 0 ≤ _)⟩)
 dsimp only [Pt.U, Pt.locs, Pt.cells, Pt.slots] at XJV lJY yJZ zK0 stK1 hQJX
 subst yJZ zK0
 obtain ⟨rfl, NK2, KK5, gK6, gK7, gK8⟩ := hQJX
 have NK9 : Fr n0 LJS := by rw [lJY]; exact Fr.app N0 NK2
 clear lJY NK2
 replace Z0 := Nat.le_trans Z0 KK5.1
 replace O1 := O1.keep KK5 (allS geJK all0)
 replace E1 := E1.keep KK5
 replace F0 := F0.keep KK5 (ninS nJI nin0)
 replace F1 := F1.keep KK5 (ninS nJI nin0)
 replace F2 := F2.keep KK5 (ninS nJI nin0)
 replace F3 := F3.keep KK5 (ninS nJI nin0)
 replace F4 := F4.keep KK5 (ninS nJI nin0)
 replace F5 := F5.keep KK5 (ninS nJI nin0)
 replace F6 := F6.keep KK5 (ninS nJI nin0)
 replace F7 := F7.keep KK5 (ninS nJI nin0)
 replace F8 := F8.keep KK5 (ninS nJI nin0)
 replace AJC := AJC.keep KK5
 clear UnJL
 clear FJM
 clear FJN
 clear FJO
 replace K0 := K0.trans KK5 (allS (Or.inr nwJJ) all0)
 have kKA : own_G p e below E0 TJR (mkF m 12 #[vr a] [(.ref aJF), (.ref a)]) := fun tQ kk => kJQ tQ (stK1.trans kk)
 clear kJQ stK1
 obtain ⟨TKB, hKC, XKD, eKE, WKF, stKG⟩ := putF XJV hx hZ hown (host := "") (Or.inl (tw34 hw)) Via.refl rfl F0 E1 (Or.inr ⟨(tw35 hw), rfl, hnm⟩) (tw2 hw) (ty := (.object "java/util/List")) (by decide) rfl rfl (g := (mkF m 12 #[vr a] [(.ref aJF), (.ref a)])) rfl rfl (hH p49_1_12)
 have NKH := Fr.snoc XKD NK9 ge_a
 have kKI : own_G p e below E0 TKB (mkF m 15 #[vr a] []) := fun tQ kk => kKA tQ (stKG _ kk)
 clear kKA stKG
 replace O1 := O1.wr WKF ge_a
 replace E1 := E1.wr WKF
 replace F0 := F0.same WKF
 replace F1 := F1.other WKF (Or.inr (sn52 hw))
 replace F2 := F2.other WKF (Or.inr (sn54 hw))
 replace F3 := F3.other WKF (Or.inr (sn55 hw))
 replace F4 := F4.other WKF (Or.inr (sn56 hw))
 replace F5 := F5.other WKF (Or.inr (sn57 hw))
 replace F6 := F6.other WKF (Or.inr (sn58 hw))
 replace F7 := F7.other WKF (Or.inr (sn59 hw))
 replace F8 := F8.other WKF (Or.inr (sn60 hw))
 replace AJC := AJC.wr WKF
 replace gK6 := gK6.other WKF (Or.inl (Ne.symm nJI))
 replace gK7 := gK7.other WKF (Or.inl (Ne.symm nJI))
 replace gK8 := gK8.other WKF (Or.inl (Ne.symm nJI))
 replace Z0 := own_wrle WKF Z0
 replace K0 := K0.wr WKF (Or.inl (List.mem_of_getElem? (i := 0) rfl))
 have kKJ : own_G p e below E0 TKB (mkF m 18 #[vr a] [(.int (16 : Int32)), (.ref a)]) := by
  intro tQ kk
  refine kKI tQ ?_
  refine XS.aloadN XKD.here hx rfl (hH p49_1_15) rfl rfl ?_
  refine XS.bipush XKD.here hx rfl (hH p49_1_16) ?_
  exact kk
 clear kKI
 obtain ⟨TKK, hKL, cAKM, XKN, eKO, EKP, AKQ, stKR⟩ := newP (aty := .double) XKD hx hZ (tw36 hw) eKE (g := (mkF m 18 #[vr a] [(.int (16 : Int32)), (.ref a)])) rfl (hH p49_1_18) rfl (by decide) (cap := 16) (by decide) (by decide) (by decide) (by decide)
 obtain ⟨aKS, gKT⟩ : ∃ zA : Nat, zA = hKC.size := ⟨_, rfl⟩
 rw [← gKT] at AKQ stKR
 have nKU := own_lt_ne E1.lt gKT
 have nKV := own_lt_ne AJC.lt gKT
 have nwKW : h0.size ≤ aKS := own_ge_of K0.1 gKT
 have geKX : n0 ≤ aKS := own_ge_of Z0 gKT
 replace Z0 := Nat.le_trans Z0 EKP.1
 replace O1 := O1.ext EKP
 replace E1 := E1.ext EKP
 replace F0 := F0.ext EKP
 replace F1 := F1.ext EKP
 replace F2 := F2.ext EKP
 replace F3 := F3.ext EKP
 replace F4 := F4.ext EKP
 replace F5 := F5.ext EKP
 replace F6 := F6.ext EKP
 replace F7 := F7.ext EKP
 replace F8 := F8.ext EKP
 replace AJC := AJC.ext EKP
 replace gK6 := gK6.ext EKP
 replace gK7 := gK7.ext EKP
 replace gK8 := gK8.ext EKP
 replace K0 := K0.ext EKP
 have FKY : own_A Z hKL aKS .double own_d16 := own_A.new AKQ
 have kKZ : own_G p e below E0 TKK (mkF m 20 #[vr a] [(.ref aKS), (.ref a)]) := fun tQ kk => kKJ tQ (stKR _ kk)
 clear kKJ stKR
 obtain ⟨TL0, hL1, XL2, eL3, WL4, stL5⟩ := putF XKN hx hZ hown (host := "") (Or.inl (tw37 hw)) Via.refl eKO F1 E1 (Or.inl (tw38 hw)) (tw2 hw) (ty := (.array .double)) (by decide) rfl rfl (g := (mkF m 20 #[vr a] [(.ref aKS), (.ref a)])) rfl rfl (hH p49_1_20)
 have NL6 := Fr.snoc XL2 NKH ge_a
 have kL7 : own_G p e below E0 TL0 (mkF m 23 #[vr a] []) := fun tQ kk => kKZ tQ (stL5 _ kk)
 clear kKZ stL5
 replace O1 := O1.wr WL4 ge_a
 replace E1 := E1.wr WL4
 replace F0 := F0.other WL4 (Or.inr (sn61 hw))
 replace F1 := F1.same WL4
 replace F2 := F2.other WL4 (Or.inr (sn62 hw))
 replace F3 := F3.other WL4 (Or.inr (sn63 hw))
 replace F4 := F4.other WL4 (Or.inr (sn64 hw))
 replace F5 := F5.other WL4 (Or.inr (sn65 hw))
 replace F6 := F6.other WL4 (Or.inr (sn66 hw))
 replace F7 := F7.other WL4 (Or.inr (sn67 hw))
 replace F8 := F8.other WL4 (Or.inr (sn68 hw))
 replace AJC := AJC.wr WL4
 replace gK6 := gK6.other WL4 (Or.inl (Ne.symm nJI))
 replace gK7 := gK7.other WL4 (Or.inl (Ne.symm nJI))
 replace gK8 := gK8.other WL4 (Or.inl (Ne.symm nJI))
 replace FKY := FKY.other WL4 (Ne.symm nKU)
 replace Z0 := own_wrle WL4 Z0
 replace K0 := K0.wr WL4 (Or.inl (List.mem_of_getElem? (i := 0) rfl))
 have kL8 : own_G p e below E0 TL0 (mkF m 26 #[vr a] [(.int (16 : Int32)), (.ref a)]) := by
  intro tQ kk
  refine kL7 tQ ?_
  refine XS.aloadN XL2.here hx rfl (hH p49_1_23) rfl rfl ?_
  refine XS.bipush XL2.here hx rfl (hH p49_1_24) ?_
  exact kk
 clear kL7
 obtain ⟨TL9, hLA, cALB, XLC, eLD, ELE, ALF, stLG⟩ := newP (aty := .double) XL2 hx hZ (tw36 hw) eL3 (g := (mkF m 26 #[vr a] [(.int (16 : Int32)), (.ref a)])) rfl (hH p49_1_26) rfl (by decide) (cap := 16) (by decide) (by decide) (by decide) (by decide)
 obtain ⟨aLH, gLI⟩ : ∃ zA : Nat, zA = hL1.size := ⟨_, rfl⟩
 rw [← gLI] at ALF stLG
 have nLJ := own_lt_ne E1.lt gLI
 have nLK := own_lt_ne AJC.lt gLI
 have nLL := own_lt_ne FKY.lt gLI
 have nwLM : h0.size ≤ aLH := own_ge_of K0.1 gLI
 have geLN : n0 ≤ aLH := own_ge_of Z0 gLI
 replace Z0 := Nat.le_trans Z0 ELE.1
 replace O1 := O1.ext ELE
 replace E1 := E1.ext ELE
 replace F0 := F0.ext ELE
 replace F1 := F1.ext ELE
 replace F2 := F2.ext ELE
 replace F3 := F3.ext ELE
 replace F4 := F4.ext ELE
 replace F5 := F5.ext ELE
 replace F6 := F6.ext ELE
 replace F7 := F7.ext ELE
 replace F8 := F8.ext ELE
 replace AJC := AJC.ext ELE
 replace gK6 := gK6.ext ELE
 replace gK7 := gK7.ext ELE
 replace gK8 := gK8.ext ELE
 replace FKY := FKY.ext ELE
 replace K0 := K0.ext ELE
 have FLO : own_A Z hLA aLH .double own_d16 := own_A.new ALF
 have kLP : own_G p e below E0 TL9 (mkF m 28 #[vr a] [(.ref aLH), (.ref a)]) := fun tQ kk => kL8 tQ (stLG _ kk)
 clear kL8 stLG
 obtain ⟨TLQ, hLR, XLS, eLT, WLU, stLV⟩ := putF XLC hx hZ hown (host := "") (Or.inl (tw39 hw)) Via.refl eLD F2 E1 (Or.inl (tw40 hw)) (tw2 hw) (ty := (.array .double)) (by decide) rfl rfl (g := (mkF m 28 #[vr a] [(.ref aLH), (.ref a)])) rfl rfl (hH p49_1_28)
 have NLW := Fr.snoc XLS NL6 ge_a
 have kLX : own_G p e below E0 TLQ (mkF m 31 #[vr a] []) := fun tQ kk => kLP tQ (stLV _ kk)
 clear kLP stLV
 replace O1 := O1.wr WLU ge_a
 replace E1 := E1.wr WLU
 replace F0 := F0.other WLU (Or.inr (sn69 hw))
 replace F1 := F1.other WLU (Or.inr (sn70 hw))
 replace F2 := F2.same WLU
 replace F3 := F3.other WLU (Or.inr (sn71 hw))
 replace F4 := F4.other WLU (Or.inr (sn72 hw))
 replace F5 := F5.other WLU (Or.inr (sn73 hw))
 replace F6 := F6.other WLU (Or.inr (sn74 hw))
 replace F7 := F7.other WLU (Or.inr (sn75 hw))
 replace F8 := F8.other WLU (Or.inr (sn76 hw))
 replace AJC := AJC.wr WLU
 replace gK6 := gK6.other WLU (Or.inl (Ne.symm nJI))
 replace gK7 := gK7.other WLU (Or.inl (Ne.symm nJI))
 replace gK8 := gK8.other WLU (Or.inl (Ne.symm nJI))
 replace FKY := FKY.other WLU (Ne.symm nKU)
 replace FLO := FLO.other WLU (Ne.symm nLJ)
 replace Z0 := own_wrle WLU Z0
 replace K0 := K0.wr WLU (Or.inl (List.mem_of_getElem? (i := 0) rfl))
 have kLY : own_G p e below E0 TLQ (mkF m 34 #[vr a] [(.int (16 : Int32)), (.ref a)]) := by
  intro tQ kk
  refine kLX tQ ?_
  refine XS.aloadN XLS.here hx rfl (hH p49_1_31) rfl rfl ?_
  refine XS.bipush XLS.here hx rfl (hH p49_1_32) ?_
  exact kk
 clear kLX
 obtain ⟨TLZ, hM0, cAM1, XM2, eM3, EM4, AM5, stM6⟩ := newP (aty := .int) XLS hx hZ (tw41 hw) eLT (g := (mkF m 34 #[vr a] [(.int (16 : Int32)), (.ref a)])) rfl (hH p49_1_34) rfl (by decide) (cap := 16) (by decide) (by decide) (by decide) (by decide)
 obtain ⟨aM7, gM8⟩ : ∃ zA : Nat, zA = hLR.size := ⟨_, rfl⟩
 rw [← gM8] at AM5 stM6
 have nM9 := own_lt_ne E1.lt gM8
 have nMA := own_lt_ne AJC.lt gM8
 have nMB := own_lt_ne FKY.lt gM8
 have nMC := own_lt_ne FLO.lt gM8
 have nwMD : h0.size ≤ aM7 := own_ge_of K0.1 gM8
 have geME : n0 ≤ aM7 := own_ge_of Z0 gM8
 replace Z0 := Nat.le_trans Z0 EM4.1
 replace O1 := O1.ext EM4
 replace E1 := E1.ext EM4
 replace F0 := F0.ext EM4
 replace F1 := F1.ext EM4
 replace F2 := F2.ext EM4
 replace F3 := F3.ext EM4
 replace F4 := F4.ext EM4
 replace F5 := F5.ext EM4
 replace F6 := F6.ext EM4
 replace F7 := F7.ext EM4
 replace F8 := F8.ext EM4
 replace AJC := AJC.ext EM4
 replace gK6 := gK6.ext EM4
 replace gK7 := gK7.ext EM4
 replace gK8 := gK8.ext EM4
 replace FKY := FKY.ext EM4
 replace FLO := FLO.ext EM4
 replace K0 := K0.ext EM4
 have FMF : own_A Z hM0 aM7 .int own_i16 := own_A.new AM5
 have kMG : own_G p e below E0 TLZ (mkF m 36 #[vr a] [(.ref aM7), (.ref a)]) := fun tQ kk => kLY tQ (stM6 _ kk)
 clear kLY stM6
 obtain ⟨TMH, hMI, XMJ, eMK, WML, stMM⟩ := putF XM2 hx hZ hown (host := "") (Or.inl (tw42 hw)) Via.refl eM3 F3 E1 (Or.inl (tw43 hw)) (tw2 hw) (ty := (.array .int)) (by decide) rfl rfl (g := (mkF m 36 #[vr a] [(.ref aM7), (.ref a)])) rfl rfl (hH p49_1_36)
 have NMN := Fr.snoc XMJ NLW ge_a
 have kMO : own_G p e below E0 TMH (mkF m 39 #[vr a] []) := fun tQ kk => kMG tQ (stMM _ kk)
 clear kMG stMM
 replace O1 := O1.wr WML ge_a
 replace E1 := E1.wr WML
 replace F0 := F0.other WML (Or.inr (sn77 hw))
 replace F1 := F1.other WML (Or.inr (sn78 hw))
 replace F2 := F2.other WML (Or.inr (sn79 hw))
 replace F3 := F3.same WML
 replace F4 := F4.other WML (Or.inr (sn80 hw))
 replace F5 := F5.other WML (Or.inr (sn81 hw))
 replace F6 := F6.other WML (Or.inr (sn82 hw))
 replace F7 := F7.other WML (Or.inr (sn83 hw))
 replace F8 := F8.other WML (Or.inr (sn84 hw))
 replace AJC := AJC.wr WML
 replace gK6 := gK6.other WML (Or.inl (Ne.symm nJI))
 replace gK7 := gK7.other WML (Or.inl (Ne.symm nJI))
 replace gK8 := gK8.other WML (Or.inl (Ne.symm nJI))
 replace FKY := FKY.other WML (Ne.symm nKU)
 replace FLO := FLO.other WML (Ne.symm nLJ)
 replace FMF := FMF.other WML (Ne.symm nM9)
 replace Z0 := own_wrle WML Z0
 replace K0 := K0.wr WML (Or.inl (List.mem_of_getElem? (i := 0) rfl))
 have kMP : own_G p e below E0 TMH (mkF m 42 #[vr a] [(.int (16 : Int32)), (.ref a)]) := by
  intro tQ kk
  refine kMO tQ ?_
  refine XS.aloadN XMJ.here hx rfl (hH p49_1_39) rfl rfl ?_
  refine XS.bipush XMJ.here hx rfl (hH p49_1_40) ?_
  exact kk
 clear kMO
 obtain ⟨TMQ, hMR, cAMS, XMT, eMU, EMV, AMW, stMX⟩ := newP (aty := .int) XMJ hx hZ (tw41 hw) eMK (g := (mkF m 42 #[vr a] [(.int (16 : Int32)), (.ref a)])) rfl (hH p49_1_42) rfl (by decide) (cap := 16) (by decide) (by decide) (by decide) (by decide)
 obtain ⟨aMY, gMZ⟩ : ∃ zA : Nat, zA = hMI.size := ⟨_, rfl⟩
 rw [← gMZ] at AMW stMX
 have nN0 := own_lt_ne E1.lt gMZ
 have nN1 := own_lt_ne AJC.lt gMZ
 have nN2 := own_lt_ne FKY.lt gMZ
 have nN3 := own_lt_ne FLO.lt gMZ
 have nN4 := own_lt_ne FMF.lt gMZ
 have nwN5 : h0.size ≤ aMY := own_ge_of K0.1 gMZ
 have geN6 : n0 ≤ aMY := own_ge_of Z0 gMZ
 replace Z0 := Nat.le_trans Z0 EMV.1
 replace O1 := O1.ext EMV
 replace E1 := E1.ext EMV
 replace F0 := F0.ext EMV
 replace F1 := F1.ext EMV
 replace F2 := F2.ext EMV
 replace F3 := F3.ext EMV
 replace F4 := F4.ext EMV
 replace F5 := F5.ext EMV
 replace F6 := F6.ext EMV
 replace F7 := F7.ext EMV
 replace F8 := F8.ext EMV
 replace AJC := AJC.ext EMV
 replace gK6 := gK6.ext EMV
 replace gK7 := gK7.ext EMV
 replace gK8 := gK8.ext EMV
 replace FKY := FKY.ext EMV
 replace FLO := FLO.ext EMV
 replace FMF := FMF.ext EMV
 replace K0 := K0.ext EMV
 have FN7 : own_A Z hMR aMY .int own_i16 := own_A.new AMW
 have kN8 : own_G p e below E0 TMQ (mkF m 44 #[vr a] [(.ref aMY), (.ref a)]) := fun tQ kk => kMP tQ (stMX _ kk)
 clear kMP stMX
 obtain ⟨TN9, hNA, XNB, eNC, WND, stNE⟩ := putF XMT hx hZ hown (host := "") (Or.inl (tw44 hw)) Via.refl eMU F4 E1 (Or.inl (tw45 hw)) (tw2 hw) (ty := (.array .int)) (by decide) rfl rfl (g := (mkF m 44 #[vr a] [(.ref aMY), (.ref a)])) rfl rfl (hH p49_1_44)
 have NNF := Fr.snoc XNB NMN ge_a
 have kNG : own_G p e below E0 TN9 (mkF m 47 #[vr a] []) := fun tQ kk => kN8 tQ (stNE _ kk)
 clear kN8 stNE
 replace O1 := O1.wr WND ge_a
 replace E1 := E1.wr WND
 replace F0 := F0.other WND (Or.inr (sn85 hw))
 replace F1 := F1.other WND (Or.inr (sn86 hw))
 replace F2 := F2.other WND (Or.inr (sn87 hw))
 replace F3 := F3.other WND (Or.inr (sn88 hw))
 replace F4 := F4.same WND
 replace F5 := F5.other WND (Or.inr (sn89 hw))
 replace F6 := F6.other WND (Or.inr (sn90 hw))
 replace F7 := F7.other WND (Or.inr (sn91 hw))
 replace F8 := F8.other WND (Or.inr (sn92 hw))
 replace AJC := AJC.wr WND
 replace gK6 := gK6.other WND (Or.inl (Ne.symm nJI))
 replace gK7 := gK7.other WND (Or.inl (Ne.symm nJI))
 replace gK8 := gK8.other WND (Or.inl (Ne.symm nJI))
 replace FKY := FKY.other WND (Ne.symm nKU)
 replace FLO := FLO.other WND (Ne.symm nLJ)
 replace FMF := FMF.other WND (Ne.symm nM9)
 replace FN7 := FN7.other WND (Ne.symm nN0)
 replace Z0 := own_wrle WND Z0
 replace K0 := K0.wr WND (Or.inl (List.mem_of_getElem? (i := 0) rfl))
 have kNH : own_G p e below E0 TN9 (mkF m 48 #[vr a] [(.ref a)]) := by
  intro tQ kk
  refine kNG tQ ?_
  refine XS.aloadN XNB.here hx rfl (hH p49_1_47) rfl rfl ?_
  exact kk
 clear kNG
 obtain ⟨TNI, hNJ, XNK, eNL, ENM, ANN, DNO, UnNS, stNP⟩ := newO XNB hx hZ hown (tw46 hw) (tw47 hw) (tw48 hw) eNC (g := (mkF m 48 #[vr a] [(.ref a)])) rfl (hH p49_1_48) (by decide) (by decide)
 obtain ⟨aNQ, gNR⟩ : ∃ zA : Nat, zA = hNA.size := ⟨_, rfl⟩
 rw [← gNR] at ANN DNO stNP UnNS
 have nNT := own_lt_ne E1.lt gNR
 have nNU := own_lt_ne AJC.lt gNR
 have nNV := own_lt_ne FKY.lt gNR
 have nNW := own_lt_ne FLO.lt gNR
 have nNX := own_lt_ne FMF.lt gNR
 have nNY := own_lt_ne FN7.lt gNR
 have nwNZ : h0.size ≤ aNQ := own_ge_of K0.1 gNR
 have geP0 : n0 ≤ aNQ := own_ge_of Z0 gNR
 replace Z0 := Nat.le_trans Z0 ENM.1
 replace O1 := O1.ext ENM
 replace E1 := E1.ext ENM
 replace F0 := F0.ext ENM
 replace F1 := F1.ext ENM
 replace F2 := F2.ext ENM
 replace F3 := F3.ext ENM
 replace F4 := F4.ext ENM
 replace F5 := F5.ext ENM
 replace F6 := F6.ext ENM
 replace F7 := F7.ext ENM
 replace F8 := F8.ext ENM
 replace AJC := AJC.ext ENM
 replace gK6 := gK6.ext ENM
 replace gK7 := gK7.ext ENM
 replace gK8 := gK8.ext ENM
 replace FKY := FKY.ext ENM
 replace FLO := FLO.ext ENM
 replace FMF := FMF.ext ENM
 replace FN7 := FN7.ext ENM
 replace K0 := K0.ext ENM
 have UnP1 : Unt hNJ aNQ := UnNS
 have kP2 : own_G p e below E0 TNI (mkF m 51 #[vr a] [(.ref aNQ), (.ref a)]) := fun tQ kk => kNH tQ (stNP _ kk)
 clear kNH stNP
 have kP3 : own_G p e below E0 TNI (mkF m 52 #[vr a] [(.ref aNQ), (.ref aNQ), (.ref a)]) := by
  intro tQ kk
  refine kP2 tQ ?_
  refine XS.dup XNK.here hx rfl (hH p49_1_51) rfl rfl ?_
  exact kk
 clear kP2
 obtain ⟨_, _, ⟨TP4, LP5, kcP6, ncP7⟩, -, XP8, ⟨LcP9, hQPA, lPB, yPC, zPD⟩, stPE⟩ := XNK.specialBack hx (y := mn11) rfl hown (mvT hZ (tw49 hw)) (mvT hZ (tw50 hw)) (mvT hZ (tw51 hw)) (by decide) (backOf (W := 2) (rmBf l Z a0 hw [] aNQ hNJ n0 Z0 ANN UnP1 geP0) hZ (tw51 hw) (tw48 hw) (by decide) (by decide)) (g := (mkF m 52 #[vr a] [(.ref aNQ), (.ref aNQ), (.ref a)])) rfl (by rw [hml]; rfl) (Steps.refl _) (a := aNQ) (argsL := []) (rest := [(.ref aNQ), (.ref a)]) (lenOf pd_8 rfl) rfl (by show 2 * 0 + _ ≤ _; exact Nat.le_of_eq rfl) (hH p49_1_52) (fun _ _ => ⟨rfl, eNL, (by decide : 6 + 47 ≤ _), (by decide : 84 + 476 ≤ _)⟩)
 dsimp only [Pt.U, Pt.locs, Pt.cells, Pt.slots] at XP8 lPB yPC zPD stPE hQPA
 subst yPC zPD
 obtain ⟨rfl, NPF, KPI, gPJ⟩ := hQPA
 have NPK : Fr n0 LP5 := by rw [lPB]; exact Fr.app NNF NPF
 clear lPB NPF
 replace Z0 := Nat.le_trans Z0 KPI.1
 replace O1 := O1.keep KPI (allS geP0 all0)
 replace E1 := E1.keep KPI
 replace F0 := F0.keep KPI (ninS nNT nin0)
 replace F1 := F1.keep KPI (ninS nNT nin0)
 replace F2 := F2.keep KPI (ninS nNT nin0)
 replace F3 := F3.keep KPI (ninS nNT nin0)
 replace F4 := F4.keep KPI (ninS nNT nin0)
 replace F5 := F5.keep KPI (ninS nNT nin0)
 replace F6 := F6.keep KPI (ninS nNT nin0)
 replace F7 := F7.keep KPI (ninS nNT nin0)
 replace F8 := F8.keep KPI (ninS nNT nin0)
 replace AJC := AJC.keep KPI
 replace gK6 := gK6.keep KPI (ninS nNU nin0)
 replace gK7 := gK7.keep KPI (ninS nNU nin0)
 replace gK8 := gK8.keep KPI (ninS nNU nin0)
 replace FKY := FKY.keep KPI (ninS nNV nin0)
 replace FLO := FLO.keep KPI (ninS nNW nin0)
 replace FMF := FMF.keep KPI (ninS nNX nin0)
 replace FN7 := FN7.keep KPI (ninS nNY nin0)
 replace ANN := ANN.keep KPI
 clear UnP1
 replace K0 := K0.trans KPI (allS (Or.inr nwNZ) all0)
 have kPL : own_G p e below E0 TP4 (mkF m 55 #[vr a] [(.ref aNQ), (.ref a)]) := fun tQ kk => kP3 tQ (stPE.trans kk)
 clear kP3 stPE
 obtain ⟨TPM, hPN, XPO, ePP, WPQ, stPR⟩ := putF XP8 hx hZ hown (host := "") (Or.inl (tw161 hw)) Via.refl rfl F5 E1 (Or.inr ⟨(tw162 hw), rfl, hnm⟩) (tw2 hw) (ty := (.object "com/example/netloom/netloom/embed/BasisFactor")) (by decide) rfl rfl (g := (mkF m 55 #[vr a] [(.ref aNQ), (.ref a)])) rfl rfl (hH p49_1_55)
 have NPS := Fr.snoc XPO NPK ge_a
 have kPT : own_G p e below E0 TPM (mkF m 58 #[vr a] []) := fun tQ kk => kPL tQ (stPR _ kk)
 clear kPL stPR
 replace O1 := O1.wr WPQ ge_a
 replace E1 := E1.wr WPQ
 replace F0 := F0.other WPQ (Or.inr (sn93 hw))
 replace F1 := F1.other WPQ (Or.inr (sn94 hw))
 replace F2 := F2.other WPQ (Or.inr (sn95 hw))
 replace F3 := F3.other WPQ (Or.inr (sn96 hw))
 replace F4 := F4.other WPQ (Or.inr (sn97 hw))
 replace F5 := F5.same WPQ
 replace F6 := F6.other WPQ (Or.inr (sn98 hw))
 replace F7 := F7.other WPQ (Or.inr (sn99 hw))
 replace F8 := F8.other WPQ (Or.inr (sn100 hw))
 replace AJC := AJC.wr WPQ
 replace gK6 := gK6.other WPQ (Or.inl (Ne.symm nJI))
 replace gK7 := gK7.other WPQ (Or.inl (Ne.symm nJI))
 replace gK8 := gK8.other WPQ (Or.inl (Ne.symm nJI))
 replace FKY := FKY.other WPQ (Ne.symm nKU)
 replace FLO := FLO.other WPQ (Ne.symm nLJ)
 replace FMF := FMF.other WPQ (Ne.symm nM9)
 replace FN7 := FN7.other WPQ (Ne.symm nN0)
 replace ANN := ANN.wr WPQ
 replace gPJ := gPJ.other WPQ (Or.inl (Ne.symm nNT))
 replace Z0 := own_wrle WPQ Z0
 replace K0 := K0.wr WPQ (Or.inl (List.mem_of_getElem? (i := 0) rfl))
 have kPU : own_G p e below E0 TPM (mkF m 61 #[vr a] [(.int (16 : Int32)), (.ref a)]) := by
  intro tQ kk
  refine kPT tQ ?_
  refine XS.aloadN XPO.here hx rfl (hH p49_1_58) rfl rfl ?_
  refine XS.bipush XPO.here hx rfl (hH p49_1_59) ?_
  exact kk
 clear kPT
 obtain ⟨TPV, hPW, cAPX, XPY, ePZ, EQ0, AQ1, stQ2⟩ := newP (aty := .double) XPO hx hZ (tw36 hw) ePP (g := (mkF m 61 #[vr a] [(.int (16 : Int32)), (.ref a)])) rfl (hH p49_1_61) rfl (by decide) (cap := 16) (by decide) (by decide) (by decide) (by decide)
 obtain ⟨aQ3, gQ4⟩ : ∃ zA : Nat, zA = hPN.size := ⟨_, rfl⟩
 rw [← gQ4] at AQ1 stQ2
 have nQ5 := own_lt_ne E1.lt gQ4
 have nQ6 := own_lt_ne AJC.lt gQ4
 have nQ7 := own_lt_ne FKY.lt gQ4
 have nQ8 := own_lt_ne FLO.lt gQ4
 have nQ9 := own_lt_ne FMF.lt gQ4
 have nQA := own_lt_ne FN7.lt gQ4
 have nQB := own_lt_ne ANN.lt gQ4
 have nwQC : h0.size ≤ aQ3 := own_ge_of K0.1 gQ4
 have geQD : n0 ≤ aQ3 := own_ge_of Z0 gQ4
 replace Z0 := Nat.le_trans Z0 EQ0.1
 replace O1 := O1.ext EQ0
 replace E1 := E1.ext EQ0
 replace F0 := F0.ext EQ0
 replace F1 := F1.ext EQ0
 replace F2 := F2.ext EQ0
 replace F3 := F3.ext EQ0
 replace F4 := F4.ext EQ0
 replace F5 := F5.ext EQ0
 replace F6 := F6.ext EQ0
 replace F7 := F7.ext EQ0
 replace F8 := F8.ext EQ0
 replace AJC := AJC.ext EQ0
 replace gK6 := gK6.ext EQ0
 replace gK7 := gK7.ext EQ0
 replace gK8 := gK8.ext EQ0
 replace FKY := FKY.ext EQ0
 replace FLO := FLO.ext EQ0
 replace FMF := FMF.ext EQ0
 replace FN7 := FN7.ext EQ0
 replace ANN := ANN.ext EQ0
 replace gPJ := gPJ.ext EQ0
 replace K0 := K0.ext EQ0
 have FQE : own_A Z hPW aQ3 .double own_d16 := own_A.new AQ1
 have kQF : own_G p e below E0 TPV (mkF m 63 #[vr a] [(.ref aQ3), (.ref a)]) := fun tQ kk => kPU tQ (stQ2 _ kk)
 clear kPU stQ2
 obtain ⟨TQG, hQH, XQI, eQJ, WQK, stQL⟩ := putF XPY hx hZ hown (host := "") (Or.inl (tw163 hw)) Via.refl ePZ F6 E1 (Or.inl (tw164 hw)) (tw2 hw) (ty := (.array .double)) (by decide) rfl rfl (g := (mkF m 63 #[vr a] [(.ref aQ3), (.ref a)])) rfl rfl (hH p49_1_63)
 have NQM := Fr.snoc XQI NPS ge_a
 have kQN : own_G p e below E0 TQG (mkF m 66 #[vr a] []) := fun tQ kk => kQF tQ (stQL _ kk)
 clear kQF stQL
 replace O1 := O1.wr WQK ge_a
 replace E1 := E1.wr WQK
 replace F0 := F0.other WQK (Or.inr (sn101 hw))
 replace F1 := F1.other WQK (Or.inr (sn102 hw))
 replace F2 := F2.other WQK (Or.inr (sn103 hw))
 replace F3 := F3.other WQK (Or.inr (sn104 hw))
 replace F4 := F4.other WQK (Or.inr (sn105 hw))
 replace F5 := F5.other WQK (Or.inr (sn106 hw))
 replace F6 := F6.same WQK
 replace F7 := F7.other WQK (Or.inr (sn107 hw))
 replace F8 := F8.other WQK (Or.inr (sn108 hw))
 replace AJC := AJC.wr WQK
 replace gK6 := gK6.other WQK (Or.inl (Ne.symm nJI))
 replace gK7 := gK7.other WQK (Or.inl (Ne.symm nJI))
 replace gK8 := gK8.other WQK (Or.inl (Ne.symm nJI))
 replace FKY := FKY.other WQK (Ne.symm nKU)
 replace FLO := FLO.other WQK (Ne.symm nLJ)
 replace FMF := FMF.other WQK (Ne.symm nM9)
 replace FN7 := FN7.other WQK (Ne.symm nN0)
 replace ANN := ANN.wr WQK
 replace gPJ := gPJ.other WQK (Or.inl (Ne.symm nNT))
 replace FQE := FQE.other WQK (Ne.symm nQ5)
 replace Z0 := own_wrle WQK Z0
 replace K0 := K0.wr WQK (Or.inl (List.mem_of_getElem? (i := 0) rfl))
 have kQO : own_G p e below E0 TQG (mkF m 68 #[vr a] [(.int (0 : Int32)), (.ref a)]) := by
  intro tQ kk
  refine kQN tQ ?_
  refine XS.aloadN XQI.here hx rfl (hH p49_1_66) rfl rfl ?_
  refine XS.iconst XQI.here hx rfl (hH p49_1_67) ?_
  exact kk
 clear kQN
 obtain ⟨TQP, hQQ, cAQR, XQS, eQT, EQU, AQV, stQW⟩ := newP (aty := .double) XQI hx hZ (tw36 hw) eQJ (g := (mkF m 68 #[vr a] [(.int (0 : Int32)), (.ref a)])) rfl (hH p49_1_68) rfl (by decide) (cap := 0) (by decide) (by decide) (by decide) (by decide)
 obtain ⟨aQX, gQY⟩ : ∃ zA : Nat, zA = hQH.size := ⟨_, rfl⟩
 rw [← gQY] at AQV stQW
 have nQZ := own_lt_ne E1.lt gQY
 have nR0 := own_lt_ne AJC.lt gQY
 have nR1 := own_lt_ne FKY.lt gQY
 have nR2 := own_lt_ne FLO.lt gQY
 have nR3 := own_lt_ne FMF.lt gQY
 have nR4 := own_lt_ne FN7.lt gQY
 have nR5 := own_lt_ne ANN.lt gQY
 have nR6 := own_lt_ne FQE.lt gQY
 have nwR7 : h0.size ≤ aQX := own_ge_of K0.1 gQY
 have geR8 : n0 ≤ aQX := own_ge_of Z0 gQY
 replace Z0 := Nat.le_trans Z0 EQU.1
 replace O1 := O1.ext EQU
 replace E1 := E1.ext EQU
 replace F0 := F0.ext EQU
 replace F1 := F1.ext EQU
 replace F2 := F2.ext EQU
 replace F3 := F3.ext EQU
 replace F4 := F4.ext EQU
 replace F5 := F5.ext EQU
 replace F6 := F6.ext EQU
 replace F7 := F7.ext EQU
 replace F8 := F8.ext EQU
 replace AJC := AJC.ext EQU
 replace gK6 := gK6.ext EQU
 replace gK7 := gK7.ext EQU
 replace gK8 := gK8.ext EQU
 replace FKY := FKY.ext EQU
 replace FLO := FLO.ext EQU
 replace FMF := FMF.ext EQU
 replace FN7 := FN7.ext EQU
 replace ANN := ANN.ext EQU
 replace gPJ := gPJ.ext EQU
 replace FQE := FQE.ext EQU
 replace K0 := K0.ext EQU
 have kR9 : own_G p e below E0 TQP (mkF m 70 #[vr a] [(.ref aQX), (.ref a)]) := fun tQ kk => kQO tQ (stQW _ kk)
 clear kQO stQW
 obtain ⟨TRA, hRB, XRC, eRD, WRE, stRF⟩ := putF XQS hx hZ hown (host := "") (Or.inl (tw165 hw)) Via.refl eQT F7 E1 (Or.inl (tw166 hw)) (tw2 hw) (ty := (.array .double)) (by decide) rfl rfl (g := (mkF m 70 #[vr a] [(.ref aQX), (.ref a)])) rfl rfl (hH p49_1_70)
 have NRG := Fr.snoc XRC NQM ge_a
 have kRH : own_G p e below E0 TRA (mkF m 73 #[vr a] []) := fun tQ kk => kR9 tQ (stRF _ kk)
 clear kR9 stRF
 replace O1 := O1.wr WRE ge_a
 replace E1 := E1.wr WRE
 replace F0 := F0.other WRE (Or.inr (sn109 hw))
 replace F1 := F1.other WRE (Or.inr (sn110 hw))
 replace F2 := F2.other WRE (Or.inr (sn111 hw))
 replace F3 := F3.other WRE (Or.inr (sn112 hw))
 replace F4 := F4.other WRE (Or.inr (sn113 hw))
 replace F5 := F5.other WRE (Or.inr (sn114 hw))
 replace F6 := F6.other WRE (Or.inr (sn115 hw))
 replace F7 := F7.same WRE
 replace F8 := F8.other WRE (Or.inr (sn116 hw))
 replace AJC := AJC.wr WRE
 replace gK6 := gK6.other WRE (Or.inl (Ne.symm nJI))
 replace gK7 := gK7.other WRE (Or.inl (Ne.symm nJI))
 replace gK8 := gK8.other WRE (Or.inl (Ne.symm nJI))
 replace FKY := FKY.other WRE (Ne.symm nKU)
 replace FLO := FLO.other WRE (Ne.symm nLJ)
 replace FMF := FMF.other WRE (Ne.symm nM9)
 replace FN7 := FN7.other WRE (Ne.symm nN0)
 replace ANN := ANN.wr WRE
 replace gPJ := gPJ.other WRE (Or.inl (Ne.symm nNT))
 replace FQE := FQE.other WRE (Ne.symm nQ5)
 replace Z0 := own_wrle WRE Z0
 replace K0 := K0.wr WRE (Or.inl (List.mem_of_getElem? (i := 0) rfl))
 obtain ⟨fs, hr, hrun, hended, hW, hsame⟩ := XRC.leave (v := none) (fun _ => rfl)
 have hrun0 := kRH _ (XRC.returnOut hx Bd.returns (hH p49_1_73) hr)
 subst hE0
 refine ⟨_, _, hrun0, hrun, hended, _, _, rfl, ?_, ⟨_, rfl⟩, hW, hsame.mono (by decide) (by decide)⟩
 show QrmSx Z a dE h0 n0 _ TRA.heap _
 rw [eRD]
 exact ⟨aJF, aKS, aLH, aM7, aMY, aNQ, aQ3, rfl, NRG, K0, F0, F1, F2, F3, F4, F5, F6, F8, AJC, gK6, gK7, gK8, ANN, gPJ, FKY, FLO, FMF, FN7, FQE, nwJJ, nwKW, nwLM, nwMD, nwN5, nwNZ, nwQC, nKV, nLK, nMA, nN1, nNU, nQ6, nLL, nMB, nN2, nNV, nQ7, nMC, nN3, nNW, nQ8, nN4, nNX, nQ9, nNY, nQA, nQB⟩
def QrmMx (Z : State) (j : Int32) (k : Int32) (h0 : Heap) (n0 : Nat) (vQ : Option Value) (hQ : Heap) (LQ : List Loc) : Prop := vQ = some (.int j) ∧ Fr n0 LQ ∧ hQ = h0
theorem ef_rmMx (m : MethodId) (j : Int32) (k : Int32) : entryFrame m #[(.int j), (.int k)] 2 = mkF m 0 #[vi j, vi k] [] := by first | (simp [entryFrame, mkF, argsToLocals, Value.category]; done) | rfl
abbrev mn117 : MethodName := ⟨"java/lang/Math", "max", "(II)I"⟩
theorem j29_65_0 : decode jdk_29_method_65_code 0 = .ok (.iload_n 0, 1) := by decide +kernel
theorem j29_65_1 : decode jdk_29_method_65_code 1 = .ok (.iload_n 1, 1) := by decide +kernel
theorem j29_65_2 : decode jdk_29_method_65_code 2 = .ok (.if_icmp .lt 7, 3) := by decide +kernel
theorem j29_65_5 : decode jdk_29_method_65_code 5 = .ok (.iload_n 0, 1) := by decide +kernel
theorem j29_65_6 : decode jdk_29_method_65_code 6 = .ok (.goto 4, 3) := by decide +kernel
theorem j29_65_10 : decode jdk_29_method_65_code 10 = .ok (.ireturn, 1) := by decide +kernel
set_option maxRecDepth 65536 in
set_option maxHeartbeats 40000000 in
theorem rmMx (l : Launch) (Z : State) (a0 : Array Value) (hw : ∀ d ∈ tables_1, d.before a0 Z = true) (ws : List Jvm.Cond) (j : Int32) (k : Int32) (h0 : Heap) (n0 : Nat) (Z0 : n0 ≤ h0.size) (hjk : ¬ j < k) :
  MetFree l mn117 (head1 (Jvm.Cond.code mn117 jdk_29_method_65_code 2 (some .int) :: ws) ({ frames := 0, cells := 0, slots := 0, locals := 0 } : Room)) (fun aA U => aA = #[(.int j), (.int k)] ∧ Z.Warmed39 U.vm ∧ U.heap = h0) (fun _ _ _ _ _ => True) (fun _ U o U' => ∃ vR LR, o = .returned vR ∧ QrmMx Z j k h0 n0 vR U'.heap LR ∧ FrameEnd U o U' LR ({ frames := 0, cells := 0, slots := 0, locals := 0 } : Room).cells ({ frames := 0, cells := 0, slots := 0, locals := 0 } : Room).slots) := by
 refine MetFree.of_bodySF (Jvm.Free.JP.mathPlain rfl (by decide +kernel)) hisR ?_
 intro p e s m args below meth c s₁ Bd hml0 hPre hKk
 obtain ⟨rfl, hZ, hh⟩ := hPre
 have hx := Bd.exec
 have hby := Bd.bytes
 have hH : ∀ {pc r}, decode jdk_29_method_65_code pc = r → decode c.code pc = r := fun q => hb hby q
 have hml : c.maxLocals = 2 := hml0
 have hown : s.vm.findClass "java/lang/Math" = some m.cls := findClass_of_methodNamed Bd.named
 have hnm := (name_of_methodNamed Bd.named Bd.method).1
 have X0 : Stand p l e ({ frames := 0, cells := 0, slots := 0, locals := 0 } : Room) s m #[(.int j), (.int k)] below meth c s₁ [] 0 0 := Stand.of_body Bd
 have e0 : s₁.heap = h0 := by rw [← hh, Bd.state]; rfl
 have N0 := Fr.nil n0
 obtain ⟨E0, hE0⟩ : ∃ zE : State, zE = s₁.setTop (entryFrame m #[(.int j), (.int k)] 2) := ⟨_, rfl⟩
 have k0 : own_G p e below E0 s₁ (mkF m 0 #[vi j, vi k] []) := fun tz kz => hE0 ▸ castTop (ef_rmMx m j k) kz
 have kJ0 : own_G p e below E0 s₁ (mkF m 10 #[vi j, vi k] [(.int j)]) := by
  intro tQ kk
  refine k0 tQ ?_
  refine XS.iloadN X0.here hx rfl (hH j29_65_0) rfl ?_
  refine XS.iloadN X0.here hx rfl (hH j29_65_1) rfl ?_
  refine XS.icmpNo X0.here hx rfl (hH j29_65_2) rfl (own_ic_ltN hjk) ?_
  refine XS.iloadN X0.here hx rfl (hH j29_65_5) rfl ?_
  refine XS.goto X0.here hx rfl (pc0 := 6) (pc' := 10) rfl (hH j29_65_6) (by decide) (by decide) ?_
  exact kk
 clear k0
 obtain ⟨fs, hr, hrun, hended, hW, hsame⟩ := X0.leave (v := some (.int j)) (fun h => by rw [Bd.returns] at h; cases h)
 have hrun0 := kJ0 _ (retOut X0 hx Bd.returns (t := .int) rfl (Or.inl ⟨rfl, Or.inl rfl, _, rfl⟩) (hH j29_65_10) hr)
 subst hE0
 refine ⟨_, _, hrun0, hrun, hended, _, _, rfl, ?_, ⟨_, rfl⟩, hW, hsame.mono (by decide) (by decide)⟩
 show QrmMx Z j k h0 n0 _ s₁.heap _
 rw [e0]
 exact ⟨rfl, N0, rfl⟩
def QrmGd (Z : State) (b : Addr) (k : Int32) (cv : List Value) (h0 : Heap) (n0 : Nat) (vQ : Option Value) (hQ : Heap) (LQ : List Loc) : Prop := vQ = some (.ref b) ∧ Fr n0 LQ ∧ hQ = h0
theorem ef_rmGd (m : MethodId) (b : Addr) (k : Int32) (cv : List Value) : entryFrame m #[(.ref b), (.int k)] 2 = mkF m 0 #[vr b, vi k] [] := by first | (simp [entryFrame, mkF, argsToLocals, Value.category]; done) | rfl
abbrev mn118 : MethodName := ⟨"com/example/netloom/netloom/embed/GrowingArrays", "grown", "([DI)[D"⟩
theorem pn_com_example_netloom_netloom_embed_GrowingArrays : plainName "com/example/netloom/netloom/embed/GrowingArrays" = true := by first | (simp [plainName, overriddenIn]; done) | decide +kernel
theorem p37_3_0 : decode prog_37_method_3_code 0 = .ok (.iload_n 1, 1) := by decide +kernel
theorem p37_3_1 : decode prog_37_method_3_code 1 = .ok (.aload_n 0, 1) := by decide +kernel
theorem p37_3_2 : decode prog_37_method_3_code 2 = .ok (.arraylength, 1) := by decide +kernel
theorem p37_3_3 : decode prog_37_method_3_code 3 = .ok (.if_icmp .gt 7, 3) := by decide +kernel
theorem p37_3_6 : decode prog_37_method_3_code 6 = .ok (.aload_n 0, 1) := by decide +kernel
theorem p37_3_7 : decode prog_37_method_3_code 7 = .ok (.goto 15, 3) := by decide +kernel
theorem p37_3_22 : decode prog_37_method_3_code 22 = .ok (.areturn, 1) := by decide +kernel
set_option maxRecDepth 65536 in
set_option maxHeartbeats 40000000 in
theorem rmGd (l : Launch) (Z : State) (a0 : Array Value) (hw : ∀ d ∈ tables_1, d.before a0 Z = true) (ws : List Jvm.Cond) (b : Addr) (k : Int32) (cv : List Value) (h0 : Heap) (n0 : Nat) (Z0 : n0 ≤ h0.size) (A1 : own_A Z h0 b .double cv) (hk : ¬ (cv).length.toInt32 < k) :
  MetFree l mn118 (head1 (Jvm.Cond.code mn118 prog_37_method_3_code 2 (some (.array .double)) :: ws) ({ frames := 0, cells := 0, slots := 0, locals := 0 } : Room)) (fun aA U => aA = #[(.ref b), (.int k)] ∧ Z.Warmed39 U.vm ∧ U.heap = h0) (fun _ _ _ _ _ => True) (fun _ U o U' => ∃ vR LR, o = .returned vR ∧ QrmGd Z b k cv h0 n0 vR U'.heap LR ∧ FrameEnd U o U' LR ({ frames := 0, cells := 0, slots := 0, locals := 0 } : Room).cells ({ frames := 0, cells := 0, slots := 0, locals := 0 } : Room).slots) := by
 refine MetFree.of_bodySF (plainFor_of_name pn_com_example_netloom_netloom_embed_GrowingArrays) hisR ?_
 intro p e s m args below meth c s₁ Bd hml0 hPre hKk
 obtain ⟨rfl, hZ, hh⟩ := hPre
 have hx := Bd.exec
 have hby := Bd.bytes
 have hH : ∀ {pc r}, decode prog_37_method_3_code pc = r → decode c.code pc = r := fun q => hb hby q
 have hml : c.maxLocals = 2 := hml0
 have hown : s.vm.findClass "com/example/netloom/netloom/embed/GrowingArrays" = some m.cls := findClass_of_methodNamed Bd.named
 have hnm := (name_of_methodNamed Bd.named Bd.method).1
 have X0 : Stand p l e ({ frames := 0, cells := 0, slots := 0, locals := 0 } : Room) s m #[(.ref b), (.int k)] below meth c s₁ [] 0 0 := Stand.of_body Bd
 have e0 : s₁.heap = h0 := by rw [← hh, Bd.state]; rfl
 have N0 := Fr.nil n0
 obtain ⟨E0, hE0⟩ : ∃ zE : State, zE = s₁.setTop (entryFrame m #[(.ref b), (.int k)] 2) := ⟨_, rfl⟩
 have k0 : own_G p e below E0 s₁ (mkF m 0 #[vr b, vi k] []) := fun tz kz => hE0 ▸ castTop (ef_rmGd m b k cv) kz
 have kJ0 : own_G p e below E0 s₁ (mkF m 2 #[vr b, vi k] [(.ref b), (.int k)]) := by
  intro tQ kk
  refine k0 tQ ?_
  refine XS.iloadN X0.here hx rfl (hH p37_3_0) rfl ?_
  refine XS.aloadN X0.here hx rfl (hH p37_3_1) rfl rfl ?_
  exact kk
 clear k0
 have stJ1 := fun tQ => own_A.len X0 hx hZ e0 A1 (g := (mkF m 2 #[vr b, vi k] [(.ref b), (.int k)])) rfl rfl (hH p37_3_2) tQ
 have kJ2 : own_G p e below E0 s₁ (mkF m 3 #[vr b, vi k] [(.int (cv).length.toInt32), (.int k)]) := fun tQ kk => kJ0 tQ (stJ1 _ kk)
 clear kJ0 stJ1
 have kJ3 : own_G p e below E0 s₁ (mkF m 22 #[vr b, vi k] [(.ref b)]) := by
  intro tQ kk
  refine kJ2 tQ ?_
  refine XS.icmpNo X0.here hx rfl (hH p37_3_3) rfl (own_ic_gtN hk) ?_
  refine XS.aloadN X0.here hx rfl (hH p37_3_6) rfl rfl ?_
  refine XS.goto X0.here hx rfl (pc0 := 7) (pc' := 22) rfl (hH p37_3_7) (by decide) (by decide) ?_
  exact kk
 clear kJ2
 obtain ⟨fs, hr, hrun, hended, hW, hsame⟩ := X0.leave (v := some (.ref b)) (fun h => by rw [Bd.returns] at h; cases h)
 have hrun0 := kJ3 _ (retOut X0 hx Bd.returns (t := (.array .double)) rfl (Or.inr (Or.inr (Or.inr (Or.inr ⟨rfl, rfl, rfl⟩)))) (hH p37_3_22) hr)
 subst hE0
 refine ⟨_, _, hrun0, hrun, hended, _, _, rfl, ?_, ⟨_, rfl⟩, hW, hsame.mono (by decide) (by decide)⟩
 show QrmGd Z b k cv h0 n0 _ s₁.heap _
 rw [e0]
 exact ⟨rfl, N0, rfl⟩
def QrmGi (Z : State) (b : Addr) (k : Int32) (cv : List Value) (h0 : Heap) (n0 : Nat) (vQ : Option Value) (hQ : Heap) (LQ : List Loc) : Prop := vQ = some (.ref b) ∧ Fr n0 LQ ∧ hQ = h0
theorem ef_rmGi (m : MethodId) (b : Addr) (k : Int32) (cv : List Value) : entryFrame m #[(.ref b), (.int k)] 2 = mkF m 0 #[vr b, vi k] [] := by first | (simp [entryFrame, mkF, argsToLocals, Value.category]; done) | rfl
abbrev mn119 : MethodName := ⟨"com/example/netloom/netloom/embed/GrowingArrays", "grown", "([II)[I"⟩
theorem p37_2_0 : decode prog_37_method_2_code 0 = .ok (.iload_n 1, 1) := by decide +kernel
theorem p37_2_1 : decode prog_37_method_2_code 1 = .ok (.aload_n 0, 1) := by decide +kernel
theorem p37_2_2 : decode prog_37_method_2_code 2 = .ok (.arraylength, 1) := by decide +kernel
theorem p37_2_3 : decode prog_37_method_2_code 3 = .ok (.if_icmp .gt 7, 3) := by decide +kernel
theorem p37_2_6 : decode prog_37_method_2_code 6 = .ok (.aload_n 0, 1) := by decide +kernel
theorem p37_2_7 : decode prog_37_method_2_code 7 = .ok (.goto 15, 3) := by decide +kernel
theorem p37_2_22 : decode prog_37_method_2_code 22 = .ok (.areturn, 1) := by decide +kernel
set_option maxRecDepth 65536 in
set_option maxHeartbeats 40000000 in
theorem rmGi (l : Launch) (Z : State) (a0 : Array Value) (hw : ∀ d ∈ tables_1, d.before a0 Z = true) (ws : List Jvm.Cond) (b : Addr) (k : Int32) (cv : List Value) (h0 : Heap) (n0 : Nat) (Z0 : n0 ≤ h0.size) (A1 : own_A Z h0 b .int cv) (hk : ¬ (cv).length.toInt32 < k) :
  MetFree l mn119 (head1 (Jvm.Cond.code mn119 prog_37_method_2_code 2 (some (.array .int)) :: ws) ({ frames := 0, cells := 0, slots := 0, locals := 0 } : Room)) (fun aA U => aA = #[(.ref b), (.int k)] ∧ Z.Warmed39 U.vm ∧ U.heap = h0) (fun _ _ _ _ _ => True) (fun _ U o U' => ∃ vR LR, o = .returned vR ∧ QrmGi Z b k cv h0 n0 vR U'.heap LR ∧ FrameEnd U o U' LR ({ frames := 0, cells := 0, slots := 0, locals := 0 } : Room).cells ({ frames := 0, cells := 0, slots := 0, locals := 0 } : Room).slots) := by
 refine MetFree.of_bodySF (plainFor_of_name pn_com_example_netloom_netloom_embed_GrowingArrays) hisR ?_
 intro p e s m args below meth c s₁ Bd hml0 hPre hKk
 obtain ⟨rfl, hZ, hh⟩ := hPre
 have hx := Bd.exec
 have hby := Bd.bytes
 have hH : ∀ {pc r}, decode prog_37_method_2_code pc = r → decode c.code pc = r := fun q => hb hby q
 have hml : c.maxLocals = 2 := hml0
 have hown : s.vm.findClass "com/example/netloom/netloom/embed/GrowingArrays" = some m.cls := findClass_of_methodNamed Bd.named
 have hnm := (name_of_methodNamed Bd.named Bd.method).1
 have X0 : Stand p l e ({ frames := 0, cells := 0, slots := 0, locals := 0 } : Room) s m #[(.ref b), (.int k)] below meth c s₁ [] 0 0 := Stand.of_body Bd
 have e0 : s₁.heap = h0 := by rw [← hh, Bd.state]; rfl
 have N0 := Fr.nil n0
 obtain ⟨E0, hE0⟩ : ∃ zE : State, zE = s₁.setTop (entryFrame m #[(.ref b), (.int k)] 2) := ⟨_, rfl⟩
 have k0 : own_G p e below E0 s₁ (mkF m 0 #[vr b, vi k] []) := fun tz kz => hE0 ▸ castTop (ef_rmGi m b k cv) kz
 have kJ0 : own_G p e below E0 s₁ (mkF m 2 #[vr b, vi k] [(.ref b), (.int k)]) := by
  intro tQ kk
  refine k0 tQ ?_
  refine XS.iloadN X0.here hx rfl (hH p37_2_0) rfl ?_
  refine XS.aloadN X0.here hx rfl (hH p37_2_1) rfl rfl ?_
  exact kk
 clear k0
 have stJ1 := fun tQ => own_A.len X0 hx hZ e0 A1 (g := (mkF m 2 #[vr b, vi k] [(.ref b), (.int k)])) rfl rfl (hH p37_2_2) tQ
 have kJ2 : own_G p e below E0 s₁ (mkF m 3 #[vr b, vi k] [(.int (cv).length.toInt32), (.int k)]) := fun tQ kk => kJ0 tQ (stJ1 _ kk)
 clear kJ0 stJ1
 have kJ3 : own_G p e below E0 s₁ (mkF m 22 #[vr b, vi k] [(.ref b)]) := by
  intro tQ kk
  refine kJ2 tQ ?_
  refine XS.icmpNo X0.here hx rfl (hH p37_2_3) rfl (own_ic_gtN hk) ?_
  refine XS.aloadN X0.here hx rfl (hH p37_2_6) rfl rfl ?_
  refine XS.goto X0.here hx rfl (pc0 := 7) (pc' := 22) rfl (hH p37_2_7) (by decide) (by decide) ?_
  exact kk
 clear kJ2
 obtain ⟨fs, hr, hrun, hended, hW, hsame⟩ := X0.leave (v := some (.ref b)) (fun h => by rw [Bd.returns] at h; cases h)
 have hrun0 := kJ3 _ (retOut X0 hx Bd.returns (t := (.array .int)) rfl (Or.inr (Or.inr (Or.inr (Or.inr ⟨rfl, rfl, rfl⟩)))) (hH p37_2_22) hr)
 subst hE0
 refine ⟨_, _, hrun0, hrun, hended, _, _, rfl, ?_, ⟨_, rfl⟩, hW, hsame.mono (by decide) (by decide)⟩
 show QrmGi Z b k cv h0 n0 _ s₁.heap _
 rw [e0]
 exact ⟨rfl, N0, rfl⟩
abbrev fd120 (Z : State) (h : Heap) (a : Addr) (v : Value) : Prop := Fld Z h a "com/example/netloom/netloom/embed/SparseColumn" "rows" "[I" v
abbrev fd121 (Z : State) (h : Heap) (a : Addr) (v : Value) : Prop := Fld Z h a "com/example/netloom/netloom/embed/SparseColumn" "values" "[D" v
abbrev fd122 (Z : State) (h : Heap) (a : Addr) (v : Value) : Prop := Fld Z h a "com/example/netloom/netloom/embed/SparseColumn" "size" "I" v
def QrmSc (Z : State) (a : Addr) (h0 : Heap) (n0 : Nat) (vQ : Option Value) (hQ : Heap) (LQ : List Loc) : Prop := ∃ (r1 : Addr), ∃ (r2 : Addr), vQ = none ∧ Fr n0 LQ ∧ Keep h0 hQ [a] ∧ (fd120 Z hQ a (.ref r1)) ∧ (fd121 Z hQ a (.ref r2)) ∧ (fd122 Z hQ a (.int (0 : Int32))) ∧ (own_A Z hQ r1 .int own_i4) ∧ (own_A Z hQ r2 .double own_d4) ∧ (h0.size ≤ r1) ∧ (h0.size ≤ r2) ∧ (r1 ≠ r2)
theorem ef_rmSc (m : MethodId) (a : Addr) : entryFrame m #[(.ref a)] 1 = mkF m 0 #[vr a] [] := by first | (simp [entryFrame, mkF, argsToLocals, Value.category]; done) | rfl
abbrev xa123 (Z : State) (h : Heap) (a : Addr) : Prop := Exa Z h a "com/example/netloom/netloom/embed/SparseColumn"
abbrev mn124 : MethodName := ⟨"com/example/netloom/netloom/embed/SparseColumn", "<init>", "()V"⟩
theorem pn_com_example_netloom_netloom_embed_SparseColumn : plainName "com/example/netloom/netloom/embed/SparseColumn" = true := by first | (simp [plainName, overriddenIn]; done) | decide +kernel
theorem p51_1_0 : decode prog_51_method_1_code 0 = .ok (.aload_n 0, 1) := by decide +kernel
theorem p51_1_1 : decode prog_51_method_1_code 1 = .ok (.invokespecial 1, 3) := by decide +kernel
def tw189 {Z a0} (hw : HW Z a0) := hw _ (List.mem_of_getElem? (i := 189) rfl)
theorem p51_1_4 : decode prog_51_method_1_code 4 = .ok (.aload_n 0, 1) := by decide +kernel
theorem p51_1_5 : decode prog_51_method_1_code 5 = .ok (.iconst 4, 1) := by decide +kernel
theorem p51_1_6 : decode prog_51_method_1_code 6 = .ok (.newarray .int, 2) := by decide +kernel
theorem p51_1_8 : decode prog_51_method_1_code 8 = .ok (.putfield 7, 3) := by decide +kernel
def tw190 {Z a0} (hw : HW Z a0) := hw _ (List.mem_of_getElem? (i := 190) rfl)
def tw184 {Z a0} (hw : HW Z a0) := hw _ (List.mem_of_getElem? (i := 184) rfl)
def tw191 {Z a0} (hw : HW Z a0) := hw _ (List.mem_of_getElem? (i := 191) rfl)
def tw193 {Z a0} (hw : HW Z a0) := hw _ (List.mem_of_getElem? (i := 193) rfl)
abbrev cn126 : String := "com/example/netloom/netloom/embed/SparseColumn"
theorem sn125 {Z a0} (hw : HW Z a0) : RoadKit.slotOf Z cn126 "values" "[D" ≠ RoadKit.slotOf Z cn126 "rows" "[I" := (slot_ne (C := cn126) (Or.inl (tw193 hw)) (Or.inl (tw191 hw)) (by decide) (t := (.array .double)) (t' := (.array .int)) (by decide) (by decide))
def tw268 {Z a0} (hw : HW Z a0) := hw _ (List.mem_of_getElem? (i := 268) rfl)
theorem sn127 {Z a0} (hw : HW Z a0) : RoadKit.slotOf Z cn126 "size" "I" ≠ RoadKit.slotOf Z cn126 "rows" "[I" := (slot_ne (C := cn126) (Or.inl (tw268 hw)) (Or.inl (tw191 hw)) (by decide) (t := .int) (t' := (.array .int)) (by decide) (by decide))
theorem p51_1_11 : decode prog_51_method_1_code 11 = .ok (.aload_n 0, 1) := by decide +kernel
theorem p51_1_12 : decode prog_51_method_1_code 12 = .ok (.iconst 4, 1) := by decide +kernel
theorem p51_1_13 : decode prog_51_method_1_code 13 = .ok (.newarray .double, 2) := by decide +kernel
theorem p51_1_15 : decode prog_51_method_1_code 15 = .ok (.putfield 13, 3) := by decide +kernel
def tw192 {Z a0} (hw : HW Z a0) := hw _ (List.mem_of_getElem? (i := 192) rfl)
theorem sn128 {Z a0} (hw : HW Z a0) : RoadKit.slotOf Z cn126 "rows" "[I" ≠ RoadKit.slotOf Z cn126 "values" "[D" := (slot_ne (C := cn126) (Or.inl (tw191 hw)) (Or.inl (tw193 hw)) (by decide) (t := (.array .int)) (t' := (.array .double)) (by decide) (by decide))
theorem sn129 {Z a0} (hw : HW Z a0) : RoadKit.slotOf Z cn126 "size" "I" ≠ RoadKit.slotOf Z cn126 "values" "[D" := (slot_ne (C := cn126) (Or.inl (tw268 hw)) (Or.inl (tw193 hw)) (by decide) (t := .int) (t' := (.array .double)) (by decide) (by decide))
theorem p51_1_18 : decode prog_51_method_1_code 18 = .ok (.return_, 1) := by decide +kernel
set_option maxRecDepth 65536 in
set_option maxHeartbeats 40000000 in
theorem rmSc (l : Launch) (Z : State) (a0 : Array Value) (hw : ∀ d ∈ tables_1, d.before a0 Z = true) (ws : List Jvm.Cond) (a : Addr) (h0 : Heap) (n0 : Nat) (Z0 : n0 ≤ h0.size) (E1 : xa123 Z h0 a) (F0 : fd120 Z h0 a .null) (F1 : fd121 Z h0 a .null) (F2 : fd122 Z h0 a (.int (0 : Int32))) (ge_a : n0 ≤ a) :
  MetFree l mn124 (head1 (Jvm.Cond.code mn124 prog_51_method_1_code 1 none :: ws) ({ frames := 1, cells := 2, slots := 8, locals := 12 } : Room)) (fun aA U => aA = #[(.ref a)] ∧ Z.Warmed39 U.vm ∧ U.heap = h0) (fun _ _ _ _ _ => True) (fun _ U o U' => ∃ vR LR, o = .returned vR ∧ QrmSc Z a h0 n0 vR U'.heap LR ∧ FrameEnd U o U' LR ({ frames := 1, cells := 2, slots := 8, locals := 12 } : Room).cells ({ frames := 1, cells := 2, slots := 8, locals := 12 } : Room).slots) := by
 refine MetFree.of_bodySF (plainFor_of_name pn_com_example_netloom_netloom_embed_SparseColumn) hisR ?_
 intro p e s m args below meth c s₁ Bd hml0 hPre hKk
 obtain ⟨rfl, hZ, hh⟩ := hPre
 have hx := Bd.exec
 have hby := Bd.bytes
 have hH : ∀ {pc r}, decode prog_51_method_1_code pc = r → decode c.code pc = r := fun q => hb hby q
 have hml : c.maxLocals = 1 := hml0
 have hown : s.vm.findClass "com/example/netloom/netloom/embed/SparseColumn" = some m.cls := findClass_of_methodNamed Bd.named
 have hnm := (name_of_methodNamed Bd.named Bd.method).1
 have X0 : Stand p l e ({ frames := 1, cells := 2, slots := 8, locals := 12 } : Room) s m #[(.ref a)] below meth c s₁ [] 0 0 := Stand.of_body Bd
 have e0 : s₁.heap = h0 := by rw [← hh, Bd.state]; rfl
 have N0 := Fr.nil n0
 obtain ⟨E0, hE0⟩ : ∃ zE : State, zE = s₁.setTop (entryFrame m #[(.ref a)] 1) := ⟨_, rfl⟩
 have k0 : own_G p e below E0 s₁ (mkF m 0 #[vr a] []) := fun tz kz => hE0 ▸ castTop (ef_rmSc m a) kz
 have K0 : Keep h0 h0 [a] := Keep.refl _ _
 have kJ0 : own_G p e below E0 s₁ (mkF m 1 #[vr a] [(.ref a)]) := by
  intro tQ kk
  refine k0 tQ ?_
  refine XS.aloadN X0.here hx rfl (hH p51_1_0) rfl rfl ?_
  exact kk
 clear k0
 obtain ⟨TJ1, XJ2, eJ3, stJ4⟩ := initO X0 hx hZ hown (tw189 hw) (tw8 hw) (tw9 hw) e0 (g := (mkF m 1 #[vr a] [(.ref a)])) rfl (by rw [hml]; rfl) rfl (hH p51_1_1) (by decide) (W := 0) (by show 2 * 0 + _ ≤ _; exact Nat.le_of_eq rfl) (by decide)
 have kJ5 : own_G p e below E0 TJ1 (mkF m 4 #[vr a] []) := fun tQ kk => kJ0 tQ (stJ4 _ kk)
 clear kJ0 stJ4
 have kJ6 : own_G p e below E0 TJ1 (mkF m 6 #[vr a] [(.int (4 : Int32)), (.ref a)]) := by
  intro tQ kk
  refine kJ5 tQ ?_
  refine XS.aloadN XJ2.here hx rfl (hH p51_1_4) rfl rfl ?_
  refine XS.iconst XJ2.here hx rfl (hH p51_1_5) ?_
  exact kk
 clear kJ5
 obtain ⟨TJ7, hJ8, cAJ9, XJA, eJB, EJC, AJD, stJE⟩ := newP (aty := .int) XJ2 hx hZ (tw41 hw) eJ3 (g := (mkF m 6 #[vr a] [(.int (4 : Int32)), (.ref a)])) rfl (hH p51_1_6) rfl (by decide) (cap := 4) (by decide) (by decide) (by decide) (by decide)
 obtain ⟨aJF, gJG⟩ : ∃ zA : Nat, zA = h0.size := ⟨_, rfl⟩
 rw [← gJG] at AJD stJE
 have nJH := own_lt_ne E1.lt gJG
 have nwJI : h0.size ≤ aJF := own_ge_of K0.1 gJG
 have geJJ : n0 ≤ aJF := own_ge_of Z0 gJG
 replace Z0 := Nat.le_trans Z0 EJC.1
 replace E1 := E1.ext EJC
 replace F0 := F0.ext EJC
 replace F1 := F1.ext EJC
 replace F2 := F2.ext EJC
 replace K0 := K0.ext EJC
 have FJK : own_A Z hJ8 aJF .int own_i4 := own_A.new AJD
 have kJL : own_G p e below E0 TJ7 (mkF m 8 #[vr a] [(.ref aJF), (.ref a)]) := fun tQ kk => kJ6 tQ (stJE _ kk)
 clear kJ6 stJE
 obtain ⟨TJM, hJN, XJO, eJP, WJQ, stJR⟩ := putF XJA hx hZ hown (host := "") (Or.inl (tw190 hw)) Via.refl eJB F0 E1 (Or.inl (tw191 hw)) (tw184 hw) (ty := (.array .int)) (by decide) rfl rfl (g := (mkF m 8 #[vr a] [(.ref aJF), (.ref a)])) rfl rfl (hH p51_1_8)
 have NJS := Fr.snoc XJO N0 ge_a
 have kJT : own_G p e below E0 TJM (mkF m 11 #[vr a] []) := fun tQ kk => kJL tQ (stJR _ kk)
 clear kJL stJR
 replace E1 := E1.wr WJQ
 replace F0 := F0.same WJQ
 replace F1 := F1.other WJQ (Or.inr (sn125 hw))
 replace F2 := F2.other WJQ (Or.inr (sn127 hw))
 replace FJK := FJK.other WJQ (Ne.symm nJH)
 replace Z0 := own_wrle WJQ Z0
 replace K0 := K0.wr WJQ (Or.inl (List.mem_of_getElem? (i := 0) rfl))
 have kJU : own_G p e below E0 TJM (mkF m 13 #[vr a] [(.int (4 : Int32)), (.ref a)]) := by
  intro tQ kk
  refine kJT tQ ?_
  refine XS.aloadN XJO.here hx rfl (hH p51_1_11) rfl rfl ?_
  refine XS.iconst XJO.here hx rfl (hH p51_1_12) ?_
  exact kk
 clear kJT
 obtain ⟨TJV, hJW, cAJX, XJY, eJZ, EK0, AK1, stK2⟩ := newP (aty := .double) XJO hx hZ (tw36 hw) eJP (g := (mkF m 13 #[vr a] [(.int (4 : Int32)), (.ref a)])) rfl (hH p51_1_13) rfl (by decide) (cap := 4) (by decide) (by decide) (by decide) (by decide)
 obtain ⟨aK3, gK4⟩ : ∃ zA : Nat, zA = hJN.size := ⟨_, rfl⟩
 rw [← gK4] at AK1 stK2
 have nK5 := own_lt_ne E1.lt gK4
 have nK6 := own_lt_ne FJK.lt gK4
 have nwK7 : h0.size ≤ aK3 := own_ge_of K0.1 gK4
 have geK8 : n0 ≤ aK3 := own_ge_of Z0 gK4
 replace Z0 := Nat.le_trans Z0 EK0.1
 replace E1 := E1.ext EK0
 replace F0 := F0.ext EK0
 replace F1 := F1.ext EK0
 replace F2 := F2.ext EK0
 replace FJK := FJK.ext EK0
 replace K0 := K0.ext EK0
 have FK9 : own_A Z hJW aK3 .double own_d4 := own_A.new AK1
 have kKA : own_G p e below E0 TJV (mkF m 15 #[vr a] [(.ref aK3), (.ref a)]) := fun tQ kk => kJU tQ (stK2 _ kk)
 clear kJU stK2
 obtain ⟨TKB, hKC, XKD, eKE, WKF, stKG⟩ := putF XJY hx hZ hown (host := "") (Or.inl (tw192 hw)) Via.refl eJZ F1 E1 (Or.inl (tw193 hw)) (tw184 hw) (ty := (.array .double)) (by decide) rfl rfl (g := (mkF m 15 #[vr a] [(.ref aK3), (.ref a)])) rfl rfl (hH p51_1_15)
 have NKH := Fr.snoc XKD NJS ge_a
 have kKI : own_G p e below E0 TKB (mkF m 18 #[vr a] []) := fun tQ kk => kKA tQ (stKG _ kk)
 clear kKA stKG
 replace E1 := E1.wr WKF
 replace F0 := F0.other WKF (Or.inr (sn128 hw))
 replace F1 := F1.same WKF
 replace F2 := F2.other WKF (Or.inr (sn129 hw))
 replace FJK := FJK.other WKF (Ne.symm nJH)
 replace FK9 := FK9.other WKF (Ne.symm nK5)
 replace Z0 := own_wrle WKF Z0
 replace K0 := K0.wr WKF (Or.inl (List.mem_of_getElem? (i := 0) rfl))
 obtain ⟨fs, hr, hrun, hended, hW, hsame⟩ := XKD.leave (v := none) (fun _ => rfl)
 have hrun0 := kKI _ (XKD.returnOut hx Bd.returns (hH p51_1_18) hr)
 subst hE0
 refine ⟨_, _, hrun0, hrun, hended, _, _, rfl, ?_, ⟨_, rfl⟩, hW, hsame.mono (by decide) (by decide)⟩
 show QrmSc Z a h0 n0 _ TKB.heap _
 rw [eKE]
 exact ⟨aJF, aK3, rfl, NKH, K0, F0, F1, F2, FJK, FK9, nwJI, nwK7, nK6⟩
def QrmSa (Z : State) (a : Addr) (r1 : Addr) (r2 : Addr) (n : Int32) (k : Int32) (x : UInt64) (rl : List Value) (vl : List Value) (h0 : Heap) (n0 : Nat) (vQ : Option Value) (hQ : Heap) (LQ : List Loc) : Prop := vQ = none ∧ Fr n0 LQ ∧ Keep h0 hQ [a, r1, r2] ∧ (fd120 Z hQ a (.ref r1)) ∧ (fd121 Z hQ a (.ref r2)) ∧ (fd122 Z hQ a (.int (n + (1 : Int32)))) ∧ (own_A Z hQ r1 .int (rl.set n.toNatClampNeg (.int k))) ∧ (own_A Z hQ r2 .double (vl.set n.toNatClampNeg (.double x)))
theorem ef_rmSa (m : MethodId) (a : Addr) (r1 : Addr) (r2 : Addr) (n : Int32) (k : Int32) (x : UInt64) (rl : List Value) (vl : List Value) : entryFrame m #[(.ref a), (.int k), (.double x)] 4 = mkF m 0 #[vr a, vi k, vd x, ss] [] := by first | (simp [entryFrame, mkF, argsToLocals, Value.category]; done) | rfl
abbrev mn130 : MethodName := ⟨"com/example/netloom/netloom/embed/SparseColumn", "add", "(ID)V"⟩
theorem p51_2_0 : decode prog_51_method_2_code 0 = .ok (.aload_n 0, 1) := by decide +kernel
theorem p51_2_1 : decode prog_51_method_2_code 1 = .ok (.getfield 17, 3) := by decide +kernel
def tw267 {Z a0} (hw : HW Z a0) := hw _ (List.mem_of_getElem? (i := 267) rfl)
theorem p51_2_4 : decode prog_51_method_2_code 4 = .ok (.aload_n 0, 1) := by decide +kernel
theorem p51_2_5 : decode prog_51_method_2_code 5 = .ok (.getfield 7, 3) := by decide +kernel
theorem p51_2_8 : decode prog_51_method_2_code 8 = .ok (.arraylength, 1) := by decide +kernel
theorem p51_2_9 : decode prog_51_method_2_code 9 = .ok (.if_icmp .ne 37, 3) := by decide +kernel
theorem p51_2_46 : decode prog_51_method_2_code 46 = .ok (.aload_n 0, 1) := by decide +kernel
theorem p51_2_47 : decode prog_51_method_2_code 47 = .ok (.getfield 7, 3) := by decide +kernel
theorem p51_2_50 : decode prog_51_method_2_code 50 = .ok (.aload_n 0, 1) := by decide +kernel
theorem p51_2_51 : decode prog_51_method_2_code 51 = .ok (.getfield 17, 3) := by decide +kernel
theorem p51_2_54 : decode prog_51_method_2_code 54 = .ok (.iload_n 1, 1) := by decide +kernel
theorem p51_2_55 : decode prog_51_method_2_code 55 = .ok (.iastore, 1) := by decide +kernel
theorem p51_2_56 : decode prog_51_method_2_code 56 = .ok (.aload_n 0, 1) := by decide +kernel
theorem p51_2_57 : decode prog_51_method_2_code 57 = .ok (.getfield 13, 3) := by decide +kernel
theorem p51_2_60 : decode prog_51_method_2_code 60 = .ok (.aload_n 0, 1) := by decide +kernel
theorem p51_2_61 : decode prog_51_method_2_code 61 = .ok (.getfield 17, 3) := by decide +kernel
theorem p51_2_64 : decode prog_51_method_2_code 64 = .ok (.dload_n 2, 1) := by decide +kernel
theorem p51_2_65 : decode prog_51_method_2_code 65 = .ok (.dastore, 1) := by decide +kernel
theorem p51_2_66 : decode prog_51_method_2_code 66 = .ok (.aload_n 0, 1) := by decide +kernel
theorem p51_2_67 : decode prog_51_method_2_code 67 = .ok (.dup, 1) := by decide +kernel
theorem p51_2_68 : decode prog_51_method_2_code 68 = .ok (.getfield 17, 3) := by decide +kernel
theorem p51_2_71 : decode prog_51_method_2_code 71 = .ok (.iconst 1, 1) := by decide +kernel
theorem p51_2_72 : decode prog_51_method_2_code 72 = .ok (.iadd, 1) := by decide +kernel
theorem p51_2_73 : decode prog_51_method_2_code 73 = .ok (.putfield 17, 3) := by decide +kernel
theorem sn131 {Z a0} (hw : HW Z a0) : RoadKit.slotOf Z cn126 "rows" "[I" ≠ RoadKit.slotOf Z cn126 "size" "I" := (slot_ne (C := cn126) (Or.inl (tw191 hw)) (Or.inl (tw268 hw)) (by decide) (t := (.array .int)) (t' := .int) (by decide) (by decide))
theorem sn132 {Z a0} (hw : HW Z a0) : RoadKit.slotOf Z cn126 "values" "[D" ≠ RoadKit.slotOf Z cn126 "size" "I" := (slot_ne (C := cn126) (Or.inl (tw193 hw)) (Or.inl (tw268 hw)) (by decide) (t := (.array .double)) (t' := .int) (by decide) (by decide))
theorem p51_2_76 : decode prog_51_method_2_code 76 = .ok (.return_, 1) := by decide +kernel
set_option maxRecDepth 65536 in
set_option maxHeartbeats 40000000 in
theorem rmSa (l : Launch) (Z : State) (a0 : Array Value) (hw : ∀ d ∈ tables_1, d.before a0 Z = true) (ws : List Jvm.Cond) (a : Addr) (r1 : Addr) (r2 : Addr) (n : Int32) (k : Int32) (x : UInt64) (rl : List Value) (vl : List Value) (h0 : Heap) (n0 : Nat) (Z0 : n0 ≤ h0.size) (E1 : xa123 Z h0 a) (F1 : fd120 Z h0 a (.ref r1)) (F2 : fd121 Z h0 a (.ref r2)) (F3 : fd122 Z h0 a (.int n)) (A1 : own_A Z h0 r1 .int rl) (A2 : own_A Z h0 r2 .double vl) (n1 : a ≠ r1) (n2 : a ≠ r2) (n3 : r1 ≠ r2) (ge_a : n0 ≤ a) (ge_r1 : n0 ≤ r1) (ge_r2 : n0 ≤ r2) (hn : ¬ n = (rl).length.toInt32) (hj0 : ¬ n < 0) (h1 : n.toNatClampNeg < rl.length) (h2 : n.toNatClampNeg < vl.length) :
  MetFree l mn130 (head1 (Jvm.Cond.code mn130 prog_51_method_2_code 4 none :: ws) ({ frames := 0, cells := 0, slots := 0, locals := 0 } : Room)) (fun aA U => aA = #[(.ref a), (.int k), (.double x)] ∧ Z.Warmed39 U.vm ∧ U.heap = h0) (fun _ _ _ _ _ => True) (fun _ U o U' => ∃ vR LR, o = .returned vR ∧ QrmSa Z a r1 r2 n k x rl vl h0 n0 vR U'.heap LR ∧ FrameEnd U o U' LR ({ frames := 0, cells := 0, slots := 0, locals := 0 } : Room).cells ({ frames := 0, cells := 0, slots := 0, locals := 0 } : Room).slots) := by
 refine MetFree.of_bodySF (plainFor_of_name pn_com_example_netloom_netloom_embed_SparseColumn) hisR ?_
 intro p e s m args below meth c s₁ Bd hml0 hPre hKk
 obtain ⟨rfl, hZ, hh⟩ := hPre
 have hx := Bd.exec
 have hby := Bd.bytes
 have hH : ∀ {pc r}, decode prog_51_method_2_code pc = r → decode c.code pc = r := fun q => hb hby q
 have hml : c.maxLocals = 4 := hml0
 have hown : s.vm.findClass "com/example/netloom/netloom/embed/SparseColumn" = some m.cls := findClass_of_methodNamed Bd.named
 have hnm := (name_of_methodNamed Bd.named Bd.method).1
 have X0 : Stand p l e ({ frames := 0, cells := 0, slots := 0, locals := 0 } : Room) s m #[(.ref a), (.int k), (.double x)] below meth c s₁ [] 0 0 := Stand.of_body Bd
 have e0 : s₁.heap = h0 := by rw [← hh, Bd.state]; rfl
 have N0 := Fr.nil n0
 obtain ⟨E0, hE0⟩ : ∃ zE : State, zE = s₁.setTop (entryFrame m #[(.ref a), (.int k), (.double x)] 4) := ⟨_, rfl⟩
 have k0 : own_G p e below E0 s₁ (mkF m 0 #[vr a, vi k, vd x, ss] []) := fun tz kz => hE0 ▸ castTop (ef_rmSa m a r1 r2 n k x rl vl) kz
 have K0 : Keep h0 h0 [a, r1, r2] := Keep.refl _ _
 have kJ0 : own_G p e below E0 s₁ (mkF m 1 #[vr a, vi k, vd x, ss] [(.ref a)]) := by
  intro tQ kk
  refine k0 tQ ?_
  refine XS.aloadN X0.here hx rfl (hH p51_2_0) rfl rfl ?_
  exact kk
 clear k0
 obtain ⟨TJ1, XJ2, eJ3, stJ4⟩ := getF X0 hx hZ hown (host := "") (Or.inl (tw267 hw)) Via.refl e0 F3 (g := (mkF m 1 #[vr a, vi k, vd x, ss] [(.ref a)])) rfl rfl (hH p51_2_1)
 have kJ5 : own_G p e below E0 TJ1 (mkF m 4 #[vr a, vi k, vd x, ss] [(.int n)]) := fun tQ kk => kJ0 tQ (stJ4 _ kk)
 clear kJ0 stJ4
 have kJ6 : own_G p e below E0 TJ1 (mkF m 5 #[vr a, vi k, vd x, ss] [(.ref a), (.int n)]) := by
  intro tQ kk
  refine kJ5 tQ ?_
  refine XS.aloadN XJ2.here hx rfl (hH p51_2_4) rfl rfl ?_
  exact kk
 clear kJ5
 obtain ⟨TJ7, XJ8, eJ9, stJA⟩ := getF XJ2 hx hZ hown (host := "") (Or.inl (tw190 hw)) Via.refl eJ3 F1 (g := (mkF m 5 #[vr a, vi k, vd x, ss] [(.ref a), (.int n)])) rfl rfl (hH p51_2_5)
 have kJB : own_G p e below E0 TJ7 (mkF m 8 #[vr a, vi k, vd x, ss] [(.ref r1), (.int n)]) := fun tQ kk => kJ6 tQ (stJA _ kk)
 clear kJ6 stJA
 have stJC := fun tQ => own_A.len XJ8 hx hZ eJ9 A1 (g := (mkF m 8 #[vr a, vi k, vd x, ss] [(.ref r1), (.int n)])) rfl rfl (hH p51_2_8) tQ
 have kJD : own_G p e below E0 TJ7 (mkF m 9 #[vr a, vi k, vd x, ss] [(.int (rl).length.toInt32), (.int n)]) := fun tQ kk => kJB tQ (stJC _ kk)
 clear kJB stJC
 have kJE : own_G p e below E0 TJ7 (mkF m 47 #[vr a, vi k, vd x, ss] [(.ref a)]) := by
  intro tQ kk
  refine kJD tQ ?_
  refine XS.icmpYes XJ8.here hx rfl (pc0 := 9) (pc' := 46) rfl (hH p51_2_9) rfl (own_ic_neY hn) (by decide) (by decide) ?_
  refine XS.aloadN XJ8.here hx rfl (hH p51_2_46) rfl rfl ?_
  exact kk
 clear kJD
 obtain ⟨TJF, XJG, eJH, stJI⟩ := getF XJ8 hx hZ hown (host := "") (Or.inl (tw190 hw)) Via.refl eJ9 F1 (g := (mkF m 47 #[vr a, vi k, vd x, ss] [(.ref a)])) rfl rfl (hH p51_2_47)
 have kJJ : own_G p e below E0 TJF (mkF m 50 #[vr a, vi k, vd x, ss] [(.ref r1)]) := fun tQ kk => kJE tQ (stJI _ kk)
 clear kJE stJI
 have kJK : own_G p e below E0 TJF (mkF m 51 #[vr a, vi k, vd x, ss] [(.ref a), (.ref r1)]) := by
  intro tQ kk
  refine kJJ tQ ?_
  refine XS.aloadN XJG.here hx rfl (hH p51_2_50) rfl rfl ?_
  exact kk
 clear kJJ
 obtain ⟨TJL, XJM, eJN, stJO⟩ := getF XJG hx hZ hown (host := "") (Or.inl (tw267 hw)) Via.refl eJH F3 (g := (mkF m 51 #[vr a, vi k, vd x, ss] [(.ref a), (.ref r1)])) rfl rfl (hH p51_2_51)
 have kJP : own_G p e below E0 TJL (mkF m 54 #[vr a, vi k, vd x, ss] [(.int n), (.ref r1)]) := fun tQ kk => kJK tQ (stJO _ kk)
 clear kJK stJO
 have kJQ : own_G p e below E0 TJL (mkF m 55 #[vr a, vi k, vd x, ss] [(.int k), (.int n), (.ref r1)]) := by
  intro tQ kk
  refine kJP tQ ?_
  refine XS.iloadN XJM.here hx rfl (hH p51_2_54) rfl ?_
  exact kk
 clear kJP
 obtain ⟨TJR, hJS, XJT, eJU, WJV, FJW, stJX⟩ := own_A.ist XJM hx hZ eJN A1 (j := n) hj0 (List.getElem?_eq_getElem h1) (g := (mkF m 55 #[vr a, vi k, vd x, ss] [(.int k), (.int n), (.ref r1)])) rfl rfl (hH p51_2_55)
 have NJY := Fr.snoc XJT N0 ge_r1
 have kJZ : own_G p e below E0 TJR (mkF m 56 #[vr a, vi k, vd x, ss] []) := fun tQ kk => kJQ tQ (stJX _ kk)
 clear kJQ stJX
 replace E1 := E1.wr WJV
 replace F1 := F1.other WJV (Or.inl n1)
 replace F2 := F2.other WJV (Or.inl n1)
 replace F3 := F3.other WJV (Or.inl n1)
 replace A2 := A2.other WJV (fun q => n3 q.symm)
 replace Z0 := own_wrle WJV Z0
 replace K0 := K0.wr WJV (Or.inl (List.mem_of_getElem? (i := 1) rfl))
 have FK0 : own_A Z hJS r1 .int (rl.set n.toNatClampNeg (.int k)) := FJW
 have kK1 : own_G p e below E0 TJR (mkF m 57 #[vr a, vi k, vd x, ss] [(.ref a)]) := by
  intro tQ kk
  refine kJZ tQ ?_
  refine XS.aloadN XJT.here hx rfl (hH p51_2_56) rfl rfl ?_
  exact kk
 clear kJZ
 obtain ⟨TK2, XK3, eK4, stK5⟩ := getF XJT hx hZ hown (host := "") (Or.inl (tw192 hw)) Via.refl eJU F2 (g := (mkF m 57 #[vr a, vi k, vd x, ss] [(.ref a)])) rfl rfl (hH p51_2_57)
 have kK6 : own_G p e below E0 TK2 (mkF m 60 #[vr a, vi k, vd x, ss] [(.ref r2)]) := fun tQ kk => kK1 tQ (stK5 _ kk)
 clear kK1 stK5
 have kK7 : own_G p e below E0 TK2 (mkF m 61 #[vr a, vi k, vd x, ss] [(.ref a), (.ref r2)]) := by
  intro tQ kk
  refine kK6 tQ ?_
  refine XS.aloadN XK3.here hx rfl (hH p51_2_60) rfl rfl ?_
  exact kk
 clear kK6
 obtain ⟨TK8, XK9, eKA, stKB⟩ := getF XK3 hx hZ hown (host := "") (Or.inl (tw267 hw)) Via.refl eK4 F3 (g := (mkF m 61 #[vr a, vi k, vd x, ss] [(.ref a), (.ref r2)])) rfl rfl (hH p51_2_61)
 have kKC : own_G p e below E0 TK8 (mkF m 64 #[vr a, vi k, vd x, ss] [(.int n), (.ref r2)]) := fun tQ kk => kK7 tQ (stKB _ kk)
 clear kK7 stKB
 have kKD : own_G p e below E0 TK8 (mkF m 65 #[vr a, vi k, vd x, ss] [(.double x), (.int n), (.ref r2)]) := by
  intro tQ kk
  refine kKC tQ ?_
  refine XS.dloadN XK9.here hx rfl (hH p51_2_64) rfl ?_
  exact kk
 clear kKC
 obtain ⟨TKE, hKF, XKG, eKH, WKI, FKJ, stKK⟩ := own_A.dst XK9 hx hZ eKA A2 (j := n) hj0 (List.getElem?_eq_getElem h2) (g := (mkF m 65 #[vr a, vi k, vd x, ss] [(.double x), (.int n), (.ref r2)])) rfl rfl (hH p51_2_65)
 have NKL := Fr.snoc XKG NJY ge_r2
 have kKM : own_G p e below E0 TKE (mkF m 66 #[vr a, vi k, vd x, ss] []) := fun tQ kk => kKD tQ (stKK _ kk)
 clear kKD stKK
 replace E1 := E1.wr WKI
 replace F1 := F1.other WKI (Or.inl n2)
 replace F2 := F2.other WKI (Or.inl n2)
 replace F3 := F3.other WKI (Or.inl n2)
 replace FK0 := FK0.other WKI n3
 replace Z0 := own_wrle WKI Z0
 replace K0 := K0.wr WKI (Or.inl (List.mem_of_getElem? (i := 2) rfl))
 have FKN : own_A Z hKF r2 .double (vl.set n.toNatClampNeg (.double x)) := FKJ
 have kKO : own_G p e below E0 TKE (mkF m 68 #[vr a, vi k, vd x, ss] [(.ref a), (.ref a)]) := by
  intro tQ kk
  refine kKM tQ ?_
  refine XS.aloadN XKG.here hx rfl (hH p51_2_66) rfl rfl ?_
  refine XS.dup XKG.here hx rfl (hH p51_2_67) rfl rfl ?_
  exact kk
 clear kKM
 obtain ⟨TKP, XKQ, eKR, stKS⟩ := getF XKG hx hZ hown (host := "") (Or.inl (tw267 hw)) Via.refl eKH F3 (g := (mkF m 68 #[vr a, vi k, vd x, ss] [(.ref a), (.ref a)])) rfl rfl (hH p51_2_68)
 have kKT : own_G p e below E0 TKP (mkF m 71 #[vr a, vi k, vd x, ss] [(.int n), (.ref a)]) := fun tQ kk => kKO tQ (stKS _ kk)
 clear kKO stKS
 have kKU : own_G p e below E0 TKP (mkF m 73 #[vr a, vi k, vd x, ss] [(.int (n + (1 : Int32))), (.ref a)]) := by
  intro tQ kk
  refine kKT tQ ?_
  refine XS.iconst XKQ.here hx rfl (hH p51_2_71) ?_
  refine XS.iadd XKQ.here hx rfl (hH p51_2_72) rfl ?_
  exact kk
 clear kKT
 obtain ⟨TKV, hKW, XKX, eKY, WKZ, stL0⟩ := putF XKQ hx hZ hown (host := "") (Or.inl (tw267 hw)) Via.refl eKR F3 E1 (Or.inl (tw268 hw)) (tw184 hw) (ty := .int) (by decide) rfl rfl (g := (mkF m 73 #[vr a, vi k, vd x, ss] [(.int (n + (1 : Int32))), (.ref a)])) rfl rfl (hH p51_2_73)
 have NL1 := Fr.snoc XKX NKL ge_a
 have kL2 : own_G p e below E0 TKV (mkF m 76 #[vr a, vi k, vd x, ss] []) := fun tQ kk => kKU tQ (stL0 _ kk)
 clear kKU stL0
 replace E1 := E1.wr WKZ
 replace F1 := F1.other WKZ (Or.inr (sn131 hw))
 replace F2 := F2.other WKZ (Or.inr (sn132 hw))
 replace F3 := F3.same WKZ
 replace FK0 := FK0.other WKZ (fun q => n1 q.symm)
 replace FKN := FKN.other WKZ (fun q => n2 q.symm)
 replace Z0 := own_wrle WKZ Z0
 replace K0 := K0.wr WKZ (Or.inl (List.mem_of_getElem? (i := 0) rfl))
 obtain ⟨fs, hr, hrun, hended, hW, hsame⟩ := XKX.leave (v := none) (fun _ => rfl)
 have hrun0 := kL2 _ (XKX.returnOut hx Bd.returns (hH p51_2_76) hr)
 subst hE0
 refine ⟨_, _, hrun0, hrun, hended, _, _, rfl, ?_, ⟨_, rfl⟩, hW, hsame.mono (by decide) (by decide)⟩
 show QrmSa Z a r1 r2 n k x rl vl h0 n0 _ TKV.heap _
 rw [eKY]
 exact ⟨rfl, NL1, K0, F1, F2, F3, FK0, FKN⟩
def QrmSs (Z : State) (a : Addr) (n : Int32) (h0 : Heap) (n0 : Nat) (vQ : Option Value) (hQ : Heap) (LQ : List Loc) : Prop := vQ = some (.int n) ∧ Fr n0 LQ ∧ hQ = h0
theorem ef_rmSs (m : MethodId) (a : Addr) (n : Int32) : entryFrame m #[(.ref a)] 1 = mkF m 0 #[vr a] [] := by first | (simp [entryFrame, mkF, argsToLocals, Value.category]; done) | rfl
abbrev mn133 : MethodName := ⟨"com/example/netloom/netloom/embed/SparseColumn", "size", "()I"⟩
theorem p51_3_0 : decode prog_51_method_3_code 0 = .ok (.aload_n 0, 1) := by decide +kernel
theorem p51_3_1 : decode prog_51_method_3_code 1 = .ok (.getfield 17, 3) := by decide +kernel
theorem p51_3_4 : decode prog_51_method_3_code 4 = .ok (.ireturn, 1) := by decide +kernel
set_option maxRecDepth 65536 in
set_option maxHeartbeats 40000000 in
theorem rmSs (l : Launch) (Z : State) (a0 : Array Value) (hw : ∀ d ∈ tables_1, d.before a0 Z = true) (ws : List Jvm.Cond) (a : Addr) (n : Int32) (h0 : Heap) (n0 : Nat) (Z0 : n0 ≤ h0.size) (F1 : fd122 Z h0 a (.int n)) :
  MetFree l mn133 (head1 (Jvm.Cond.code mn133 prog_51_method_3_code 1 (some .int) :: ws) ({ frames := 0, cells := 0, slots := 0, locals := 0 } : Room)) (fun aA U => aA = #[(.ref a)] ∧ Z.Warmed39 U.vm ∧ U.heap = h0) (fun _ _ _ _ _ => True) (fun _ U o U' => ∃ vR LR, o = .returned vR ∧ QrmSs Z a n h0 n0 vR U'.heap LR ∧ FrameEnd U o U' LR ({ frames := 0, cells := 0, slots := 0, locals := 0 } : Room).cells ({ frames := 0, cells := 0, slots := 0, locals := 0 } : Room).slots) := by
 refine MetFree.of_bodySF (plainFor_of_name pn_com_example_netloom_netloom_embed_SparseColumn) hisR ?_
 intro p e s m args below meth c s₁ Bd hml0 hPre hKk
 obtain ⟨rfl, hZ, hh⟩ := hPre
 have hx := Bd.exec
 have hby := Bd.bytes
 have hH : ∀ {pc r}, decode prog_51_method_3_code pc = r → decode c.code pc = r := fun q => hb hby q
 have hml : c.maxLocals = 1 := hml0
 have hown : s.vm.findClass "com/example/netloom/netloom/embed/SparseColumn" = some m.cls := findClass_of_methodNamed Bd.named
 have hnm := (name_of_methodNamed Bd.named Bd.method).1
 have X0 : Stand p l e ({ frames := 0, cells := 0, slots := 0, locals := 0 } : Room) s m #[(.ref a)] below meth c s₁ [] 0 0 := Stand.of_body Bd
 have e0 : s₁.heap = h0 := by rw [← hh, Bd.state]; rfl
 have N0 := Fr.nil n0
 obtain ⟨E0, hE0⟩ : ∃ zE : State, zE = s₁.setTop (entryFrame m #[(.ref a)] 1) := ⟨_, rfl⟩
 have k0 : own_G p e below E0 s₁ (mkF m 0 #[vr a] []) := fun tz kz => hE0 ▸ castTop (ef_rmSs m a n) kz
 have kJ0 : own_G p e below E0 s₁ (mkF m 1 #[vr a] [(.ref a)]) := by
  intro tQ kk
  refine k0 tQ ?_
  refine XS.aloadN X0.here hx rfl (hH p51_3_0) rfl rfl ?_
  exact kk
 clear k0
 obtain ⟨TJ1, XJ2, eJ3, stJ4⟩ := getF X0 hx hZ hown (host := "") (Or.inl (tw267 hw)) Via.refl e0 F1 (g := (mkF m 1 #[vr a] [(.ref a)])) rfl rfl (hH p51_3_1)
 have kJ5 : own_G p e below E0 TJ1 (mkF m 4 #[vr a] [(.int n)]) := fun tQ kk => kJ0 tQ (stJ4 _ kk)
 clear kJ0 stJ4
 obtain ⟨fs, hr, hrun, hended, hW, hsame⟩ := XJ2.leave (v := some (.int n)) (fun h => by rw [Bd.returns] at h; cases h)
 have hrun0 := kJ5 _ (retOut XJ2 hx Bd.returns (t := .int) rfl (Or.inl ⟨rfl, Or.inl rfl, _, rfl⟩) (hH p51_3_4) hr)
 subst hE0
 refine ⟨_, _, hrun0, hrun, hended, _, _, rfl, ?_, ⟨_, rfl⟩, hW, hsame.mono (by decide) (by decide)⟩
 show QrmSs Z a n h0 n0 _ TJ1.heap _
 rw [eJ3]
 exact ⟨rfl, N0, rfl⟩
def QrmBs (Z : State) (a : Addr) (h0 : Heap) (n0 : Nat) (vQ : Option Value) (hQ : Heap) (LQ : List Loc) : Prop := vQ = some (.int (-1 : Int32)) ∧ Fr n0 LQ ∧ hQ = h0
theorem ef_rmBs (m : MethodId) (a : Addr) : entryFrame m #[(.ref a)] 1 = mkF m 0 #[vr a] [] := by first | (simp [entryFrame, mkF, argsToLocals, Value.category]; done) | rfl
abbrev mn134 : MethodName := ⟨"com/example/netloom/netloom/embed/BasisFactor", "size", "()I"⟩
theorem p17_2_0 : decode prog_17_method_2_code 0 = .ok (.aload_n 0, 1) := by decide +kernel
theorem p17_2_1 : decode prog_17_method_2_code 1 = .ok (.getfield 7, 3) := by decide +kernel
theorem p17_2_4 : decode prog_17_method_2_code 4 = .ok (.ireturn, 1) := by decide +kernel
set_option maxRecDepth 65536 in
set_option maxHeartbeats 40000000 in
theorem rmBs (l : Launch) (Z : State) (a0 : Array Value) (hw : ∀ d ∈ tables_1, d.before a0 Z = true) (ws : List Jvm.Cond) (a : Addr) (h0 : Heap) (n0 : Nat) (Z0 : n0 ≤ h0.size) (F1 : fd9 Z h0 a (.int (-1 : Int32))) :
  MetFree l mn134 (head1 (Jvm.Cond.code mn134 prog_17_method_2_code 1 (some .int) :: ws) ({ frames := 0, cells := 0, slots := 0, locals := 0 } : Room)) (fun aA U => aA = #[(.ref a)] ∧ Z.Warmed39 U.vm ∧ U.heap = h0) (fun _ _ _ _ _ => True) (fun _ U o U' => ∃ vR LR, o = .returned vR ∧ QrmBs Z a h0 n0 vR U'.heap LR ∧ FrameEnd U o U' LR ({ frames := 0, cells := 0, slots := 0, locals := 0 } : Room).cells ({ frames := 0, cells := 0, slots := 0, locals := 0 } : Room).slots) := by
 refine MetFree.of_bodySF (plainFor_of_name pn_com_example_netloom_netloom_embed_BasisFactor) hisR ?_
 intro p e s m args below meth c s₁ Bd hml0 hPre hKk
 obtain ⟨rfl, hZ, hh⟩ := hPre
 have hx := Bd.exec
 have hby := Bd.bytes
 have hH : ∀ {pc r}, decode prog_17_method_2_code pc = r → decode c.code pc = r := fun q => hb hby q
 have hml : c.maxLocals = 1 := hml0
 have hown : s.vm.findClass "com/example/netloom/netloom/embed/BasisFactor" = some m.cls := findClass_of_methodNamed Bd.named
 have hnm := (name_of_methodNamed Bd.named Bd.method).1
 have X0 : Stand p l e ({ frames := 0, cells := 0, slots := 0, locals := 0 } : Room) s m #[(.ref a)] below meth c s₁ [] 0 0 := Stand.of_body Bd
 have e0 : s₁.heap = h0 := by rw [← hh, Bd.state]; rfl
 have N0 := Fr.nil n0
 obtain ⟨E0, hE0⟩ : ∃ zE : State, zE = s₁.setTop (entryFrame m #[(.ref a)] 1) := ⟨_, rfl⟩
 have k0 : own_G p e below E0 s₁ (mkF m 0 #[vr a] []) := fun tz kz => hE0 ▸ castTop (ef_rmBs m a) kz
 have kJ0 : own_G p e below E0 s₁ (mkF m 1 #[vr a] [(.ref a)]) := by
  intro tQ kk
  refine k0 tQ ?_
  refine XS.aloadN X0.here hx rfl (hH p17_2_0) rfl rfl ?_
  exact kk
 clear k0
 obtain ⟨TJ1, XJ2, eJ3, stJ4⟩ := getF X0 hx hZ hown (host := "") (Or.inl (tw53 hw)) Via.refl e0 F1 (g := (mkF m 1 #[vr a] [(.ref a)])) rfl rfl (hH p17_2_1)
 have kJ5 : own_G p e below E0 TJ1 (mkF m 4 #[vr a] [(.int (-1 : Int32))]) := fun tQ kk => kJ0 tQ (stJ4 _ kk)
 clear kJ0 stJ4
 obtain ⟨fs, hr, hrun, hended, hW, hsame⟩ := XJ2.leave (v := some (.int (-1 : Int32))) (fun h => by rw [Bd.returns] at h; cases h)
 have hrun0 := kJ5 _ (retOut XJ2 hx Bd.returns (t := .int) rfl (Or.inl ⟨rfl, Or.inl rfl, _, rfl⟩) (hH p17_2_4) hr)
 subst hE0
 refine ⟨_, _, hrun0, hrun, hended, _, _, rfl, ?_, ⟨_, rfl⟩, hW, hsame.mono (by decide) (by decide)⟩
 show QrmBs Z a h0 n0 _ TJ1.heap _
 rw [eJ3]
 exact ⟨rfl, N0, rfl⟩
def QrmGrI (Z : State) (a : Addr) (dE : Addr) (h0 : Heap) (n0 : Nat) (vQ : Option Value) (hQ : Heap) (LQ : List Loc) : Prop := ∃ (r : Addr), vQ = some (.ref r) ∧ Fr n0 LQ ∧ Keep h0 hQ [a] ∧ (fd30 Z hQ a (.ref r)) ∧ (fd31 Z hQ a (.int (0 : Int32))) ∧ (fd29 Z hQ a (.int (1 : Int32))) ∧ (own_O Z hQ r "java/lang/Object" [.null, .null, .null, .null, .null, .null, .null, .null, .null, .null]) ∧ (h0.size ≤ r)
theorem ef_rmGrI (m : MethodId) (a : Addr) (dE : Addr) : entryFrame m #[(.ref a), (.int (1 : Int32))] 4 = mkF m 0 #[vr a, vi (1 : Int32), uu, uu] [] := by first | (simp [entryFrame, mkF, argsToLocals, Value.category]; done) | rfl
abbrev mn135 : MethodName := ⟨"java/util/ArrayList", "grow", "(I)[Ljava/lang/Object;"⟩
theorem j38_6_0 : decode jdk_38_method_6_code 0 = .ok (.aload_n 0, 1) := by decide +kernel
theorem j38_6_1 : decode jdk_38_method_6_code 1 = .ok (.getfield 9, 3) := by decide +kernel
theorem j38_6_4 : decode jdk_38_method_6_code 4 = .ok (.arraylength, 1) := by decide +kernel
theorem j38_6_5 : decode jdk_38_method_6_code 5 = .ok (.istore_n 2, 1) := by decide +kernel
theorem j38_6_6 : decode jdk_38_method_6_code 6 = .ok (.iload_n 2, 1) := by decide +kernel
theorem j38_6_7 : decode jdk_38_method_6_code 7 = .ok (.ifCond .gt 13, 3) := by decide +kernel
theorem j38_6_10 : decode jdk_38_method_6_code 10 = .ok (.aload_n 0, 1) := by decide +kernel
theorem j38_6_11 : decode jdk_38_method_6_code 11 = .ok (.getfield 9, 3) := by decide +kernel
theorem j38_6_14 : decode jdk_38_method_6_code 14 = .ok (.getstatic 39, 3) := by decide +kernel
theorem j38_6_17 : decode jdk_38_method_6_code 17 = .ok (.if_acmp .eq 28, 3) := by decide +kernel
theorem j38_6_45 : decode jdk_38_method_6_code 45 = .ok (.aload_n 0, 1) := by decide +kernel
theorem j38_6_46 : decode jdk_38_method_6_code 46 = .ok (.bipush 10, 2) := by decide +kernel
theorem j38_6_48 : decode jdk_38_method_6_code 48 = .ok (.iload_n 1, 1) := by decide +kernel
theorem j38_6_49 : decode jdk_38_method_6_code 49 = .ok (.invokestatic 79, 3) := by decide +kernel
def tw219 {Z a0} (hw : HW Z a0) := hw _ (List.mem_of_getElem? (i := 219) rfl)
def tw222 {Z a0} (hw : HW Z a0) := hw _ (List.mem_of_getElem? (i := 222) rfl)
def tw221 {Z a0} (hw : HW Z a0) := hw _ (List.mem_of_getElem? (i := 221) rfl)
theorem pd_136 : parseMethodDescriptor "(II)I" = some ⟨[.int, .int], some .int⟩ := by decide +kernel
def tw220 {Z a0} (hw : HW Z a0) := hw _ (List.mem_of_getElem? (i := 220) rfl)
theorem j38_6_52 : decode jdk_38_method_6_code 52 = .ok (.anewarray 7, 3) := by decide +kernel
def tw223 {Z a0} (hw : HW Z a0) := hw _ (List.mem_of_getElem? (i := 223) rfl)
def tw224 {Z a0} (hw : HW Z a0) := hw _ (List.mem_of_getElem? (i := 224) rfl)
theorem j38_6_55 : decode jdk_38_method_6_code 55 = .ok (.dup_x1, 1) := by decide +kernel
theorem j38_6_56 : decode jdk_38_method_6_code 56 = .ok (.putfield 9, 3) := by decide +kernel
theorem j38_6_59 : decode jdk_38_method_6_code 59 = .ok (.areturn, 1) := by decide +kernel
set_option maxRecDepth 65536 in
set_option maxHeartbeats 40000000 in
theorem rmGrI (l : Launch) (Z : State) (a0 : Array Value) (hw : ∀ d ∈ tables_1, d.before a0 Z = true) (ws : List Jvm.Cond) (a : Addr) (dE : Addr) (h0 : Heap) (n0 : Nat) (Z0 : n0 ≤ h0.size) (O1 : Old Z n0 h0) (E1 : xa32 Z h0 a) (F1 : fd30 Z h0 a (.ref dE)) (F2 : fd31 Z h0 a (.int (0 : Int32))) (F3 : fd29 Z h0 a (.int (1 : Int32))) (A1 : own_A Z h0 dE (.object "java/lang/Object") []) (nd : a ≠ dE) (ge_a : n0 ≤ a) (oD : Sta Z Z.heap "java/util/ArrayList" "DEFAULTCAPACITY_EMPTY_ELEMENTDATA" "[Ljava/lang/Object;" (.ref dE)) :
  MetFree l mn135 (head1 (Jvm.Cond.code mn135 jdk_38_method_6_code 4 (some (.array (.object "java/lang/Object"))) :: ws) ({ frames := 1, cells := 1, slots := 10, locals := 18 } : Room)) (fun aA U => aA = #[(.ref a), (.int (1 : Int32))] ∧ Z.Warmed39 U.vm ∧ U.heap = h0) (fun _ _ _ _ _ => True) (fun _ U o U' => ∃ vR LR, o = .returned vR ∧ QrmGrI Z a dE h0 n0 vR U'.heap LR ∧ FrameEnd U o U' LR ({ frames := 1, cells := 1, slots := 10, locals := 18 } : Room).cells ({ frames := 1, cells := 1, slots := 10, locals := 18 } : Room).slots) := by
 refine MetFree.of_bodySF (plainFor_of_name pn_java_util_ArrayList) hisR ?_
 intro p e s m args below meth c s₁ Bd hml0 hPre hKk
 obtain ⟨rfl, hZ, hh⟩ := hPre
 have hx := Bd.exec
 have hby := Bd.bytes
 have hH : ∀ {pc r}, decode jdk_38_method_6_code pc = r → decode c.code pc = r := fun q => hb hby q
 have hml : c.maxLocals = 4 := hml0
 have hown : s.vm.findClass "java/util/ArrayList" = some m.cls := findClass_of_methodNamed Bd.named
 have hnm := (name_of_methodNamed Bd.named Bd.method).1
 have X0 : Stand p l e ({ frames := 1, cells := 1, slots := 10, locals := 18 } : Room) s m #[(.ref a), (.int (1 : Int32))] below meth c s₁ [] 0 0 := Stand.of_body Bd
 have e0 : s₁.heap = h0 := by rw [← hh, Bd.state]; rfl
 have N0 := Fr.nil n0
 obtain ⟨E0, hE0⟩ : ∃ zE : State, zE = s₁.setTop (entryFrame m #[(.ref a), (.int (1 : Int32))] 4) := ⟨_, rfl⟩
 have k0 : own_G p e below E0 s₁ (mkF m 0 #[vr a, vi (1 : Int32), uu, uu] []) := fun tz kz => hE0 ▸ castTop (ef_rmGrI m a dE) kz
 have K0 : Keep h0 h0 [a] := Keep.refl _ _
 have kJ0 : own_G p e below E0 s₁ (mkF m 1 #[vr a, vi (1 : Int32), uu, uu] [(.ref a)]) := by
  intro tQ kk
  refine k0 tQ ?_
  refine XS.aloadN X0.here hx rfl (hH j38_6_0) rfl rfl ?_
  exact kk
 clear k0
 obtain ⟨TJ1, XJ2, eJ3, stJ4⟩ := getF X0 hx hZ hown (host := "") (Or.inl (tw32 hw)) Via.refl e0 F1 (g := (mkF m 1 #[vr a, vi (1 : Int32), uu, uu] [(.ref a)])) rfl rfl (hH j38_6_1)
 have kJ5 : own_G p e below E0 TJ1 (mkF m 4 #[vr a, vi (1 : Int32), uu, uu] [(.ref dE)]) := fun tQ kk => kJ0 tQ (stJ4 _ kk)
 clear kJ0 stJ4
 have stJ6 := fun tQ => own_A.len XJ2 hx hZ eJ3 A1 (g := (mkF m 4 #[vr a, vi (1 : Int32), uu, uu] [(.ref dE)])) rfl rfl (hH j38_6_4) tQ
 have kJ7 : own_G p e below E0 TJ1 (mkF m 5 #[vr a, vi (1 : Int32), uu, uu] [(.int (0 : Int32))]) := fun tQ kk => kJ5 tQ (stJ6 _ kk)
 clear kJ5 stJ6
 have kJ8 : own_G p e below E0 TJ1 (mkF m 11 #[vr a, vi (1 : Int32), vi (0 : Int32), uu] [(.ref a)]) := by
  intro tQ kk
  refine kJ7 tQ ?_
  refine XS.istoreN XJ2.here hx rfl (hH j38_6_5) rfl (l' := #[vr a, vi (1 : Int32), vi (0 : Int32), uu]) rfl ?_
  refine XS.iloadN XJ2.here hx rfl (hH j38_6_6) rfl ?_
  refine XS.ifNo XJ2.here hx rfl (hH j38_6_7) rfl (own_if_gtN (by decide)) ?_
  refine XS.aloadN XJ2.here hx rfl (hH j38_6_10) rfl rfl ?_
  exact kk
 clear kJ7
 obtain ⟨TJ9, XJA, eJB, stJC⟩ := getF XJ2 hx hZ hown (host := "") (Or.inl (tw32 hw)) Via.refl eJ3 F1 (g := (mkF m 11 #[vr a, vi (1 : Int32), vi (0 : Int32), uu] [(.ref a)])) rfl rfl (hH j38_6_11)
 have kJD : own_G p e below E0 TJ9 (mkF m 14 #[vr a, vi (1 : Int32), vi (0 : Int32), uu] [(.ref dE)]) := fun tQ kk => kJ8 tQ (stJC _ kk)
 clear kJ8 stJC
 have FJE : Sta Z h0 "java/util/ArrayList" "DEFAULTCAPACITY_EMPTY_ELEMENTDATA" "[Ljava/lang/Object;" (.ref dE) := oD.ext O1.2
 obtain ⟨TJF, XJG, eJH, stJI⟩ := getS XJA hx hZ hown (host := "") (tw31 hw) Via.refl eJB FJE (g := (mkF m 14 #[vr a, vi (1 : Int32), vi (0 : Int32), uu] [(.ref dE)])) rfl (hH j38_6_14)
 have kJJ : own_G p e below E0 TJF (mkF m 17 #[vr a, vi (1 : Int32), vi (0 : Int32), uu] [(.ref dE), (.ref dE)]) := fun tQ kk => kJD tQ (stJI _ kk)
 clear kJD stJI
 have kJK : own_G p e below E0 TJF (mkF m 49 #[vr a, vi (1 : Int32), vi (0 : Int32), uu] [(.int (1 : Int32)), (.int (10 : Int32)), (.ref a)]) := by
  intro tQ kk
  refine kJJ tQ ?_
  refine XT.acmpYes XJG.here hx rfl (pc0 := 17) (pc' := 45) rfl (hH j38_6_17) rfl rfl rfl (own_ar_eq_Y rfl) (by decide) (by decide) ?_
  refine XS.aloadN XJG.here hx rfl (hH j38_6_45) rfl rfl ?_
  refine XS.bipush XJG.here hx rfl (hH j38_6_46) ?_
  refine XS.iloadN XJG.here hx rfl (hH j38_6_48) rfl ?_
  exact kk
 clear kJJ
 obtain ⟨_, _, ⟨TJL, LJM, kcJN, ncJO⟩, -, XJP, ⟨LcJQ, hQJR, lJS, yJT, zJU⟩, stJV⟩ := Jvm.LawKit.callS XJG hx (y := mn117) hown (mvT hZ (tw219 hw)) (mvT hZ (tw220 hw)) (mvT hZ (tw221 hw)) (mvT hZ (tw222 hw)) (by decide) (backOf (W := 1) (rmMx l Z a0 hw [] (10 : Int32) (1 : Int32) h0 n0 Z0 (by decide)) hZ (tw222 hw) (tw221 hw) (by decide) (by decide)) (g := (mkF m 49 #[vr a, vi (1 : Int32), vi (0 : Int32), uu] [(.int (1 : Int32)), (.int (10 : Int32)), (.ref a)])) rfl (by rw [hml]; rfl) (argsL := [(.int (10 : Int32)), (.int (1 : Int32))]) (rest := [(.ref a)]) (lenOf pd_136 rfl) rfl (by show 2 * 0 + _ ≤ _; exact Nat.le_of_eq rfl) (hH j38_6_49) (fun _ _ => ⟨rfl, eJH, (by decide : 0 + 0 ≤ _), (by decide : 0 + 0 ≤ _)⟩)
 dsimp only [Pt.U, Pt.locs, Pt.cells, Pt.slots] at XJP lJS yJT zJU stJV hQJR
 subst yJT zJU
 obtain ⟨rfl, NJW, eJX⟩ := hQJR
 have NJZ : Fr n0 LJM := by rw [lJS]; exact Fr.app N0 NJW
 clear lJS NJW
 have kK0 : own_G p e below E0 TJL (mkF m 52 #[vr a, vi (1 : Int32), vi (0 : Int32), uu] [(.int (10 : Int32)), (.ref a)]) := fun tQ kk => kJK tQ (stJV _ kk)
 clear kJK stJV
 have eqK1 : (10 : Int32) = (10 : Int32) := rfl
 rw [eqK1] at kK0
 obtain ⟨TK2, hK3, cAK4, XK5, eK6, EK7, AK8, OK9, stKA⟩ := newR XJP hx hZ hown (tw223 hw) (tw224 hw) eJX (g := (mkF m 52 #[vr a, vi (1 : Int32), vi (0 : Int32), uu] [(.int (10 : Int32)), (.ref a)])) rfl (hH j38_6_52) rfl (by decide) (cap := 10) (by decide) (by decide) (by decide) (by decide)
 obtain ⟨aKB, gKC⟩ : ∃ zA : Nat, zA = h0.size := ⟨_, rfl⟩
 rw [← gKC] at AK8 stKA
 have nKD := own_lt_ne E1.lt gKC
 have nKE := own_lt_ne A1.lt gKC
 have nwKF : h0.size ≤ aKB := own_ge_of K0.1 gKC
 have geKG : n0 ≤ aKB := own_ge_of Z0 gKC
 replace Z0 := Nat.le_trans Z0 EK7.1
 replace O1 := O1.ext EK7
 replace E1 := E1.ext EK7
 replace F1 := F1.ext EK7
 replace F2 := F2.ext EK7
 replace F3 := F3.ext EK7
 replace A1 := A1.ext EK7
 replace FJE := FJE.ext EK7
 replace K0 := K0.ext EK7
 have FKH : own_O Z hK3 aKB "java/lang/Object" [.null, .null, .null, .null, .null, .null, .null, .null, .null, .null] := own_O.new AK8 OK9
 have kKI : own_G p e below E0 TK2 (mkF m 55 #[vr a, vi (1 : Int32), vi (0 : Int32), uu] [(.ref aKB), (.ref a)]) := fun tQ kk => kK0 tQ (stKA _ kk)
 clear kK0 stKA
 have kKJ : own_G p e below E0 TK2 (mkF m 56 #[vr a, vi (1 : Int32), vi (0 : Int32), uu] [(.ref aKB), (.ref a), (.ref aKB)]) := by
  intro tQ kk
  refine kKI tQ ?_
  refine XT.dupX1 XK5.here hx rfl (hH j38_6_55) rfl rfl rfl ?_
  exact kk
 clear kKI
 obtain ⟨TKK, hKL, XKM, eKN, WKO, stKP⟩ := putF XK5 hx hZ hown (host := "") (Or.inl (tw32 hw)) Via.refl eK6 F1 E1 (Or.inl (tw33 hw)) (tw11 hw) (ty := (.array (.object "java/lang/Object"))) (by decide) rfl rfl (g := (mkF m 56 #[vr a, vi (1 : Int32), vi (0 : Int32), uu] [(.ref aKB), (.ref a), (.ref aKB)])) rfl rfl (hH j38_6_56)
 have NKQ := Fr.snoc XKM NJZ ge_a
 have kKR : own_G p e below E0 TKK (mkF m 59 #[vr a, vi (1 : Int32), vi (0 : Int32), uu] [(.ref aKB)]) := fun tQ kk => kKJ tQ (stKP _ kk)
 clear kKJ stKP
 replace O1 := O1.wr WKO ge_a
 replace E1 := E1.wr WKO
 replace F1 := F1.same WKO
 replace F2 := F2.other WKO (Or.inr (sn40 hw))
 replace F3 := F3.other WKO (Or.inr (sn39 hw))
 replace A1 := A1.other WKO (fun q => nd q.symm)
 replace FJE := FJE.wr WKO
 replace FKH := FKH.other WKO (Ne.symm nKD)
 replace Z0 := own_wrle WKO Z0
 replace K0 := K0.wr WKO (Or.inl (List.mem_of_getElem? (i := 0) rfl))
 obtain ⟨fs, hr, hrun, hended, hW, hsame⟩ := XKM.leave (v := some (.ref aKB)) (fun h => by rw [Bd.returns] at h; cases h)
 have hrun0 := kKR _ (retOut XKM hx Bd.returns (t := (.array (.object "java/lang/Object"))) rfl (Or.inr (Or.inr (Or.inr (Or.inr ⟨rfl, rfl, rfl⟩)))) (hH j38_6_59) hr)
 subst hE0
 refine ⟨_, _, hrun0, hrun, hended, _, _, rfl, ?_, ⟨_, rfl⟩, hW, hsame.mono (by decide) (by decide)⟩
 show QrmGrI Z a dE h0 n0 _ TKK.heap _
 rw [eKN]
 exact ⟨aKB, rfl, NKQ, K0, F1, F2, F3, FKH, nwKF⟩
def QrmGr0 (Z : State) (a : Addr) (dE : Addr) (h0 : Heap) (n0 : Nat) (vQ : Option Value) (hQ : Heap) (LQ : List Loc) : Prop := ∃ (r : Addr), vQ = some (.ref r) ∧ Fr n0 LQ ∧ Keep h0 hQ [a] ∧ (fd30 Z hQ a (.ref r)) ∧ (fd31 Z hQ a (.int (0 : Int32))) ∧ (fd29 Z hQ a (.int (1 : Int32))) ∧ (own_O Z hQ r "java/lang/Object" [.null, .null, .null, .null, .null, .null, .null, .null, .null, .null]) ∧ (h0.size ≤ r)
theorem ef_rmGr0 (m : MethodId) (a : Addr) (dE : Addr) : entryFrame m #[(.ref a)] 1 = mkF m 0 #[vr a] [] := by first | (simp [entryFrame, mkF, argsToLocals, Value.category]; done) | rfl
abbrev mn137 : MethodName := ⟨"java/util/ArrayList", "grow", "()[Ljava/lang/Object;"⟩
theorem j38_7_0 : decode jdk_38_method_7_code 0 = .ok (.aload_n 0, 1) := by decide +kernel
theorem j38_7_1 : decode jdk_38_method_7_code 1 = .ok (.aload_n 0, 1) := by decide +kernel
theorem j38_7_2 : decode jdk_38_method_7_code 2 = .ok (.getfield 48, 3) := by decide +kernel
def tw181 {Z a0} (hw : HW Z a0) := hw _ (List.mem_of_getElem? (i := 181) rfl)
theorem j38_7_5 : decode jdk_38_method_7_code 5 = .ok (.iconst 1, 1) := by decide +kernel
theorem j38_7_6 : decode jdk_38_method_7_code 6 = .ok (.iadd, 1) := by decide +kernel
theorem j38_7_7 : decode jdk_38_method_7_code 7 = .ok (.invokevirtual 69, 3) := by decide +kernel
def tw214 {Z a0} (hw : HW Z a0) := hw _ (List.mem_of_getElem? (i := 214) rfl)
def tw217 {Z a0} (hw : HW Z a0) := hw _ (List.mem_of_getElem? (i := 217) rfl)
def tw218 {Z a0} (hw : HW Z a0) := hw _ (List.mem_of_getElem? (i := 218) rfl)
theorem pd_138 : parseMethodDescriptor "(I)[Ljava/lang/Object;" = some ⟨[.int], some (.array (.object "java/lang/Object"))⟩ := by decide +kernel
def tw215 {Z a0} (hw : HW Z a0) := hw _ (List.mem_of_getElem? (i := 215) rfl)
def tw216 {Z a0} (hw : HW Z a0) := hw _ (List.mem_of_getElem? (i := 216) rfl)
theorem j38_7_10 : decode jdk_38_method_7_code 10 = .ok (.areturn, 1) := by decide +kernel
set_option maxRecDepth 65536 in
set_option maxHeartbeats 40000000 in
theorem rmGr0 (l : Launch) (Z : State) (a0 : Array Value) (hw : ∀ d ∈ tables_1, d.before a0 Z = true) (ws : List Jvm.Cond) (a : Addr) (dE : Addr) (h0 : Heap) (n0 : Nat) (Z0 : n0 ≤ h0.size) (O1 : Old Z n0 h0) (E1 : xa32 Z h0 a) (F1 : fd30 Z h0 a (.ref dE)) (F2 : fd31 Z h0 a (.int (0 : Int32))) (F3 : fd29 Z h0 a (.int (1 : Int32))) (A1 : own_A Z h0 dE (.object "java/lang/Object") []) (nd : a ≠ dE) (ge_a : n0 ≤ a) (oD : Sta Z Z.heap "java/util/ArrayList" "DEFAULTCAPACITY_EMPTY_ELEMENTDATA" "[Ljava/lang/Object;" (.ref dE)) :
  MetFree l mn137 (head1 (Jvm.Cond.code mn137 jdk_38_method_7_code 1 (some (.array (.object "java/lang/Object"))) :: ws) ({ frames := 2, cells := 1, slots := 10, locals := 36 } : Room)) (fun aA U => aA = #[(.ref a)] ∧ Z.Warmed39 U.vm ∧ U.heap = h0) (fun _ _ _ _ _ => True) (fun _ U o U' => ∃ vR LR, o = .returned vR ∧ QrmGr0 Z a dE h0 n0 vR U'.heap LR ∧ FrameEnd U o U' LR ({ frames := 2, cells := 1, slots := 10, locals := 36 } : Room).cells ({ frames := 2, cells := 1, slots := 10, locals := 36 } : Room).slots) := by
 refine MetFree.of_bodySF (plainFor_of_name pn_java_util_ArrayList) hisR ?_
 intro p e s m args below meth c s₁ Bd hml0 hPre hKk
 obtain ⟨rfl, hZ, hh⟩ := hPre
 have hx := Bd.exec
 have hby := Bd.bytes
 have hH : ∀ {pc r}, decode jdk_38_method_7_code pc = r → decode c.code pc = r := fun q => hb hby q
 have hml : c.maxLocals = 1 := hml0
 have hown : s.vm.findClass "java/util/ArrayList" = some m.cls := findClass_of_methodNamed Bd.named
 have hnm := (name_of_methodNamed Bd.named Bd.method).1
 have X0 : Stand p l e ({ frames := 2, cells := 1, slots := 10, locals := 36 } : Room) s m #[(.ref a)] below meth c s₁ [] 0 0 := Stand.of_body Bd
 have e0 : s₁.heap = h0 := by rw [← hh, Bd.state]; rfl
 have N0 := Fr.nil n0
 obtain ⟨E0, hE0⟩ : ∃ zE : State, zE = s₁.setTop (entryFrame m #[(.ref a)] 1) := ⟨_, rfl⟩
 have k0 : own_G p e below E0 s₁ (mkF m 0 #[vr a] []) := fun tz kz => hE0 ▸ castTop (ef_rmGr0 m a dE) kz
 have K0 : Keep h0 h0 [a] := Keep.refl _ _
 have kJ0 : own_G p e below E0 s₁ (mkF m 2 #[vr a] [(.ref a), (.ref a)]) := by
  intro tQ kk
  refine k0 tQ ?_
  refine XS.aloadN X0.here hx rfl (hH j38_7_0) rfl rfl ?_
  refine XS.aloadN X0.here hx rfl (hH j38_7_1) rfl rfl ?_
  exact kk
 clear k0
 obtain ⟨TJ1, XJ2, eJ3, stJ4⟩ := getF X0 hx hZ hown (host := "") (Or.inl (tw181 hw)) Via.refl e0 F2 (g := (mkF m 2 #[vr a] [(.ref a), (.ref a)])) rfl rfl (hH j38_7_2)
 have kJ5 : own_G p e below E0 TJ1 (mkF m 5 #[vr a] [(.int (0 : Int32)), (.ref a)]) := fun tQ kk => kJ0 tQ (stJ4 _ kk)
 clear kJ0 stJ4
 have kJ6 : own_G p e below E0 TJ1 (mkF m 7 #[vr a] [(.int (1 : Int32)), (.ref a)]) := by
  intro tQ kk
  refine kJ5 tQ ?_
  refine XS.iconst XJ2.here hx rfl (hH j38_7_5) ?_
  refine XS.iadd XJ2.here hx rfl (hH j38_7_6) rfl ?_
  exact kk
 clear kJ5
 obtain ⟨cqJI, qaJJ, qbJK⟩ := (Ins.self E1).cell
 obtain ⟨_, _, ⟨TJ7, LJ8, kcJ9, ncJA⟩, -, XJB, ⟨LcJC, hQJD, lJE, yJF, zJG⟩, stJH⟩ := XJ2.privateBack hx (y := mn135) hown (mvT hZ (tw214 hw)) (mvT hZ (tw215 hw)) (mvT hZ (tw217 hw)) (Cond.privateMethod_at (mvP hZ (tw216 hw) (args := #[]))) (mvT hZ (tw218 hw)) (by decide) (backOf (W := 0) (rmGrI l Z a0 hw [] a dE h0 n0 Z0 O1 E1 F1 F2 F3 A1 nd ge_a oD) hZ (tw218 hw) (tw12 hw) (by decide) (by decide)) (g := (mkF m 7 #[vr a] [(.int (1 : Int32)), (.ref a)])) rfl (by rw [hml]; rfl) (Steps.refl _) (a := a) (by rw [eJ3]; exact qaJJ) qbJK (argsL := [(.int (1 : Int32))]) (rest := []) (lenOf pd_138 rfl) rfl (by show 2 * 0 + _ ≤ _; exact Nat.le_of_eq rfl) (hH j38_7_7) (fun _ _ => ⟨rfl, eJ3, (by decide : 0 + 1 ≤ _), (by decide : 0 + 10 ≤ _)⟩)
 dsimp only [Pt.U, Pt.locs, Pt.cells, Pt.slots] at XJB lJE yJF zJG stJH hQJD
 subst yJF zJG
 obtain ⟨rJO, rfl, NJL, KJP, gJQ, gJR, gJS, gJT, nwJU⟩ := hQJD
 have NJV : Fr n0 LJ8 := by rw [lJE]; exact Fr.app N0 NJL
 clear lJE NJL
 have geJW : n0 ≤ rJO := Nat.le_trans Z0 nwJU
 have nwJX : h0.size ≤ rJO := Nat.le_trans K0.1 nwJU
 have nJY : a ≠ rJO := own_lt_ne2 E1.lt nwJU
 have nJZ : dE ≠ rJO := own_lt_ne2 A1.lt nwJU
 replace Z0 := Nat.le_trans Z0 KJP.1
 replace O1 := O1.keep KJP (allS ge_a all0)
 replace E1 := E1.keep KJP
 clear F1
 clear F2
 clear F3
 replace A1 := A1.keep KJP (ninS (fun q => nd q.symm) nin0)
 replace K0 := K0.trans KJP (allS (Or.inl (List.mem_of_getElem? (i := 0) rfl)) all0)
 have kK0 : own_G p e below E0 TJ7 (mkF m 10 #[vr a] [(.ref rJO)]) := fun tQ kk => kJ6 tQ (stJH.trans kk)
 clear kJ6 stJH
 obtain ⟨fs, hr, hrun, hended, hW, hsame⟩ := XJB.leave (v := some (.ref rJO)) (fun h => by rw [Bd.returns] at h; cases h)
 have hrun0 := kK0 _ (retOut XJB hx Bd.returns (t := (.array (.object "java/lang/Object"))) rfl (Or.inr (Or.inr (Or.inr (Or.inr ⟨rfl, rfl, rfl⟩)))) (hH j38_7_10) hr)
 subst hE0
 refine ⟨_, _, hrun0, hrun, hended, _, _, rfl, ?_, ⟨_, rfl⟩, hW, hsame.mono (by decide) (by decide)⟩
 show QrmGr0 Z a dE h0 n0 _ TJ7.heap _
 exact ⟨rJO, rfl, NJV, K0, gJQ, gJR, gJS, gJT, nwJX⟩
def QrmA30 (Z : State) (a : Addr) (b : Addr) (dE : Addr) (h0 : Heap) (n0 : Nat) (vQ : Option Value) (hQ : Heap) (LQ : List Loc) : Prop := ∃ (r : Addr), vQ = none ∧ Fr n0 LQ ∧ Keep h0 hQ [a] ∧ (fd30 Z hQ a (.ref r)) ∧ (fd31 Z hQ a (.int (1 : Int32))) ∧ (fd29 Z hQ a (.int (1 : Int32))) ∧ (own_O Z hQ r "java/lang/Object" [(.ref b), .null, .null, .null, .null, .null, .null, .null, .null, .null]) ∧ (h0.size ≤ r)
theorem ef_rmA30 (m : MethodId) (a : Addr) (b : Addr) (dE : Addr) : entryFrame m #[(.ref a), (.ref b), (.ref dE), (.int (0 : Int32))] 4 = mkF m 0 #[vr a, vr b, vr dE, vi (0 : Int32)] [] := by first | (simp [entryFrame, mkF, argsToLocals, Value.category]; done) | rfl
abbrev mn139 : MethodName := ⟨"java/util/ArrayList", "add", "(Ljava/lang/Object;[Ljava/lang/Object;I)V"⟩
theorem j38_24_0 : decode jdk_38_method_24_code 0 = .ok (.iload_n 3, 1) := by decide +kernel
theorem j38_24_1 : decode jdk_38_method_24_code 1 = .ok (.aload_n 2, 1) := by decide +kernel
theorem j38_24_2 : decode jdk_38_method_24_code 2 = .ok (.arraylength, 1) := by decide +kernel
theorem j38_24_3 : decode jdk_38_method_24_code 3 = .ok (.if_icmp .ne 8, 3) := by decide +kernel
theorem j38_24_6 : decode jdk_38_method_24_code 6 = .ok (.aload_n 0, 1) := by decide +kernel
theorem j38_24_7 : decode jdk_38_method_24_code 7 = .ok (.invokevirtual 129, 3) := by decide +kernel
def tw209 {Z a0} (hw : HW Z a0) := hw _ (List.mem_of_getElem? (i := 209) rfl)
def tw212 {Z a0} (hw : HW Z a0) := hw _ (List.mem_of_getElem? (i := 212) rfl)
def tw213 {Z a0} (hw : HW Z a0) := hw _ (List.mem_of_getElem? (i := 213) rfl)
theorem pd_140 : parseMethodDescriptor "()[Ljava/lang/Object;" = some ⟨[], some (.array (.object "java/lang/Object"))⟩ := by decide +kernel
def tw210 {Z a0} (hw : HW Z a0) := hw _ (List.mem_of_getElem? (i := 210) rfl)
def tw211 {Z a0} (hw : HW Z a0) := hw _ (List.mem_of_getElem? (i := 211) rfl)
theorem j38_24_10 : decode jdk_38_method_24_code 10 = .ok (.astore_n 2, 1) := by decide +kernel
theorem j38_24_11 : decode jdk_38_method_24_code 11 = .ok (.aload_n 2, 1) := by decide +kernel
theorem j38_24_12 : decode jdk_38_method_24_code 12 = .ok (.iload_n 3, 1) := by decide +kernel
theorem j38_24_13 : decode jdk_38_method_24_code 13 = .ok (.aload_n 1, 1) := by decide +kernel
theorem j38_24_14 : decode jdk_38_method_24_code 14 = .ok (.aastore, 1) := by decide +kernel
def tw225 {Z a0} (hw : HW Z a0) := hw _ (List.mem_of_getElem? (i := 225) rfl)
theorem j38_24_15 : decode jdk_38_method_24_code 15 = .ok (.aload_n 0, 1) := by decide +kernel
theorem j38_24_16 : decode jdk_38_method_24_code 16 = .ok (.iload_n 3, 1) := by decide +kernel
theorem j38_24_17 : decode jdk_38_method_24_code 17 = .ok (.iconst 1, 1) := by decide +kernel
theorem j38_24_18 : decode jdk_38_method_24_code 18 = .ok (.iadd, 1) := by decide +kernel
theorem j38_24_19 : decode jdk_38_method_24_code 19 = .ok (.putfield 48, 3) := by decide +kernel
theorem sn141 {Z a0} (hw : HW Z a0) : RoadKit.slotOf Z cn35 "elementData" "[Ljava/lang/Object;" ≠ RoadKit.slotOf Z cn35 "size" "I" := (slot_ne (C := cn35) (Or.inl (tw33 hw)) (Or.inl (tw182 hw)) (by decide) (t := (.array (.object "java/lang/Object"))) (t' := .int) (by decide) (by decide))
theorem sn142 {Z a0} (hw : HW Z a0) : RoadKit.slotOf Z cn36 "modCount" "I" ≠ RoadKit.slotOf Z cn35 "size" "I" := (slot_ne (C := cn35) (Or.inl (tw30 hw)) (Or.inl (tw182 hw)) (by decide) (t := .int) (t' := .int) (by decide) (by decide))
theorem j38_24_22 : decode jdk_38_method_24_code 22 = .ok (.return_, 1) := by decide +kernel
set_option maxRecDepth 65536 in
set_option maxHeartbeats 40000000 in
theorem rmA30 (l : Launch) (Z : State) (a0 : Array Value) (hw : ∀ d ∈ tables_1, d.before a0 Z = true) (ws : List Jvm.Cond) (a : Addr) (b : Addr) (dE : Addr) (h0 : Heap) (n0 : Nat) (Z0 : n0 ≤ h0.size) (O1 : Old Z n0 h0) (E1 : xa32 Z h0 a) (F1 : fd30 Z h0 a (.ref dE)) (F2 : fd31 Z h0 a (.int (0 : Int32))) (F3 : fd29 Z h0 a (.int (1 : Int32))) (A1 : own_A Z h0 dE (.object "java/lang/Object") []) (E2 : xa123 Z h0 b) (nd : a ≠ dE) (nb : a ≠ b) (ge_a : n0 ≤ a) (oD : Sta Z Z.heap "java/util/ArrayList" "DEFAULTCAPACITY_EMPTY_ELEMENTDATA" "[Ljava/lang/Object;" (.ref dE)) :
  MetFree l mn139 (head1 (Jvm.Cond.code mn139 jdk_38_method_24_code 4 none :: ws) ({ frames := 3, cells := 1, slots := 10, locals := 50 } : Room)) (fun aA U => aA = #[(.ref a), (.ref b), (.ref dE), (.int (0 : Int32))] ∧ Z.Warmed39 U.vm ∧ U.heap = h0) (fun _ _ _ _ _ => True) (fun _ U o U' => ∃ vR LR, o = .returned vR ∧ QrmA30 Z a b dE h0 n0 vR U'.heap LR ∧ FrameEnd U o U' LR ({ frames := 3, cells := 1, slots := 10, locals := 50 } : Room).cells ({ frames := 3, cells := 1, slots := 10, locals := 50 } : Room).slots) := by
 refine MetFree.of_bodySF (plainFor_of_name pn_java_util_ArrayList) hisR ?_
 intro p e s m args below meth c s₁ Bd hml0 hPre hKk
 obtain ⟨rfl, hZ, hh⟩ := hPre
 have hx := Bd.exec
 have hby := Bd.bytes
 have hH : ∀ {pc r}, decode jdk_38_method_24_code pc = r → decode c.code pc = r := fun q => hb hby q
 have hml : c.maxLocals = 4 := hml0
 have hown : s.vm.findClass "java/util/ArrayList" = some m.cls := findClass_of_methodNamed Bd.named
 have hnm := (name_of_methodNamed Bd.named Bd.method).1
 have X0 : Stand p l e ({ frames := 3, cells := 1, slots := 10, locals := 50 } : Room) s m #[(.ref a), (.ref b), (.ref dE), (.int (0 : Int32))] below meth c s₁ [] 0 0 := Stand.of_body Bd
 have e0 : s₁.heap = h0 := by rw [← hh, Bd.state]; rfl
 have N0 := Fr.nil n0
 obtain ⟨E0, hE0⟩ : ∃ zE : State, zE = s₁.setTop (entryFrame m #[(.ref a), (.ref b), (.ref dE), (.int (0 : Int32))] 4) := ⟨_, rfl⟩
 have k0 : own_G p e below E0 s₁ (mkF m 0 #[vr a, vr b, vr dE, vi (0 : Int32)] []) := fun tz kz => hE0 ▸ castTop (ef_rmA30 m a b dE) kz
 have K0 : Keep h0 h0 [a] := Keep.refl _ _
 have kJ0 : own_G p e below E0 s₁ (mkF m 2 #[vr a, vr b, vr dE, vi (0 : Int32)] [(.ref dE), (.int (0 : Int32))]) := by
  intro tQ kk
  refine k0 tQ ?_
  refine XS.iloadN X0.here hx rfl (hH j38_24_0) rfl ?_
  refine XS.aloadN X0.here hx rfl (hH j38_24_1) rfl rfl ?_
  exact kk
 clear k0
 have stJ1 := fun tQ => own_A.len X0 hx hZ e0 A1 (g := (mkF m 2 #[vr a, vr b, vr dE, vi (0 : Int32)] [(.ref dE), (.int (0 : Int32))])) rfl rfl (hH j38_24_2) tQ
 have kJ2 : own_G p e below E0 s₁ (mkF m 3 #[vr a, vr b, vr dE, vi (0 : Int32)] [(.int (0 : Int32)), (.int (0 : Int32))]) := fun tQ kk => kJ0 tQ (stJ1 _ kk)
 clear kJ0 stJ1
 have kJ3 : own_G p e below E0 s₁ (mkF m 7 #[vr a, vr b, vr dE, vi (0 : Int32)] [(.ref a)]) := by
  intro tQ kk
  refine kJ2 tQ ?_
  refine XS.icmpNo X0.here hx rfl (hH j38_24_3) rfl (own_ic_neN (by decide)) ?_
  refine XS.aloadN X0.here hx rfl (hH j38_24_6) rfl rfl ?_
  exact kk
 clear kJ2
 obtain ⟨cqJF, qaJG, qbJH⟩ := (Ins.self E1).cell
 obtain ⟨_, _, ⟨TJ4, LJ5, kcJ6, ncJ7⟩, -, XJ8, ⟨LcJ9, hQJA, lJB, yJC, zJD⟩, stJE⟩ := X0.privateBack hx (y := mn137) hown (mvT hZ (tw209 hw)) (mvT hZ (tw210 hw)) (mvT hZ (tw212 hw)) (Cond.privateMethod_at (mvP hZ (tw211 hw) (args := #[]))) (mvT hZ (tw213 hw)) (by decide) (backOf (W := 0) (rmGr0 l Z a0 hw [] a dE h0 n0 Z0 O1 E1 F1 F2 F3 A1 nd ge_a oD) hZ (tw213 hw) (tw12 hw) (by decide) (by decide)) (g := (mkF m 7 #[vr a, vr b, vr dE, vi (0 : Int32)] [(.ref a)])) rfl (by rw [hml]; rfl) (Steps.refl _) (a := a) (by rw [e0]; exact qaJG) qbJH (argsL := []) (rest := []) (lenOf pd_140 rfl) rfl (by show 2 * 0 + _ ≤ _; exact Nat.le_of_eq rfl) (hH j38_24_7) (fun _ _ => ⟨rfl, e0, (by decide : 0 + 1 ≤ _), (by decide : 0 + 10 ≤ _)⟩)
 dsimp only [Pt.U, Pt.locs, Pt.cells, Pt.slots] at XJ8 lJB yJC zJD stJE hQJA
 subst yJC zJD
 obtain ⟨rJL, rfl, NJI, KJM, gJN, gJO, gJP, gJQ, nwJR⟩ := hQJA
 have NJS : Fr n0 LJ5 := by rw [lJB]; exact Fr.app N0 NJI
 clear lJB NJI
 have geJT : n0 ≤ rJL := Nat.le_trans Z0 nwJR
 have nwJU : h0.size ≤ rJL := Nat.le_trans K0.1 nwJR
 have nJV : a ≠ rJL := own_lt_ne2 E1.lt nwJR
 have nJW : dE ≠ rJL := own_lt_ne2 A1.lt nwJR
 have nJX : b ≠ rJL := own_lt_ne2 E2.lt nwJR
 replace Z0 := Nat.le_trans Z0 KJM.1
 replace O1 := O1.keep KJM (allS ge_a all0)
 replace E1 := E1.keep KJM
 clear F1
 clear F2
 clear F3
 replace A1 := A1.keep KJM (ninS (fun q => nd q.symm) nin0)
 replace E2 := E2.keep KJM
 replace K0 := K0.trans KJM (allS (Or.inl (List.mem_of_getElem? (i := 0) rfl)) all0)
 have kJY : own_G p e below E0 TJ4 (mkF m 10 #[vr a, vr b, vr dE, vi (0 : Int32)] [(.ref rJL)]) := fun tQ kk => kJ3 tQ (stJE.trans kk)
 clear kJ3 stJE
 have kJZ : own_G p e below E0 TJ4 (mkF m 14 #[vr a, vr b, vr rJL, vi (0 : Int32)] [(.ref b), (.int (0 : Int32)), (.ref rJL)]) := by
  intro tQ kk
  refine kJY tQ ?_
  refine XS.astoreN XJ8.here hx rfl (hH j38_24_10) rfl rfl (l' := #[vr a, vr b, vr rJL, vi (0 : Int32)]) rfl ?_
  refine XS.aloadN XJ8.here hx rfl (hH j38_24_11) rfl rfl ?_
  refine XS.iloadN XJ8.here hx rfl (hH j38_24_12) rfl ?_
  refine XS.aloadN XJ8.here hx rfl (hH j38_24_13) rfl rfl ?_
  exact kk
 clear kJY
 obtain ⟨TK0, hK1, XK2, eK3, WK4, FK5, stK6⟩ := own_O.ast XJ8 hx hZ rfl gJQ (j := (0 : Int32)) (by decide) rfl (Ins.of_exa E2 (tw225 hw)) (g := (mkF m 14 #[vr a, vr b, vr rJL, vi (0 : Int32)] [(.ref b), (.int (0 : Int32)), (.ref rJL)])) rfl rfl (hH j38_24_14)
 have NK7 := Fr.snoc XK2 NJS geJT
 have kK8 : own_G p e below E0 TK0 (mkF m 15 #[vr a, vr b, vr rJL, vi (0 : Int32)] []) := fun tQ kk => kJZ tQ (stK6 _ kk)
 clear kJZ stK6
 replace O1 := O1.wr WK4 geJT
 replace E1 := E1.wr WK4
 replace A1 := A1.other WK4 nJW
 replace E2 := E2.wr WK4
 replace gJN := gJN.other WK4 (Or.inl nJV)
 replace gJO := gJO.other WK4 (Or.inl nJV)
 replace gJP := gJP.other WK4 (Or.inl nJV)
 replace Z0 := own_wrle WK4 Z0
 replace K0 := K0.wr WK4 (Or.inr nwJU)
 have FK9 : own_O Z hK1 rJL "java/lang/Object" [(.ref b), .null, .null, .null, .null, .null, .null, .null, .null, .null] := FK5
 have kKA : own_G p e below E0 TK0 (mkF m 19 #[vr a, vr b, vr rJL, vi (0 : Int32)] [(.int (1 : Int32)), (.ref a)]) := by
  intro tQ kk
  refine kK8 tQ ?_
  refine XS.aloadN XK2.here hx rfl (hH j38_24_15) rfl rfl ?_
  refine XS.iloadN XK2.here hx rfl (hH j38_24_16) rfl ?_
  refine XS.iconst XK2.here hx rfl (hH j38_24_17) ?_
  refine XS.iadd XK2.here hx rfl (hH j38_24_18) rfl ?_
  exact kk
 clear kK8
 obtain ⟨TKB, hKC, XKD, eKE, WKF, stKG⟩ := putF XK2 hx hZ hown (host := "") (Or.inl (tw181 hw)) Via.refl eK3 gJO E1 (Or.inl (tw182 hw)) (tw11 hw) (ty := .int) (by decide) rfl rfl (g := (mkF m 19 #[vr a, vr b, vr rJL, vi (0 : Int32)] [(.int (1 : Int32)), (.ref a)])) rfl rfl (hH j38_24_19)
 have NKH := Fr.snoc XKD NK7 ge_a
 have kKI : own_G p e below E0 TKB (mkF m 22 #[vr a, vr b, vr rJL, vi (0 : Int32)] []) := fun tQ kk => kKA tQ (stKG _ kk)
 clear kKA stKG
 replace O1 := O1.wr WKF ge_a
 replace E1 := E1.wr WKF
 replace A1 := A1.other WKF (fun q => nd q.symm)
 replace E2 := E2.wr WKF
 replace gJN := gJN.other WKF (Or.inr (sn141 hw))
 replace gJO := gJO.same WKF
 replace gJP := gJP.other WKF (Or.inr (sn142 hw))
 replace FK9 := FK9.other WKF (Ne.symm nJV)
 replace Z0 := own_wrle WKF Z0
 replace K0 := K0.wr WKF (Or.inl (List.mem_of_getElem? (i := 0) rfl))
 obtain ⟨fs, hr, hrun, hended, hW, hsame⟩ := XKD.leave (v := none) (fun _ => rfl)
 have hrun0 := kKI _ (XKD.returnOut hx Bd.returns (hH j38_24_22) hr)
 subst hE0
 refine ⟨_, _, hrun0, hrun, hended, _, _, rfl, ?_, ⟨_, rfl⟩, hW, hsame.mono (by decide) (by decide)⟩
 show QrmA30 Z a b dE h0 n0 _ TKB.heap _
 rw [eKE]
 exact ⟨rJL, rfl, NKH, K0, gJN, gJO, gJP, FK9, nwJU⟩
def QrmAd0 (Z : State) (a : Addr) (b : Addr) (dE : Addr) (h0 : Heap) (n0 : Nat) (vQ : Option Value) (hQ : Heap) (LQ : List Loc) : Prop := ∃ (r : Addr), vQ = some (.int (1 : Int32)) ∧ Fr n0 LQ ∧ Keep h0 hQ [a] ∧ (fd30 Z hQ a (.ref r)) ∧ (fd31 Z hQ a (.int (1 : Int32))) ∧ (fd29 Z hQ a (.int (1 : Int32))) ∧ (own_O Z hQ r "java/lang/Object" [(.ref b), .null, .null, .null, .null, .null, .null, .null, .null, .null]) ∧ (h0.size ≤ r)
theorem ef_rmAd0 (m : MethodId) (a : Addr) (b : Addr) (dE : Addr) : entryFrame m #[(.ref a), (.ref b)] 2 = mkF m 0 #[vr a, vr b] [] := by first | (simp [entryFrame, mkF, argsToLocals, Value.category]; done) | rfl
abbrev mn143 : MethodName := ⟨"java/util/ArrayList", "add", "(Ljava/lang/Object;)Z"⟩
theorem j38_25_0 : decode jdk_38_method_25_code 0 = .ok (.aload_n 0, 1) := by decide +kernel
theorem j38_25_1 : decode jdk_38_method_25_code 1 = .ok (.dup, 1) := by decide +kernel
theorem j38_25_2 : decode jdk_38_method_25_code 2 = .ok (.getfield 63, 3) := by decide +kernel
def tw202 {Z a0} (hw : HW Z a0) := hw _ (List.mem_of_getElem? (i := 202) rfl)
def tw203 {Z a0} (hw : HW Z a0) := hw _ (List.mem_of_getElem? (i := 203) rfl)
theorem j38_25_5 : decode jdk_38_method_25_code 5 = .ok (.iconst 1, 1) := by decide +kernel
theorem j38_25_6 : decode jdk_38_method_25_code 6 = .ok (.iadd, 1) := by decide +kernel
theorem j38_25_7 : decode jdk_38_method_25_code 7 = .ok (.putfield 63, 3) := by decide +kernel
theorem j38_25_10 : decode jdk_38_method_25_code 10 = .ok (.aload_n 0, 1) := by decide +kernel
theorem j38_25_11 : decode jdk_38_method_25_code 11 = .ok (.aload_n 1, 1) := by decide +kernel
theorem j38_25_12 : decode jdk_38_method_25_code 12 = .ok (.aload_n 0, 1) := by decide +kernel
theorem j38_25_13 : decode jdk_38_method_25_code 13 = .ok (.getfield 9, 3) := by decide +kernel
theorem j38_25_16 : decode jdk_38_method_25_code 16 = .ok (.aload_n 0, 1) := by decide +kernel
theorem j38_25_17 : decode jdk_38_method_25_code 17 = .ok (.getfield 48, 3) := by decide +kernel
theorem j38_25_20 : decode jdk_38_method_25_code 20 = .ok (.invokevirtual 131, 3) := by decide +kernel
def tw204 {Z a0} (hw : HW Z a0) := hw _ (List.mem_of_getElem? (i := 204) rfl)
def tw207 {Z a0} (hw : HW Z a0) := hw _ (List.mem_of_getElem? (i := 207) rfl)
def tw208 {Z a0} (hw : HW Z a0) := hw _ (List.mem_of_getElem? (i := 208) rfl)
theorem pd_144 : parseMethodDescriptor "(Ljava/lang/Object;[Ljava/lang/Object;I)V" = some ⟨[(.object "java/lang/Object"), (.array (.object "java/lang/Object")), .int], none⟩ := by decide +kernel
def tw205 {Z a0} (hw : HW Z a0) := hw _ (List.mem_of_getElem? (i := 205) rfl)
def tw206 {Z a0} (hw : HW Z a0) := hw _ (List.mem_of_getElem? (i := 206) rfl)
theorem j38_25_23 : decode jdk_38_method_25_code 23 = .ok (.iconst 1, 1) := by decide +kernel
theorem j38_25_24 : decode jdk_38_method_25_code 24 = .ok (.ireturn, 1) := by decide +kernel
set_option maxRecDepth 65536 in
set_option maxHeartbeats 40000000 in
theorem rmAd0 (l : Launch) (Z : State) (a0 : Array Value) (hw : ∀ d ∈ tables_1, d.before a0 Z = true) (ws : List Jvm.Cond) (a : Addr) (b : Addr) (dE : Addr) (h0 : Heap) (n0 : Nat) (Z0 : n0 ≤ h0.size) (O1 : Old Z n0 h0) (E1 : xa32 Z h0 a) (F1 : fd30 Z h0 a (.ref dE)) (F2 : fd31 Z h0 a (.int (0 : Int32))) (F3 : fd29 Z h0 a (.int (0 : Int32))) (A1 : own_A Z h0 dE (.object "java/lang/Object") []) (E2 : xa123 Z h0 b) (nd : a ≠ dE) (nb : a ≠ b) (ge_a : n0 ≤ a) (oD : Sta Z Z.heap "java/util/ArrayList" "DEFAULTCAPACITY_EMPTY_ELEMENTDATA" "[Ljava/lang/Object;" (.ref dE)) :
  MetFree l mn143 (head1 (Jvm.Cond.code mn143 jdk_38_method_25_code 2 (some .boolean) :: ws) ({ frames := 4, cells := 1, slots := 10, locals := 68 } : Room)) (fun aA U => aA = #[(.ref a), (.ref b)] ∧ Z.Warmed39 U.vm ∧ U.heap = h0) (fun _ _ _ _ _ => True) (fun _ U o U' => ∃ vR LR, o = .returned vR ∧ QrmAd0 Z a b dE h0 n0 vR U'.heap LR ∧ FrameEnd U o U' LR ({ frames := 4, cells := 1, slots := 10, locals := 68 } : Room).cells ({ frames := 4, cells := 1, slots := 10, locals := 68 } : Room).slots) := by
 refine MetFree.of_bodySF (plainFor_of_name pn_java_util_ArrayList) hisR ?_
 intro p e s m args below meth c s₁ Bd hml0 hPre hKk
 obtain ⟨rfl, hZ, hh⟩ := hPre
 have hx := Bd.exec
 have hby := Bd.bytes
 have hH : ∀ {pc r}, decode jdk_38_method_25_code pc = r → decode c.code pc = r := fun q => hb hby q
 have hml : c.maxLocals = 2 := hml0
 have hown : s.vm.findClass "java/util/ArrayList" = some m.cls := findClass_of_methodNamed Bd.named
 have hnm := (name_of_methodNamed Bd.named Bd.method).1
 have X0 : Stand p l e ({ frames := 4, cells := 1, slots := 10, locals := 68 } : Room) s m #[(.ref a), (.ref b)] below meth c s₁ [] 0 0 := Stand.of_body Bd
 have e0 : s₁.heap = h0 := by rw [← hh, Bd.state]; rfl
 have N0 := Fr.nil n0
 obtain ⟨E0, hE0⟩ : ∃ zE : State, zE = s₁.setTop (entryFrame m #[(.ref a), (.ref b)] 2) := ⟨_, rfl⟩
 have k0 : own_G p e below E0 s₁ (mkF m 0 #[vr a, vr b] []) := fun tz kz => hE0 ▸ castTop (ef_rmAd0 m a b dE) kz
 have K0 : Keep h0 h0 [a] := Keep.refl _ _
 have kJ0 : own_G p e below E0 s₁ (mkF m 2 #[vr a, vr b] [(.ref a), (.ref a)]) := by
  intro tQ kk
  refine k0 tQ ?_
  refine XS.aloadN X0.here hx rfl (hH j38_25_0) rfl rfl ?_
  refine XS.dup X0.here hx rfl (hH j38_25_1) rfl rfl ?_
  exact kk
 clear k0
 obtain ⟨TJ1, XJ2, eJ3, stJ4⟩ := getF X0 hx hZ hown (host := "") (Or.inl (tw202 hw)) (Via.of (tw203 hw)) e0 F3 (g := (mkF m 2 #[vr a, vr b] [(.ref a), (.ref a)])) rfl rfl (hH j38_25_2)
 have kJ5 : own_G p e below E0 TJ1 (mkF m 5 #[vr a, vr b] [(.int (0 : Int32)), (.ref a)]) := fun tQ kk => kJ0 tQ (stJ4 _ kk)
 clear kJ0 stJ4
 have kJ6 : own_G p e below E0 TJ1 (mkF m 7 #[vr a, vr b] [(.int (1 : Int32)), (.ref a)]) := by
  intro tQ kk
  refine kJ5 tQ ?_
  refine XS.iconst XJ2.here hx rfl (hH j38_25_5) ?_
  refine XS.iadd XJ2.here hx rfl (hH j38_25_6) rfl ?_
  exact kk
 clear kJ5
 obtain ⟨TJ7, hJ8, XJ9, eJA, WJB, stJC⟩ := putF XJ2 hx hZ hown (host := "") (Or.inl (tw202 hw)) (Via.of (tw203 hw)) eJ3 F3 E1 (Or.inl (tw30 hw)) (tw11 hw) (ty := .int) (by decide) rfl rfl (g := (mkF m 7 #[vr a, vr b] [(.int (1 : Int32)), (.ref a)])) rfl rfl (hH j38_25_7)
 have NJD := Fr.snoc XJ9 N0 ge_a
 have kJE : own_G p e below E0 TJ7 (mkF m 10 #[vr a, vr b] []) := fun tQ kk => kJ6 tQ (stJC _ kk)
 clear kJ6 stJC
 replace O1 := O1.wr WJB ge_a
 replace E1 := E1.wr WJB
 replace F1 := F1.other WJB (Or.inr (sn34 hw))
 replace F2 := F2.other WJB (Or.inr (sn37 hw))
 replace F3 := F3.same WJB
 replace A1 := A1.other WJB (fun q => nd q.symm)
 replace E2 := E2.wr WJB
 replace Z0 := own_wrle WJB Z0
 replace K0 := K0.wr WJB (Or.inl (List.mem_of_getElem? (i := 0) rfl))
 have kJF : own_G p e below E0 TJ7 (mkF m 13 #[vr a, vr b] [(.ref a), (.ref b), (.ref a)]) := by
  intro tQ kk
  refine kJE tQ ?_
  refine XS.aloadN XJ9.here hx rfl (hH j38_25_10) rfl rfl ?_
  refine XS.aloadN XJ9.here hx rfl (hH j38_25_11) rfl rfl ?_
  refine XS.aloadN XJ9.here hx rfl (hH j38_25_12) rfl rfl ?_
  exact kk
 clear kJE
 obtain ⟨TJG, XJH, eJI, stJJ⟩ := getF XJ9 hx hZ hown (host := "") (Or.inl (tw32 hw)) Via.refl eJA F1 (g := (mkF m 13 #[vr a, vr b] [(.ref a), (.ref b), (.ref a)])) rfl rfl (hH j38_25_13)
 have kJK : own_G p e below E0 TJG (mkF m 16 #[vr a, vr b] [(.ref dE), (.ref b), (.ref a)]) := fun tQ kk => kJF tQ (stJJ _ kk)
 clear kJF stJJ
 have kJL : own_G p e below E0 TJG (mkF m 17 #[vr a, vr b] [(.ref a), (.ref dE), (.ref b), (.ref a)]) := by
  intro tQ kk
  refine kJK tQ ?_
  refine XS.aloadN XJH.here hx rfl (hH j38_25_16) rfl rfl ?_
  exact kk
 clear kJK
 obtain ⟨TJM, XJN, eJO, stJP⟩ := getF XJH hx hZ hown (host := "") (Or.inl (tw181 hw)) Via.refl eJI F2 (g := (mkF m 17 #[vr a, vr b] [(.ref a), (.ref dE), (.ref b), (.ref a)])) rfl rfl (hH j38_25_17)
 have kJQ : own_G p e below E0 TJM (mkF m 20 #[vr a, vr b] [(.int (0 : Int32)), (.ref dE), (.ref b), (.ref a)]) := fun tQ kk => kJL tQ (stJP _ kk)
 clear kJL stJP
 obtain ⟨cqK2, qaK3, qbK4⟩ := (Ins.self E1).cell
 obtain ⟨_, _, ⟨TJR, LJS, kcJT, ncJU⟩, -, XJV, ⟨LcJW, hQJX, lJY, yJZ, zK0⟩, stK1⟩ := XJN.privateBack hx (y := mn139) hown (mvT hZ (tw204 hw)) (mvT hZ (tw205 hw)) (mvT hZ (tw207 hw)) (Cond.privateMethod_at (mvP hZ (tw206 hw) (args := #[]))) (mvT hZ (tw208 hw)) (by decide) (backOf (W := 0) (rmA30 l Z a0 hw [] a b dE hJ8 n0 Z0 O1 E1 F1 F2 F3 A1 E2 nd nb ge_a oD) hZ (tw208 hw) (tw12 hw) (by decide) (by decide)) (g := (mkF m 20 #[vr a, vr b] [(.int (0 : Int32)), (.ref dE), (.ref b), (.ref a)])) rfl (by rw [hml]; rfl) (Steps.refl _) (a := a) (by rw [eJO]; exact qaK3) qbK4 (argsL := [(.ref b), (.ref dE), (.int (0 : Int32))]) (rest := []) (lenOf pd_144 rfl) rfl (by show 2 * 0 + _ ≤ _; exact Nat.le_of_eq rfl) (hH j38_25_20) (fun _ _ => ⟨rfl, eJO, (by decide : 0 + 1 ≤ _), (by decide : 0 + 10 ≤ _)⟩)
 dsimp only [Pt.U, Pt.locs, Pt.cells, Pt.slots] at XJV lJY yJZ zK0 stK1 hQJX
 subst yJZ zK0
 obtain ⟨rK8, rfl, NK5, KK9, gKA, gKB, gKC, gKD, nwKE⟩ := hQJX
 have NKF : Fr n0 LJS := by rw [lJY]; exact Fr.app NJD NK5
 clear lJY NK5
 have geKG : n0 ≤ rK8 := Nat.le_trans Z0 nwKE
 have nwKH : h0.size ≤ rK8 := Nat.le_trans K0.1 nwKE
 have nKI : a ≠ rK8 := own_lt_ne2 E1.lt nwKE
 have nKJ : dE ≠ rK8 := own_lt_ne2 A1.lt nwKE
 have nKK : b ≠ rK8 := own_lt_ne2 E2.lt nwKE
 replace Z0 := Nat.le_trans Z0 KK9.1
 replace O1 := O1.keep KK9 (allS ge_a all0)
 replace E1 := E1.keep KK9
 clear F1
 clear F2
 clear F3
 replace A1 := A1.keep KK9 (ninS (fun q => nd q.symm) nin0)
 replace E2 := E2.keep KK9
 replace K0 := K0.trans KK9 (allS (Or.inl (List.mem_of_getElem? (i := 0) rfl)) all0)
 have kKL : own_G p e below E0 TJR (mkF m 23 #[vr a, vr b] []) := fun tQ kk => kJQ tQ (stK1.trans kk)
 clear kJQ stK1
 have kKM : own_G p e below E0 TJR (mkF m 24 #[vr a, vr b] [(.int (1 : Int32))]) := by
  intro tQ kk
  refine kKL tQ ?_
  refine XS.iconst XJV.here hx rfl (hH j38_25_23) ?_
  exact kk
 clear kKL
 obtain ⟨fs, hr, hrun, hended, hW, hsame⟩ := XJV.leave (v := some (.int (1 : Int32))) (fun h => by rw [Bd.returns] at h; cases h)
 have hrun0 := kKM _ (retOut XJV hx Bd.returns (t := .boolean) rfl (Or.inl ⟨rfl, Or.inr (Or.inl rfl), _, rfl⟩) (hH j38_25_24) hr)
 subst hE0
 refine ⟨_, _, hrun0, hrun, hended, _, _, rfl, ?_, ⟨_, rfl⟩, hW, hsame.mono (by decide) (by decide)⟩
 show QrmAd0 Z a b dE h0 n0 _ TJR.heap _
 exact ⟨rK8, rfl, NKF, K0, gKA, gKB, gKC, gKD, nwKH⟩
def QrmA31 (Z : State) (a : Addr) (b : Addr) (x0 : Addr) (r : Addr) (h0 : Heap) (n0 : Nat) (vQ : Option Value) (hQ : Heap) (LQ : List Loc) : Prop := vQ = none ∧ Fr n0 LQ ∧ Keep h0 hQ [a, r] ∧ (fd30 Z hQ a (.ref r)) ∧ (fd31 Z hQ a (.int (2 : Int32))) ∧ (fd29 Z hQ a (.int (2 : Int32))) ∧ (own_O Z hQ r "java/lang/Object" [(.ref x0), (.ref b), .null, .null, .null, .null, .null, .null, .null, .null])
theorem ef_rmA31 (m : MethodId) (a : Addr) (b : Addr) (x0 : Addr) (r : Addr) : entryFrame m #[(.ref a), (.ref b), (.ref r), (.int (1 : Int32))] 4 = mkF m 0 #[vr a, vr b, vr r, vi (1 : Int32)] [] := by first | (simp [entryFrame, mkF, argsToLocals, Value.category]; done) | rfl
set_option maxRecDepth 65536 in
set_option maxHeartbeats 40000000 in
theorem rmA31 (l : Launch) (Z : State) (a0 : Array Value) (hw : ∀ d ∈ tables_1, d.before a0 Z = true) (ws : List Jvm.Cond) (a : Addr) (b : Addr) (x0 : Addr) (r : Addr) (h0 : Heap) (n0 : Nat) (Z0 : n0 ≤ h0.size) (E1 : xa32 Z h0 a) (F1 : fd30 Z h0 a (.ref r)) (F2 : fd31 Z h0 a (.int (1 : Int32))) (A1 : own_O Z h0 r "java/lang/Object" [(.ref x0), .null, .null, .null, .null, .null, .null, .null, .null, .null]) (E2 : xa123 Z h0 b) (F3 : fd29 Z h0 a (.int (2 : Int32))) (nd : a ≠ r) (nb : a ≠ b) (nc : b ≠ r) (ge_a : n0 ≤ a) (ge_r : n0 ≤ r) :
  MetFree l mn139 (head1 (Jvm.Cond.code mn139 jdk_38_method_24_code 4 none :: ws) ({ frames := 0, cells := 0, slots := 0, locals := 0 } : Room)) (fun aA U => aA = #[(.ref a), (.ref b), (.ref r), (.int (1 : Int32))] ∧ Z.Warmed39 U.vm ∧ U.heap = h0) (fun _ _ _ _ _ => True) (fun _ U o U' => ∃ vR LR, o = .returned vR ∧ QrmA31 Z a b x0 r h0 n0 vR U'.heap LR ∧ FrameEnd U o U' LR ({ frames := 0, cells := 0, slots := 0, locals := 0 } : Room).cells ({ frames := 0, cells := 0, slots := 0, locals := 0 } : Room).slots) := by
 refine MetFree.of_bodySF (plainFor_of_name pn_java_util_ArrayList) hisR ?_
 intro p e s m args below meth c s₁ Bd hml0 hPre hKk
 obtain ⟨rfl, hZ, hh⟩ := hPre
 have hx := Bd.exec
 have hby := Bd.bytes
 have hH : ∀ {pc r}, decode jdk_38_method_24_code pc = r → decode c.code pc = r := fun q => hb hby q
 have hml : c.maxLocals = 4 := hml0
 have hown : s.vm.findClass "java/util/ArrayList" = some m.cls := findClass_of_methodNamed Bd.named
 have hnm := (name_of_methodNamed Bd.named Bd.method).1
 have X0 : Stand p l e ({ frames := 0, cells := 0, slots := 0, locals := 0 } : Room) s m #[(.ref a), (.ref b), (.ref r), (.int (1 : Int32))] below meth c s₁ [] 0 0 := Stand.of_body Bd
 have e0 : s₁.heap = h0 := by rw [← hh, Bd.state]; rfl
 have N0 := Fr.nil n0
 obtain ⟨E0, hE0⟩ : ∃ zE : State, zE = s₁.setTop (entryFrame m #[(.ref a), (.ref b), (.ref r), (.int (1 : Int32))] 4) := ⟨_, rfl⟩
 have k0 : own_G p e below E0 s₁ (mkF m 0 #[vr a, vr b, vr r, vi (1 : Int32)] []) := fun tz kz => hE0 ▸ castTop (ef_rmA31 m a b x0 r) kz
 have K0 : Keep h0 h0 [a, r] := Keep.refl _ _
 have kJ0 : own_G p e below E0 s₁ (mkF m 2 #[vr a, vr b, vr r, vi (1 : Int32)] [(.ref r), (.int (1 : Int32))]) := by
  intro tQ kk
  refine k0 tQ ?_
  refine XS.iloadN X0.here hx rfl (hH j38_24_0) rfl ?_
  refine XS.aloadN X0.here hx rfl (hH j38_24_1) rfl rfl ?_
  exact kk
 clear k0
 have stJ1 := fun tQ => own_O.len X0 hx hZ e0 A1 (g := (mkF m 2 #[vr a, vr b, vr r, vi (1 : Int32)] [(.ref r), (.int (1 : Int32))])) rfl rfl (hH j38_24_2) tQ
 have kJ2 : own_G p e below E0 s₁ (mkF m 3 #[vr a, vr b, vr r, vi (1 : Int32)] [(.int (10 : Int32)), (.int (1 : Int32))]) := fun tQ kk => kJ0 tQ (stJ1 _ kk)
 clear kJ0 stJ1
 have kJ3 : own_G p e below E0 s₁ (mkF m 14 #[vr a, vr b, vr r, vi (1 : Int32)] [(.ref b), (.int (1 : Int32)), (.ref r)]) := by
  intro tQ kk
  refine kJ2 tQ ?_
  refine XS.icmpYes X0.here hx rfl (pc0 := 3) (pc' := 11) rfl (hH j38_24_3) rfl (own_ic_neY (by decide)) (by decide) (by decide) ?_
  refine XS.aloadN X0.here hx rfl (hH j38_24_11) rfl rfl ?_
  refine XS.iloadN X0.here hx rfl (hH j38_24_12) rfl ?_
  refine XS.aloadN X0.here hx rfl (hH j38_24_13) rfl rfl ?_
  exact kk
 clear kJ2
 obtain ⟨TJ4, hJ5, XJ6, eJ7, WJ8, FJ9, stJA⟩ := own_O.ast X0 hx hZ e0 A1 (j := (1 : Int32)) (by decide) rfl (Ins.of_exa E2 (tw225 hw)) (g := (mkF m 14 #[vr a, vr b, vr r, vi (1 : Int32)] [(.ref b), (.int (1 : Int32)), (.ref r)])) rfl rfl (hH j38_24_14)
 have NJB := Fr.snoc XJ6 N0 ge_r
 have kJC : own_G p e below E0 TJ4 (mkF m 15 #[vr a, vr b, vr r, vi (1 : Int32)] []) := fun tQ kk => kJ3 tQ (stJA _ kk)
 clear kJ3 stJA
 replace E1 := E1.wr WJ8
 replace F1 := F1.other WJ8 (Or.inl nd)
 replace F2 := F2.other WJ8 (Or.inl nd)
 replace E2 := E2.wr WJ8
 replace F3 := F3.other WJ8 (Or.inl nd)
 replace Z0 := own_wrle WJ8 Z0
 replace K0 := K0.wr WJ8 (Or.inl (List.mem_of_getElem? (i := 1) rfl))
 have FJD : own_O Z hJ5 r "java/lang/Object" [(.ref x0), (.ref b), .null, .null, .null, .null, .null, .null, .null, .null] := FJ9
 have kJE : own_G p e below E0 TJ4 (mkF m 19 #[vr a, vr b, vr r, vi (1 : Int32)] [(.int (2 : Int32)), (.ref a)]) := by
  intro tQ kk
  refine kJC tQ ?_
  refine XS.aloadN XJ6.here hx rfl (hH j38_24_15) rfl rfl ?_
  refine XS.iloadN XJ6.here hx rfl (hH j38_24_16) rfl ?_
  refine XS.iconst XJ6.here hx rfl (hH j38_24_17) ?_
  refine XS.iadd XJ6.here hx rfl (hH j38_24_18) rfl ?_
  exact kk
 clear kJC
 obtain ⟨TJF, hJG, XJH, eJI, WJJ, stJK⟩ := putF XJ6 hx hZ hown (host := "") (Or.inl (tw181 hw)) Via.refl eJ7 F2 E1 (Or.inl (tw182 hw)) (tw11 hw) (ty := .int) (by decide) rfl rfl (g := (mkF m 19 #[vr a, vr b, vr r, vi (1 : Int32)] [(.int (2 : Int32)), (.ref a)])) rfl rfl (hH j38_24_19)
 have NJL := Fr.snoc XJH NJB ge_a
 have kJM : own_G p e below E0 TJF (mkF m 22 #[vr a, vr b, vr r, vi (1 : Int32)] []) := fun tQ kk => kJE tQ (stJK _ kk)
 clear kJE stJK
 replace E1 := E1.wr WJJ
 replace F1 := F1.other WJJ (Or.inr (sn141 hw))
 replace F2 := F2.same WJJ
 replace E2 := E2.wr WJJ
 replace F3 := F3.other WJJ (Or.inr (sn142 hw))
 replace FJD := FJD.other WJJ (fun q => nd q.symm)
 replace Z0 := own_wrle WJJ Z0
 replace K0 := K0.wr WJJ (Or.inl (List.mem_of_getElem? (i := 0) rfl))
 obtain ⟨fs, hr, hrun, hended, hW, hsame⟩ := XJH.leave (v := none) (fun _ => rfl)
 have hrun0 := kJM _ (XJH.returnOut hx Bd.returns (hH j38_24_22) hr)
 subst hE0
 refine ⟨_, _, hrun0, hrun, hended, _, _, rfl, ?_, ⟨_, rfl⟩, hW, hsame.mono (by decide) (by decide)⟩
 show QrmA31 Z a b x0 r h0 n0 _ TJF.heap _
 rw [eJI]
 exact ⟨rfl, NJL, K0, F1, F2, F3, FJD⟩
def QrmAd1 (Z : State) (a : Addr) (b : Addr) (x0 : Addr) (r : Addr) (h0 : Heap) (n0 : Nat) (vQ : Option Value) (hQ : Heap) (LQ : List Loc) : Prop := vQ = some (.int (1 : Int32)) ∧ Fr n0 LQ ∧ Keep h0 hQ [a, r] ∧ (fd30 Z hQ a (.ref r)) ∧ (fd31 Z hQ a (.int (2 : Int32))) ∧ (fd29 Z hQ a (.int (2 : Int32))) ∧ (own_O Z hQ r "java/lang/Object" [(.ref x0), (.ref b), .null, .null, .null, .null, .null, .null, .null, .null])
theorem ef_rmAd1 (m : MethodId) (a : Addr) (b : Addr) (x0 : Addr) (r : Addr) : entryFrame m #[(.ref a), (.ref b)] 2 = mkF m 0 #[vr a, vr b] [] := by first | (simp [entryFrame, mkF, argsToLocals, Value.category]; done) | rfl
set_option maxRecDepth 65536 in
set_option maxHeartbeats 40000000 in
theorem rmAd1 (l : Launch) (Z : State) (a0 : Array Value) (hw : ∀ d ∈ tables_1, d.before a0 Z = true) (ws : List Jvm.Cond) (a : Addr) (b : Addr) (x0 : Addr) (r : Addr) (h0 : Heap) (n0 : Nat) (Z0 : n0 ≤ h0.size) (E1 : xa32 Z h0 a) (F1 : fd30 Z h0 a (.ref r)) (F2 : fd31 Z h0 a (.int (1 : Int32))) (A1 : own_O Z h0 r "java/lang/Object" [(.ref x0), .null, .null, .null, .null, .null, .null, .null, .null, .null]) (E2 : xa123 Z h0 b) (F3 : fd29 Z h0 a (.int (1 : Int32))) (nd : a ≠ r) (nb : a ≠ b) (nc : b ≠ r) (ge_a : n0 ≤ a) (ge_r : n0 ≤ r) :
  MetFree l mn143 (head1 (Jvm.Cond.code mn143 jdk_38_method_25_code 2 (some .boolean) :: ws) ({ frames := 1, cells := 0, slots := 0, locals := 18 } : Room)) (fun aA U => aA = #[(.ref a), (.ref b)] ∧ Z.Warmed39 U.vm ∧ U.heap = h0) (fun _ _ _ _ _ => True) (fun _ U o U' => ∃ vR LR, o = .returned vR ∧ QrmAd1 Z a b x0 r h0 n0 vR U'.heap LR ∧ FrameEnd U o U' LR ({ frames := 1, cells := 0, slots := 0, locals := 18 } : Room).cells ({ frames := 1, cells := 0, slots := 0, locals := 18 } : Room).slots) := by
 refine MetFree.of_bodySF (plainFor_of_name pn_java_util_ArrayList) hisR ?_
 intro p e s m args below meth c s₁ Bd hml0 hPre hKk
 obtain ⟨rfl, hZ, hh⟩ := hPre
 have hx := Bd.exec
 have hby := Bd.bytes
 have hH : ∀ {pc r}, decode jdk_38_method_25_code pc = r → decode c.code pc = r := fun q => hb hby q
 have hml : c.maxLocals = 2 := hml0
 have hown : s.vm.findClass "java/util/ArrayList" = some m.cls := findClass_of_methodNamed Bd.named
 have hnm := (name_of_methodNamed Bd.named Bd.method).1
 have X0 : Stand p l e ({ frames := 1, cells := 0, slots := 0, locals := 18 } : Room) s m #[(.ref a), (.ref b)] below meth c s₁ [] 0 0 := Stand.of_body Bd
 have e0 : s₁.heap = h0 := by rw [← hh, Bd.state]; rfl
 have N0 := Fr.nil n0
 obtain ⟨E0, hE0⟩ : ∃ zE : State, zE = s₁.setTop (entryFrame m #[(.ref a), (.ref b)] 2) := ⟨_, rfl⟩
 have k0 : own_G p e below E0 s₁ (mkF m 0 #[vr a, vr b] []) := fun tz kz => hE0 ▸ castTop (ef_rmAd1 m a b x0 r) kz
 have K0 : Keep h0 h0 [a, r] := Keep.refl _ _
 have kJ0 : own_G p e below E0 s₁ (mkF m 2 #[vr a, vr b] [(.ref a), (.ref a)]) := by
  intro tQ kk
  refine k0 tQ ?_
  refine XS.aloadN X0.here hx rfl (hH j38_25_0) rfl rfl ?_
  refine XS.dup X0.here hx rfl (hH j38_25_1) rfl rfl ?_
  exact kk
 clear k0
 obtain ⟨TJ1, XJ2, eJ3, stJ4⟩ := getF X0 hx hZ hown (host := "") (Or.inl (tw202 hw)) (Via.of (tw203 hw)) e0 F3 (g := (mkF m 2 #[vr a, vr b] [(.ref a), (.ref a)])) rfl rfl (hH j38_25_2)
 have kJ5 : own_G p e below E0 TJ1 (mkF m 5 #[vr a, vr b] [(.int (1 : Int32)), (.ref a)]) := fun tQ kk => kJ0 tQ (stJ4 _ kk)
 clear kJ0 stJ4
 have kJ6 : own_G p e below E0 TJ1 (mkF m 7 #[vr a, vr b] [(.int (2 : Int32)), (.ref a)]) := by
  intro tQ kk
  refine kJ5 tQ ?_
  refine XS.iconst XJ2.here hx rfl (hH j38_25_5) ?_
  refine XS.iadd XJ2.here hx rfl (hH j38_25_6) rfl ?_
  exact kk
 clear kJ5
 obtain ⟨TJ7, hJ8, XJ9, eJA, WJB, stJC⟩ := putF XJ2 hx hZ hown (host := "") (Or.inl (tw202 hw)) (Via.of (tw203 hw)) eJ3 F3 E1 (Or.inl (tw30 hw)) (tw11 hw) (ty := .int) (by decide) rfl rfl (g := (mkF m 7 #[vr a, vr b] [(.int (2 : Int32)), (.ref a)])) rfl rfl (hH j38_25_7)
 have NJD := Fr.snoc XJ9 N0 ge_a
 have kJE : own_G p e below E0 TJ7 (mkF m 10 #[vr a, vr b] []) := fun tQ kk => kJ6 tQ (stJC _ kk)
 clear kJ6 stJC
 replace E1 := E1.wr WJB
 replace F1 := F1.other WJB (Or.inr (sn34 hw))
 replace F2 := F2.other WJB (Or.inr (sn37 hw))
 replace A1 := A1.other WJB (fun q => nd q.symm)
 replace E2 := E2.wr WJB
 replace F3 := F3.same WJB
 replace Z0 := own_wrle WJB Z0
 replace K0 := K0.wr WJB (Or.inl (List.mem_of_getElem? (i := 0) rfl))
 have kJF : own_G p e below E0 TJ7 (mkF m 13 #[vr a, vr b] [(.ref a), (.ref b), (.ref a)]) := by
  intro tQ kk
  refine kJE tQ ?_
  refine XS.aloadN XJ9.here hx rfl (hH j38_25_10) rfl rfl ?_
  refine XS.aloadN XJ9.here hx rfl (hH j38_25_11) rfl rfl ?_
  refine XS.aloadN XJ9.here hx rfl (hH j38_25_12) rfl rfl ?_
  exact kk
 clear kJE
 obtain ⟨TJG, XJH, eJI, stJJ⟩ := getF XJ9 hx hZ hown (host := "") (Or.inl (tw32 hw)) Via.refl eJA F1 (g := (mkF m 13 #[vr a, vr b] [(.ref a), (.ref b), (.ref a)])) rfl rfl (hH j38_25_13)
 have kJK : own_G p e below E0 TJG (mkF m 16 #[vr a, vr b] [(.ref r), (.ref b), (.ref a)]) := fun tQ kk => kJF tQ (stJJ _ kk)
 clear kJF stJJ
 have kJL : own_G p e below E0 TJG (mkF m 17 #[vr a, vr b] [(.ref a), (.ref r), (.ref b), (.ref a)]) := by
  intro tQ kk
  refine kJK tQ ?_
  refine XS.aloadN XJH.here hx rfl (hH j38_25_16) rfl rfl ?_
  exact kk
 clear kJK
 obtain ⟨TJM, XJN, eJO, stJP⟩ := getF XJH hx hZ hown (host := "") (Or.inl (tw181 hw)) Via.refl eJI F2 (g := (mkF m 17 #[vr a, vr b] [(.ref a), (.ref r), (.ref b), (.ref a)])) rfl rfl (hH j38_25_17)
 have kJQ : own_G p e below E0 TJM (mkF m 20 #[vr a, vr b] [(.int (1 : Int32)), (.ref r), (.ref b), (.ref a)]) := fun tQ kk => kJL tQ (stJP _ kk)
 clear kJL stJP
 obtain ⟨cqK2, qaK3, qbK4⟩ := (Ins.self E1).cell
 obtain ⟨_, _, ⟨TJR, LJS, kcJT, ncJU⟩, -, XJV, ⟨LcJW, hQJX, lJY, yJZ, zK0⟩, stK1⟩ := XJN.privateBack hx (y := mn139) hown (mvT hZ (tw204 hw)) (mvT hZ (tw205 hw)) (mvT hZ (tw207 hw)) (Cond.privateMethod_at (mvP hZ (tw206 hw) (args := #[]))) (mvT hZ (tw208 hw)) (by decide) (backOf (W := 0) (rmA31 l Z a0 hw [] a b x0 r hJ8 n0 Z0 E1 F1 F2 A1 E2 F3 nd nb nc ge_a ge_r) hZ (tw208 hw) (tw12 hw) (by decide) (by decide)) (g := (mkF m 20 #[vr a, vr b] [(.int (1 : Int32)), (.ref r), (.ref b), (.ref a)])) rfl (by rw [hml]; rfl) (Steps.refl _) (a := a) (by rw [eJO]; exact qaK3) qbK4 (argsL := [(.ref b), (.ref r), (.int (1 : Int32))]) (rest := []) (lenOf pd_144 rfl) rfl (by show 2 * 0 + _ ≤ _; exact Nat.le_of_eq rfl) (hH j38_25_20) (fun _ _ => ⟨rfl, eJO, (by decide : 0 + 0 ≤ _), (by decide : 0 + 0 ≤ _)⟩)
 dsimp only [Pt.U, Pt.locs, Pt.cells, Pt.slots] at XJV lJY yJZ zK0 stK1 hQJX
 subst yJZ zK0
 obtain ⟨rfl, NK5, KK8, gK9, gKA, gKB, gKC⟩ := hQJX
 have NKD : Fr n0 LJS := by rw [lJY]; exact Fr.app NJD NK5
 clear lJY NK5
 replace Z0 := Nat.le_trans Z0 KK8.1
 replace E1 := E1.keep KK8
 clear F1
 clear F2
 clear A1
 replace E2 := E2.keep KK8
 clear F3
 replace K0 := K0.trans KK8 (allS (Or.inl (List.mem_of_getElem? (i := 0) rfl)) (allS (Or.inl (List.mem_of_getElem? (i := 1) rfl)) all0))
 have kKE : own_G p e below E0 TJR (mkF m 23 #[vr a, vr b] []) := fun tQ kk => kJQ tQ (stK1.trans kk)
 clear kJQ stK1
 have kKF : own_G p e below E0 TJR (mkF m 24 #[vr a, vr b] [(.int (1 : Int32))]) := by
  intro tQ kk
  refine kKE tQ ?_
  refine XS.iconst XJV.here hx rfl (hH j38_25_23) ?_
  exact kk
 clear kKE
 obtain ⟨fs, hr, hrun, hended, hW, hsame⟩ := XJV.leave (v := some (.int (1 : Int32))) (fun h => by rw [Bd.returns] at h; cases h)
 have hrun0 := kKF _ (retOut XJV hx Bd.returns (t := .boolean) rfl (Or.inl ⟨rfl, Or.inr (Or.inl rfl), _, rfl⟩) (hH j38_25_24) hr)
 subst hE0
 refine ⟨_, _, hrun0, hrun, hended, _, _, rfl, ?_, ⟨_, rfl⟩, hW, hsame.mono (by decide) (by decide)⟩
 show QrmAd1 Z a b x0 r h0 n0 _ TJR.heap _
 exact ⟨rfl, NKD, K0, gK9, gKA, gKB, gKC⟩
def QrmA32 (Z : State) (a : Addr) (b : Addr) (x0 : Addr) (x1 : Addr) (r : Addr) (h0 : Heap) (n0 : Nat) (vQ : Option Value) (hQ : Heap) (LQ : List Loc) : Prop := vQ = none ∧ Fr n0 LQ ∧ Keep h0 hQ [a, r] ∧ (fd30 Z hQ a (.ref r)) ∧ (fd31 Z hQ a (.int (3 : Int32))) ∧ (fd29 Z hQ a (.int (3 : Int32))) ∧ (own_O Z hQ r "java/lang/Object" [(.ref x0), (.ref x1), (.ref b), .null, .null, .null, .null, .null, .null, .null])
theorem ef_rmA32 (m : MethodId) (a : Addr) (b : Addr) (x0 : Addr) (x1 : Addr) (r : Addr) : entryFrame m #[(.ref a), (.ref b), (.ref r), (.int (2 : Int32))] 4 = mkF m 0 #[vr a, vr b, vr r, vi (2 : Int32)] [] := by first | (simp [entryFrame, mkF, argsToLocals, Value.category]; done) | rfl
set_option maxRecDepth 65536 in
set_option maxHeartbeats 40000000 in
theorem rmA32 (l : Launch) (Z : State) (a0 : Array Value) (hw : ∀ d ∈ tables_1, d.before a0 Z = true) (ws : List Jvm.Cond) (a : Addr) (b : Addr) (x0 : Addr) (x1 : Addr) (r : Addr) (h0 : Heap) (n0 : Nat) (Z0 : n0 ≤ h0.size) (E1 : xa32 Z h0 a) (F1 : fd30 Z h0 a (.ref r)) (F2 : fd31 Z h0 a (.int (2 : Int32))) (A1 : own_O Z h0 r "java/lang/Object" [(.ref x0), (.ref x1), .null, .null, .null, .null, .null, .null, .null, .null]) (E2 : xa123 Z h0 b) (F3 : fd29 Z h0 a (.int (3 : Int32))) (nd : a ≠ r) (nb : a ≠ b) (nc : b ≠ r) (ge_a : n0 ≤ a) (ge_r : n0 ≤ r) :
  MetFree l mn139 (head1 (Jvm.Cond.code mn139 jdk_38_method_24_code 4 none :: ws) ({ frames := 0, cells := 0, slots := 0, locals := 0 } : Room)) (fun aA U => aA = #[(.ref a), (.ref b), (.ref r), (.int (2 : Int32))] ∧ Z.Warmed39 U.vm ∧ U.heap = h0) (fun _ _ _ _ _ => True) (fun _ U o U' => ∃ vR LR, o = .returned vR ∧ QrmA32 Z a b x0 x1 r h0 n0 vR U'.heap LR ∧ FrameEnd U o U' LR ({ frames := 0, cells := 0, slots := 0, locals := 0 } : Room).cells ({ frames := 0, cells := 0, slots := 0, locals := 0 } : Room).slots) := by
 refine MetFree.of_bodySF (plainFor_of_name pn_java_util_ArrayList) hisR ?_
 intro p e s m args below meth c s₁ Bd hml0 hPre hKk
 obtain ⟨rfl, hZ, hh⟩ := hPre
 have hx := Bd.exec
 have hby := Bd.bytes
 have hH : ∀ {pc r}, decode jdk_38_method_24_code pc = r → decode c.code pc = r := fun q => hb hby q
 have hml : c.maxLocals = 4 := hml0
 have hown : s.vm.findClass "java/util/ArrayList" = some m.cls := findClass_of_methodNamed Bd.named
 have hnm := (name_of_methodNamed Bd.named Bd.method).1
 have X0 : Stand p l e ({ frames := 0, cells := 0, slots := 0, locals := 0 } : Room) s m #[(.ref a), (.ref b), (.ref r), (.int (2 : Int32))] below meth c s₁ [] 0 0 := Stand.of_body Bd
 have e0 : s₁.heap = h0 := by rw [← hh, Bd.state]; rfl
 have N0 := Fr.nil n0
 obtain ⟨E0, hE0⟩ : ∃ zE : State, zE = s₁.setTop (entryFrame m #[(.ref a), (.ref b), (.ref r), (.int (2 : Int32))] 4) := ⟨_, rfl⟩
 have k0 : own_G p e below E0 s₁ (mkF m 0 #[vr a, vr b, vr r, vi (2 : Int32)] []) := fun tz kz => hE0 ▸ castTop (ef_rmA32 m a b x0 x1 r) kz
 have K0 : Keep h0 h0 [a, r] := Keep.refl _ _
 have kJ0 : own_G p e below E0 s₁ (mkF m 2 #[vr a, vr b, vr r, vi (2 : Int32)] [(.ref r), (.int (2 : Int32))]) := by
  intro tQ kk
  refine k0 tQ ?_
  refine XS.iloadN X0.here hx rfl (hH j38_24_0) rfl ?_
  refine XS.aloadN X0.here hx rfl (hH j38_24_1) rfl rfl ?_
  exact kk
 clear k0
 have stJ1 := fun tQ => own_O.len X0 hx hZ e0 A1 (g := (mkF m 2 #[vr a, vr b, vr r, vi (2 : Int32)] [(.ref r), (.int (2 : Int32))])) rfl rfl (hH j38_24_2) tQ
 have kJ2 : own_G p e below E0 s₁ (mkF m 3 #[vr a, vr b, vr r, vi (2 : Int32)] [(.int (10 : Int32)), (.int (2 : Int32))]) := fun tQ kk => kJ0 tQ (stJ1 _ kk)
 clear kJ0 stJ1
 have kJ3 : own_G p e below E0 s₁ (mkF m 14 #[vr a, vr b, vr r, vi (2 : Int32)] [(.ref b), (.int (2 : Int32)), (.ref r)]) := by
  intro tQ kk
  refine kJ2 tQ ?_
  refine XS.icmpYes X0.here hx rfl (pc0 := 3) (pc' := 11) rfl (hH j38_24_3) rfl (own_ic_neY (by decide)) (by decide) (by decide) ?_
  refine XS.aloadN X0.here hx rfl (hH j38_24_11) rfl rfl ?_
  refine XS.iloadN X0.here hx rfl (hH j38_24_12) rfl ?_
  refine XS.aloadN X0.here hx rfl (hH j38_24_13) rfl rfl ?_
  exact kk
 clear kJ2
 obtain ⟨TJ4, hJ5, XJ6, eJ7, WJ8, FJ9, stJA⟩ := own_O.ast X0 hx hZ e0 A1 (j := (2 : Int32)) (by decide) rfl (Ins.of_exa E2 (tw225 hw)) (g := (mkF m 14 #[vr a, vr b, vr r, vi (2 : Int32)] [(.ref b), (.int (2 : Int32)), (.ref r)])) rfl rfl (hH j38_24_14)
 have NJB := Fr.snoc XJ6 N0 ge_r
 have kJC : own_G p e below E0 TJ4 (mkF m 15 #[vr a, vr b, vr r, vi (2 : Int32)] []) := fun tQ kk => kJ3 tQ (stJA _ kk)
 clear kJ3 stJA
 replace E1 := E1.wr WJ8
 replace F1 := F1.other WJ8 (Or.inl nd)
 replace F2 := F2.other WJ8 (Or.inl nd)
 replace E2 := E2.wr WJ8
 replace F3 := F3.other WJ8 (Or.inl nd)
 replace Z0 := own_wrle WJ8 Z0
 replace K0 := K0.wr WJ8 (Or.inl (List.mem_of_getElem? (i := 1) rfl))
 have FJD : own_O Z hJ5 r "java/lang/Object" [(.ref x0), (.ref x1), (.ref b), .null, .null, .null, .null, .null, .null, .null] := FJ9
 have kJE : own_G p e below E0 TJ4 (mkF m 19 #[vr a, vr b, vr r, vi (2 : Int32)] [(.int (3 : Int32)), (.ref a)]) := by
  intro tQ kk
  refine kJC tQ ?_
  refine XS.aloadN XJ6.here hx rfl (hH j38_24_15) rfl rfl ?_
  refine XS.iloadN XJ6.here hx rfl (hH j38_24_16) rfl ?_
  refine XS.iconst XJ6.here hx rfl (hH j38_24_17) ?_
  refine XS.iadd XJ6.here hx rfl (hH j38_24_18) rfl ?_
  exact kk
 clear kJC
 obtain ⟨TJF, hJG, XJH, eJI, WJJ, stJK⟩ := putF XJ6 hx hZ hown (host := "") (Or.inl (tw181 hw)) Via.refl eJ7 F2 E1 (Or.inl (tw182 hw)) (tw11 hw) (ty := .int) (by decide) rfl rfl (g := (mkF m 19 #[vr a, vr b, vr r, vi (2 : Int32)] [(.int (3 : Int32)), (.ref a)])) rfl rfl (hH j38_24_19)
 have NJL := Fr.snoc XJH NJB ge_a
 have kJM : own_G p e below E0 TJF (mkF m 22 #[vr a, vr b, vr r, vi (2 : Int32)] []) := fun tQ kk => kJE tQ (stJK _ kk)
 clear kJE stJK
 replace E1 := E1.wr WJJ
 replace F1 := F1.other WJJ (Or.inr (sn141 hw))
 replace F2 := F2.same WJJ
 replace E2 := E2.wr WJJ
 replace F3 := F3.other WJJ (Or.inr (sn142 hw))
 replace FJD := FJD.other WJJ (fun q => nd q.symm)
 replace Z0 := own_wrle WJJ Z0
 replace K0 := K0.wr WJJ (Or.inl (List.mem_of_getElem? (i := 0) rfl))
 obtain ⟨fs, hr, hrun, hended, hW, hsame⟩ := XJH.leave (v := none) (fun _ => rfl)
 have hrun0 := kJM _ (XJH.returnOut hx Bd.returns (hH j38_24_22) hr)
 subst hE0
 refine ⟨_, _, hrun0, hrun, hended, _, _, rfl, ?_, ⟨_, rfl⟩, hW, hsame.mono (by decide) (by decide)⟩
 show QrmA32 Z a b x0 x1 r h0 n0 _ TJF.heap _
 rw [eJI]
 exact ⟨rfl, NJL, K0, F1, F2, F3, FJD⟩
def QrmAd2 (Z : State) (a : Addr) (b : Addr) (x0 : Addr) (x1 : Addr) (r : Addr) (h0 : Heap) (n0 : Nat) (vQ : Option Value) (hQ : Heap) (LQ : List Loc) : Prop := vQ = some (.int (1 : Int32)) ∧ Fr n0 LQ ∧ Keep h0 hQ [a, r] ∧ (fd30 Z hQ a (.ref r)) ∧ (fd31 Z hQ a (.int (3 : Int32))) ∧ (fd29 Z hQ a (.int (3 : Int32))) ∧ (own_O Z hQ r "java/lang/Object" [(.ref x0), (.ref x1), (.ref b), .null, .null, .null, .null, .null, .null, .null])
theorem ef_rmAd2 (m : MethodId) (a : Addr) (b : Addr) (x0 : Addr) (x1 : Addr) (r : Addr) : entryFrame m #[(.ref a), (.ref b)] 2 = mkF m 0 #[vr a, vr b] [] := by first | (simp [entryFrame, mkF, argsToLocals, Value.category]; done) | rfl
set_option maxRecDepth 65536 in
set_option maxHeartbeats 40000000 in
theorem rmAd2 (l : Launch) (Z : State) (a0 : Array Value) (hw : ∀ d ∈ tables_1, d.before a0 Z = true) (ws : List Jvm.Cond) (a : Addr) (b : Addr) (x0 : Addr) (x1 : Addr) (r : Addr) (h0 : Heap) (n0 : Nat) (Z0 : n0 ≤ h0.size) (E1 : xa32 Z h0 a) (F1 : fd30 Z h0 a (.ref r)) (F2 : fd31 Z h0 a (.int (2 : Int32))) (A1 : own_O Z h0 r "java/lang/Object" [(.ref x0), (.ref x1), .null, .null, .null, .null, .null, .null, .null, .null]) (E2 : xa123 Z h0 b) (F3 : fd29 Z h0 a (.int (2 : Int32))) (nd : a ≠ r) (nb : a ≠ b) (nc : b ≠ r) (ge_a : n0 ≤ a) (ge_r : n0 ≤ r) :
  MetFree l mn143 (head1 (Jvm.Cond.code mn143 jdk_38_method_25_code 2 (some .boolean) :: ws) ({ frames := 1, cells := 0, slots := 0, locals := 18 } : Room)) (fun aA U => aA = #[(.ref a), (.ref b)] ∧ Z.Warmed39 U.vm ∧ U.heap = h0) (fun _ _ _ _ _ => True) (fun _ U o U' => ∃ vR LR, o = .returned vR ∧ QrmAd2 Z a b x0 x1 r h0 n0 vR U'.heap LR ∧ FrameEnd U o U' LR ({ frames := 1, cells := 0, slots := 0, locals := 18 } : Room).cells ({ frames := 1, cells := 0, slots := 0, locals := 18 } : Room).slots) := by
 refine MetFree.of_bodySF (plainFor_of_name pn_java_util_ArrayList) hisR ?_
 intro p e s m args below meth c s₁ Bd hml0 hPre hKk
 obtain ⟨rfl, hZ, hh⟩ := hPre
 have hx := Bd.exec
 have hby := Bd.bytes
 have hH : ∀ {pc r}, decode jdk_38_method_25_code pc = r → decode c.code pc = r := fun q => hb hby q
 have hml : c.maxLocals = 2 := hml0
 have hown : s.vm.findClass "java/util/ArrayList" = some m.cls := findClass_of_methodNamed Bd.named
 have hnm := (name_of_methodNamed Bd.named Bd.method).1
 have X0 : Stand p l e ({ frames := 1, cells := 0, slots := 0, locals := 18 } : Room) s m #[(.ref a), (.ref b)] below meth c s₁ [] 0 0 := Stand.of_body Bd
 have e0 : s₁.heap = h0 := by rw [← hh, Bd.state]; rfl
 have N0 := Fr.nil n0
 obtain ⟨E0, hE0⟩ : ∃ zE : State, zE = s₁.setTop (entryFrame m #[(.ref a), (.ref b)] 2) := ⟨_, rfl⟩
 have k0 : own_G p e below E0 s₁ (mkF m 0 #[vr a, vr b] []) := fun tz kz => hE0 ▸ castTop (ef_rmAd2 m a b x0 x1 r) kz
 have K0 : Keep h0 h0 [a, r] := Keep.refl _ _
 have kJ0 : own_G p e below E0 s₁ (mkF m 2 #[vr a, vr b] [(.ref a), (.ref a)]) := by
  intro tQ kk
  refine k0 tQ ?_
  refine XS.aloadN X0.here hx rfl (hH j38_25_0) rfl rfl ?_
  refine XS.dup X0.here hx rfl (hH j38_25_1) rfl rfl ?_
  exact kk
 clear k0
 obtain ⟨TJ1, XJ2, eJ3, stJ4⟩ := getF X0 hx hZ hown (host := "") (Or.inl (tw202 hw)) (Via.of (tw203 hw)) e0 F3 (g := (mkF m 2 #[vr a, vr b] [(.ref a), (.ref a)])) rfl rfl (hH j38_25_2)
 have kJ5 : own_G p e below E0 TJ1 (mkF m 5 #[vr a, vr b] [(.int (2 : Int32)), (.ref a)]) := fun tQ kk => kJ0 tQ (stJ4 _ kk)
 clear kJ0 stJ4
 have kJ6 : own_G p e below E0 TJ1 (mkF m 7 #[vr a, vr b] [(.int (3 : Int32)), (.ref a)]) := by
  intro tQ kk
  refine kJ5 tQ ?_
  refine XS.iconst XJ2.here hx rfl (hH j38_25_5) ?_
  refine XS.iadd XJ2.here hx rfl (hH j38_25_6) rfl ?_
  exact kk
 clear kJ5
 obtain ⟨TJ7, hJ8, XJ9, eJA, WJB, stJC⟩ := putF XJ2 hx hZ hown (host := "") (Or.inl (tw202 hw)) (Via.of (tw203 hw)) eJ3 F3 E1 (Or.inl (tw30 hw)) (tw11 hw) (ty := .int) (by decide) rfl rfl (g := (mkF m 7 #[vr a, vr b] [(.int (3 : Int32)), (.ref a)])) rfl rfl (hH j38_25_7)
 have NJD := Fr.snoc XJ9 N0 ge_a
 have kJE : own_G p e below E0 TJ7 (mkF m 10 #[vr a, vr b] []) := fun tQ kk => kJ6 tQ (stJC _ kk)
 clear kJ6 stJC
 replace E1 := E1.wr WJB
 replace F1 := F1.other WJB (Or.inr (sn34 hw))
 replace F2 := F2.other WJB (Or.inr (sn37 hw))
 replace A1 := A1.other WJB (fun q => nd q.symm)
 replace E2 := E2.wr WJB
 replace F3 := F3.same WJB
 replace Z0 := own_wrle WJB Z0
 replace K0 := K0.wr WJB (Or.inl (List.mem_of_getElem? (i := 0) rfl))
 have kJF : own_G p e below E0 TJ7 (mkF m 13 #[vr a, vr b] [(.ref a), (.ref b), (.ref a)]) := by
  intro tQ kk
  refine kJE tQ ?_
  refine XS.aloadN XJ9.here hx rfl (hH j38_25_10) rfl rfl ?_
  refine XS.aloadN XJ9.here hx rfl (hH j38_25_11) rfl rfl ?_
  refine XS.aloadN XJ9.here hx rfl (hH j38_25_12) rfl rfl ?_
  exact kk
 clear kJE
 obtain ⟨TJG, XJH, eJI, stJJ⟩ := getF XJ9 hx hZ hown (host := "") (Or.inl (tw32 hw)) Via.refl eJA F1 (g := (mkF m 13 #[vr a, vr b] [(.ref a), (.ref b), (.ref a)])) rfl rfl (hH j38_25_13)
 have kJK : own_G p e below E0 TJG (mkF m 16 #[vr a, vr b] [(.ref r), (.ref b), (.ref a)]) := fun tQ kk => kJF tQ (stJJ _ kk)
 clear kJF stJJ
 have kJL : own_G p e below E0 TJG (mkF m 17 #[vr a, vr b] [(.ref a), (.ref r), (.ref b), (.ref a)]) := by
  intro tQ kk
  refine kJK tQ ?_
  refine XS.aloadN XJH.here hx rfl (hH j38_25_16) rfl rfl ?_
  exact kk
 clear kJK
 obtain ⟨TJM, XJN, eJO, stJP⟩ := getF XJH hx hZ hown (host := "") (Or.inl (tw181 hw)) Via.refl eJI F2 (g := (mkF m 17 #[vr a, vr b] [(.ref a), (.ref r), (.ref b), (.ref a)])) rfl rfl (hH j38_25_17)
 have kJQ : own_G p e below E0 TJM (mkF m 20 #[vr a, vr b] [(.int (2 : Int32)), (.ref r), (.ref b), (.ref a)]) := fun tQ kk => kJL tQ (stJP _ kk)
 clear kJL stJP
 obtain ⟨cqK2, qaK3, qbK4⟩ := (Ins.self E1).cell
 obtain ⟨_, _, ⟨TJR, LJS, kcJT, ncJU⟩, -, XJV, ⟨LcJW, hQJX, lJY, yJZ, zK0⟩, stK1⟩ := XJN.privateBack hx (y := mn139) hown (mvT hZ (tw204 hw)) (mvT hZ (tw205 hw)) (mvT hZ (tw207 hw)) (Cond.privateMethod_at (mvP hZ (tw206 hw) (args := #[]))) (mvT hZ (tw208 hw)) (by decide) (backOf (W := 0) (rmA32 l Z a0 hw [] a b x0 x1 r hJ8 n0 Z0 E1 F1 F2 A1 E2 F3 nd nb nc ge_a ge_r) hZ (tw208 hw) (tw12 hw) (by decide) (by decide)) (g := (mkF m 20 #[vr a, vr b] [(.int (2 : Int32)), (.ref r), (.ref b), (.ref a)])) rfl (by rw [hml]; rfl) (Steps.refl _) (a := a) (by rw [eJO]; exact qaK3) qbK4 (argsL := [(.ref b), (.ref r), (.int (2 : Int32))]) (rest := []) (lenOf pd_144 rfl) rfl (by show 2 * 0 + _ ≤ _; exact Nat.le_of_eq rfl) (hH j38_25_20) (fun _ _ => ⟨rfl, eJO, (by decide : 0 + 0 ≤ _), (by decide : 0 + 0 ≤ _)⟩)
 dsimp only [Pt.U, Pt.locs, Pt.cells, Pt.slots] at XJV lJY yJZ zK0 stK1 hQJX
 subst yJZ zK0
 obtain ⟨rfl, NK5, KK8, gK9, gKA, gKB, gKC⟩ := hQJX
 have NKD : Fr n0 LJS := by rw [lJY]; exact Fr.app NJD NK5
 clear lJY NK5
 replace Z0 := Nat.le_trans Z0 KK8.1
 replace E1 := E1.keep KK8
 clear F1
 clear F2
 clear A1
 replace E2 := E2.keep KK8
 clear F3
 replace K0 := K0.trans KK8 (allS (Or.inl (List.mem_of_getElem? (i := 0) rfl)) (allS (Or.inl (List.mem_of_getElem? (i := 1) rfl)) all0))
 have kKE : own_G p e below E0 TJR (mkF m 23 #[vr a, vr b] []) := fun tQ kk => kJQ tQ (stK1.trans kk)
 clear kJQ stK1
 have kKF : own_G p e below E0 TJR (mkF m 24 #[vr a, vr b] [(.int (1 : Int32))]) := by
  intro tQ kk
  refine kKE tQ ?_
  refine XS.iconst XJV.here hx rfl (hH j38_25_23) ?_
  exact kk
 clear kKE
 obtain ⟨fs, hr, hrun, hended, hW, hsame⟩ := XJV.leave (v := some (.int (1 : Int32))) (fun h => by rw [Bd.returns] at h; cases h)
 have hrun0 := kKF _ (retOut XJV hx Bd.returns (t := .boolean) rfl (Or.inl ⟨rfl, Or.inr (Or.inl rfl), _, rfl⟩) (hH j38_25_24) hr)
 subst hE0
 refine ⟨_, _, hrun0, hrun, hended, _, _, rfl, ?_, ⟨_, rfl⟩, hW, hsame.mono (by decide) (by decide)⟩
 show QrmAd2 Z a b x0 x1 r h0 n0 _ TJR.heap _
 exact ⟨rfl, NKD, K0, gK9, gKA, gKB, gKC⟩
def QrmSz0 (Z : State) (a : Addr) (h0 : Heap) (n0 : Nat) (vQ : Option Value) (hQ : Heap) (LQ : List Loc) : Prop := vQ = some (.int (0 : Int32)) ∧ Fr n0 LQ ∧ hQ = h0
theorem ef_rmSz0 (m : MethodId) (a : Addr) : entryFrame m #[(.ref a)] 1 = mkF m 0 #[vr a] [] := by first | (simp [entryFrame, mkF, argsToLocals, Value.category]; done) | rfl
abbrev mn145 : MethodName := ⟨"java/util/ArrayList", "size", "()I"⟩
theorem j38_8_0 : decode jdk_38_method_8_code 0 = .ok (.aload_n 0, 1) := by decide +kernel
theorem j38_8_1 : decode jdk_38_method_8_code 1 = .ok (.getfield 48, 3) := by decide +kernel
theorem j38_8_4 : decode jdk_38_method_8_code 4 = .ok (.ireturn, 1) := by decide +kernel
set_option maxRecDepth 65536 in
set_option maxHeartbeats 40000000 in
theorem rmSz0 (l : Launch) (Z : State) (a0 : Array Value) (hw : ∀ d ∈ tables_1, d.before a0 Z = true) (ws : List Jvm.Cond) (a : Addr) (h0 : Heap) (n0 : Nat) (Z0 : n0 ≤ h0.size) (F1 : fd31 Z h0 a (.int (0 : Int32))) :
  MetFree l mn145 (head1 (Jvm.Cond.code mn145 jdk_38_method_8_code 1 (some .int) :: ws) ({ frames := 0, cells := 0, slots := 0, locals := 0 } : Room)) (fun aA U => aA = #[(.ref a)] ∧ Z.Warmed39 U.vm ∧ U.heap = h0) (fun _ _ _ _ _ => True) (fun _ U o U' => ∃ vR LR, o = .returned vR ∧ QrmSz0 Z a h0 n0 vR U'.heap LR ∧ FrameEnd U o U' LR ({ frames := 0, cells := 0, slots := 0, locals := 0 } : Room).cells ({ frames := 0, cells := 0, slots := 0, locals := 0 } : Room).slots) := by
 refine MetFree.of_bodySF (plainFor_of_name pn_java_util_ArrayList) hisR ?_
 intro p e s m args below meth c s₁ Bd hml0 hPre hKk
 obtain ⟨rfl, hZ, hh⟩ := hPre
 have hx := Bd.exec
 have hby := Bd.bytes
 have hH : ∀ {pc r}, decode jdk_38_method_8_code pc = r → decode c.code pc = r := fun q => hb hby q
 have hml : c.maxLocals = 1 := hml0
 have hown : s.vm.findClass "java/util/ArrayList" = some m.cls := findClass_of_methodNamed Bd.named
 have hnm := (name_of_methodNamed Bd.named Bd.method).1
 have X0 : Stand p l e ({ frames := 0, cells := 0, slots := 0, locals := 0 } : Room) s m #[(.ref a)] below meth c s₁ [] 0 0 := Stand.of_body Bd
 have e0 : s₁.heap = h0 := by rw [← hh, Bd.state]; rfl
 have N0 := Fr.nil n0
 obtain ⟨E0, hE0⟩ : ∃ zE : State, zE = s₁.setTop (entryFrame m #[(.ref a)] 1) := ⟨_, rfl⟩
 have k0 : own_G p e below E0 s₁ (mkF m 0 #[vr a] []) := fun tz kz => hE0 ▸ castTop (ef_rmSz0 m a) kz
 have kJ0 : own_G p e below E0 s₁ (mkF m 1 #[vr a] [(.ref a)]) := by
  intro tQ kk
  refine k0 tQ ?_
  refine XS.aloadN X0.here hx rfl (hH j38_8_0) rfl rfl ?_
  exact kk
 clear k0
 obtain ⟨TJ1, XJ2, eJ3, stJ4⟩ := getF X0 hx hZ hown (host := "") (Or.inl (tw181 hw)) Via.refl e0 F1 (g := (mkF m 1 #[vr a] [(.ref a)])) rfl rfl (hH j38_8_1)
 have kJ5 : own_G p e below E0 TJ1 (mkF m 4 #[vr a] [(.int (0 : Int32))]) := fun tQ kk => kJ0 tQ (stJ4 _ kk)
 clear kJ0 stJ4
 obtain ⟨fs, hr, hrun, hended, hW, hsame⟩ := XJ2.leave (v := some (.int (0 : Int32))) (fun h => by rw [Bd.returns] at h; cases h)
 have hrun0 := kJ5 _ (retOut XJ2 hx Bd.returns (t := .int) rfl (Or.inl ⟨rfl, Or.inl rfl, _, rfl⟩) (hH j38_8_4) hr)
 subst hE0
 refine ⟨_, _, hrun0, hrun, hended, _, _, rfl, ?_, ⟨_, rfl⟩, hW, hsame.mono (by decide) (by decide)⟩
 show QrmSz0 Z a h0 n0 _ TJ1.heap _
 rw [eJ3]
 exact ⟨rfl, N0, rfl⟩
def QrmSz1 (Z : State) (a : Addr) (h0 : Heap) (n0 : Nat) (vQ : Option Value) (hQ : Heap) (LQ : List Loc) : Prop := vQ = some (.int (1 : Int32)) ∧ Fr n0 LQ ∧ hQ = h0
theorem ef_rmSz1 (m : MethodId) (a : Addr) : entryFrame m #[(.ref a)] 1 = mkF m 0 #[vr a] [] := by first | (simp [entryFrame, mkF, argsToLocals, Value.category]; done) | rfl
set_option maxRecDepth 65536 in
set_option maxHeartbeats 40000000 in
theorem rmSz1 (l : Launch) (Z : State) (a0 : Array Value) (hw : ∀ d ∈ tables_1, d.before a0 Z = true) (ws : List Jvm.Cond) (a : Addr) (h0 : Heap) (n0 : Nat) (Z0 : n0 ≤ h0.size) (F1 : fd31 Z h0 a (.int (1 : Int32))) :
  MetFree l mn145 (head1 (Jvm.Cond.code mn145 jdk_38_method_8_code 1 (some .int) :: ws) ({ frames := 0, cells := 0, slots := 0, locals := 0 } : Room)) (fun aA U => aA = #[(.ref a)] ∧ Z.Warmed39 U.vm ∧ U.heap = h0) (fun _ _ _ _ _ => True) (fun _ U o U' => ∃ vR LR, o = .returned vR ∧ QrmSz1 Z a h0 n0 vR U'.heap LR ∧ FrameEnd U o U' LR ({ frames := 0, cells := 0, slots := 0, locals := 0 } : Room).cells ({ frames := 0, cells := 0, slots := 0, locals := 0 } : Room).slots) := by
 refine MetFree.of_bodySF (plainFor_of_name pn_java_util_ArrayList) hisR ?_
 intro p e s m args below meth c s₁ Bd hml0 hPre hKk
 obtain ⟨rfl, hZ, hh⟩ := hPre
 have hx := Bd.exec
 have hby := Bd.bytes
 have hH : ∀ {pc r}, decode jdk_38_method_8_code pc = r → decode c.code pc = r := fun q => hb hby q
 have hml : c.maxLocals = 1 := hml0
 have hown : s.vm.findClass "java/util/ArrayList" = some m.cls := findClass_of_methodNamed Bd.named
 have hnm := (name_of_methodNamed Bd.named Bd.method).1
 have X0 : Stand p l e ({ frames := 0, cells := 0, slots := 0, locals := 0 } : Room) s m #[(.ref a)] below meth c s₁ [] 0 0 := Stand.of_body Bd
 have e0 : s₁.heap = h0 := by rw [← hh, Bd.state]; rfl
 have N0 := Fr.nil n0
 obtain ⟨E0, hE0⟩ : ∃ zE : State, zE = s₁.setTop (entryFrame m #[(.ref a)] 1) := ⟨_, rfl⟩
 have k0 : own_G p e below E0 s₁ (mkF m 0 #[vr a] []) := fun tz kz => hE0 ▸ castTop (ef_rmSz1 m a) kz
 have kJ0 : own_G p e below E0 s₁ (mkF m 1 #[vr a] [(.ref a)]) := by
  intro tQ kk
  refine k0 tQ ?_
  refine XS.aloadN X0.here hx rfl (hH j38_8_0) rfl rfl ?_
  exact kk
 clear k0
 obtain ⟨TJ1, XJ2, eJ3, stJ4⟩ := getF X0 hx hZ hown (host := "") (Or.inl (tw181 hw)) Via.refl e0 F1 (g := (mkF m 1 #[vr a] [(.ref a)])) rfl rfl (hH j38_8_1)
 have kJ5 : own_G p e below E0 TJ1 (mkF m 4 #[vr a] [(.int (1 : Int32))]) := fun tQ kk => kJ0 tQ (stJ4 _ kk)
 clear kJ0 stJ4
 obtain ⟨fs, hr, hrun, hended, hW, hsame⟩ := XJ2.leave (v := some (.int (1 : Int32))) (fun h => by rw [Bd.returns] at h; cases h)
 have hrun0 := kJ5 _ (retOut XJ2 hx Bd.returns (t := .int) rfl (Or.inl ⟨rfl, Or.inl rfl, _, rfl⟩) (hH j38_8_4) hr)
 subst hE0
 refine ⟨_, _, hrun0, hrun, hended, _, _, rfl, ?_, ⟨_, rfl⟩, hW, hsame.mono (by decide) (by decide)⟩
 show QrmSz1 Z a h0 n0 _ TJ1.heap _
 rw [eJ3]
 exact ⟨rfl, N0, rfl⟩
def QrmSz2 (Z : State) (a : Addr) (h0 : Heap) (n0 : Nat) (vQ : Option Value) (hQ : Heap) (LQ : List Loc) : Prop := vQ = some (.int (2 : Int32)) ∧ Fr n0 LQ ∧ hQ = h0
theorem ef_rmSz2 (m : MethodId) (a : Addr) : entryFrame m #[(.ref a)] 1 = mkF m 0 #[vr a] [] := by first | (simp [entryFrame, mkF, argsToLocals, Value.category]; done) | rfl
set_option maxRecDepth 65536 in
set_option maxHeartbeats 40000000 in
theorem rmSz2 (l : Launch) (Z : State) (a0 : Array Value) (hw : ∀ d ∈ tables_1, d.before a0 Z = true) (ws : List Jvm.Cond) (a : Addr) (h0 : Heap) (n0 : Nat) (Z0 : n0 ≤ h0.size) (F1 : fd31 Z h0 a (.int (2 : Int32))) :
  MetFree l mn145 (head1 (Jvm.Cond.code mn145 jdk_38_method_8_code 1 (some .int) :: ws) ({ frames := 0, cells := 0, slots := 0, locals := 0 } : Room)) (fun aA U => aA = #[(.ref a)] ∧ Z.Warmed39 U.vm ∧ U.heap = h0) (fun _ _ _ _ _ => True) (fun _ U o U' => ∃ vR LR, o = .returned vR ∧ QrmSz2 Z a h0 n0 vR U'.heap LR ∧ FrameEnd U o U' LR ({ frames := 0, cells := 0, slots := 0, locals := 0 } : Room).cells ({ frames := 0, cells := 0, slots := 0, locals := 0 } : Room).slots) := by
 refine MetFree.of_bodySF (plainFor_of_name pn_java_util_ArrayList) hisR ?_
 intro p e s m args below meth c s₁ Bd hml0 hPre hKk
 obtain ⟨rfl, hZ, hh⟩ := hPre
 have hx := Bd.exec
 have hby := Bd.bytes
 have hH : ∀ {pc r}, decode jdk_38_method_8_code pc = r → decode c.code pc = r := fun q => hb hby q
 have hml : c.maxLocals = 1 := hml0
 have hown : s.vm.findClass "java/util/ArrayList" = some m.cls := findClass_of_methodNamed Bd.named
 have hnm := (name_of_methodNamed Bd.named Bd.method).1
 have X0 : Stand p l e ({ frames := 0, cells := 0, slots := 0, locals := 0 } : Room) s m #[(.ref a)] below meth c s₁ [] 0 0 := Stand.of_body Bd
 have e0 : s₁.heap = h0 := by rw [← hh, Bd.state]; rfl
 have N0 := Fr.nil n0
 obtain ⟨E0, hE0⟩ : ∃ zE : State, zE = s₁.setTop (entryFrame m #[(.ref a)] 1) := ⟨_, rfl⟩
 have k0 : own_G p e below E0 s₁ (mkF m 0 #[vr a] []) := fun tz kz => hE0 ▸ castTop (ef_rmSz2 m a) kz
 have kJ0 : own_G p e below E0 s₁ (mkF m 1 #[vr a] [(.ref a)]) := by
  intro tQ kk
  refine k0 tQ ?_
  refine XS.aloadN X0.here hx rfl (hH j38_8_0) rfl rfl ?_
  exact kk
 clear k0
 obtain ⟨TJ1, XJ2, eJ3, stJ4⟩ := getF X0 hx hZ hown (host := "") (Or.inl (tw181 hw)) Via.refl e0 F1 (g := (mkF m 1 #[vr a] [(.ref a)])) rfl rfl (hH j38_8_1)
 have kJ5 : own_G p e below E0 TJ1 (mkF m 4 #[vr a] [(.int (2 : Int32))]) := fun tQ kk => kJ0 tQ (stJ4 _ kk)
 clear kJ0 stJ4
 obtain ⟨fs, hr, hrun, hended, hW, hsame⟩ := XJ2.leave (v := some (.int (2 : Int32))) (fun h => by rw [Bd.returns] at h; cases h)
 have hrun0 := kJ5 _ (retOut XJ2 hx Bd.returns (t := .int) rfl (Or.inl ⟨rfl, Or.inl rfl, _, rfl⟩) (hH j38_8_4) hr)
 subst hE0
 refine ⟨_, _, hrun0, hrun, hended, _, _, rfl, ?_, ⟨_, rfl⟩, hW, hsame.mono (by decide) (by decide)⟩
 show QrmSz2 Z a h0 n0 _ TJ1.heap _
 rw [eJ3]
 exact ⟨rfl, N0, rfl⟩
def QrmPc (Z : State) (j : Int32) (k : Int32) (h0 : Heap) (n0 : Nat) (vQ : Option Value) (hQ : Heap) (LQ : List Loc) : Prop := vQ = some (.int j) ∧ Fr n0 LQ ∧ hQ = h0
theorem ef_rmPc (m : MethodId) (j : Int32) (k : Int32) : entryFrame m #[(.int j), (.int k), .null] 3 = mkF m 0 #[vi j, vi k, .val .null] [] := by first | (simp [entryFrame, mkF, argsToLocals, Value.category]; done) | rfl
abbrev mn146 : MethodName := ⟨"jdk/internal/util/Preconditions", "checkIndex", "(IILjava/util/function/BiFunction;)I"⟩
theorem pn_jdk_internal_util_Preconditions : plainName "jdk/internal/util/Preconditions" = true := by first | (simp [plainName, overriddenIn]; done) | decide +kernel
theorem j41_11_0 : decode jdk_41_method_11_code 0 = .ok (.iload_n 0, 1) := by decide +kernel
theorem j41_11_1 : decode jdk_41_method_11_code 1 = .ok (.ifCond .lt 8, 3) := by decide +kernel
theorem j41_11_4 : decode jdk_41_method_11_code 4 = .ok (.iload_n 0, 1) := by decide +kernel
theorem j41_11_5 : decode jdk_41_method_11_code 5 = .ok (.iload_n 1, 1) := by decide +kernel
theorem j41_11_6 : decode jdk_41_method_11_code 6 = .ok (.if_icmp .lt 10, 3) := by decide +kernel
theorem j41_11_16 : decode jdk_41_method_11_code 16 = .ok (.iload_n 0, 1) := by decide +kernel
theorem j41_11_17 : decode jdk_41_method_11_code 17 = .ok (.ireturn, 1) := by decide +kernel
set_option maxRecDepth 65536 in
set_option maxHeartbeats 40000000 in
theorem rmPc (l : Launch) (Z : State) (a0 : Array Value) (hw : ∀ d ∈ tables_1, d.before a0 Z = true) (ws : List Jvm.Cond) (j : Int32) (k : Int32) (h0 : Heap) (n0 : Nat) (Z0 : n0 ≤ h0.size) (hj0 : ¬ j < 0) (h1 : j < k) :
  MetFree l mn146 (head1 (Jvm.Cond.code mn146 jdk_41_method_11_code 3 (some .int) :: ws) ({ frames := 0, cells := 0, slots := 0, locals := 0 } : Room)) (fun aA U => aA = #[(.int j), (.int k), .null] ∧ Z.Warmed39 U.vm ∧ U.heap = h0) (fun _ _ _ _ _ => True) (fun _ U o U' => ∃ vR LR, o = .returned vR ∧ QrmPc Z j k h0 n0 vR U'.heap LR ∧ FrameEnd U o U' LR ({ frames := 0, cells := 0, slots := 0, locals := 0 } : Room).cells ({ frames := 0, cells := 0, slots := 0, locals := 0 } : Room).slots) := by
 refine MetFree.of_bodySF (plainFor_of_name pn_jdk_internal_util_Preconditions) hisR ?_
 intro p e s m args below meth c s₁ Bd hml0 hPre hKk
 obtain ⟨rfl, hZ, hh⟩ := hPre
 have hx := Bd.exec
 have hby := Bd.bytes
 have hH : ∀ {pc r}, decode jdk_41_method_11_code pc = r → decode c.code pc = r := fun q => hb hby q
 have hml : c.maxLocals = 3 := hml0
 have hown : s.vm.findClass "jdk/internal/util/Preconditions" = some m.cls := findClass_of_methodNamed Bd.named
 have hnm := (name_of_methodNamed Bd.named Bd.method).1
 have X0 : Stand p l e ({ frames := 0, cells := 0, slots := 0, locals := 0 } : Room) s m #[(.int j), (.int k), .null] below meth c s₁ [] 0 0 := Stand.of_body Bd
 have e0 : s₁.heap = h0 := by rw [← hh, Bd.state]; rfl
 have N0 := Fr.nil n0
 obtain ⟨E0, hE0⟩ : ∃ zE : State, zE = s₁.setTop (entryFrame m #[(.int j), (.int k), .null] 3) := ⟨_, rfl⟩
 have k0 : own_G p e below E0 s₁ (mkF m 0 #[vi j, vi k, .val .null] []) := fun tz kz => hE0 ▸ castTop (ef_rmPc m j k) kz
 have kJ0 : own_G p e below E0 s₁ (mkF m 17 #[vi j, vi k, .val .null] [(.int j)]) := by
  intro tQ kk
  refine k0 tQ ?_
  refine XS.iloadN X0.here hx rfl (hH j41_11_0) rfl ?_
  refine XS.ifNo X0.here hx rfl (hH j41_11_1) rfl (own_if_ltN hj0) ?_
  refine XS.iloadN X0.here hx rfl (hH j41_11_4) rfl ?_
  refine XS.iloadN X0.here hx rfl (hH j41_11_5) rfl ?_
  refine XS.icmpYes X0.here hx rfl (pc0 := 6) (pc' := 16) rfl (hH j41_11_6) rfl (own_ic_ltY h1) (by decide) (by decide) ?_
  refine XS.iloadN X0.here hx rfl (hH j41_11_16) rfl ?_
  exact kk
 clear k0
 obtain ⟨fs, hr, hrun, hended, hW, hsame⟩ := X0.leave (v := some (.int j)) (fun h => by rw [Bd.returns] at h; cases h)
 have hrun0 := kJ0 _ (retOut X0 hx Bd.returns (t := .int) rfl (Or.inl ⟨rfl, Or.inl rfl, _, rfl⟩) (hH j41_11_17) hr)
 subst hE0
 refine ⟨_, _, hrun0, hrun, hended, _, _, rfl, ?_, ⟨_, rfl⟩, hW, hsame.mono (by decide) (by decide)⟩
 show QrmPc Z j k h0 n0 _ s₁.heap _
 rw [e0]
 exact ⟨rfl, N0, rfl⟩
def QrmOc (Z : State) (j : Int32) (k : Int32) (h0 : Heap) (n0 : Nat) (vQ : Option Value) (hQ : Heap) (LQ : List Loc) : Prop := vQ = some (.int j) ∧ Fr n0 LQ ∧ hQ = h0
theorem ef_rmOc (m : MethodId) (j : Int32) (k : Int32) : entryFrame m #[(.int j), (.int k)] 2 = mkF m 0 #[vi j, vi k] [] := by first | (simp [entryFrame, mkF, argsToLocals, Value.category]; done) | rfl
abbrev mn147 : MethodName := ⟨"java/util/Objects", "checkIndex", "(II)I"⟩
theorem pn_java_util_Objects : plainName "java/util/Objects" = true := by first | (simp [plainName, overriddenIn]; done) | decide +kernel
theorem j31_17_0 : decode jdk_31_method_17_code 0 = .ok (.iload_n 0, 1) := by decide +kernel
theorem j31_17_1 : decode jdk_31_method_17_code 1 = .ok (.iload_n 1, 1) := by decide +kernel
theorem j31_17_2 : decode jdk_31_method_17_code 2 = .ok (.aconst_null, 1) := by decide +kernel
theorem j31_17_3 : decode jdk_31_method_17_code 3 = .ok (.invokestatic 105, 3) := by decide +kernel
def tw252 {Z a0} (hw : HW Z a0) := hw _ (List.mem_of_getElem? (i := 252) rfl)
def tw255 {Z a0} (hw : HW Z a0) := hw _ (List.mem_of_getElem? (i := 255) rfl)
def tw254 {Z a0} (hw : HW Z a0) := hw _ (List.mem_of_getElem? (i := 254) rfl)
theorem pd_148 : parseMethodDescriptor "(IILjava/util/function/BiFunction;)I" = some ⟨[.int, .int, (.object "java/util/function/BiFunction")], some .int⟩ := by decide +kernel
def tw253 {Z a0} (hw : HW Z a0) := hw _ (List.mem_of_getElem? (i := 253) rfl)
theorem j31_17_6 : decode jdk_31_method_17_code 6 = .ok (.ireturn, 1) := by decide +kernel
set_option maxRecDepth 65536 in
set_option maxHeartbeats 40000000 in
theorem rmOc (l : Launch) (Z : State) (a0 : Array Value) (hw : ∀ d ∈ tables_1, d.before a0 Z = true) (ws : List Jvm.Cond) (j : Int32) (k : Int32) (h0 : Heap) (n0 : Nat) (Z0 : n0 ≤ h0.size) (hj0 : ¬ j < 0) (h1 : j < k) :
  MetFree l mn147 (head1 (Jvm.Cond.code mn147 jdk_31_method_17_code 2 (some .int) :: ws) ({ frames := 1, cells := 0, slots := 0, locals := 16 } : Room)) (fun aA U => aA = #[(.int j), (.int k)] ∧ Z.Warmed39 U.vm ∧ U.heap = h0) (fun _ _ _ _ _ => True) (fun _ U o U' => ∃ vR LR, o = .returned vR ∧ QrmOc Z j k h0 n0 vR U'.heap LR ∧ FrameEnd U o U' LR ({ frames := 1, cells := 0, slots := 0, locals := 16 } : Room).cells ({ frames := 1, cells := 0, slots := 0, locals := 16 } : Room).slots) := by
 refine MetFree.of_bodySF (plainFor_of_name pn_java_util_Objects) hisR ?_
 intro p e s m args below meth c s₁ Bd hml0 hPre hKk
 obtain ⟨rfl, hZ, hh⟩ := hPre
 have hx := Bd.exec
 have hby := Bd.bytes
 have hH : ∀ {pc r}, decode jdk_31_method_17_code pc = r → decode c.code pc = r := fun q => hb hby q
 have hml : c.maxLocals = 2 := hml0
 have hown : s.vm.findClass "java/util/Objects" = some m.cls := findClass_of_methodNamed Bd.named
 have hnm := (name_of_methodNamed Bd.named Bd.method).1
 have X0 : Stand p l e ({ frames := 1, cells := 0, slots := 0, locals := 16 } : Room) s m #[(.int j), (.int k)] below meth c s₁ [] 0 0 := Stand.of_body Bd
 have e0 : s₁.heap = h0 := by rw [← hh, Bd.state]; rfl
 have N0 := Fr.nil n0
 obtain ⟨E0, hE0⟩ : ∃ zE : State, zE = s₁.setTop (entryFrame m #[(.int j), (.int k)] 2) := ⟨_, rfl⟩
 have k0 : own_G p e below E0 s₁ (mkF m 0 #[vi j, vi k] []) := fun tz kz => hE0 ▸ castTop (ef_rmOc m j k) kz
 have kJ0 : own_G p e below E0 s₁ (mkF m 3 #[vi j, vi k] [.null, (.int k), (.int j)]) := by
  intro tQ kk
  refine k0 tQ ?_
  refine XS.iloadN X0.here hx rfl (hH j31_17_0) rfl ?_
  refine XS.iloadN X0.here hx rfl (hH j31_17_1) rfl ?_
  refine XS.aconstNull X0.here hx rfl (hH j31_17_2) ?_
  exact kk
 clear k0
 obtain ⟨_, _, ⟨TJ1, LJ2, kcJ3, ncJ4⟩, -, XJ5, ⟨LcJ6, hQJ7, lJ8, yJ9, zJA⟩, stJB⟩ := Jvm.LawKit.callS X0 hx (y := mn146) hown (mvT hZ (tw252 hw)) (mvT hZ (tw253 hw)) (mvT hZ (tw254 hw)) (mvT hZ (tw255 hw)) (by decide) (backOf (W := 0) (rmPc l Z a0 hw [] j k h0 n0 Z0 hj0 h1) hZ (tw255 hw) (tw254 hw) (by decide) (by decide)) (g := (mkF m 3 #[vi j, vi k] [.null, (.int k), (.int j)])) rfl (by rw [hml]; rfl) (argsL := [(.int j), (.int k), .null]) (rest := []) (lenOf pd_148 rfl) rfl (by show 2 * 0 + _ ≤ _; exact Nat.le_of_eq rfl) (hH j31_17_3) (fun _ _ => ⟨rfl, e0, (by decide : 0 + 0 ≤ _), (by decide : 0 + 0 ≤ _)⟩)
 dsimp only [Pt.U, Pt.locs, Pt.cells, Pt.slots] at XJ5 lJ8 yJ9 zJA stJB hQJ7
 subst yJ9 zJA
 obtain ⟨rfl, NJC, eJD⟩ := hQJ7
 have NJF : Fr n0 LJ2 := by rw [lJ8]; exact Fr.app N0 NJC
 clear lJ8 NJC
 have kJG : own_G p e below E0 TJ1 (mkF m 6 #[vi j, vi k] [(.int j)]) := fun tQ kk => kJ0 tQ (stJB _ kk)
 clear kJ0 stJB
 obtain ⟨fs, hr, hrun, hended, hW, hsame⟩ := XJ5.leave (v := some (.int j)) (fun h => by rw [Bd.returns] at h; cases h)
 have hrun0 := kJG _ (retOut XJ5 hx Bd.returns (t := .int) rfl (Or.inl ⟨rfl, Or.inl rfl, _, rfl⟩) (hH j31_17_6) hr)
 subst hE0
 refine ⟨_, _, hrun0, hrun, hended, _, _, rfl, ?_, ⟨_, rfl⟩, hW, hsame.mono (by decide) (by decide)⟩
 show QrmOc Z j k h0 n0 _ TJ1.heap _
 rw [eJD]
 exact ⟨rfl, NJF, rfl⟩
def QrmEd0 (Z : State) (a : Addr) (r : Addr) (x0 : Addr) (x1 : Addr) (x2 : Addr) (h0 : Heap) (n0 : Nat) (vQ : Option Value) (hQ : Heap) (LQ : List Loc) : Prop := vQ = some (.ref x0) ∧ Fr n0 LQ ∧ hQ = h0
theorem ef_rmEd0 (m : MethodId) (a : Addr) (r : Addr) (x0 : Addr) (x1 : Addr) (x2 : Addr) : entryFrame m #[(.ref a), (.int (0 : Int32))] 2 = mkF m 0 #[vr a, vi (0 : Int32)] [] := by first | (simp [entryFrame, mkF, argsToLocals, Value.category]; done) | rfl
abbrev mn149 : MethodName := ⟨"java/util/ArrayList", "elementData", "(I)Ljava/lang/Object;"⟩
theorem j38_18_0 : decode jdk_38_method_18_code 0 = .ok (.aload_n 0, 1) := by decide +kernel
theorem j38_18_1 : decode jdk_38_method_18_code 1 = .ok (.getfield 9, 3) := by decide +kernel
theorem j38_18_4 : decode jdk_38_method_18_code 4 = .ok (.iload_n 1, 1) := by decide +kernel
theorem j38_18_5 : decode jdk_38_method_18_code 5 = .ok (.aaload, 1) := by decide +kernel
theorem j38_18_6 : decode jdk_38_method_18_code 6 = .ok (.areturn, 1) := by decide +kernel
set_option maxRecDepth 65536 in
set_option maxHeartbeats 40000000 in
theorem rmEd0 (l : Launch) (Z : State) (a0 : Array Value) (hw : ∀ d ∈ tables_1, d.before a0 Z = true) (ws : List Jvm.Cond) (a : Addr) (r : Addr) (x0 : Addr) (x1 : Addr) (x2 : Addr) (h0 : Heap) (n0 : Nat) (Z0 : n0 ≤ h0.size) (E1 : xa32 Z h0 a) (F1 : fd30 Z h0 a (.ref r)) (F2 : fd31 Z h0 a (.int (3 : Int32))) (A1 : own_O Z h0 r "java/lang/Object" [(.ref x0), (.ref x1), (.ref x2), .null, .null, .null, .null, .null, .null, .null]) :
  MetFree l mn149 (head1 (Jvm.Cond.code mn149 jdk_38_method_18_code 2 (some (.object "java/lang/Object")) :: ws) ({ frames := 0, cells := 0, slots := 0, locals := 0 } : Room)) (fun aA U => aA = #[(.ref a), (.int (0 : Int32))] ∧ Z.Warmed39 U.vm ∧ U.heap = h0) (fun _ _ _ _ _ => True) (fun _ U o U' => ∃ vR LR, o = .returned vR ∧ QrmEd0 Z a r x0 x1 x2 h0 n0 vR U'.heap LR ∧ FrameEnd U o U' LR ({ frames := 0, cells := 0, slots := 0, locals := 0 } : Room).cells ({ frames := 0, cells := 0, slots := 0, locals := 0 } : Room).slots) := by
 refine MetFree.of_bodySF (plainFor_of_name pn_java_util_ArrayList) hisR ?_
 intro p e s m args below meth c s₁ Bd hml0 hPre hKk
 obtain ⟨rfl, hZ, hh⟩ := hPre
 have hx := Bd.exec
 have hby := Bd.bytes
 have hH : ∀ {pc r}, decode jdk_38_method_18_code pc = r → decode c.code pc = r := fun q => hb hby q
 have hml : c.maxLocals = 2 := hml0
 have hown : s.vm.findClass "java/util/ArrayList" = some m.cls := findClass_of_methodNamed Bd.named
 have hnm := (name_of_methodNamed Bd.named Bd.method).1
 have X0 : Stand p l e ({ frames := 0, cells := 0, slots := 0, locals := 0 } : Room) s m #[(.ref a), (.int (0 : Int32))] below meth c s₁ [] 0 0 := Stand.of_body Bd
 have e0 : s₁.heap = h0 := by rw [← hh, Bd.state]; rfl
 have N0 := Fr.nil n0
 obtain ⟨E0, hE0⟩ : ∃ zE : State, zE = s₁.setTop (entryFrame m #[(.ref a), (.int (0 : Int32))] 2) := ⟨_, rfl⟩
 have k0 : own_G p e below E0 s₁ (mkF m 0 #[vr a, vi (0 : Int32)] []) := fun tz kz => hE0 ▸ castTop (ef_rmEd0 m a r x0 x1 x2) kz
 have kJ0 : own_G p e below E0 s₁ (mkF m 1 #[vr a, vi (0 : Int32)] [(.ref a)]) := by
  intro tQ kk
  refine k0 tQ ?_
  refine XS.aloadN X0.here hx rfl (hH j38_18_0) rfl rfl ?_
  exact kk
 clear k0
 obtain ⟨TJ1, XJ2, eJ3, stJ4⟩ := getF X0 hx hZ hown (host := "") (Or.inl (tw32 hw)) Via.refl e0 F1 (g := (mkF m 1 #[vr a, vi (0 : Int32)] [(.ref a)])) rfl rfl (hH j38_18_1)
 have kJ5 : own_G p e below E0 TJ1 (mkF m 4 #[vr a, vi (0 : Int32)] [(.ref r)]) := fun tQ kk => kJ0 tQ (stJ4 _ kk)
 clear kJ0 stJ4
 have kJ6 : own_G p e below E0 TJ1 (mkF m 5 #[vr a, vi (0 : Int32)] [(.int (0 : Int32)), (.ref r)]) := by
  intro tQ kk
  refine kJ5 tQ ?_
  refine XS.iloadN XJ2.here hx rfl (hH j38_18_4) rfl ?_
  exact kk
 clear kJ5
 have stJ7 := fun tQ => own_O.ald XJ2 hx hZ eJ3 A1 (j := (0 : Int32)) (v := (.ref x0)) (by decide) rfl (g := (mkF m 5 #[vr a, vi (0 : Int32)] [(.int (0 : Int32)), (.ref r)])) rfl rfl (hH j38_18_5) tQ
 have kJ8 : own_G p e below E0 TJ1 (mkF m 6 #[vr a, vi (0 : Int32)] [(.ref x0)]) := fun tQ kk => kJ6 tQ (stJ7 _ kk)
 clear kJ6 stJ7
 obtain ⟨fs, hr, hrun, hended, hW, hsame⟩ := XJ2.leave (v := some (.ref x0)) (fun h => by rw [Bd.returns] at h; cases h)
 have hrun0 := kJ8 _ (retOut XJ2 hx Bd.returns (t := (.object "java/lang/Object")) rfl (Or.inr (Or.inr (Or.inr (Or.inr ⟨rfl, rfl, rfl⟩)))) (hH j38_18_6) hr)
 subst hE0
 refine ⟨_, _, hrun0, hrun, hended, _, _, rfl, ?_, ⟨_, rfl⟩, hW, hsame.mono (by decide) (by decide)⟩
 show QrmEd0 Z a r x0 x1 x2 h0 n0 _ TJ1.heap _
 rw [eJ3]
 exact ⟨rfl, N0, rfl⟩
def QrmGt0 (Z : State) (a : Addr) (r : Addr) (x0 : Addr) (x1 : Addr) (x2 : Addr) (h0 : Heap) (n0 : Nat) (vQ : Option Value) (hQ : Heap) (LQ : List Loc) : Prop := vQ = some (.ref x0) ∧ Fr n0 LQ ∧ hQ = h0
theorem ef_rmGt0 (m : MethodId) (a : Addr) (r : Addr) (x0 : Addr) (x1 : Addr) (x2 : Addr) : entryFrame m #[(.ref a), (.int (0 : Int32))] 2 = mkF m 0 #[vr a, vi (0 : Int32)] [] := by first | (simp [entryFrame, mkF, argsToLocals, Value.category]; done) | rfl
abbrev mn150 : MethodName := ⟨"java/util/ArrayList", "get", "(I)Ljava/lang/Object;"⟩
theorem j38_20_0 : decode jdk_38_method_20_code 0 = .ok (.iload_n 1, 1) := by decide +kernel
theorem j38_20_1 : decode jdk_38_method_20_code 1 = .ok (.aload_n 0, 1) := by decide +kernel
theorem j38_20_2 : decode jdk_38_method_20_code 2 = .ok (.getfield 48, 3) := by decide +kernel
theorem j38_20_5 : decode jdk_38_method_20_code 5 = .ok (.invokestatic 118, 3) := by decide +kernel
def tw248 {Z a0} (hw : HW Z a0) := hw _ (List.mem_of_getElem? (i := 248) rfl)
def tw251 {Z a0} (hw : HW Z a0) := hw _ (List.mem_of_getElem? (i := 251) rfl)
def tw250 {Z a0} (hw : HW Z a0) := hw _ (List.mem_of_getElem? (i := 250) rfl)
def tw249 {Z a0} (hw : HW Z a0) := hw _ (List.mem_of_getElem? (i := 249) rfl)
theorem j38_20_8 : decode jdk_38_method_20_code 8 = .ok (.pop, 1) := by decide +kernel
theorem j38_20_9 : decode jdk_38_method_20_code 9 = .ok (.aload_n 0, 1) := by decide +kernel
theorem j38_20_10 : decode jdk_38_method_20_code 10 = .ok (.iload_n 1, 1) := by decide +kernel
theorem j38_20_11 : decode jdk_38_method_20_code 11 = .ok (.invokevirtual 123, 3) := by decide +kernel
def tw256 {Z a0} (hw : HW Z a0) := hw _ (List.mem_of_getElem? (i := 256) rfl)
def tw259 {Z a0} (hw : HW Z a0) := hw _ (List.mem_of_getElem? (i := 259) rfl)
def tw260 {Z a0} (hw : HW Z a0) := hw _ (List.mem_of_getElem? (i := 260) rfl)
theorem pd_151 : parseMethodDescriptor "(I)Ljava/lang/Object;" = some ⟨[.int], some (.object "java/lang/Object")⟩ := by decide +kernel
def tw257 {Z a0} (hw : HW Z a0) := hw _ (List.mem_of_getElem? (i := 257) rfl)
def tw258 {Z a0} (hw : HW Z a0) := hw _ (List.mem_of_getElem? (i := 258) rfl)
theorem j38_20_14 : decode jdk_38_method_20_code 14 = .ok (.areturn, 1) := by decide +kernel
set_option maxRecDepth 65536 in
set_option maxHeartbeats 40000000 in
theorem rmGt0 (l : Launch) (Z : State) (a0 : Array Value) (hw : ∀ d ∈ tables_1, d.before a0 Z = true) (ws : List Jvm.Cond) (a : Addr) (r : Addr) (x0 : Addr) (x1 : Addr) (x2 : Addr) (h0 : Heap) (n0 : Nat) (Z0 : n0 ≤ h0.size) (E1 : xa32 Z h0 a) (F1 : fd30 Z h0 a (.ref r)) (F2 : fd31 Z h0 a (.int (3 : Int32))) (A1 : own_O Z h0 r "java/lang/Object" [(.ref x0), (.ref x1), (.ref x2), .null, .null, .null, .null, .null, .null, .null]) :
  MetFree l mn150 (head1 (Jvm.Cond.code mn150 jdk_38_method_20_code 2 (some (.object "java/lang/Object")) :: ws) ({ frames := 2, cells := 0, slots := 0, locals := 32 } : Room)) (fun aA U => aA = #[(.ref a), (.int (0 : Int32))] ∧ Z.Warmed39 U.vm ∧ U.heap = h0) (fun _ _ _ _ _ => True) (fun _ U o U' => ∃ vR LR, o = .returned vR ∧ QrmGt0 Z a r x0 x1 x2 h0 n0 vR U'.heap LR ∧ FrameEnd U o U' LR ({ frames := 2, cells := 0, slots := 0, locals := 32 } : Room).cells ({ frames := 2, cells := 0, slots := 0, locals := 32 } : Room).slots) := by
 refine MetFree.of_bodySF (plainFor_of_name pn_java_util_ArrayList) hisR ?_
 intro p e s m args below meth c s₁ Bd hml0 hPre hKk
 obtain ⟨rfl, hZ, hh⟩ := hPre
 have hx := Bd.exec
 have hby := Bd.bytes
 have hH : ∀ {pc r}, decode jdk_38_method_20_code pc = r → decode c.code pc = r := fun q => hb hby q
 have hml : c.maxLocals = 2 := hml0
 have hown : s.vm.findClass "java/util/ArrayList" = some m.cls := findClass_of_methodNamed Bd.named
 have hnm := (name_of_methodNamed Bd.named Bd.method).1
 have X0 : Stand p l e ({ frames := 2, cells := 0, slots := 0, locals := 32 } : Room) s m #[(.ref a), (.int (0 : Int32))] below meth c s₁ [] 0 0 := Stand.of_body Bd
 have e0 : s₁.heap = h0 := by rw [← hh, Bd.state]; rfl
 have N0 := Fr.nil n0
 obtain ⟨E0, hE0⟩ : ∃ zE : State, zE = s₁.setTop (entryFrame m #[(.ref a), (.int (0 : Int32))] 2) := ⟨_, rfl⟩
 have k0 : own_G p e below E0 s₁ (mkF m 0 #[vr a, vi (0 : Int32)] []) := fun tz kz => hE0 ▸ castTop (ef_rmGt0 m a r x0 x1 x2) kz
 have kJ0 : own_G p e below E0 s₁ (mkF m 2 #[vr a, vi (0 : Int32)] [(.ref a), (.int (0 : Int32))]) := by
  intro tQ kk
  refine k0 tQ ?_
  refine XS.iloadN X0.here hx rfl (hH j38_20_0) rfl ?_
  refine XS.aloadN X0.here hx rfl (hH j38_20_1) rfl rfl ?_
  exact kk
 clear k0
 obtain ⟨TJ1, XJ2, eJ3, stJ4⟩ := getF X0 hx hZ hown (host := "") (Or.inl (tw181 hw)) Via.refl e0 F2 (g := (mkF m 2 #[vr a, vi (0 : Int32)] [(.ref a), (.int (0 : Int32))])) rfl rfl (hH j38_20_2)
 have kJ5 : own_G p e below E0 TJ1 (mkF m 5 #[vr a, vi (0 : Int32)] [(.int (3 : Int32)), (.int (0 : Int32))]) := fun tQ kk => kJ0 tQ (stJ4 _ kk)
 clear kJ0 stJ4
 obtain ⟨_, _, ⟨TJ6, LJ7, kcJ8, ncJ9⟩, -, XJA, ⟨LcJB, hQJC, lJD, yJE, zJF⟩, stJG⟩ := Jvm.LawKit.callS XJ2 hx (y := mn147) hown (mvT hZ (tw248 hw)) (mvT hZ (tw249 hw)) (mvT hZ (tw250 hw)) (mvT hZ (tw251 hw)) (by decide) (backOf (W := 0) (rmOc l Z a0 hw [] (0 : Int32) (3 : Int32) h0 n0 Z0 (by decide) (by decide)) hZ (tw251 hw) (tw250 hw) (by decide) (by decide)) (g := (mkF m 5 #[vr a, vi (0 : Int32)] [(.int (3 : Int32)), (.int (0 : Int32))])) rfl (by rw [hml]; rfl) (argsL := [(.int (0 : Int32)), (.int (3 : Int32))]) (rest := []) (lenOf pd_136 rfl) rfl (by show 2 * 0 + _ ≤ _; exact Nat.le_of_eq rfl) (hH j38_20_5) (fun _ _ => ⟨rfl, eJ3, (by decide : 0 + 0 ≤ _), (by decide : 0 + 0 ≤ _)⟩)
 dsimp only [Pt.U, Pt.locs, Pt.cells, Pt.slots] at XJA lJD yJE zJF stJG hQJC
 subst yJE zJF
 obtain ⟨rfl, NJH, eJI⟩ := hQJC
 have NJK : Fr n0 LJ7 := by rw [lJD]; exact Fr.app N0 NJH
 clear lJD NJH
 have kJL : own_G p e below E0 TJ6 (mkF m 8 #[vr a, vi (0 : Int32)] [(.int (0 : Int32))]) := fun tQ kk => kJ5 tQ (stJG _ kk)
 clear kJ5 stJG
 have kJM : own_G p e below E0 TJ6 (mkF m 11 #[vr a, vi (0 : Int32)] [(.int (0 : Int32)), (.ref a)]) := by
  intro tQ kk
  refine kJL tQ ?_
  refine XT.pop XJA.here hx rfl (hH j38_20_8) rfl rfl ?_
  refine XS.aloadN XJA.here hx rfl (hH j38_20_9) rfl rfl ?_
  refine XS.iloadN XJA.here hx rfl (hH j38_20_10) rfl ?_
  exact kk
 clear kJL
 obtain ⟨cqJY, kqJZ, qaK0, qbK1, qcK2⟩ := isOf hZ eJI E1
 obtain ⟨_, _, ⟨TJN, LJO, kcJP, ncJQ⟩, -, XJR, ⟨LcJS, hQJT, lJU, yJV, zJW⟩, stJX⟩ := XJA.virtualBack hx (y := mn149) (z := mn149) hown (mvT hZ (tw256 hw)) (mvT hZ (tw257 hw)) (notFace_of_selects (args := #[]) (mvT hZ (tw259 hw))) (mvT hZ (tw259 hw)) (mvT hZ (tw258 hw)) (by decide) (backOf (W := 0) (rmEd0 l Z a0 hw [] a r x0 x1 x2 h0 n0 Z0 E1 F1 F2 A1) hZ (tw260 hw) (tw12 hw) (by decide) (by decide)) qaK0 qcK2 (g := (mkF m 11 #[vr a, vi (0 : Int32)] [(.int (0 : Int32)), (.ref a)])) rfl (by rw [hml]; rfl) (Steps.refl _) (argsL := [(.int (0 : Int32))]) (rest := []) (lenOf pd_151 rfl) rfl (by show 2 * 0 + _ ≤ _; exact Nat.le_of_eq rfl) (hH j38_20_11) (fun _ _ => ⟨rfl, eJI, (by decide : 0 + 0 ≤ _), (by decide : 0 + 0 ≤ _)⟩)
 dsimp only [Pt.U, Pt.locs, Pt.cells, Pt.slots] at XJR lJU yJV zJW stJX hQJT
 subst yJV zJW
 obtain ⟨rfl, NK3, eK4⟩ := hQJT
 have NK6 : Fr n0 LJO := by rw [lJU]; exact Fr.app NJK NK3
 clear lJU NK3
 have kK7 : own_G p e below E0 TJN (mkF m 14 #[vr a, vi (0 : Int32)] [(.ref x0)]) := fun tQ kk => kJM tQ (stJX.trans kk)
 clear kJM stJX
 obtain ⟨fs, hr, hrun, hended, hW, hsame⟩ := XJR.leave (v := some (.ref x0)) (fun h => by rw [Bd.returns] at h; cases h)
 have hrun0 := kK7 _ (retOut XJR hx Bd.returns (t := (.object "java/lang/Object")) rfl (Or.inr (Or.inr (Or.inr (Or.inr ⟨rfl, rfl, rfl⟩)))) (hH j38_20_14) hr)
 subst hE0
 refine ⟨_, _, hrun0, hrun, hended, _, _, rfl, ?_, ⟨_, rfl⟩, hW, hsame.mono (by decide) (by decide)⟩
 show QrmGt0 Z a r x0 x1 x2 h0 n0 _ TJN.heap _
 rw [eK4]
 exact ⟨rfl, NK6, rfl⟩
def QrmEd1 (Z : State) (a : Addr) (r : Addr) (x0 : Addr) (x1 : Addr) (x2 : Addr) (h0 : Heap) (n0 : Nat) (vQ : Option Value) (hQ : Heap) (LQ : List Loc) : Prop := vQ = some (.ref x1) ∧ Fr n0 LQ ∧ hQ = h0
theorem ef_rmEd1 (m : MethodId) (a : Addr) (r : Addr) (x0 : Addr) (x1 : Addr) (x2 : Addr) : entryFrame m #[(.ref a), (.int (1 : Int32))] 2 = mkF m 0 #[vr a, vi (1 : Int32)] [] := by first | (simp [entryFrame, mkF, argsToLocals, Value.category]; done) | rfl
set_option maxRecDepth 65536 in
set_option maxHeartbeats 40000000 in
theorem rmEd1 (l : Launch) (Z : State) (a0 : Array Value) (hw : ∀ d ∈ tables_1, d.before a0 Z = true) (ws : List Jvm.Cond) (a : Addr) (r : Addr) (x0 : Addr) (x1 : Addr) (x2 : Addr) (h0 : Heap) (n0 : Nat) (Z0 : n0 ≤ h0.size) (E1 : xa32 Z h0 a) (F1 : fd30 Z h0 a (.ref r)) (F2 : fd31 Z h0 a (.int (3 : Int32))) (A1 : own_O Z h0 r "java/lang/Object" [(.ref x0), (.ref x1), (.ref x2), .null, .null, .null, .null, .null, .null, .null]) :
  MetFree l mn149 (head1 (Jvm.Cond.code mn149 jdk_38_method_18_code 2 (some (.object "java/lang/Object")) :: ws) ({ frames := 0, cells := 0, slots := 0, locals := 0 } : Room)) (fun aA U => aA = #[(.ref a), (.int (1 : Int32))] ∧ Z.Warmed39 U.vm ∧ U.heap = h0) (fun _ _ _ _ _ => True) (fun _ U o U' => ∃ vR LR, o = .returned vR ∧ QrmEd1 Z a r x0 x1 x2 h0 n0 vR U'.heap LR ∧ FrameEnd U o U' LR ({ frames := 0, cells := 0, slots := 0, locals := 0 } : Room).cells ({ frames := 0, cells := 0, slots := 0, locals := 0 } : Room).slots) := by
 refine MetFree.of_bodySF (plainFor_of_name pn_java_util_ArrayList) hisR ?_
 intro p e s m args below meth c s₁ Bd hml0 hPre hKk
 obtain ⟨rfl, hZ, hh⟩ := hPre
 have hx := Bd.exec
 have hby := Bd.bytes
 have hH : ∀ {pc r}, decode jdk_38_method_18_code pc = r → decode c.code pc = r := fun q => hb hby q
 have hml : c.maxLocals = 2 := hml0
 have hown : s.vm.findClass "java/util/ArrayList" = some m.cls := findClass_of_methodNamed Bd.named
 have hnm := (name_of_methodNamed Bd.named Bd.method).1
 have X0 : Stand p l e ({ frames := 0, cells := 0, slots := 0, locals := 0 } : Room) s m #[(.ref a), (.int (1 : Int32))] below meth c s₁ [] 0 0 := Stand.of_body Bd
 have e0 : s₁.heap = h0 := by rw [← hh, Bd.state]; rfl
 have N0 := Fr.nil n0
 obtain ⟨E0, hE0⟩ : ∃ zE : State, zE = s₁.setTop (entryFrame m #[(.ref a), (.int (1 : Int32))] 2) := ⟨_, rfl⟩
 have k0 : own_G p e below E0 s₁ (mkF m 0 #[vr a, vi (1 : Int32)] []) := fun tz kz => hE0 ▸ castTop (ef_rmEd1 m a r x0 x1 x2) kz
 have kJ0 : own_G p e below E0 s₁ (mkF m 1 #[vr a, vi (1 : Int32)] [(.ref a)]) := by
  intro tQ kk
  refine k0 tQ ?_
  refine XS.aloadN X0.here hx rfl (hH j38_18_0) rfl rfl ?_
  exact kk
 clear k0
 obtain ⟨TJ1, XJ2, eJ3, stJ4⟩ := getF X0 hx hZ hown (host := "") (Or.inl (tw32 hw)) Via.refl e0 F1 (g := (mkF m 1 #[vr a, vi (1 : Int32)] [(.ref a)])) rfl rfl (hH j38_18_1)
 have kJ5 : own_G p e below E0 TJ1 (mkF m 4 #[vr a, vi (1 : Int32)] [(.ref r)]) := fun tQ kk => kJ0 tQ (stJ4 _ kk)
 clear kJ0 stJ4
 have kJ6 : own_G p e below E0 TJ1 (mkF m 5 #[vr a, vi (1 : Int32)] [(.int (1 : Int32)), (.ref r)]) := by
  intro tQ kk
  refine kJ5 tQ ?_
  refine XS.iloadN XJ2.here hx rfl (hH j38_18_4) rfl ?_
  exact kk
 clear kJ5
 have stJ7 := fun tQ => own_O.ald XJ2 hx hZ eJ3 A1 (j := (1 : Int32)) (v := (.ref x1)) (by decide) rfl (g := (mkF m 5 #[vr a, vi (1 : Int32)] [(.int (1 : Int32)), (.ref r)])) rfl rfl (hH j38_18_5) tQ
 have kJ8 : own_G p e below E0 TJ1 (mkF m 6 #[vr a, vi (1 : Int32)] [(.ref x1)]) := fun tQ kk => kJ6 tQ (stJ7 _ kk)
 clear kJ6 stJ7
 obtain ⟨fs, hr, hrun, hended, hW, hsame⟩ := XJ2.leave (v := some (.ref x1)) (fun h => by rw [Bd.returns] at h; cases h)
 have hrun0 := kJ8 _ (retOut XJ2 hx Bd.returns (t := (.object "java/lang/Object")) rfl (Or.inr (Or.inr (Or.inr (Or.inr ⟨rfl, rfl, rfl⟩)))) (hH j38_18_6) hr)
 subst hE0
 refine ⟨_, _, hrun0, hrun, hended, _, _, rfl, ?_, ⟨_, rfl⟩, hW, hsame.mono (by decide) (by decide)⟩
 show QrmEd1 Z a r x0 x1 x2 h0 n0 _ TJ1.heap _
 rw [eJ3]
 exact ⟨rfl, N0, rfl⟩
def QrmGt1 (Z : State) (a : Addr) (r : Addr) (x0 : Addr) (x1 : Addr) (x2 : Addr) (h0 : Heap) (n0 : Nat) (vQ : Option Value) (hQ : Heap) (LQ : List Loc) : Prop := vQ = some (.ref x1) ∧ Fr n0 LQ ∧ hQ = h0
theorem ef_rmGt1 (m : MethodId) (a : Addr) (r : Addr) (x0 : Addr) (x1 : Addr) (x2 : Addr) : entryFrame m #[(.ref a), (.int (1 : Int32))] 2 = mkF m 0 #[vr a, vi (1 : Int32)] [] := by first | (simp [entryFrame, mkF, argsToLocals, Value.category]; done) | rfl
set_option maxRecDepth 65536 in
set_option maxHeartbeats 40000000 in
theorem rmGt1 (l : Launch) (Z : State) (a0 : Array Value) (hw : ∀ d ∈ tables_1, d.before a0 Z = true) (ws : List Jvm.Cond) (a : Addr) (r : Addr) (x0 : Addr) (x1 : Addr) (x2 : Addr) (h0 : Heap) (n0 : Nat) (Z0 : n0 ≤ h0.size) (E1 : xa32 Z h0 a) (F1 : fd30 Z h0 a (.ref r)) (F2 : fd31 Z h0 a (.int (3 : Int32))) (A1 : own_O Z h0 r "java/lang/Object" [(.ref x0), (.ref x1), (.ref x2), .null, .null, .null, .null, .null, .null, .null]) :
  MetFree l mn150 (head1 (Jvm.Cond.code mn150 jdk_38_method_20_code 2 (some (.object "java/lang/Object")) :: ws) ({ frames := 2, cells := 0, slots := 0, locals := 32 } : Room)) (fun aA U => aA = #[(.ref a), (.int (1 : Int32))] ∧ Z.Warmed39 U.vm ∧ U.heap = h0) (fun _ _ _ _ _ => True) (fun _ U o U' => ∃ vR LR, o = .returned vR ∧ QrmGt1 Z a r x0 x1 x2 h0 n0 vR U'.heap LR ∧ FrameEnd U o U' LR ({ frames := 2, cells := 0, slots := 0, locals := 32 } : Room).cells ({ frames := 2, cells := 0, slots := 0, locals := 32 } : Room).slots) := by
 refine MetFree.of_bodySF (plainFor_of_name pn_java_util_ArrayList) hisR ?_
 intro p e s m args below meth c s₁ Bd hml0 hPre hKk
 obtain ⟨rfl, hZ, hh⟩ := hPre
 have hx := Bd.exec
 have hby := Bd.bytes
 have hH : ∀ {pc r}, decode jdk_38_method_20_code pc = r → decode c.code pc = r := fun q => hb hby q
 have hml : c.maxLocals = 2 := hml0
 have hown : s.vm.findClass "java/util/ArrayList" = some m.cls := findClass_of_methodNamed Bd.named
 have hnm := (name_of_methodNamed Bd.named Bd.method).1
 have X0 : Stand p l e ({ frames := 2, cells := 0, slots := 0, locals := 32 } : Room) s m #[(.ref a), (.int (1 : Int32))] below meth c s₁ [] 0 0 := Stand.of_body Bd
 have e0 : s₁.heap = h0 := by rw [← hh, Bd.state]; rfl
 have N0 := Fr.nil n0
 obtain ⟨E0, hE0⟩ : ∃ zE : State, zE = s₁.setTop (entryFrame m #[(.ref a), (.int (1 : Int32))] 2) := ⟨_, rfl⟩
 have k0 : own_G p e below E0 s₁ (mkF m 0 #[vr a, vi (1 : Int32)] []) := fun tz kz => hE0 ▸ castTop (ef_rmGt1 m a r x0 x1 x2) kz
 have kJ0 : own_G p e below E0 s₁ (mkF m 2 #[vr a, vi (1 : Int32)] [(.ref a), (.int (1 : Int32))]) := by
  intro tQ kk
  refine k0 tQ ?_
  refine XS.iloadN X0.here hx rfl (hH j38_20_0) rfl ?_
  refine XS.aloadN X0.here hx rfl (hH j38_20_1) rfl rfl ?_
  exact kk
 clear k0
 obtain ⟨TJ1, XJ2, eJ3, stJ4⟩ := getF X0 hx hZ hown (host := "") (Or.inl (tw181 hw)) Via.refl e0 F2 (g := (mkF m 2 #[vr a, vi (1 : Int32)] [(.ref a), (.int (1 : Int32))])) rfl rfl (hH j38_20_2)
 have kJ5 : own_G p e below E0 TJ1 (mkF m 5 #[vr a, vi (1 : Int32)] [(.int (3 : Int32)), (.int (1 : Int32))]) := fun tQ kk => kJ0 tQ (stJ4 _ kk)
 clear kJ0 stJ4
 obtain ⟨_, _, ⟨TJ6, LJ7, kcJ8, ncJ9⟩, -, XJA, ⟨LcJB, hQJC, lJD, yJE, zJF⟩, stJG⟩ := Jvm.LawKit.callS XJ2 hx (y := mn147) hown (mvT hZ (tw248 hw)) (mvT hZ (tw249 hw)) (mvT hZ (tw250 hw)) (mvT hZ (tw251 hw)) (by decide) (backOf (W := 0) (rmOc l Z a0 hw [] (1 : Int32) (3 : Int32) h0 n0 Z0 (by decide) (by decide)) hZ (tw251 hw) (tw250 hw) (by decide) (by decide)) (g := (mkF m 5 #[vr a, vi (1 : Int32)] [(.int (3 : Int32)), (.int (1 : Int32))])) rfl (by rw [hml]; rfl) (argsL := [(.int (1 : Int32)), (.int (3 : Int32))]) (rest := []) (lenOf pd_136 rfl) rfl (by show 2 * 0 + _ ≤ _; exact Nat.le_of_eq rfl) (hH j38_20_5) (fun _ _ => ⟨rfl, eJ3, (by decide : 0 + 0 ≤ _), (by decide : 0 + 0 ≤ _)⟩)
 dsimp only [Pt.U, Pt.locs, Pt.cells, Pt.slots] at XJA lJD yJE zJF stJG hQJC
 subst yJE zJF
 obtain ⟨rfl, NJH, eJI⟩ := hQJC
 have NJK : Fr n0 LJ7 := by rw [lJD]; exact Fr.app N0 NJH
 clear lJD NJH
 have kJL : own_G p e below E0 TJ6 (mkF m 8 #[vr a, vi (1 : Int32)] [(.int (1 : Int32))]) := fun tQ kk => kJ5 tQ (stJG _ kk)
 clear kJ5 stJG
 have kJM : own_G p e below E0 TJ6 (mkF m 11 #[vr a, vi (1 : Int32)] [(.int (1 : Int32)), (.ref a)]) := by
  intro tQ kk
  refine kJL tQ ?_
  refine XT.pop XJA.here hx rfl (hH j38_20_8) rfl rfl ?_
  refine XS.aloadN XJA.here hx rfl (hH j38_20_9) rfl rfl ?_
  refine XS.iloadN XJA.here hx rfl (hH j38_20_10) rfl ?_
  exact kk
 clear kJL
 obtain ⟨cqJY, kqJZ, qaK0, qbK1, qcK2⟩ := isOf hZ eJI E1
 obtain ⟨_, _, ⟨TJN, LJO, kcJP, ncJQ⟩, -, XJR, ⟨LcJS, hQJT, lJU, yJV, zJW⟩, stJX⟩ := XJA.virtualBack hx (y := mn149) (z := mn149) hown (mvT hZ (tw256 hw)) (mvT hZ (tw257 hw)) (notFace_of_selects (args := #[]) (mvT hZ (tw259 hw))) (mvT hZ (tw259 hw)) (mvT hZ (tw258 hw)) (by decide) (backOf (W := 0) (rmEd1 l Z a0 hw [] a r x0 x1 x2 h0 n0 Z0 E1 F1 F2 A1) hZ (tw260 hw) (tw12 hw) (by decide) (by decide)) qaK0 qcK2 (g := (mkF m 11 #[vr a, vi (1 : Int32)] [(.int (1 : Int32)), (.ref a)])) rfl (by rw [hml]; rfl) (Steps.refl _) (argsL := [(.int (1 : Int32))]) (rest := []) (lenOf pd_151 rfl) rfl (by show 2 * 0 + _ ≤ _; exact Nat.le_of_eq rfl) (hH j38_20_11) (fun _ _ => ⟨rfl, eJI, (by decide : 0 + 0 ≤ _), (by decide : 0 + 0 ≤ _)⟩)
 dsimp only [Pt.U, Pt.locs, Pt.cells, Pt.slots] at XJR lJU yJV zJW stJX hQJT
 subst yJV zJW
 obtain ⟨rfl, NK3, eK4⟩ := hQJT
 have NK6 : Fr n0 LJO := by rw [lJU]; exact Fr.app NJK NK3
 clear lJU NK3
 have kK7 : own_G p e below E0 TJN (mkF m 14 #[vr a, vi (1 : Int32)] [(.ref x1)]) := fun tQ kk => kJM tQ (stJX.trans kk)
 clear kJM stJX
 obtain ⟨fs, hr, hrun, hended, hW, hsame⟩ := XJR.leave (v := some (.ref x1)) (fun h => by rw [Bd.returns] at h; cases h)
 have hrun0 := kK7 _ (retOut XJR hx Bd.returns (t := (.object "java/lang/Object")) rfl (Or.inr (Or.inr (Or.inr (Or.inr ⟨rfl, rfl, rfl⟩)))) (hH j38_20_14) hr)
 subst hE0
 refine ⟨_, _, hrun0, hrun, hended, _, _, rfl, ?_, ⟨_, rfl⟩, hW, hsame.mono (by decide) (by decide)⟩
 show QrmGt1 Z a r x0 x1 x2 h0 n0 _ TJN.heap _
 rw [eK4]
 exact ⟨rfl, NK6, rfl⟩
def QrmEd2 (Z : State) (a : Addr) (r : Addr) (x0 : Addr) (x1 : Addr) (x2 : Addr) (h0 : Heap) (n0 : Nat) (vQ : Option Value) (hQ : Heap) (LQ : List Loc) : Prop := vQ = some (.ref x2) ∧ Fr n0 LQ ∧ hQ = h0
theorem ef_rmEd2 (m : MethodId) (a : Addr) (r : Addr) (x0 : Addr) (x1 : Addr) (x2 : Addr) : entryFrame m #[(.ref a), (.int (2 : Int32))] 2 = mkF m 0 #[vr a, vi (2 : Int32)] [] := by first | (simp [entryFrame, mkF, argsToLocals, Value.category]; done) | rfl
set_option maxRecDepth 65536 in
set_option maxHeartbeats 40000000 in
theorem rmEd2 (l : Launch) (Z : State) (a0 : Array Value) (hw : ∀ d ∈ tables_1, d.before a0 Z = true) (ws : List Jvm.Cond) (a : Addr) (r : Addr) (x0 : Addr) (x1 : Addr) (x2 : Addr) (h0 : Heap) (n0 : Nat) (Z0 : n0 ≤ h0.size) (E1 : xa32 Z h0 a) (F1 : fd30 Z h0 a (.ref r)) (F2 : fd31 Z h0 a (.int (3 : Int32))) (A1 : own_O Z h0 r "java/lang/Object" [(.ref x0), (.ref x1), (.ref x2), .null, .null, .null, .null, .null, .null, .null]) :
  MetFree l mn149 (head1 (Jvm.Cond.code mn149 jdk_38_method_18_code 2 (some (.object "java/lang/Object")) :: ws) ({ frames := 0, cells := 0, slots := 0, locals := 0 } : Room)) (fun aA U => aA = #[(.ref a), (.int (2 : Int32))] ∧ Z.Warmed39 U.vm ∧ U.heap = h0) (fun _ _ _ _ _ => True) (fun _ U o U' => ∃ vR LR, o = .returned vR ∧ QrmEd2 Z a r x0 x1 x2 h0 n0 vR U'.heap LR ∧ FrameEnd U o U' LR ({ frames := 0, cells := 0, slots := 0, locals := 0 } : Room).cells ({ frames := 0, cells := 0, slots := 0, locals := 0 } : Room).slots) := by
 refine MetFree.of_bodySF (plainFor_of_name pn_java_util_ArrayList) hisR ?_
 intro p e s m args below meth c s₁ Bd hml0 hPre hKk
 obtain ⟨rfl, hZ, hh⟩ := hPre
 have hx := Bd.exec
 have hby := Bd.bytes
 have hH : ∀ {pc r}, decode jdk_38_method_18_code pc = r → decode c.code pc = r := fun q => hb hby q
 have hml : c.maxLocals = 2 := hml0
 have hown : s.vm.findClass "java/util/ArrayList" = some m.cls := findClass_of_methodNamed Bd.named
 have hnm := (name_of_methodNamed Bd.named Bd.method).1
 have X0 : Stand p l e ({ frames := 0, cells := 0, slots := 0, locals := 0 } : Room) s m #[(.ref a), (.int (2 : Int32))] below meth c s₁ [] 0 0 := Stand.of_body Bd
 have e0 : s₁.heap = h0 := by rw [← hh, Bd.state]; rfl
 have N0 := Fr.nil n0
 obtain ⟨E0, hE0⟩ : ∃ zE : State, zE = s₁.setTop (entryFrame m #[(.ref a), (.int (2 : Int32))] 2) := ⟨_, rfl⟩
 have k0 : own_G p e below E0 s₁ (mkF m 0 #[vr a, vi (2 : Int32)] []) := fun tz kz => hE0 ▸ castTop (ef_rmEd2 m a r x0 x1 x2) kz
 have kJ0 : own_G p e below E0 s₁ (mkF m 1 #[vr a, vi (2 : Int32)] [(.ref a)]) := by
  intro tQ kk
  refine k0 tQ ?_
  refine XS.aloadN X0.here hx rfl (hH j38_18_0) rfl rfl ?_
  exact kk
 clear k0
 obtain ⟨TJ1, XJ2, eJ3, stJ4⟩ := getF X0 hx hZ hown (host := "") (Or.inl (tw32 hw)) Via.refl e0 F1 (g := (mkF m 1 #[vr a, vi (2 : Int32)] [(.ref a)])) rfl rfl (hH j38_18_1)
 have kJ5 : own_G p e below E0 TJ1 (mkF m 4 #[vr a, vi (2 : Int32)] [(.ref r)]) := fun tQ kk => kJ0 tQ (stJ4 _ kk)
 clear kJ0 stJ4
 have kJ6 : own_G p e below E0 TJ1 (mkF m 5 #[vr a, vi (2 : Int32)] [(.int (2 : Int32)), (.ref r)]) := by
  intro tQ kk
  refine kJ5 tQ ?_
  refine XS.iloadN XJ2.here hx rfl (hH j38_18_4) rfl ?_
  exact kk
 clear kJ5
 have stJ7 := fun tQ => own_O.ald XJ2 hx hZ eJ3 A1 (j := (2 : Int32)) (v := (.ref x2)) (by decide) rfl (g := (mkF m 5 #[vr a, vi (2 : Int32)] [(.int (2 : Int32)), (.ref r)])) rfl rfl (hH j38_18_5) tQ
 have kJ8 : own_G p e below E0 TJ1 (mkF m 6 #[vr a, vi (2 : Int32)] [(.ref x2)]) := fun tQ kk => kJ6 tQ (stJ7 _ kk)
 clear kJ6 stJ7
 obtain ⟨fs, hr, hrun, hended, hW, hsame⟩ := XJ2.leave (v := some (.ref x2)) (fun h => by rw [Bd.returns] at h; cases h)
 have hrun0 := kJ8 _ (retOut XJ2 hx Bd.returns (t := (.object "java/lang/Object")) rfl (Or.inr (Or.inr (Or.inr (Or.inr ⟨rfl, rfl, rfl⟩)))) (hH j38_18_6) hr)
 subst hE0
 refine ⟨_, _, hrun0, hrun, hended, _, _, rfl, ?_, ⟨_, rfl⟩, hW, hsame.mono (by decide) (by decide)⟩
 show QrmEd2 Z a r x0 x1 x2 h0 n0 _ TJ1.heap _
 rw [eJ3]
 exact ⟨rfl, N0, rfl⟩
def QrmGt2 (Z : State) (a : Addr) (r : Addr) (x0 : Addr) (x1 : Addr) (x2 : Addr) (h0 : Heap) (n0 : Nat) (vQ : Option Value) (hQ : Heap) (LQ : List Loc) : Prop := vQ = some (.ref x2) ∧ Fr n0 LQ ∧ hQ = h0
theorem ef_rmGt2 (m : MethodId) (a : Addr) (r : Addr) (x0 : Addr) (x1 : Addr) (x2 : Addr) : entryFrame m #[(.ref a), (.int (2 : Int32))] 2 = mkF m 0 #[vr a, vi (2 : Int32)] [] := by first | (simp [entryFrame, mkF, argsToLocals, Value.category]; done) | rfl
set_option maxRecDepth 65536 in
set_option maxHeartbeats 40000000 in
theorem rmGt2 (l : Launch) (Z : State) (a0 : Array Value) (hw : ∀ d ∈ tables_1, d.before a0 Z = true) (ws : List Jvm.Cond) (a : Addr) (r : Addr) (x0 : Addr) (x1 : Addr) (x2 : Addr) (h0 : Heap) (n0 : Nat) (Z0 : n0 ≤ h0.size) (E1 : xa32 Z h0 a) (F1 : fd30 Z h0 a (.ref r)) (F2 : fd31 Z h0 a (.int (3 : Int32))) (A1 : own_O Z h0 r "java/lang/Object" [(.ref x0), (.ref x1), (.ref x2), .null, .null, .null, .null, .null, .null, .null]) :
  MetFree l mn150 (head1 (Jvm.Cond.code mn150 jdk_38_method_20_code 2 (some (.object "java/lang/Object")) :: ws) ({ frames := 2, cells := 0, slots := 0, locals := 32 } : Room)) (fun aA U => aA = #[(.ref a), (.int (2 : Int32))] ∧ Z.Warmed39 U.vm ∧ U.heap = h0) (fun _ _ _ _ _ => True) (fun _ U o U' => ∃ vR LR, o = .returned vR ∧ QrmGt2 Z a r x0 x1 x2 h0 n0 vR U'.heap LR ∧ FrameEnd U o U' LR ({ frames := 2, cells := 0, slots := 0, locals := 32 } : Room).cells ({ frames := 2, cells := 0, slots := 0, locals := 32 } : Room).slots) := by
 refine MetFree.of_bodySF (plainFor_of_name pn_java_util_ArrayList) hisR ?_
 intro p e s m args below meth c s₁ Bd hml0 hPre hKk
 obtain ⟨rfl, hZ, hh⟩ := hPre
 have hx := Bd.exec
 have hby := Bd.bytes
 have hH : ∀ {pc r}, decode jdk_38_method_20_code pc = r → decode c.code pc = r := fun q => hb hby q
 have hml : c.maxLocals = 2 := hml0
 have hown : s.vm.findClass "java/util/ArrayList" = some m.cls := findClass_of_methodNamed Bd.named
 have hnm := (name_of_methodNamed Bd.named Bd.method).1
 have X0 : Stand p l e ({ frames := 2, cells := 0, slots := 0, locals := 32 } : Room) s m #[(.ref a), (.int (2 : Int32))] below meth c s₁ [] 0 0 := Stand.of_body Bd
 have e0 : s₁.heap = h0 := by rw [← hh, Bd.state]; rfl
 have N0 := Fr.nil n0
 obtain ⟨E0, hE0⟩ : ∃ zE : State, zE = s₁.setTop (entryFrame m #[(.ref a), (.int (2 : Int32))] 2) := ⟨_, rfl⟩
 have k0 : own_G p e below E0 s₁ (mkF m 0 #[vr a, vi (2 : Int32)] []) := fun tz kz => hE0 ▸ castTop (ef_rmGt2 m a r x0 x1 x2) kz
 have kJ0 : own_G p e below E0 s₁ (mkF m 2 #[vr a, vi (2 : Int32)] [(.ref a), (.int (2 : Int32))]) := by
  intro tQ kk
  refine k0 tQ ?_
  refine XS.iloadN X0.here hx rfl (hH j38_20_0) rfl ?_
  refine XS.aloadN X0.here hx rfl (hH j38_20_1) rfl rfl ?_
  exact kk
 clear k0
 obtain ⟨TJ1, XJ2, eJ3, stJ4⟩ := getF X0 hx hZ hown (host := "") (Or.inl (tw181 hw)) Via.refl e0 F2 (g := (mkF m 2 #[vr a, vi (2 : Int32)] [(.ref a), (.int (2 : Int32))])) rfl rfl (hH j38_20_2)
 have kJ5 : own_G p e below E0 TJ1 (mkF m 5 #[vr a, vi (2 : Int32)] [(.int (3 : Int32)), (.int (2 : Int32))]) := fun tQ kk => kJ0 tQ (stJ4 _ kk)
 clear kJ0 stJ4
 obtain ⟨_, _, ⟨TJ6, LJ7, kcJ8, ncJ9⟩, -, XJA, ⟨LcJB, hQJC, lJD, yJE, zJF⟩, stJG⟩ := Jvm.LawKit.callS XJ2 hx (y := mn147) hown (mvT hZ (tw248 hw)) (mvT hZ (tw249 hw)) (mvT hZ (tw250 hw)) (mvT hZ (tw251 hw)) (by decide) (backOf (W := 0) (rmOc l Z a0 hw [] (2 : Int32) (3 : Int32) h0 n0 Z0 (by decide) (by decide)) hZ (tw251 hw) (tw250 hw) (by decide) (by decide)) (g := (mkF m 5 #[vr a, vi (2 : Int32)] [(.int (3 : Int32)), (.int (2 : Int32))])) rfl (by rw [hml]; rfl) (argsL := [(.int (2 : Int32)), (.int (3 : Int32))]) (rest := []) (lenOf pd_136 rfl) rfl (by show 2 * 0 + _ ≤ _; exact Nat.le_of_eq rfl) (hH j38_20_5) (fun _ _ => ⟨rfl, eJ3, (by decide : 0 + 0 ≤ _), (by decide : 0 + 0 ≤ _)⟩)
 dsimp only [Pt.U, Pt.locs, Pt.cells, Pt.slots] at XJA lJD yJE zJF stJG hQJC
 subst yJE zJF
 obtain ⟨rfl, NJH, eJI⟩ := hQJC
 have NJK : Fr n0 LJ7 := by rw [lJD]; exact Fr.app N0 NJH
 clear lJD NJH
 have kJL : own_G p e below E0 TJ6 (mkF m 8 #[vr a, vi (2 : Int32)] [(.int (2 : Int32))]) := fun tQ kk => kJ5 tQ (stJG _ kk)
 clear kJ5 stJG
 have kJM : own_G p e below E0 TJ6 (mkF m 11 #[vr a, vi (2 : Int32)] [(.int (2 : Int32)), (.ref a)]) := by
  intro tQ kk
  refine kJL tQ ?_
  refine XT.pop XJA.here hx rfl (hH j38_20_8) rfl rfl ?_
  refine XS.aloadN XJA.here hx rfl (hH j38_20_9) rfl rfl ?_
  refine XS.iloadN XJA.here hx rfl (hH j38_20_10) rfl ?_
  exact kk
 clear kJL
 obtain ⟨cqJY, kqJZ, qaK0, qbK1, qcK2⟩ := isOf hZ eJI E1
 obtain ⟨_, _, ⟨TJN, LJO, kcJP, ncJQ⟩, -, XJR, ⟨LcJS, hQJT, lJU, yJV, zJW⟩, stJX⟩ := XJA.virtualBack hx (y := mn149) (z := mn149) hown (mvT hZ (tw256 hw)) (mvT hZ (tw257 hw)) (notFace_of_selects (args := #[]) (mvT hZ (tw259 hw))) (mvT hZ (tw259 hw)) (mvT hZ (tw258 hw)) (by decide) (backOf (W := 0) (rmEd2 l Z a0 hw [] a r x0 x1 x2 h0 n0 Z0 E1 F1 F2 A1) hZ (tw260 hw) (tw12 hw) (by decide) (by decide)) qaK0 qcK2 (g := (mkF m 11 #[vr a, vi (2 : Int32)] [(.int (2 : Int32)), (.ref a)])) rfl (by rw [hml]; rfl) (Steps.refl _) (argsL := [(.int (2 : Int32))]) (rest := []) (lenOf pd_151 rfl) rfl (by show 2 * 0 + _ ≤ _; exact Nat.le_of_eq rfl) (hH j38_20_11) (fun _ _ => ⟨rfl, eJI, (by decide : 0 + 0 ≤ _), (by decide : 0 + 0 ≤ _)⟩)
 dsimp only [Pt.U, Pt.locs, Pt.cells, Pt.slots] at XJR lJU yJV zJW stJX hQJT
 subst yJV zJW
 obtain ⟨rfl, NK3, eK4⟩ := hQJT
 have NK6 : Fr n0 LJO := by rw [lJU]; exact Fr.app NJK NK3
 clear lJU NK3
 have kK7 : own_G p e below E0 TJN (mkF m 14 #[vr a, vi (2 : Int32)] [(.ref x2)]) := fun tQ kk => kJM tQ (stJX.trans kk)
 clear kJM stJX
 obtain ⟨fs, hr, hrun, hended, hW, hsame⟩ := XJR.leave (v := some (.ref x2)) (fun h => by rw [Bd.returns] at h; cases h)
 have hrun0 := kK7 _ (retOut XJR hx Bd.returns (t := (.object "java/lang/Object")) rfl (Or.inr (Or.inr (Or.inr (Or.inr ⟨rfl, rfl, rfl⟩)))) (hH j38_20_14) hr)
 subst hE0
 refine ⟨_, _, hrun0, hrun, hended, _, _, rfl, ?_, ⟨_, rfl⟩, hW, hsame.mono (by decide) (by decide)⟩
 show QrmGt2 Z a r x0 x1 x2 h0 n0 _ TJN.heap _
 rw [eK4]
 exact ⟨rfl, NK6, rfl⟩
def QrmCo0 (Z : State) (a : Addr) (is : Addr) (ds : Addr) (al : Addr) (cA : Addr) (ro : Addr) (ba : Addr) (pA : Addr) (fa : Addr) (va : Addr) (dE : Addr) (cv : List Value) (pv : List Value) (xc : UInt64) (h0 : Heap) (n0 : Nat) (vQ : Option Value) (hQ : Heap) (LQ : List Loc) : Prop := ∃ (r : Addr), ∃ (sc : Addr), ∃ (r1 : Addr), ∃ (r2 : Addr), vQ = some (.int (0 : Int32)) ∧ Fr n0 LQ ∧ Keep h0 hQ [a, al, cA, pA] ∧ (fd41 Z hQ a (.ref al)) ∧ (fd42 Z hQ a (.ref cA)) ∧ (fd43 Z hQ a (.ref ro)) ∧ (fd44 Z hQ a (.ref ba)) ∧ (fd45 Z hQ a (.ref pA)) ∧ (fd46 Z hQ a (.ref fa)) ∧ (fd47 Z hQ a (.ref va)) ∧ (fd48 Z hQ a (.int (0 : Int32))) ∧ (fd30 Z hQ al (.ref r)) ∧ (fd31 Z hQ al (.int (1 : Int32))) ∧ (fd29 Z hQ al (.int (1 : Int32))) ∧ (own_O Z hQ r "java/lang/Object" [(.ref sc), .null, .null, .null, .null, .null, .null, .null, .null, .null]) ∧ (own_A Z hQ cA .double (cv.set ((0 : Int32)).toNatClampNeg (.double xc))) ∧ (own_A Z hQ pA .int (pv.set ((0 : Int32)).toNatClampNeg (.int (-1 : Int32)))) ∧ (xa123 Z hQ sc) ∧ (fd120 Z hQ sc (.ref r1)) ∧ (fd121 Z hQ sc (.ref r2)) ∧ (fd122 Z hQ sc (.int (0 : Int32))) ∧ (own_A Z hQ r1 .int own_i4) ∧ (own_A Z hQ r2 .double own_d4) ∧ (h0.size ≤ r) ∧ (h0.size ≤ sc) ∧ (h0.size ≤ r1) ∧ (h0.size ≤ r2) ∧ (r ≠ sc) ∧ (r ≠ r1) ∧ (r ≠ r2) ∧ (sc ≠ r1) ∧ (sc ≠ r2) ∧ (r1 ≠ r2)
theorem ef_rmCo0 (m : MethodId) (a : Addr) (is : Addr) (ds : Addr) (al : Addr) (cA : Addr) (ro : Addr) (ba : Addr) (pA : Addr) (fa : Addr) (va : Addr) (dE : Addr) (cv : List Value) (pv : List Value) (xc : UInt64) : entryFrame m #[(.ref a), (.double xc), (.ref is), (.ref ds)] 8 = mkF m 0 #[vr a, vd xc, ss, vr is, vr ds, uu, uu, uu] [] := by first | (simp [entryFrame, mkF, argsToLocals, Value.category]; done) | rfl
abbrev mn152 : MethodName := ⟨"com/example/netloom/netloom/embed/Simplex", "addColumn", "(D[I[D)I"⟩
theorem p49_2_0 : decode prog_49_method_2_code 0 = .ok (.aload_n 0, 1) := by decide +kernel
theorem p49_2_1 : decode prog_49_method_2_code 1 = .ok (.getfield 10, 3) := by decide +kernel
theorem p49_2_4 : decode prog_49_method_2_code 4 = .ok (.invokeinterface 43 1, 5) := by decide +kernel
def tw172 {Z a0} (hw : HW Z a0) := hw _ (List.mem_of_getElem? (i := 172) rfl)
def tw175 {Z a0} (hw : HW Z a0) := hw _ (List.mem_of_getElem? (i := 175) rfl)
def tw180 {Z a0} (hw : HW Z a0) := hw _ (List.mem_of_getElem? (i := 180) rfl)
theorem pd_153 : parseMethodDescriptor "()I" = some ⟨[], some .int⟩ := by decide +kernel
abbrev mn154 : MethodName := ⟨"java/util/List", "size", "()I"⟩
def tw173 {Z a0} (hw : HW Z a0) := hw _ (List.mem_of_getElem? (i := 173) rfl)
def tw174 {Z a0} (hw : HW Z a0) := hw _ (List.mem_of_getElem? (i := 174) rfl)
def tw176 {Z a0} (hw : HW Z a0) := hw _ (List.mem_of_getElem? (i := 176) rfl)
def tw177 {Z a0} (hw : HW Z a0) := hw _ (List.mem_of_getElem? (i := 177) rfl)
def tw178 {Z a0} (hw : HW Z a0) := hw _ (List.mem_of_getElem? (i := 178) rfl)
def tw179 {Z a0} (hw : HW Z a0) := hw _ (List.mem_of_getElem? (i := 179) rfl)
theorem p49_2_9 : decode prog_49_method_2_code 9 = .ok (.istore 5, 2) := by decide +kernel
theorem p49_2_11 : decode prog_49_method_2_code 11 = .ok (.new 49, 3) := by decide +kernel
def tw183 {Z a0} (hw : HW Z a0) := hw _ (List.mem_of_getElem? (i := 183) rfl)
def tw185 {Z a0} (hw : HW Z a0) := hw _ (List.mem_of_getElem? (i := 185) rfl)
theorem p49_2_14 : decode prog_49_method_2_code 14 = .ok (.dup, 1) := by decide +kernel
theorem p49_2_15 : decode prog_49_method_2_code 15 = .ok (.invokespecial 51, 3) := by decide +kernel
def tw186 {Z a0} (hw : HW Z a0) := hw _ (List.mem_of_getElem? (i := 186) rfl)
def tw188 {Z a0} (hw : HW Z a0) := hw _ (List.mem_of_getElem? (i := 188) rfl)
def tw187 {Z a0} (hw : HW Z a0) := hw _ (List.mem_of_getElem? (i := 187) rfl)
theorem p49_2_18 : decode prog_49_method_2_code 18 = .ok (.astore 6, 2) := by decide +kernel
theorem p49_2_20 : decode prog_49_method_2_code 20 = .ok (.iconst 0, 1) := by decide +kernel
theorem p49_2_21 : decode prog_49_method_2_code 21 = .ok (.istore 7, 2) := by decide +kernel
theorem p49_2_23 : decode prog_49_method_2_code 23 = .ok (.iload 7, 2) := by decide +kernel
theorem p49_2_25 : decode prog_49_method_2_code 25 = .ok (.aload_n 3, 1) := by decide +kernel
theorem p49_2_26 : decode prog_49_method_2_code 26 = .ok (.arraylength, 1) := by decide +kernel
theorem p49_2_27 : decode prog_49_method_2_code 27 = .ok (.if_icmp .ge 23, 3) := by decide +kernel
theorem p49_2_50 : decode prog_49_method_2_code 50 = .ok (.aload_n 0, 1) := by decide +kernel
theorem p49_2_51 : decode prog_49_method_2_code 51 = .ok (.getfield 10, 3) := by decide +kernel
theorem p49_2_54 : decode prog_49_method_2_code 54 = .ok (.aload 6, 2) := by decide +kernel
theorem p49_2_56 : decode prog_49_method_2_code 56 = .ok (.invokeinterface 56 2, 5) := by decide +kernel
def tw194 {Z a0} (hw : HW Z a0) := hw _ (List.mem_of_getElem? (i := 194) rfl)
def tw197 {Z a0} (hw : HW Z a0) := hw _ (List.mem_of_getElem? (i := 197) rfl)
def tw201 {Z a0} (hw : HW Z a0) := hw _ (List.mem_of_getElem? (i := 201) rfl)
theorem pd_155 : parseMethodDescriptor "(Ljava/lang/Object;)Z" = some ⟨[(.object "java/lang/Object")], some .boolean⟩ := by decide +kernel
abbrev mn156 : MethodName := ⟨"java/util/List", "add", "(Ljava/lang/Object;)Z"⟩
def tw195 {Z a0} (hw : HW Z a0) := hw _ (List.mem_of_getElem? (i := 195) rfl)
def tw196 {Z a0} (hw : HW Z a0) := hw _ (List.mem_of_getElem? (i := 196) rfl)
def tw198 {Z a0} (hw : HW Z a0) := hw _ (List.mem_of_getElem? (i := 198) rfl)
def tw199 {Z a0} (hw : HW Z a0) := hw _ (List.mem_of_getElem? (i := 199) rfl)
def tw200 {Z a0} (hw : HW Z a0) := hw _ (List.mem_of_getElem? (i := 200) rfl)
theorem p49_2_61 : decode prog_49_method_2_code 61 = .ok (.pop, 1) := by decide +kernel
theorem p49_2_62 : decode prog_49_method_2_code 62 = .ok (.aload_n 0, 1) := by decide +kernel
theorem p49_2_63 : decode prog_49_method_2_code 63 = .ok (.aload_n 0, 1) := by decide +kernel
theorem p49_2_64 : decode prog_49_method_2_code 64 = .ok (.getfield 16, 3) := by decide +kernel
theorem p49_2_67 : decode prog_49_method_2_code 67 = .ok (.iload 5, 2) := by decide +kernel
theorem p49_2_69 : decode prog_49_method_2_code 69 = .ok (.iconst 1, 1) := by decide +kernel
theorem p49_2_70 : decode prog_49_method_2_code 70 = .ok (.iadd, 1) := by decide +kernel
theorem p49_2_71 : decode prog_49_method_2_code 71 = .ok (.invokestatic 59, 3) := by decide +kernel
def tw226 {Z a0} (hw : HW Z a0) := hw _ (List.mem_of_getElem? (i := 226) rfl)
def tw229 {Z a0} (hw : HW Z a0) := hw _ (List.mem_of_getElem? (i := 229) rfl)
def tw228 {Z a0} (hw : HW Z a0) := hw _ (List.mem_of_getElem? (i := 228) rfl)
theorem pd_157 : parseMethodDescriptor "([DI)[D" = some ⟨[(.array .double), .int], some (.array .double)⟩ := by decide +kernel
def tw227 {Z a0} (hw : HW Z a0) := hw _ (List.mem_of_getElem? (i := 227) rfl)
theorem p49_2_74 : decode prog_49_method_2_code 74 = .ok (.putfield 16, 3) := by decide +kernel
theorem p49_2_77 : decode prog_49_method_2_code 77 = .ok (.aload_n 0, 1) := by decide +kernel
theorem p49_2_78 : decode prog_49_method_2_code 78 = .ok (.getfield 16, 3) := by decide +kernel
theorem p49_2_81 : decode prog_49_method_2_code 81 = .ok (.iload 5, 2) := by decide +kernel
theorem p49_2_83 : decode prog_49_method_2_code 83 = .ok (.dload_n 1, 1) := by decide +kernel
theorem p49_2_84 : decode prog_49_method_2_code 84 = .ok (.dastore, 1) := by decide +kernel
theorem p49_2_85 : decode prog_49_method_2_code 85 = .ok (.aload_n 0, 1) := by decide +kernel
theorem p49_2_86 : decode prog_49_method_2_code 86 = .ok (.aload_n 0, 1) := by decide +kernel
theorem p49_2_87 : decode prog_49_method_2_code 87 = .ok (.getfield 27, 3) := by decide +kernel
theorem p49_2_90 : decode prog_49_method_2_code 90 = .ok (.iload 5, 2) := by decide +kernel
theorem p49_2_92 : decode prog_49_method_2_code 92 = .ok (.iconst 1, 1) := by decide +kernel
theorem p49_2_93 : decode prog_49_method_2_code 93 = .ok (.iadd, 1) := by decide +kernel
theorem p49_2_94 : decode prog_49_method_2_code 94 = .ok (.invokestatic 65, 3) := by decide +kernel
def tw230 {Z a0} (hw : HW Z a0) := hw _ (List.mem_of_getElem? (i := 230) rfl)
def tw232 {Z a0} (hw : HW Z a0) := hw _ (List.mem_of_getElem? (i := 232) rfl)
theorem pd_158 : parseMethodDescriptor "([II)[I" = some ⟨[(.array .int), .int], some (.array .int)⟩ := by decide +kernel
def tw231 {Z a0} (hw : HW Z a0) := hw _ (List.mem_of_getElem? (i := 231) rfl)
theorem p49_2_97 : decode prog_49_method_2_code 97 = .ok (.putfield 27, 3) := by decide +kernel
theorem p49_2_100 : decode prog_49_method_2_code 100 = .ok (.aload_n 0, 1) := by decide +kernel
theorem p49_2_101 : decode prog_49_method_2_code 101 = .ok (.getfield 27, 3) := by decide +kernel
theorem p49_2_104 : decode prog_49_method_2_code 104 = .ok (.iload 5, 2) := by decide +kernel
theorem p49_2_106 : decode prog_49_method_2_code 106 = .ok (.iconst (-1), 1) := by decide +kernel
theorem p49_2_107 : decode prog_49_method_2_code 107 = .ok (.iastore, 1) := by decide +kernel
theorem p49_2_108 : decode prog_49_method_2_code 108 = .ok (.iload 5, 2) := by decide +kernel
theorem p49_2_110 : decode prog_49_method_2_code 110 = .ok (.ireturn, 1) := by decide +kernel
set_option maxRecDepth 65536 in
set_option maxHeartbeats 40000000 in
theorem rmCo0 (l : Launch) (Z : State) (a0 : Array Value) (hw : ∀ d ∈ tables_1, d.before a0 Z = true) (ws : List Jvm.Cond) (a : Addr) (is : Addr) (ds : Addr) (al : Addr) (cA : Addr) (ro : Addr) (ba : Addr) (pA : Addr) (fa : Addr) (va : Addr) (dE : Addr) (cv : List Value) (pv : List Value) (xc : UInt64) (h0 : Heap) (n0 : Nat) (Z0 : n0 ≤ h0.size) (EX : xa49 Z h0 a) (S0 : fd41 Z h0 a (.ref al)) (S1 : fd42 Z h0 a (.ref cA)) (S2 : fd43 Z h0 a (.ref ro)) (S3 : fd44 Z h0 a (.ref ba)) (S4 : fd45 Z h0 a (.ref pA)) (S5 : fd46 Z h0 a (.ref fa)) (S6 : fd47 Z h0 a (.ref va)) (S7 : fd48 Z h0 a (.int (0 : Int32))) (E1 : xa32 Z h0 al) (L1 : fd30 Z h0 al (.ref dE)) (L2 : fd31 Z h0 al (.int (0 : Int32))) (L3 : fd29 Z h0 al (.int (0 : Int32))) (O1 : Old Z n0 h0) (AE : own_A Z h0 dE (.object "java/lang/Object") []) (A1 : own_A Z h0 cA .double cv) (A2 : own_A Z h0 pA .int pv) (A3 : own_A Z h0 is .int []) (A4 : own_A Z h0 ds .double []) (q_a_al : a ≠ al) (q_a_cA : a ≠ cA) (q_a_pA : a ≠ pA) (q_a_is : a ≠ is) (q_a_ds : a ≠ ds) (q_a_dE : a ≠ dE) (q_al_cA : al ≠ cA) (q_al_pA : al ≠ pA) (q_al_is : al ≠ is) (q_al_ds : al ≠ ds) (q_al_dE : al ≠ dE) (q_cA_pA : cA ≠ pA) (q_cA_is : cA ≠ is) (q_cA_ds : cA ≠ ds) (q_cA_dE : cA ≠ dE) (q_pA_is : pA ≠ is) (q_pA_ds : pA ≠ ds) (q_pA_dE : pA ≠ dE) (ge_a : n0 ≤ a) (ge_al : n0 ≤ al) (ge_cA : n0 ≤ cA) (ge_pA : n0 ≤ pA) (lc : cv.length = 16) (lp : pv.length = 16) (oD : Sta Z Z.heap "java/util/ArrayList" "DEFAULTCAPACITY_EMPTY_ELEMENTDATA" "[Ljava/lang/Object;" (.ref dE)) :
  MetFree l mn152 (head1 (Jvm.Cond.code mn152 prog_49_method_2_code 8 (some .int) :: ws) ({ frames := 6, cells := 4, slots := 21, locals := 90 } : Room)) (fun aA U => aA = #[(.ref a), (.double xc), (.ref is), (.ref ds)] ∧ Z.Warmed39 U.vm ∧ U.heap = h0) (fun _ _ _ _ _ => True) (fun _ U o U' => ∃ vR LR, o = .returned vR ∧ QrmCo0 Z a is ds al cA ro ba pA fa va dE cv pv xc h0 n0 vR U'.heap LR ∧ FrameEnd U o U' LR ({ frames := 6, cells := 4, slots := 21, locals := 90 } : Room).cells ({ frames := 6, cells := 4, slots := 21, locals := 90 } : Room).slots) := by
 refine MetFree.of_bodySF (plainFor_of_name pn_com_example_netloom_netloom_embed_Simplex) hisR ?_
 intro p e s m args below meth c s₁ Bd hml0 hPre hKk
 obtain ⟨rfl, hZ, hh⟩ := hPre
 have hx := Bd.exec
 have hby := Bd.bytes
 have hH : ∀ {pc r}, decode prog_49_method_2_code pc = r → decode c.code pc = r := fun q => hb hby q
 have hml : c.maxLocals = 8 := hml0
 have hown : s.vm.findClass "com/example/netloom/netloom/embed/Simplex" = some m.cls := findClass_of_methodNamed Bd.named
 have hnm := (name_of_methodNamed Bd.named Bd.method).1
 have X0 : Stand p l e ({ frames := 6, cells := 4, slots := 21, locals := 90 } : Room) s m #[(.ref a), (.double xc), (.ref is), (.ref ds)] below meth c s₁ [] 0 0 := Stand.of_body Bd
 have e0 : s₁.heap = h0 := by rw [← hh, Bd.state]; rfl
 have N0 := Fr.nil n0
 obtain ⟨E0, hE0⟩ : ∃ zE : State, zE = s₁.setTop (entryFrame m #[(.ref a), (.double xc), (.ref is), (.ref ds)] 8) := ⟨_, rfl⟩
 have k0 : own_G p e below E0 s₁ (mkF m 0 #[vr a, vd xc, ss, vr is, vr ds, uu, uu, uu] []) := fun tz kz => hE0 ▸ castTop (ef_rmCo0 m a is ds al cA ro ba pA fa va dE cv pv xc) kz
 have K0 : Keep h0 h0 [a, al, cA, pA] := Keep.refl _ _
 have kJ0 : own_G p e below E0 s₁ (mkF m 1 #[vr a, vd xc, ss, vr is, vr ds, uu, uu, uu] [(.ref a)]) := by
  intro tQ kk
  refine k0 tQ ?_
  refine XS.aloadN X0.here hx rfl (hH p49_2_0) rfl rfl ?_
  exact kk
 clear k0
 obtain ⟨TJ1, XJ2, eJ3, stJ4⟩ := getF X0 hx hZ hown (host := "") (Or.inl (tw34 hw)) Via.refl e0 S0 (g := (mkF m 1 #[vr a, vd xc, ss, vr is, vr ds, uu, uu, uu] [(.ref a)])) rfl rfl (hH p49_2_1)
 have kJ5 : own_G p e below E0 TJ1 (mkF m 4 #[vr a, vd xc, ss, vr is, vr ds, uu, uu, uu] [(.ref al)]) := fun tQ kk => kJ0 tQ (stJ4 _ kk)
 clear kJ0 stJ4
 obtain ⟨cqJH, kqJI, qaJJ, qbJK, qcJL⟩ := isOf hZ eJ3 E1
 obtain ⟨_, _, ⟨TJ6, LJ7, kcJ8, ncJ9⟩, -, XJA, ⟨LcJB, hQJC, lJD, yJE, zJF⟩, stJG⟩ := XJ2.interfaceBack hx (xi := mn154) (y := mn145) hown (mvT hZ (tw172 hw)) (mvT hZ (tw173 hw)) (mvT hZ (tw174 hw)) (mvT hZ (tw175 hw)) (mvT hZ (tw176 hw)) (mvT hZ (tw177 hw)) (mvT hZ (tw178 hw)) (mvT hZ (tw179 hw)) (by decide) (backOf (W := 0) (rmSz0 l Z a0 hw [] al h0 n0 Z0 L2) hZ (tw180 hw) (tw12 hw) (by decide) (by decide)) qaJJ qbJK qcJL (g := (mkF m 4 #[vr a, vd xc, ss, vr is, vr ds, uu, uu, uu] [(.ref al)])) rfl (by rw [hml]; rfl) (Steps.refl _) (argsL := []) (rest := []) (lenOf pd_153 rfl) rfl (by show 2 * 0 + _ ≤ _; exact Nat.le_of_eq rfl) (hH p49_2_4) (fun _ _ => ⟨rfl, eJ3, (by decide : 0 + 0 ≤ _), (by decide : 0 + 0 ≤ _)⟩)
 dsimp only [Pt.U, Pt.locs, Pt.cells, Pt.slots] at XJA lJD yJE zJF stJG hQJC
 subst yJE zJF
 obtain ⟨rfl, NJM, eJN⟩ := hQJC
 have NJP : Fr n0 LJ7 := by rw [lJD]; exact Fr.app N0 NJM
 clear lJD NJM
 have kJQ : own_G p e below E0 TJ6 (mkF m 9 #[vr a, vd xc, ss, vr is, vr ds, uu, uu, uu] [(.int (0 : Int32))]) := fun tQ kk => kJ5 tQ (stJG.trans kk)
 clear kJ5 stJG
 have kJR : own_G p e below E0 TJ6 (mkF m 11 #[vr a, vd xc, ss, vr is, vr ds, vi (0 : Int32), uu, uu] []) := by
  intro tQ kk
  refine kJQ tQ ?_
  refine XS.istore XJA.here hx rfl (hH p49_2_9) rfl (l' := #[vr a, vd xc, ss, vr is, vr ds, vi (0 : Int32), uu, uu]) rfl ?_
  exact kk
 clear kJQ
 obtain ⟨TJS, hJT, XJU, eJV, EJW, AJX, DJY, UnK2, stJZ⟩ := newO XJA hx hZ hown (tw183 hw) (tw184 hw) (tw185 hw) eJN (g := (mkF m 11 #[vr a, vd xc, ss, vr is, vr ds, vi (0 : Int32), uu, uu] [])) rfl (hH p49_2_11) (by decide) (by decide)
 obtain ⟨aK0, gK1⟩ : ∃ zA : Nat, zA = h0.size := ⟨_, rfl⟩
 rw [← gK1] at AJX DJY stJZ UnK2
 have nK3 := own_lt_ne EX.lt gK1
 have nK4 := own_lt_ne E1.lt gK1
 have nK5 := own_lt_ne AE.lt gK1
 have nK6 := own_lt_ne A1.lt gK1
 have nK7 := own_lt_ne A2.lt gK1
 have nK8 := own_lt_ne A3.lt gK1
 have nK9 := own_lt_ne A4.lt gK1
 have nwKA : h0.size ≤ aK0 := own_ge_of K0.1 gK1
 have geKB : n0 ≤ aK0 := own_ge_of Z0 gK1
 replace Z0 := Nat.le_trans Z0 EJW.1
 replace EX := EX.ext EJW
 replace S0 := S0.ext EJW
 replace S1 := S1.ext EJW
 replace S2 := S2.ext EJW
 replace S3 := S3.ext EJW
 replace S4 := S4.ext EJW
 replace S5 := S5.ext EJW
 replace S6 := S6.ext EJW
 replace S7 := S7.ext EJW
 replace E1 := E1.ext EJW
 replace L1 := L1.ext EJW
 replace L2 := L2.ext EJW
 replace L3 := L3.ext EJW
 replace O1 := O1.ext EJW
 replace AE := AE.ext EJW
 replace A1 := A1.ext EJW
 replace A2 := A2.ext EJW
 replace A3 := A3.ext EJW
 replace A4 := A4.ext EJW
 replace K0 := K0.ext EJW
 have UnKC : Unt hJT aK0 := UnK2
 have FKD : Fld Z hJT aK0 "com/example/netloom/netloom/embed/SparseColumn" "rows" "[I" .null := (DJY (Or.inl (tw191 hw)) (ty := (.array .int)) (by decide))
 have FKE : Fld Z hJT aK0 "com/example/netloom/netloom/embed/SparseColumn" "values" "[D" .null := (DJY (Or.inl (tw193 hw)) (ty := (.array .double)) (by decide))
 have FKF : Fld Z hJT aK0 "com/example/netloom/netloom/embed/SparseColumn" "size" "I" (.int (0 : Int32)) := (DJY (Or.inl (tw268 hw)) (ty := .int) (by decide))
 have kKG : own_G p e below E0 TJS (mkF m 14 #[vr a, vd xc, ss, vr is, vr ds, vi (0 : Int32), uu, uu] [(.ref aK0)]) := fun tQ kk => kJR tQ (stJZ _ kk)
 clear kJR stJZ
 have kKH : own_G p e below E0 TJS (mkF m 15 #[vr a, vd xc, ss, vr is, vr ds, vi (0 : Int32), uu, uu] [(.ref aK0), (.ref aK0)]) := by
  intro tQ kk
  refine kKG tQ ?_
  refine XS.dup XJU.here hx rfl (hH p49_2_14) rfl rfl ?_
  exact kk
 clear kKG
 obtain ⟨_, _, ⟨TKI, LKJ, kcKK, ncKL⟩, -, XKM, ⟨LcKN, hQKO, lKP, yKQ, zKR⟩, stKS⟩ := XJU.specialBack hx (y := mn124) rfl hown (mvT hZ (tw186 hw)) (mvT hZ (tw187 hw)) (mvT hZ (tw188 hw)) (by decide) (backOf (W := 1) (rmSc l Z a0 hw [] aK0 hJT n0 Z0 AJX FKD FKE FKF geKB) hZ (tw188 hw) (tw185 hw) (by decide) (by decide)) (g := (mkF m 15 #[vr a, vd xc, ss, vr is, vr ds, vi (0 : Int32), uu, uu] [(.ref aK0), (.ref aK0)])) rfl (by rw [hml]; rfl) (Steps.refl _) (a := aK0) (argsL := []) (rest := [(.ref aK0)]) (lenOf pd_8 rfl) rfl (by show 2 * 0 + _ ≤ _; exact Nat.le_of_eq rfl) (hH p49_2_15) (fun _ _ => ⟨rfl, eJV, (by decide : 1 + 2 ≤ _), (by decide : 3 + 8 ≤ _)⟩)
 dsimp only [Pt.U, Pt.locs, Pt.cells, Pt.slots] at XKM lKP yKQ zKR stKS hQKO
 subst yKQ zKR
 obtain ⟨r1KW, r2KX, rfl, NKT, KKY, gKZ, gL0, gL1, gL2, gL3, nwL4, nwL5, nL6⟩ := hQKO
 have NL7 : Fr n0 LKJ := by rw [lKP]; exact Fr.app NJP NKT
 clear lKP NKT
 have geL8 : n0 ≤ r1KW := Nat.le_trans Z0 nwL4
 have nwL9 : h0.size ≤ r1KW := Nat.le_trans K0.1 nwL4
 have nLA : a ≠ r1KW := own_lt_ne2 EX.lt nwL4
 have nLB : al ≠ r1KW := own_lt_ne2 E1.lt nwL4
 have nLC : dE ≠ r1KW := own_lt_ne2 AE.lt nwL4
 have nLD : cA ≠ r1KW := own_lt_ne2 A1.lt nwL4
 have nLE : pA ≠ r1KW := own_lt_ne2 A2.lt nwL4
 have nLF : is ≠ r1KW := own_lt_ne2 A3.lt nwL4
 have nLG : ds ≠ r1KW := own_lt_ne2 A4.lt nwL4
 have nLH : aK0 ≠ r1KW := own_lt_ne2 AJX.lt nwL4
 have geLI : n0 ≤ r2KX := Nat.le_trans Z0 nwL5
 have nwLJ : h0.size ≤ r2KX := Nat.le_trans K0.1 nwL5
 have nLK : a ≠ r2KX := own_lt_ne2 EX.lt nwL5
 have nLL : al ≠ r2KX := own_lt_ne2 E1.lt nwL5
 have nLM : dE ≠ r2KX := own_lt_ne2 AE.lt nwL5
 have nLN : cA ≠ r2KX := own_lt_ne2 A1.lt nwL5
 have nLO : pA ≠ r2KX := own_lt_ne2 A2.lt nwL5
 have nLP : is ≠ r2KX := own_lt_ne2 A3.lt nwL5
 have nLQ : ds ≠ r2KX := own_lt_ne2 A4.lt nwL5
 have nLR : aK0 ≠ r2KX := own_lt_ne2 AJX.lt nwL5
 replace Z0 := Nat.le_trans Z0 KKY.1
 replace EX := EX.keep KKY
 replace S0 := S0.keep KKY (ninS nK3 nin0)
 replace S1 := S1.keep KKY (ninS nK3 nin0)
 replace S2 := S2.keep KKY (ninS nK3 nin0)
 replace S3 := S3.keep KKY (ninS nK3 nin0)
 replace S4 := S4.keep KKY (ninS nK3 nin0)
 replace S5 := S5.keep KKY (ninS nK3 nin0)
 replace S6 := S6.keep KKY (ninS nK3 nin0)
 replace S7 := S7.keep KKY (ninS nK3 nin0)
 replace E1 := E1.keep KKY
 replace L1 := L1.keep KKY (ninS nK4 nin0)
 replace L2 := L2.keep KKY (ninS nK4 nin0)
 replace L3 := L3.keep KKY (ninS nK4 nin0)
 replace O1 := O1.keep KKY (allS geKB all0)
 replace AE := AE.keep KKY (ninS nK5 nin0)
 replace A1 := A1.keep KKY (ninS nK6 nin0)
 replace A2 := A2.keep KKY (ninS nK7 nin0)
 replace A3 := A3.keep KKY (ninS nK8 nin0)
 replace A4 := A4.keep KKY (ninS nK9 nin0)
 replace AJX := AJX.keep KKY
 clear UnKC
 clear FKD
 clear FKE
 clear FKF
 replace K0 := K0.trans KKY (allS (Or.inr nwKA) all0)
 have kLS : own_G p e below E0 TKI (mkF m 18 #[vr a, vd xc, ss, vr is, vr ds, vi (0 : Int32), uu, uu] [(.ref aK0)]) := fun tQ kk => kKH tQ (stKS.trans kk)
 clear kKH stKS
 have kLT : own_G p e below E0 TKI (mkF m 26 #[vr a, vd xc, ss, vr is, vr ds, vi (0 : Int32), vr aK0, vi (0 : Int32)] [(.ref is), (.int (0 : Int32))]) := by
  intro tQ kk
  refine kLS tQ ?_
  refine XS.astore XKM.here hx rfl (hH p49_2_18) rfl rfl (l' := #[vr a, vd xc, ss, vr is, vr ds, vi (0 : Int32), vr aK0, uu]) rfl ?_
  refine XS.iconst XKM.here hx rfl (hH p49_2_20) ?_
  refine XS.istore XKM.here hx rfl (hH p49_2_21) rfl (l' := #[vr a, vd xc, ss, vr is, vr ds, vi (0 : Int32), vr aK0, vi (0 : Int32)]) rfl ?_
  refine XS.iload XKM.here hx rfl (hH p49_2_23) rfl ?_
  refine XS.aloadN XKM.here hx rfl (hH p49_2_25) rfl rfl ?_
  exact kk
 clear kLS
 have stLU := fun tQ => own_A.len XKM hx hZ rfl A3 (g := (mkF m 26 #[vr a, vd xc, ss, vr is, vr ds, vi (0 : Int32), vr aK0, vi (0 : Int32)] [(.ref is), (.int (0 : Int32))])) rfl rfl (hH p49_2_26) tQ
 have kLV : own_G p e below E0 TKI (mkF m 27 #[vr a, vd xc, ss, vr is, vr ds, vi (0 : Int32), vr aK0, vi (0 : Int32)] [(.int (0 : Int32)), (.int (0 : Int32))]) := fun tQ kk => kLT tQ (stLU _ kk)
 clear kLT stLU
 have kLW : own_G p e below E0 TKI (mkF m 51 #[vr a, vd xc, ss, vr is, vr ds, vi (0 : Int32), vr aK0, vi (0 : Int32)] [(.ref a)]) := by
  intro tQ kk
  refine kLV tQ ?_
  refine XS.icmpYes XKM.here hx rfl (pc0 := 27) (pc' := 50) rfl (hH p49_2_27) rfl (own_ic_geY (by decide)) (by decide) (by decide) ?_
  refine XS.aloadN XKM.here hx rfl (hH p49_2_50) rfl rfl ?_
  exact kk
 clear kLV
 obtain ⟨TLX, XLY, eLZ, stM0⟩ := getF XKM hx hZ hown (host := "") (Or.inl (tw34 hw)) Via.refl rfl S0 (g := (mkF m 51 #[vr a, vd xc, ss, vr is, vr ds, vi (0 : Int32), vr aK0, vi (0 : Int32)] [(.ref a)])) rfl rfl (hH p49_2_51)
 have kM1 : own_G p e below E0 TLX (mkF m 54 #[vr a, vd xc, ss, vr is, vr ds, vi (0 : Int32), vr aK0, vi (0 : Int32)] [(.ref al)]) := fun tQ kk => kLW tQ (stM0 _ kk)
 clear kLW stM0
 have kM2 : own_G p e below E0 TLX (mkF m 56 #[vr a, vd xc, ss, vr is, vr ds, vi (0 : Int32), vr aK0, vi (0 : Int32)] [(.ref aK0), (.ref al)]) := by
  intro tQ kk
  refine kM1 tQ ?_
  refine XS.aload XLY.here hx rfl (hH p49_2_54) rfl rfl ?_
  exact kk
 clear kM1
 obtain ⟨cqME, kqMF, qaMG, qbMH, qcMI⟩ := isOf hZ eLZ E1
 obtain ⟨_, _, ⟨TM3, LM4, kcM5, ncM6⟩, -, XM7, ⟨LcM8, hQM9, lMA, yMB, zMC⟩, stMD⟩ := XLY.interfaceBack hx (xi := mn156) (y := mn143) hown (mvT hZ (tw194 hw)) (mvT hZ (tw195 hw)) (mvT hZ (tw196 hw)) (mvT hZ (tw197 hw)) (mvT hZ (tw198 hw)) (mvT hZ (tw199 hw)) (mvT hZ (tw200 hw)) (mvT hZ (tw179 hw)) (by decide) (backOf (W := 0) (rmAd0 l Z a0 hw [] al aK0 dE TKI.heap n0 Z0 O1 E1 L1 L2 L3 AE AJX q_al_dE nK4 ge_al oD) hZ (tw201 hw) (tw12 hw) (by decide) (by decide)) qaMG qbMH qcMI (g := (mkF m 56 #[vr a, vd xc, ss, vr is, vr ds, vi (0 : Int32), vr aK0, vi (0 : Int32)] [(.ref aK0), (.ref al)])) rfl (by rw [hml]; rfl) (Steps.refl _) (argsL := [(.ref aK0)]) (rest := []) (lenOf pd_155 rfl) rfl (by show 2 * 0 + _ ≤ _; exact Nat.le_of_eq rfl) (hH p49_2_56) (fun _ _ => ⟨rfl, eLZ, (by decide : 3 + 1 ≤ _), (by decide : 11 + 10 ≤ _)⟩)
 dsimp only [Pt.U, Pt.locs, Pt.cells, Pt.slots] at XM7 lMA yMB zMC stMD hQM9
 subst yMB zMC
 obtain ⟨rMM, rfl, NMJ, KMN, gMO, gMP, gMQ, gMR, nwMS⟩ := hQM9
 have NMT : Fr n0 LM4 := by rw [lMA]; exact Fr.app NL7 NMJ
 clear lMA NMJ
 have geMU : n0 ≤ rMM := Nat.le_trans Z0 nwMS
 have nwMV : h0.size ≤ rMM := Nat.le_trans K0.1 nwMS
 have nMW : a ≠ rMM := own_lt_ne2 EX.lt nwMS
 have nMX : al ≠ rMM := own_lt_ne2 E1.lt nwMS
 have nMY : dE ≠ rMM := own_lt_ne2 AE.lt nwMS
 have nMZ : cA ≠ rMM := own_lt_ne2 A1.lt nwMS
 have nN0 : pA ≠ rMM := own_lt_ne2 A2.lt nwMS
 have nN1 : is ≠ rMM := own_lt_ne2 A3.lt nwMS
 have nN2 : ds ≠ rMM := own_lt_ne2 A4.lt nwMS
 have nN3 : aK0 ≠ rMM := own_lt_ne2 AJX.lt nwMS
 have nN4 : r1KW ≠ rMM := own_lt_ne2 gL2.lt nwMS
 have nN5 : r2KX ≠ rMM := own_lt_ne2 gL3.lt nwMS
 replace Z0 := Nat.le_trans Z0 KMN.1
 replace EX := EX.keep KMN
 replace S0 := S0.keep KMN (ninS q_a_al nin0)
 replace S1 := S1.keep KMN (ninS q_a_al nin0)
 replace S2 := S2.keep KMN (ninS q_a_al nin0)
 replace S3 := S3.keep KMN (ninS q_a_al nin0)
 replace S4 := S4.keep KMN (ninS q_a_al nin0)
 replace S5 := S5.keep KMN (ninS q_a_al nin0)
 replace S6 := S6.keep KMN (ninS q_a_al nin0)
 replace S7 := S7.keep KMN (ninS q_a_al nin0)
 replace E1 := E1.keep KMN
 clear L1
 clear L2
 clear L3
 replace O1 := O1.keep KMN (allS ge_al all0)
 replace AE := AE.keep KMN (ninS (fun q => q_al_dE q.symm) nin0)
 replace A1 := A1.keep KMN (ninS (fun q => q_al_cA q.symm) nin0)
 replace A2 := A2.keep KMN (ninS (fun q => q_al_pA q.symm) nin0)
 replace A3 := A3.keep KMN (ninS (fun q => q_al_is q.symm) nin0)
 replace A4 := A4.keep KMN (ninS (fun q => q_al_ds q.symm) nin0)
 replace AJX := AJX.keep KMN
 replace gKZ := gKZ.keep KMN (ninS (Ne.symm nK4) nin0)
 replace gL0 := gL0.keep KMN (ninS (Ne.symm nK4) nin0)
 replace gL1 := gL1.keep KMN (ninS (Ne.symm nK4) nin0)
 replace gL2 := gL2.keep KMN (ninS (Ne.symm nLB) nin0)
 replace gL3 := gL3.keep KMN (ninS (Ne.symm nLL) nin0)
 replace K0 := K0.trans KMN (allS (Or.inl (List.mem_of_getElem? (i := 1) rfl)) all0)
 have kN6 : own_G p e below E0 TM3 (mkF m 61 #[vr a, vd xc, ss, vr is, vr ds, vi (0 : Int32), vr aK0, vi (0 : Int32)] [(.int (1 : Int32))]) := fun tQ kk => kM2 tQ (stMD.trans kk)
 clear kM2 stMD
 have kN7 : own_G p e below E0 TM3 (mkF m 64 #[vr a, vd xc, ss, vr is, vr ds, vi (0 : Int32), vr aK0, vi (0 : Int32)] [(.ref a), (.ref a)]) := by
  intro tQ kk
  refine kN6 tQ ?_
  refine XT.pop XM7.here hx rfl (hH p49_2_61) rfl rfl ?_
  refine XS.aloadN XM7.here hx rfl (hH p49_2_62) rfl rfl ?_
  refine XS.aloadN XM7.here hx rfl (hH p49_2_63) rfl rfl ?_
  exact kk
 clear kN6
 obtain ⟨TN8, XN9, eNA, stNB⟩ := getF XM7 hx hZ hown (host := "") (Or.inl (tw37 hw)) Via.refl rfl S1 (g := (mkF m 64 #[vr a, vd xc, ss, vr is, vr ds, vi (0 : Int32), vr aK0, vi (0 : Int32)] [(.ref a), (.ref a)])) rfl rfl (hH p49_2_64)
 have kNC : own_G p e below E0 TN8 (mkF m 67 #[vr a, vd xc, ss, vr is, vr ds, vi (0 : Int32), vr aK0, vi (0 : Int32)] [(.ref cA), (.ref a)]) := fun tQ kk => kN7 tQ (stNB _ kk)
 clear kN7 stNB
 have kND : own_G p e below E0 TN8 (mkF m 71 #[vr a, vd xc, ss, vr is, vr ds, vi (0 : Int32), vr aK0, vi (0 : Int32)] [(.int (1 : Int32)), (.ref cA), (.ref a)]) := by
  intro tQ kk
  refine kNC tQ ?_
  refine XS.iload XN9.here hx rfl (hH p49_2_67) rfl ?_
  refine XS.iconst XN9.here hx rfl (hH p49_2_69) ?_
  refine XS.iadd XN9.here hx rfl (hH p49_2_70) rfl ?_
  exact kk
 clear kNC
 obtain ⟨_, _, ⟨TNE, LNF, kcNG, ncNH⟩, -, XNI, ⟨LcNJ, hQNK, lNL, yNM, zNN⟩, stNO⟩ := Jvm.LawKit.callS XN9 hx (y := mn118) hown (mvT hZ (tw226 hw)) (mvT hZ (tw227 hw)) (mvT hZ (tw228 hw)) (mvT hZ (tw229 hw)) (by decide) (backOf (W := 1) (rmGd l Z a0 hw [] cA (1 : Int32) cv TM3.heap n0 Z0 A1 (by rw [lc]; decide)) hZ (tw229 hw) (tw228 hw) (by decide) (by decide)) (g := (mkF m 71 #[vr a, vd xc, ss, vr is, vr ds, vi (0 : Int32), vr aK0, vi (0 : Int32)] [(.int (1 : Int32)), (.ref cA), (.ref a)])) rfl (by rw [hml]; rfl) (argsL := [(.ref cA), (.int (1 : Int32))]) (rest := [(.ref a)]) (lenOf pd_157 rfl) rfl (by show 2 * 0 + _ ≤ _; exact Nat.le_of_eq rfl) (hH p49_2_71) (fun _ _ => ⟨rfl, eNA, (by decide : 4 + 0 ≤ _), (by decide : 21 + 0 ≤ _)⟩)
 dsimp only [Pt.U, Pt.locs, Pt.cells, Pt.slots] at XNI lNL yNM zNN stNO hQNK
 subst yNM zNN
 obtain ⟨rfl, NNP, eNQ⟩ := hQNK
 have NNS : Fr n0 LNF := by rw [lNL]; exact Fr.app NMT NNP
 clear lNL NNP
 have kNT : own_G p e below E0 TNE (mkF m 74 #[vr a, vd xc, ss, vr is, vr ds, vi (0 : Int32), vr aK0, vi (0 : Int32)] [(.ref cA), (.ref a)]) := fun tQ kk => kND tQ (stNO _ kk)
 clear kND stNO
 obtain ⟨TNU, hNV, XNW, eNX, WNY, stNZ⟩ := putF XNI hx hZ hown (host := "") (Or.inl (tw37 hw)) Via.refl eNQ S1 EX (Or.inl (tw38 hw)) (tw2 hw) (ty := (.array .double)) (by decide) rfl rfl (g := (mkF m 74 #[vr a, vd xc, ss, vr is, vr ds, vi (0 : Int32), vr aK0, vi (0 : Int32)] [(.ref cA), (.ref a)])) rfl rfl (hH p49_2_74)
 have NP0 := Fr.snoc XNW NNS ge_a
 have kP1 : own_G p e below E0 TNU (mkF m 77 #[vr a, vd xc, ss, vr is, vr ds, vi (0 : Int32), vr aK0, vi (0 : Int32)] []) := fun tQ kk => kNT tQ (stNZ _ kk)
 clear kNT stNZ
 replace EX := EX.wr WNY
 replace S0 := S0.other WNY (Or.inr (sn61 hw))
 replace S1 := S1.same WNY
 replace S2 := S2.other WNY (Or.inr (sn62 hw))
 replace S3 := S3.other WNY (Or.inr (sn63 hw))
 replace S4 := S4.other WNY (Or.inr (sn64 hw))
 replace S5 := S5.other WNY (Or.inr (sn65 hw))
 replace S6 := S6.other WNY (Or.inr (sn66 hw))
 replace S7 := S7.other WNY (Or.inr (sn68 hw))
 replace E1 := E1.wr WNY
 replace O1 := O1.wr WNY ge_a
 replace AE := AE.other WNY (fun q => q_a_dE q.symm)
 replace A1 := A1.other WNY (fun q => q_a_cA q.symm)
 replace A2 := A2.other WNY (fun q => q_a_pA q.symm)
 replace A3 := A3.other WNY (fun q => q_a_is q.symm)
 replace A4 := A4.other WNY (fun q => q_a_ds q.symm)
 replace AJX := AJX.wr WNY
 replace gKZ := gKZ.other WNY (Or.inl (Ne.symm nK3))
 replace gL0 := gL0.other WNY (Or.inl (Ne.symm nK3))
 replace gL1 := gL1.other WNY (Or.inl (Ne.symm nK3))
 replace gL2 := gL2.other WNY (Ne.symm nLA)
 replace gL3 := gL3.other WNY (Ne.symm nLK)
 replace gMO := gMO.other WNY (Or.inl (fun q => q_a_al q.symm))
 replace gMP := gMP.other WNY (Or.inl (fun q => q_a_al q.symm))
 replace gMQ := gMQ.other WNY (Or.inl (fun q => q_a_al q.symm))
 replace gMR := gMR.other WNY (Ne.symm nMW)
 replace Z0 := own_wrle WNY Z0
 replace K0 := K0.wr WNY (Or.inl (List.mem_of_getElem? (i := 0) rfl))
 have kP2 : own_G p e below E0 TNU (mkF m 78 #[vr a, vd xc, ss, vr is, vr ds, vi (0 : Int32), vr aK0, vi (0 : Int32)] [(.ref a)]) := by
  intro tQ kk
  refine kP1 tQ ?_
  refine XS.aloadN XNW.here hx rfl (hH p49_2_77) rfl rfl ?_
  exact kk
 clear kP1
 obtain ⟨TP3, XP4, eP5, stP6⟩ := getF XNW hx hZ hown (host := "") (Or.inl (tw37 hw)) Via.refl eNX S1 (g := (mkF m 78 #[vr a, vd xc, ss, vr is, vr ds, vi (0 : Int32), vr aK0, vi (0 : Int32)] [(.ref a)])) rfl rfl (hH p49_2_78)
 have kP7 : own_G p e below E0 TP3 (mkF m 81 #[vr a, vd xc, ss, vr is, vr ds, vi (0 : Int32), vr aK0, vi (0 : Int32)] [(.ref cA)]) := fun tQ kk => kP2 tQ (stP6 _ kk)
 clear kP2 stP6
 have kP8 : own_G p e below E0 TP3 (mkF m 84 #[vr a, vd xc, ss, vr is, vr ds, vi (0 : Int32), vr aK0, vi (0 : Int32)] [(.double xc), (.int (0 : Int32)), (.ref cA)]) := by
  intro tQ kk
  refine kP7 tQ ?_
  refine XS.iload XP4.here hx rfl (hH p49_2_81) rfl ?_
  refine XS.dloadN XP4.here hx rfl (hH p49_2_83) rfl ?_
  exact kk
 clear kP7
 obtain ⟨TP9, hPA, XPB, ePC, WPD, FPE, stPF⟩ := own_A.dst XP4 hx hZ eP5 A1 (j := (0 : Int32)) (by decide) (List.getElem?_eq_getElem (by rw [lc]; decide)) (g := (mkF m 84 #[vr a, vd xc, ss, vr is, vr ds, vi (0 : Int32), vr aK0, vi (0 : Int32)] [(.double xc), (.int (0 : Int32)), (.ref cA)])) rfl rfl (hH p49_2_84)
 have NPG := Fr.snoc XPB NP0 ge_cA
 have kPH : own_G p e below E0 TP9 (mkF m 85 #[vr a, vd xc, ss, vr is, vr ds, vi (0 : Int32), vr aK0, vi (0 : Int32)] []) := fun tQ kk => kP8 tQ (stPF _ kk)
 clear kP8 stPF
 replace EX := EX.wr WPD
 replace S0 := S0.other WPD (Or.inl q_a_cA)
 replace S1 := S1.other WPD (Or.inl q_a_cA)
 replace S2 := S2.other WPD (Or.inl q_a_cA)
 replace S3 := S3.other WPD (Or.inl q_a_cA)
 replace S4 := S4.other WPD (Or.inl q_a_cA)
 replace S5 := S5.other WPD (Or.inl q_a_cA)
 replace S6 := S6.other WPD (Or.inl q_a_cA)
 replace S7 := S7.other WPD (Or.inl q_a_cA)
 replace E1 := E1.wr WPD
 replace O1 := O1.wr WPD ge_cA
 replace AE := AE.other WPD (fun q => q_cA_dE q.symm)
 replace A2 := A2.other WPD (fun q => q_cA_pA q.symm)
 replace A3 := A3.other WPD (fun q => q_cA_is q.symm)
 replace A4 := A4.other WPD (fun q => q_cA_ds q.symm)
 replace AJX := AJX.wr WPD
 replace gKZ := gKZ.other WPD (Or.inl (Ne.symm nK6))
 replace gL0 := gL0.other WPD (Or.inl (Ne.symm nK6))
 replace gL1 := gL1.other WPD (Or.inl (Ne.symm nK6))
 replace gL2 := gL2.other WPD (Ne.symm nLD)
 replace gL3 := gL3.other WPD (Ne.symm nLN)
 replace gMO := gMO.other WPD (Or.inl q_al_cA)
 replace gMP := gMP.other WPD (Or.inl q_al_cA)
 replace gMQ := gMQ.other WPD (Or.inl q_al_cA)
 replace gMR := gMR.other WPD (Ne.symm nMZ)
 replace Z0 := own_wrle WPD Z0
 replace K0 := K0.wr WPD (Or.inl (List.mem_of_getElem? (i := 2) rfl))
 have FPI : own_A Z hPA cA .double (cv.set ((0 : Int32)).toNatClampNeg (.double xc)) := FPE
 have kPJ : own_G p e below E0 TP9 (mkF m 87 #[vr a, vd xc, ss, vr is, vr ds, vi (0 : Int32), vr aK0, vi (0 : Int32)] [(.ref a), (.ref a)]) := by
  intro tQ kk
  refine kPH tQ ?_
  refine XS.aloadN XPB.here hx rfl (hH p49_2_85) rfl rfl ?_
  refine XS.aloadN XPB.here hx rfl (hH p49_2_86) rfl rfl ?_
  exact kk
 clear kPH
 obtain ⟨TPK, XPL, ePM, stPN⟩ := getF XPB hx hZ hown (host := "") (Or.inl (tw44 hw)) Via.refl ePC S4 (g := (mkF m 87 #[vr a, vd xc, ss, vr is, vr ds, vi (0 : Int32), vr aK0, vi (0 : Int32)] [(.ref a), (.ref a)])) rfl rfl (hH p49_2_87)
 have kPO : own_G p e below E0 TPK (mkF m 90 #[vr a, vd xc, ss, vr is, vr ds, vi (0 : Int32), vr aK0, vi (0 : Int32)] [(.ref pA), (.ref a)]) := fun tQ kk => kPJ tQ (stPN _ kk)
 clear kPJ stPN
 have kPP : own_G p e below E0 TPK (mkF m 94 #[vr a, vd xc, ss, vr is, vr ds, vi (0 : Int32), vr aK0, vi (0 : Int32)] [(.int (1 : Int32)), (.ref pA), (.ref a)]) := by
  intro tQ kk
  refine kPO tQ ?_
  refine XS.iload XPL.here hx rfl (hH p49_2_90) rfl ?_
  refine XS.iconst XPL.here hx rfl (hH p49_2_92) ?_
  refine XS.iadd XPL.here hx rfl (hH p49_2_93) rfl ?_
  exact kk
 clear kPO
 obtain ⟨_, _, ⟨TPQ, LPR, kcPS, ncPT⟩, -, XPU, ⟨LcPV, hQPW, lPX, yPY, zPZ⟩, stQ0⟩ := Jvm.LawKit.callS XPL hx (y := mn119) hown (mvT hZ (tw230 hw)) (mvT hZ (tw231 hw)) (mvT hZ (tw228 hw)) (mvT hZ (tw232 hw)) (by decide) (backOf (W := 1) (rmGi l Z a0 hw [] pA (1 : Int32) pv hPA n0 Z0 A2 (by rw [lp]; decide)) hZ (tw232 hw) (tw228 hw) (by decide) (by decide)) (g := (mkF m 94 #[vr a, vd xc, ss, vr is, vr ds, vi (0 : Int32), vr aK0, vi (0 : Int32)] [(.int (1 : Int32)), (.ref pA), (.ref a)])) rfl (by rw [hml]; rfl) (argsL := [(.ref pA), (.int (1 : Int32))]) (rest := [(.ref a)]) (lenOf pd_158 rfl) rfl (by show 2 * 0 + _ ≤ _; exact Nat.le_of_eq rfl) (hH p49_2_94) (fun _ _ => ⟨rfl, ePM, (by decide : 4 + 0 ≤ _), (by decide : 21 + 0 ≤ _)⟩)
 dsimp only [Pt.U, Pt.locs, Pt.cells, Pt.slots] at XPU lPX yPY zPZ stQ0 hQPW
 subst yPY zPZ
 obtain ⟨rfl, NQ1, eQ2⟩ := hQPW
 have NQ4 : Fr n0 LPR := by rw [lPX]; exact Fr.app NPG NQ1
 clear lPX NQ1
 have kQ5 : own_G p e below E0 TPQ (mkF m 97 #[vr a, vd xc, ss, vr is, vr ds, vi (0 : Int32), vr aK0, vi (0 : Int32)] [(.ref pA), (.ref a)]) := fun tQ kk => kPP tQ (stQ0 _ kk)
 clear kPP stQ0
 obtain ⟨TQ6, hQ7, XQ8, eQ9, WQA, stQB⟩ := putF XPU hx hZ hown (host := "") (Or.inl (tw44 hw)) Via.refl eQ2 S4 EX (Or.inl (tw45 hw)) (tw2 hw) (ty := (.array .int)) (by decide) rfl rfl (g := (mkF m 97 #[vr a, vd xc, ss, vr is, vr ds, vi (0 : Int32), vr aK0, vi (0 : Int32)] [(.ref pA), (.ref a)])) rfl rfl (hH p49_2_97)
 have NQC := Fr.snoc XQ8 NQ4 ge_a
 have kQD : own_G p e below E0 TQ6 (mkF m 100 #[vr a, vd xc, ss, vr is, vr ds, vi (0 : Int32), vr aK0, vi (0 : Int32)] []) := fun tQ kk => kQ5 tQ (stQB _ kk)
 clear kQ5 stQB
 replace EX := EX.wr WQA
 replace S0 := S0.other WQA (Or.inr (sn85 hw))
 replace S1 := S1.other WQA (Or.inr (sn86 hw))
 replace S2 := S2.other WQA (Or.inr (sn87 hw))
 replace S3 := S3.other WQA (Or.inr (sn88 hw))
 replace S4 := S4.same WQA
 replace S5 := S5.other WQA (Or.inr (sn89 hw))
 replace S6 := S6.other WQA (Or.inr (sn90 hw))
 replace S7 := S7.other WQA (Or.inr (sn92 hw))
 replace E1 := E1.wr WQA
 replace O1 := O1.wr WQA ge_a
 replace AE := AE.other WQA (fun q => q_a_dE q.symm)
 replace A2 := A2.other WQA (fun q => q_a_pA q.symm)
 replace A3 := A3.other WQA (fun q => q_a_is q.symm)
 replace A4 := A4.other WQA (fun q => q_a_ds q.symm)
 replace AJX := AJX.wr WQA
 replace gKZ := gKZ.other WQA (Or.inl (Ne.symm nK3))
 replace gL0 := gL0.other WQA (Or.inl (Ne.symm nK3))
 replace gL1 := gL1.other WQA (Or.inl (Ne.symm nK3))
 replace gL2 := gL2.other WQA (Ne.symm nLA)
 replace gL3 := gL3.other WQA (Ne.symm nLK)
 replace gMO := gMO.other WQA (Or.inl (fun q => q_a_al q.symm))
 replace gMP := gMP.other WQA (Or.inl (fun q => q_a_al q.symm))
 replace gMQ := gMQ.other WQA (Or.inl (fun q => q_a_al q.symm))
 replace gMR := gMR.other WQA (Ne.symm nMW)
 replace FPI := FPI.other WQA (fun q => q_a_cA q.symm)
 replace Z0 := own_wrle WQA Z0
 replace K0 := K0.wr WQA (Or.inl (List.mem_of_getElem? (i := 0) rfl))
 have kQE : own_G p e below E0 TQ6 (mkF m 101 #[vr a, vd xc, ss, vr is, vr ds, vi (0 : Int32), vr aK0, vi (0 : Int32)] [(.ref a)]) := by
  intro tQ kk
  refine kQD tQ ?_
  refine XS.aloadN XQ8.here hx rfl (hH p49_2_100) rfl rfl ?_
  exact kk
 clear kQD
 obtain ⟨TQF, XQG, eQH, stQI⟩ := getF XQ8 hx hZ hown (host := "") (Or.inl (tw44 hw)) Via.refl eQ9 S4 (g := (mkF m 101 #[vr a, vd xc, ss, vr is, vr ds, vi (0 : Int32), vr aK0, vi (0 : Int32)] [(.ref a)])) rfl rfl (hH p49_2_101)
 have kQJ : own_G p e below E0 TQF (mkF m 104 #[vr a, vd xc, ss, vr is, vr ds, vi (0 : Int32), vr aK0, vi (0 : Int32)] [(.ref pA)]) := fun tQ kk => kQE tQ (stQI _ kk)
 clear kQE stQI
 have kQK : own_G p e below E0 TQF (mkF m 107 #[vr a, vd xc, ss, vr is, vr ds, vi (0 : Int32), vr aK0, vi (0 : Int32)] [(.int (-1 : Int32)), (.int (0 : Int32)), (.ref pA)]) := by
  intro tQ kk
  refine kQJ tQ ?_
  refine XS.iload XQG.here hx rfl (hH p49_2_104) rfl ?_
  refine XS.iconst XQG.here hx rfl (hH p49_2_106) ?_
  exact kk
 clear kQJ
 obtain ⟨TQL, hQM, XQN, eQO, WQP, FQQ, stQR⟩ := own_A.ist XQG hx hZ eQH A2 (j := (0 : Int32)) (by decide) (List.getElem?_eq_getElem (by rw [lp]; decide)) (g := (mkF m 107 #[vr a, vd xc, ss, vr is, vr ds, vi (0 : Int32), vr aK0, vi (0 : Int32)] [(.int (-1 : Int32)), (.int (0 : Int32)), (.ref pA)])) rfl rfl (hH p49_2_107)
 have NQS := Fr.snoc XQN NQC ge_pA
 have kQT : own_G p e below E0 TQL (mkF m 108 #[vr a, vd xc, ss, vr is, vr ds, vi (0 : Int32), vr aK0, vi (0 : Int32)] []) := fun tQ kk => kQK tQ (stQR _ kk)
 clear kQK stQR
 replace EX := EX.wr WQP
 replace S0 := S0.other WQP (Or.inl q_a_pA)
 replace S1 := S1.other WQP (Or.inl q_a_pA)
 replace S2 := S2.other WQP (Or.inl q_a_pA)
 replace S3 := S3.other WQP (Or.inl q_a_pA)
 replace S4 := S4.other WQP (Or.inl q_a_pA)
 replace S5 := S5.other WQP (Or.inl q_a_pA)
 replace S6 := S6.other WQP (Or.inl q_a_pA)
 replace S7 := S7.other WQP (Or.inl q_a_pA)
 replace E1 := E1.wr WQP
 replace O1 := O1.wr WQP ge_pA
 replace AE := AE.other WQP (fun q => q_pA_dE q.symm)
 replace A3 := A3.other WQP (fun q => q_pA_is q.symm)
 replace A4 := A4.other WQP (fun q => q_pA_ds q.symm)
 replace AJX := AJX.wr WQP
 replace gKZ := gKZ.other WQP (Or.inl (Ne.symm nK7))
 replace gL0 := gL0.other WQP (Or.inl (Ne.symm nK7))
 replace gL1 := gL1.other WQP (Or.inl (Ne.symm nK7))
 replace gL2 := gL2.other WQP (Ne.symm nLE)
 replace gL3 := gL3.other WQP (Ne.symm nLO)
 replace gMO := gMO.other WQP (Or.inl q_al_pA)
 replace gMP := gMP.other WQP (Or.inl q_al_pA)
 replace gMQ := gMQ.other WQP (Or.inl q_al_pA)
 replace gMR := gMR.other WQP (Ne.symm nN0)
 replace FPI := FPI.other WQP q_cA_pA
 replace Z0 := own_wrle WQP Z0
 replace K0 := K0.wr WQP (Or.inl (List.mem_of_getElem? (i := 3) rfl))
 have FQU : own_A Z hQM pA .int (pv.set ((0 : Int32)).toNatClampNeg (.int (-1 : Int32))) := FQQ
 have kQV : own_G p e below E0 TQL (mkF m 110 #[vr a, vd xc, ss, vr is, vr ds, vi (0 : Int32), vr aK0, vi (0 : Int32)] [(.int (0 : Int32))]) := by
  intro tQ kk
  refine kQT tQ ?_
  refine XS.iload XQN.here hx rfl (hH p49_2_108) rfl ?_
  exact kk
 clear kQT
 obtain ⟨fs, hr, hrun, hended, hW, hsame⟩ := XQN.leave (v := some (.int (0 : Int32))) (fun h => by rw [Bd.returns] at h; cases h)
 have hrun0 := kQV _ (retOut XQN hx Bd.returns (t := .int) rfl (Or.inl ⟨rfl, Or.inl rfl, _, rfl⟩) (hH p49_2_110) hr)
 subst hE0
 refine ⟨_, _, hrun0, hrun, hended, _, _, rfl, ?_, ⟨_, rfl⟩, hW, hsame.mono (by decide) (by decide)⟩
 show QrmCo0 Z a is ds al cA ro ba pA fa va dE cv pv xc h0 n0 _ TQL.heap _
 rw [eQO]
 exact ⟨rMM, aK0, r1KW, r2KX, rfl, NQS, K0, S0, S1, S2, S3, S4, S5, S6, S7, gMO, gMP, gMQ, gMR, FPI, FQU, AJX, gKZ, gL0, gL1, gL2, gL3, nwMV, nwKA, nwL9, nwLJ, (Ne.symm nN3), (Ne.symm nN4), (Ne.symm nN5), nLH, nLR, nL6⟩
def QrmCo1 (Z : State) (a : Addr) (is : Addr) (ds : Addr) (al : Addr) (cA : Addr) (ro : Addr) (ba : Addr) (pA : Addr) (fa : Addr) (va : Addr) (r : Addr) (x0 : Addr) (cv : List Value) (pv : List Value) (xc : UInt64) (h0 : Heap) (n0 : Nat) (vQ : Option Value) (hQ : Heap) (LQ : List Loc) : Prop := ∃ (sc : Addr), ∃ (r1 : Addr), ∃ (r2 : Addr), vQ = some (.int (1 : Int32)) ∧ Fr n0 LQ ∧ Keep h0 hQ [a, al, cA, pA, r] ∧ (fd41 Z hQ a (.ref al)) ∧ (fd42 Z hQ a (.ref cA)) ∧ (fd43 Z hQ a (.ref ro)) ∧ (fd44 Z hQ a (.ref ba)) ∧ (fd45 Z hQ a (.ref pA)) ∧ (fd46 Z hQ a (.ref fa)) ∧ (fd47 Z hQ a (.ref va)) ∧ (fd48 Z hQ a (.int (0 : Int32))) ∧ (fd30 Z hQ al (.ref r)) ∧ (fd31 Z hQ al (.int (2 : Int32))) ∧ (fd29 Z hQ al (.int (2 : Int32))) ∧ (own_O Z hQ r "java/lang/Object" [(.ref x0), (.ref sc), .null, .null, .null, .null, .null, .null, .null, .null]) ∧ (own_A Z hQ cA .double (cv.set ((1 : Int32)).toNatClampNeg (.double xc))) ∧ (own_A Z hQ pA .int (pv.set ((1 : Int32)).toNatClampNeg (.int (-1 : Int32)))) ∧ (xa123 Z hQ sc) ∧ (fd120 Z hQ sc (.ref r1)) ∧ (fd121 Z hQ sc (.ref r2)) ∧ (fd122 Z hQ sc (.int (0 : Int32))) ∧ (own_A Z hQ r1 .int own_i4) ∧ (own_A Z hQ r2 .double own_d4) ∧ (h0.size ≤ sc) ∧ (h0.size ≤ r1) ∧ (h0.size ≤ r2) ∧ (sc ≠ r1) ∧ (sc ≠ r2) ∧ (r1 ≠ r2)
theorem ef_rmCo1 (m : MethodId) (a : Addr) (is : Addr) (ds : Addr) (al : Addr) (cA : Addr) (ro : Addr) (ba : Addr) (pA : Addr) (fa : Addr) (va : Addr) (r : Addr) (x0 : Addr) (cv : List Value) (pv : List Value) (xc : UInt64) : entryFrame m #[(.ref a), (.double xc), (.ref is), (.ref ds)] 8 = mkF m 0 #[vr a, vd xc, ss, vr is, vr ds, uu, uu, uu] [] := by first | (simp [entryFrame, mkF, argsToLocals, Value.category]; done) | rfl
set_option maxRecDepth 65536 in
set_option maxHeartbeats 40000000 in
theorem rmCo1 (l : Launch) (Z : State) (a0 : Array Value) (hw : ∀ d ∈ tables_1, d.before a0 Z = true) (ws : List Jvm.Cond) (a : Addr) (is : Addr) (ds : Addr) (al : Addr) (cA : Addr) (ro : Addr) (ba : Addr) (pA : Addr) (fa : Addr) (va : Addr) (r : Addr) (x0 : Addr) (cv : List Value) (pv : List Value) (xc : UInt64) (h0 : Heap) (n0 : Nat) (Z0 : n0 ≤ h0.size) (EX : xa49 Z h0 a) (S0 : fd41 Z h0 a (.ref al)) (S1 : fd42 Z h0 a (.ref cA)) (S2 : fd43 Z h0 a (.ref ro)) (S3 : fd44 Z h0 a (.ref ba)) (S4 : fd45 Z h0 a (.ref pA)) (S5 : fd46 Z h0 a (.ref fa)) (S6 : fd47 Z h0 a (.ref va)) (S7 : fd48 Z h0 a (.int (0 : Int32))) (E1 : xa32 Z h0 al) (L1 : fd30 Z h0 al (.ref r)) (L2 : fd31 Z h0 al (.int (1 : Int32))) (L3 : fd29 Z h0 al (.int (1 : Int32))) (AE : own_O Z h0 r "java/lang/Object" [(.ref x0), .null, .null, .null, .null, .null, .null, .null, .null, .null]) (A1 : own_A Z h0 cA .double cv) (A2 : own_A Z h0 pA .int pv) (A3 : own_A Z h0 is .int []) (A4 : own_A Z h0 ds .double []) (q_a_al : a ≠ al) (q_a_cA : a ≠ cA) (q_a_pA : a ≠ pA) (q_a_r : a ≠ r) (q_a_is : a ≠ is) (q_a_ds : a ≠ ds) (q_al_cA : al ≠ cA) (q_al_pA : al ≠ pA) (q_al_r : al ≠ r) (q_al_is : al ≠ is) (q_al_ds : al ≠ ds) (q_cA_pA : cA ≠ pA) (q_cA_r : cA ≠ r) (q_cA_is : cA ≠ is) (q_cA_ds : cA ≠ ds) (q_pA_r : pA ≠ r) (q_pA_is : pA ≠ is) (q_pA_ds : pA ≠ ds) (q_r_is : r ≠ is) (q_r_ds : r ≠ ds) (ge_a : n0 ≤ a) (ge_al : n0 ≤ al) (ge_cA : n0 ≤ cA) (ge_pA : n0 ≤ pA) (ge_r : n0 ≤ r) (lc : cv.length = 16) (lp : pv.length = 16) :
  MetFree l mn152 (head1 (Jvm.Cond.code mn152 prog_49_method_2_code 8 (some .int) :: ws) ({ frames := 6, cells := 3, slots := 11, locals := 90 } : Room)) (fun aA U => aA = #[(.ref a), (.double xc), (.ref is), (.ref ds)] ∧ Z.Warmed39 U.vm ∧ U.heap = h0) (fun _ _ _ _ _ => True) (fun _ U o U' => ∃ vR LR, o = .returned vR ∧ QrmCo1 Z a is ds al cA ro ba pA fa va r x0 cv pv xc h0 n0 vR U'.heap LR ∧ FrameEnd U o U' LR ({ frames := 6, cells := 3, slots := 11, locals := 90 } : Room).cells ({ frames := 6, cells := 3, slots := 11, locals := 90 } : Room).slots) := by
 refine MetFree.of_bodySF (plainFor_of_name pn_com_example_netloom_netloom_embed_Simplex) hisR ?_
 intro p e s m args below meth c s₁ Bd hml0 hPre hKk
 obtain ⟨rfl, hZ, hh⟩ := hPre
 have hx := Bd.exec
 have hby := Bd.bytes
 have hH : ∀ {pc r}, decode prog_49_method_2_code pc = r → decode c.code pc = r := fun q => hb hby q
 have hml : c.maxLocals = 8 := hml0
 have hown : s.vm.findClass "com/example/netloom/netloom/embed/Simplex" = some m.cls := findClass_of_methodNamed Bd.named
 have hnm := (name_of_methodNamed Bd.named Bd.method).1
 have X0 : Stand p l e ({ frames := 6, cells := 3, slots := 11, locals := 90 } : Room) s m #[(.ref a), (.double xc), (.ref is), (.ref ds)] below meth c s₁ [] 0 0 := Stand.of_body Bd
 have e0 : s₁.heap = h0 := by rw [← hh, Bd.state]; rfl
 have N0 := Fr.nil n0
 obtain ⟨E0, hE0⟩ : ∃ zE : State, zE = s₁.setTop (entryFrame m #[(.ref a), (.double xc), (.ref is), (.ref ds)] 8) := ⟨_, rfl⟩
 have k0 : own_G p e below E0 s₁ (mkF m 0 #[vr a, vd xc, ss, vr is, vr ds, uu, uu, uu] []) := fun tz kz => hE0 ▸ castTop (ef_rmCo1 m a is ds al cA ro ba pA fa va r x0 cv pv xc) kz
 have K0 : Keep h0 h0 [a, al, cA, pA, r] := Keep.refl _ _
 have kJ0 : own_G p e below E0 s₁ (mkF m 1 #[vr a, vd xc, ss, vr is, vr ds, uu, uu, uu] [(.ref a)]) := by
  intro tQ kk
  refine k0 tQ ?_
  refine XS.aloadN X0.here hx rfl (hH p49_2_0) rfl rfl ?_
  exact kk
 clear k0
 obtain ⟨TJ1, XJ2, eJ3, stJ4⟩ := getF X0 hx hZ hown (host := "") (Or.inl (tw34 hw)) Via.refl e0 S0 (g := (mkF m 1 #[vr a, vd xc, ss, vr is, vr ds, uu, uu, uu] [(.ref a)])) rfl rfl (hH p49_2_1)
 have kJ5 : own_G p e below E0 TJ1 (mkF m 4 #[vr a, vd xc, ss, vr is, vr ds, uu, uu, uu] [(.ref al)]) := fun tQ kk => kJ0 tQ (stJ4 _ kk)
 clear kJ0 stJ4
 obtain ⟨cqJH, kqJI, qaJJ, qbJK, qcJL⟩ := isOf hZ eJ3 E1
 obtain ⟨_, _, ⟨TJ6, LJ7, kcJ8, ncJ9⟩, -, XJA, ⟨LcJB, hQJC, lJD, yJE, zJF⟩, stJG⟩ := XJ2.interfaceBack hx (xi := mn154) (y := mn145) hown (mvT hZ (tw172 hw)) (mvT hZ (tw173 hw)) (mvT hZ (tw174 hw)) (mvT hZ (tw175 hw)) (mvT hZ (tw176 hw)) (mvT hZ (tw177 hw)) (mvT hZ (tw178 hw)) (mvT hZ (tw179 hw)) (by decide) (backOf (W := 0) (rmSz1 l Z a0 hw [] al h0 n0 Z0 L2) hZ (tw180 hw) (tw12 hw) (by decide) (by decide)) qaJJ qbJK qcJL (g := (mkF m 4 #[vr a, vd xc, ss, vr is, vr ds, uu, uu, uu] [(.ref al)])) rfl (by rw [hml]; rfl) (Steps.refl _) (argsL := []) (rest := []) (lenOf pd_153 rfl) rfl (by show 2 * 0 + _ ≤ _; exact Nat.le_of_eq rfl) (hH p49_2_4) (fun _ _ => ⟨rfl, eJ3, (by decide : 0 + 0 ≤ _), (by decide : 0 + 0 ≤ _)⟩)
 dsimp only [Pt.U, Pt.locs, Pt.cells, Pt.slots] at XJA lJD yJE zJF stJG hQJC
 subst yJE zJF
 obtain ⟨rfl, NJM, eJN⟩ := hQJC
 have NJP : Fr n0 LJ7 := by rw [lJD]; exact Fr.app N0 NJM
 clear lJD NJM
 have kJQ : own_G p e below E0 TJ6 (mkF m 9 #[vr a, vd xc, ss, vr is, vr ds, uu, uu, uu] [(.int (1 : Int32))]) := fun tQ kk => kJ5 tQ (stJG.trans kk)
 clear kJ5 stJG
 have kJR : own_G p e below E0 TJ6 (mkF m 11 #[vr a, vd xc, ss, vr is, vr ds, vi (1 : Int32), uu, uu] []) := by
  intro tQ kk
  refine kJQ tQ ?_
  refine XS.istore XJA.here hx rfl (hH p49_2_9) rfl (l' := #[vr a, vd xc, ss, vr is, vr ds, vi (1 : Int32), uu, uu]) rfl ?_
  exact kk
 clear kJQ
 obtain ⟨TJS, hJT, XJU, eJV, EJW, AJX, DJY, UnK2, stJZ⟩ := newO XJA hx hZ hown (tw183 hw) (tw184 hw) (tw185 hw) eJN (g := (mkF m 11 #[vr a, vd xc, ss, vr is, vr ds, vi (1 : Int32), uu, uu] [])) rfl (hH p49_2_11) (by decide) (by decide)
 obtain ⟨aK0, gK1⟩ : ∃ zA : Nat, zA = h0.size := ⟨_, rfl⟩
 rw [← gK1] at AJX DJY stJZ UnK2
 have nK3 := own_lt_ne EX.lt gK1
 have nK4 := own_lt_ne E1.lt gK1
 have nK5 := own_lt_ne AE.lt gK1
 have nK6 := own_lt_ne A1.lt gK1
 have nK7 := own_lt_ne A2.lt gK1
 have nK8 := own_lt_ne A3.lt gK1
 have nK9 := own_lt_ne A4.lt gK1
 have nwKA : h0.size ≤ aK0 := own_ge_of K0.1 gK1
 have geKB : n0 ≤ aK0 := own_ge_of Z0 gK1
 replace Z0 := Nat.le_trans Z0 EJW.1
 replace EX := EX.ext EJW
 replace S0 := S0.ext EJW
 replace S1 := S1.ext EJW
 replace S2 := S2.ext EJW
 replace S3 := S3.ext EJW
 replace S4 := S4.ext EJW
 replace S5 := S5.ext EJW
 replace S6 := S6.ext EJW
 replace S7 := S7.ext EJW
 replace E1 := E1.ext EJW
 replace L1 := L1.ext EJW
 replace L2 := L2.ext EJW
 replace L3 := L3.ext EJW
 replace AE := AE.ext EJW
 replace A1 := A1.ext EJW
 replace A2 := A2.ext EJW
 replace A3 := A3.ext EJW
 replace A4 := A4.ext EJW
 replace K0 := K0.ext EJW
 have UnKC : Unt hJT aK0 := UnK2
 have FKD : Fld Z hJT aK0 "com/example/netloom/netloom/embed/SparseColumn" "rows" "[I" .null := (DJY (Or.inl (tw191 hw)) (ty := (.array .int)) (by decide))
 have FKE : Fld Z hJT aK0 "com/example/netloom/netloom/embed/SparseColumn" "values" "[D" .null := (DJY (Or.inl (tw193 hw)) (ty := (.array .double)) (by decide))
 have FKF : Fld Z hJT aK0 "com/example/netloom/netloom/embed/SparseColumn" "size" "I" (.int (0 : Int32)) := (DJY (Or.inl (tw268 hw)) (ty := .int) (by decide))
 have kKG : own_G p e below E0 TJS (mkF m 14 #[vr a, vd xc, ss, vr is, vr ds, vi (1 : Int32), uu, uu] [(.ref aK0)]) := fun tQ kk => kJR tQ (stJZ _ kk)
 clear kJR stJZ
 have kKH : own_G p e below E0 TJS (mkF m 15 #[vr a, vd xc, ss, vr is, vr ds, vi (1 : Int32), uu, uu] [(.ref aK0), (.ref aK0)]) := by
  intro tQ kk
  refine kKG tQ ?_
  refine XS.dup XJU.here hx rfl (hH p49_2_14) rfl rfl ?_
  exact kk
 clear kKG
 obtain ⟨_, _, ⟨TKI, LKJ, kcKK, ncKL⟩, -, XKM, ⟨LcKN, hQKO, lKP, yKQ, zKR⟩, stKS⟩ := XJU.specialBack hx (y := mn124) rfl hown (mvT hZ (tw186 hw)) (mvT hZ (tw187 hw)) (mvT hZ (tw188 hw)) (by decide) (backOf (W := 1) (rmSc l Z a0 hw [] aK0 hJT n0 Z0 AJX FKD FKE FKF geKB) hZ (tw188 hw) (tw185 hw) (by decide) (by decide)) (g := (mkF m 15 #[vr a, vd xc, ss, vr is, vr ds, vi (1 : Int32), uu, uu] [(.ref aK0), (.ref aK0)])) rfl (by rw [hml]; rfl) (Steps.refl _) (a := aK0) (argsL := []) (rest := [(.ref aK0)]) (lenOf pd_8 rfl) rfl (by show 2 * 0 + _ ≤ _; exact Nat.le_of_eq rfl) (hH p49_2_15) (fun _ _ => ⟨rfl, eJV, (by decide : 1 + 2 ≤ _), (by decide : 3 + 8 ≤ _)⟩)
 dsimp only [Pt.U, Pt.locs, Pt.cells, Pt.slots] at XKM lKP yKQ zKR stKS hQKO
 subst yKQ zKR
 obtain ⟨r1KW, r2KX, rfl, NKT, KKY, gKZ, gL0, gL1, gL2, gL3, nwL4, nwL5, nL6⟩ := hQKO
 have NL7 : Fr n0 LKJ := by rw [lKP]; exact Fr.app NJP NKT
 clear lKP NKT
 have geL8 : n0 ≤ r1KW := Nat.le_trans Z0 nwL4
 have nwL9 : h0.size ≤ r1KW := Nat.le_trans K0.1 nwL4
 have nLA : a ≠ r1KW := own_lt_ne2 EX.lt nwL4
 have nLB : al ≠ r1KW := own_lt_ne2 E1.lt nwL4
 have nLC : r ≠ r1KW := own_lt_ne2 AE.lt nwL4
 have nLD : cA ≠ r1KW := own_lt_ne2 A1.lt nwL4
 have nLE : pA ≠ r1KW := own_lt_ne2 A2.lt nwL4
 have nLF : is ≠ r1KW := own_lt_ne2 A3.lt nwL4
 have nLG : ds ≠ r1KW := own_lt_ne2 A4.lt nwL4
 have nLH : aK0 ≠ r1KW := own_lt_ne2 AJX.lt nwL4
 have geLI : n0 ≤ r2KX := Nat.le_trans Z0 nwL5
 have nwLJ : h0.size ≤ r2KX := Nat.le_trans K0.1 nwL5
 have nLK : a ≠ r2KX := own_lt_ne2 EX.lt nwL5
 have nLL : al ≠ r2KX := own_lt_ne2 E1.lt nwL5
 have nLM : r ≠ r2KX := own_lt_ne2 AE.lt nwL5
 have nLN : cA ≠ r2KX := own_lt_ne2 A1.lt nwL5
 have nLO : pA ≠ r2KX := own_lt_ne2 A2.lt nwL5
 have nLP : is ≠ r2KX := own_lt_ne2 A3.lt nwL5
 have nLQ : ds ≠ r2KX := own_lt_ne2 A4.lt nwL5
 have nLR : aK0 ≠ r2KX := own_lt_ne2 AJX.lt nwL5
 replace Z0 := Nat.le_trans Z0 KKY.1
 replace EX := EX.keep KKY
 replace S0 := S0.keep KKY (ninS nK3 nin0)
 replace S1 := S1.keep KKY (ninS nK3 nin0)
 replace S2 := S2.keep KKY (ninS nK3 nin0)
 replace S3 := S3.keep KKY (ninS nK3 nin0)
 replace S4 := S4.keep KKY (ninS nK3 nin0)
 replace S5 := S5.keep KKY (ninS nK3 nin0)
 replace S6 := S6.keep KKY (ninS nK3 nin0)
 replace S7 := S7.keep KKY (ninS nK3 nin0)
 replace E1 := E1.keep KKY
 replace L1 := L1.keep KKY (ninS nK4 nin0)
 replace L2 := L2.keep KKY (ninS nK4 nin0)
 replace L3 := L3.keep KKY (ninS nK4 nin0)
 replace AE := AE.keep KKY (ninS nK5 nin0)
 replace A1 := A1.keep KKY (ninS nK6 nin0)
 replace A2 := A2.keep KKY (ninS nK7 nin0)
 replace A3 := A3.keep KKY (ninS nK8 nin0)
 replace A4 := A4.keep KKY (ninS nK9 nin0)
 replace AJX := AJX.keep KKY
 clear UnKC
 clear FKD
 clear FKE
 clear FKF
 replace K0 := K0.trans KKY (allS (Or.inr nwKA) all0)
 have kLS : own_G p e below E0 TKI (mkF m 18 #[vr a, vd xc, ss, vr is, vr ds, vi (1 : Int32), uu, uu] [(.ref aK0)]) := fun tQ kk => kKH tQ (stKS.trans kk)
 clear kKH stKS
 have kLT : own_G p e below E0 TKI (mkF m 26 #[vr a, vd xc, ss, vr is, vr ds, vi (1 : Int32), vr aK0, vi (0 : Int32)] [(.ref is), (.int (0 : Int32))]) := by
  intro tQ kk
  refine kLS tQ ?_
  refine XS.astore XKM.here hx rfl (hH p49_2_18) rfl rfl (l' := #[vr a, vd xc, ss, vr is, vr ds, vi (1 : Int32), vr aK0, uu]) rfl ?_
  refine XS.iconst XKM.here hx rfl (hH p49_2_20) ?_
  refine XS.istore XKM.here hx rfl (hH p49_2_21) rfl (l' := #[vr a, vd xc, ss, vr is, vr ds, vi (1 : Int32), vr aK0, vi (0 : Int32)]) rfl ?_
  refine XS.iload XKM.here hx rfl (hH p49_2_23) rfl ?_
  refine XS.aloadN XKM.here hx rfl (hH p49_2_25) rfl rfl ?_
  exact kk
 clear kLS
 have stLU := fun tQ => own_A.len XKM hx hZ rfl A3 (g := (mkF m 26 #[vr a, vd xc, ss, vr is, vr ds, vi (1 : Int32), vr aK0, vi (0 : Int32)] [(.ref is), (.int (0 : Int32))])) rfl rfl (hH p49_2_26) tQ
 have kLV : own_G p e below E0 TKI (mkF m 27 #[vr a, vd xc, ss, vr is, vr ds, vi (1 : Int32), vr aK0, vi (0 : Int32)] [(.int (0 : Int32)), (.int (0 : Int32))]) := fun tQ kk => kLT tQ (stLU _ kk)
 clear kLT stLU
 have kLW : own_G p e below E0 TKI (mkF m 51 #[vr a, vd xc, ss, vr is, vr ds, vi (1 : Int32), vr aK0, vi (0 : Int32)] [(.ref a)]) := by
  intro tQ kk
  refine kLV tQ ?_
  refine XS.icmpYes XKM.here hx rfl (pc0 := 27) (pc' := 50) rfl (hH p49_2_27) rfl (own_ic_geY (by decide)) (by decide) (by decide) ?_
  refine XS.aloadN XKM.here hx rfl (hH p49_2_50) rfl rfl ?_
  exact kk
 clear kLV
 obtain ⟨TLX, XLY, eLZ, stM0⟩ := getF XKM hx hZ hown (host := "") (Or.inl (tw34 hw)) Via.refl rfl S0 (g := (mkF m 51 #[vr a, vd xc, ss, vr is, vr ds, vi (1 : Int32), vr aK0, vi (0 : Int32)] [(.ref a)])) rfl rfl (hH p49_2_51)
 have kM1 : own_G p e below E0 TLX (mkF m 54 #[vr a, vd xc, ss, vr is, vr ds, vi (1 : Int32), vr aK0, vi (0 : Int32)] [(.ref al)]) := fun tQ kk => kLW tQ (stM0 _ kk)
 clear kLW stM0
 have kM2 : own_G p e below E0 TLX (mkF m 56 #[vr a, vd xc, ss, vr is, vr ds, vi (1 : Int32), vr aK0, vi (0 : Int32)] [(.ref aK0), (.ref al)]) := by
  intro tQ kk
  refine kM1 tQ ?_
  refine XS.aload XLY.here hx rfl (hH p49_2_54) rfl rfl ?_
  exact kk
 clear kM1
 obtain ⟨cqME, kqMF, qaMG, qbMH, qcMI⟩ := isOf hZ eLZ E1
 obtain ⟨_, _, ⟨TM3, LM4, kcM5, ncM6⟩, -, XM7, ⟨LcM8, hQM9, lMA, yMB, zMC⟩, stMD⟩ := XLY.interfaceBack hx (xi := mn156) (y := mn143) hown (mvT hZ (tw194 hw)) (mvT hZ (tw195 hw)) (mvT hZ (tw196 hw)) (mvT hZ (tw197 hw)) (mvT hZ (tw198 hw)) (mvT hZ (tw199 hw)) (mvT hZ (tw200 hw)) (mvT hZ (tw179 hw)) (by decide) (backOf (W := 0) (rmAd1 l Z a0 hw [] al aK0 x0 r TKI.heap n0 Z0 E1 L1 L2 AE AJX L3 q_al_r nK4 (Ne.symm nK5) ge_al ge_r) hZ (tw201 hw) (tw12 hw) (by decide) (by decide)) qaMG qbMH qcMI (g := (mkF m 56 #[vr a, vd xc, ss, vr is, vr ds, vi (1 : Int32), vr aK0, vi (0 : Int32)] [(.ref aK0), (.ref al)])) rfl (by rw [hml]; rfl) (Steps.refl _) (argsL := [(.ref aK0)]) (rest := []) (lenOf pd_155 rfl) rfl (by show 2 * 0 + _ ≤ _; exact Nat.le_of_eq rfl) (hH p49_2_56) (fun _ _ => ⟨rfl, eLZ, (by decide : 3 + 0 ≤ _), (by decide : 11 + 0 ≤ _)⟩)
 dsimp only [Pt.U, Pt.locs, Pt.cells, Pt.slots] at XM7 lMA yMB zMC stMD hQM9
 subst yMB zMC
 obtain ⟨rfl, NMJ, KMM, gMN, gMO, gMP, gMQ⟩ := hQM9
 have NMR : Fr n0 LM4 := by rw [lMA]; exact Fr.app NL7 NMJ
 clear lMA NMJ
 replace Z0 := Nat.le_trans Z0 KMM.1
 replace EX := EX.keep KMM
 replace S0 := S0.keep KMM (ninS q_a_al (ninS q_a_r nin0))
 replace S1 := S1.keep KMM (ninS q_a_al (ninS q_a_r nin0))
 replace S2 := S2.keep KMM (ninS q_a_al (ninS q_a_r nin0))
 replace S3 := S3.keep KMM (ninS q_a_al (ninS q_a_r nin0))
 replace S4 := S4.keep KMM (ninS q_a_al (ninS q_a_r nin0))
 replace S5 := S5.keep KMM (ninS q_a_al (ninS q_a_r nin0))
 replace S6 := S6.keep KMM (ninS q_a_al (ninS q_a_r nin0))
 replace S7 := S7.keep KMM (ninS q_a_al (ninS q_a_r nin0))
 replace E1 := E1.keep KMM
 clear L1
 clear L2
 clear L3
 clear AE
 replace A1 := A1.keep KMM (ninS (fun q => q_al_cA q.symm) (ninS q_cA_r nin0))
 replace A2 := A2.keep KMM (ninS (fun q => q_al_pA q.symm) (ninS q_pA_r nin0))
 replace A3 := A3.keep KMM (ninS (fun q => q_al_is q.symm) (ninS (fun q => q_r_is q.symm) nin0))
 replace A4 := A4.keep KMM (ninS (fun q => q_al_ds q.symm) (ninS (fun q => q_r_ds q.symm) nin0))
 replace AJX := AJX.keep KMM
 replace gKZ := gKZ.keep KMM (ninS (Ne.symm nK4) (ninS (Ne.symm nK5) nin0))
 replace gL0 := gL0.keep KMM (ninS (Ne.symm nK4) (ninS (Ne.symm nK5) nin0))
 replace gL1 := gL1.keep KMM (ninS (Ne.symm nK4) (ninS (Ne.symm nK5) nin0))
 replace gL2 := gL2.keep KMM (ninS (Ne.symm nLB) (ninS (Ne.symm nLC) nin0))
 replace gL3 := gL3.keep KMM (ninS (Ne.symm nLL) (ninS (Ne.symm nLM) nin0))
 replace K0 := K0.trans KMM (allS (Or.inl (List.mem_of_getElem? (i := 1) rfl)) (allS (Or.inl (List.mem_of_getElem? (i := 4) rfl)) all0))
 have kMS : own_G p e below E0 TM3 (mkF m 61 #[vr a, vd xc, ss, vr is, vr ds, vi (1 : Int32), vr aK0, vi (0 : Int32)] [(.int (1 : Int32))]) := fun tQ kk => kM2 tQ (stMD.trans kk)
 clear kM2 stMD
 have kMT : own_G p e below E0 TM3 (mkF m 64 #[vr a, vd xc, ss, vr is, vr ds, vi (1 : Int32), vr aK0, vi (0 : Int32)] [(.ref a), (.ref a)]) := by
  intro tQ kk
  refine kMS tQ ?_
  refine XT.pop XM7.here hx rfl (hH p49_2_61) rfl rfl ?_
  refine XS.aloadN XM7.here hx rfl (hH p49_2_62) rfl rfl ?_
  refine XS.aloadN XM7.here hx rfl (hH p49_2_63) rfl rfl ?_
  exact kk
 clear kMS
 obtain ⟨TMU, XMV, eMW, stMX⟩ := getF XM7 hx hZ hown (host := "") (Or.inl (tw37 hw)) Via.refl rfl S1 (g := (mkF m 64 #[vr a, vd xc, ss, vr is, vr ds, vi (1 : Int32), vr aK0, vi (0 : Int32)] [(.ref a), (.ref a)])) rfl rfl (hH p49_2_64)
 have kMY : own_G p e below E0 TMU (mkF m 67 #[vr a, vd xc, ss, vr is, vr ds, vi (1 : Int32), vr aK0, vi (0 : Int32)] [(.ref cA), (.ref a)]) := fun tQ kk => kMT tQ (stMX _ kk)
 clear kMT stMX
 have kMZ : own_G p e below E0 TMU (mkF m 71 #[vr a, vd xc, ss, vr is, vr ds, vi (1 : Int32), vr aK0, vi (0 : Int32)] [(.int (2 : Int32)), (.ref cA), (.ref a)]) := by
  intro tQ kk
  refine kMY tQ ?_
  refine XS.iload XMV.here hx rfl (hH p49_2_67) rfl ?_
  refine XS.iconst XMV.here hx rfl (hH p49_2_69) ?_
  refine XS.iadd XMV.here hx rfl (hH p49_2_70) rfl ?_
  exact kk
 clear kMY
 obtain ⟨_, _, ⟨TN0, LN1, kcN2, ncN3⟩, -, XN4, ⟨LcN5, hQN6, lN7, yN8, zN9⟩, stNA⟩ := Jvm.LawKit.callS XMV hx (y := mn118) hown (mvT hZ (tw226 hw)) (mvT hZ (tw227 hw)) (mvT hZ (tw228 hw)) (mvT hZ (tw229 hw)) (by decide) (backOf (W := 1) (rmGd l Z a0 hw [] cA (2 : Int32) cv TM3.heap n0 Z0 A1 (by rw [lc]; decide)) hZ (tw229 hw) (tw228 hw) (by decide) (by decide)) (g := (mkF m 71 #[vr a, vd xc, ss, vr is, vr ds, vi (1 : Int32), vr aK0, vi (0 : Int32)] [(.int (2 : Int32)), (.ref cA), (.ref a)])) rfl (by rw [hml]; rfl) (argsL := [(.ref cA), (.int (2 : Int32))]) (rest := [(.ref a)]) (lenOf pd_157 rfl) rfl (by show 2 * 0 + _ ≤ _; exact Nat.le_of_eq rfl) (hH p49_2_71) (fun _ _ => ⟨rfl, eMW, (by decide : 3 + 0 ≤ _), (by decide : 11 + 0 ≤ _)⟩)
 dsimp only [Pt.U, Pt.locs, Pt.cells, Pt.slots] at XN4 lN7 yN8 zN9 stNA hQN6
 subst yN8 zN9
 obtain ⟨rfl, NNB, eNC⟩ := hQN6
 have NNE : Fr n0 LN1 := by rw [lN7]; exact Fr.app NMR NNB
 clear lN7 NNB
 have kNF : own_G p e below E0 TN0 (mkF m 74 #[vr a, vd xc, ss, vr is, vr ds, vi (1 : Int32), vr aK0, vi (0 : Int32)] [(.ref cA), (.ref a)]) := fun tQ kk => kMZ tQ (stNA _ kk)
 clear kMZ stNA
 obtain ⟨TNG, hNH, XNI, eNJ, WNK, stNL⟩ := putF XN4 hx hZ hown (host := "") (Or.inl (tw37 hw)) Via.refl eNC S1 EX (Or.inl (tw38 hw)) (tw2 hw) (ty := (.array .double)) (by decide) rfl rfl (g := (mkF m 74 #[vr a, vd xc, ss, vr is, vr ds, vi (1 : Int32), vr aK0, vi (0 : Int32)] [(.ref cA), (.ref a)])) rfl rfl (hH p49_2_74)
 have NNM := Fr.snoc XNI NNE ge_a
 have kNN : own_G p e below E0 TNG (mkF m 77 #[vr a, vd xc, ss, vr is, vr ds, vi (1 : Int32), vr aK0, vi (0 : Int32)] []) := fun tQ kk => kNF tQ (stNL _ kk)
 clear kNF stNL
 replace EX := EX.wr WNK
 replace S0 := S0.other WNK (Or.inr (sn61 hw))
 replace S1 := S1.same WNK
 replace S2 := S2.other WNK (Or.inr (sn62 hw))
 replace S3 := S3.other WNK (Or.inr (sn63 hw))
 replace S4 := S4.other WNK (Or.inr (sn64 hw))
 replace S5 := S5.other WNK (Or.inr (sn65 hw))
 replace S6 := S6.other WNK (Or.inr (sn66 hw))
 replace S7 := S7.other WNK (Or.inr (sn68 hw))
 replace E1 := E1.wr WNK
 replace A1 := A1.other WNK (fun q => q_a_cA q.symm)
 replace A2 := A2.other WNK (fun q => q_a_pA q.symm)
 replace A3 := A3.other WNK (fun q => q_a_is q.symm)
 replace A4 := A4.other WNK (fun q => q_a_ds q.symm)
 replace AJX := AJX.wr WNK
 replace gKZ := gKZ.other WNK (Or.inl (Ne.symm nK3))
 replace gL0 := gL0.other WNK (Or.inl (Ne.symm nK3))
 replace gL1 := gL1.other WNK (Or.inl (Ne.symm nK3))
 replace gL2 := gL2.other WNK (Ne.symm nLA)
 replace gL3 := gL3.other WNK (Ne.symm nLK)
 replace gMN := gMN.other WNK (Or.inl (fun q => q_a_al q.symm))
 replace gMO := gMO.other WNK (Or.inl (fun q => q_a_al q.symm))
 replace gMP := gMP.other WNK (Or.inl (fun q => q_a_al q.symm))
 replace gMQ := gMQ.other WNK (fun q => q_a_r q.symm)
 replace Z0 := own_wrle WNK Z0
 replace K0 := K0.wr WNK (Or.inl (List.mem_of_getElem? (i := 0) rfl))
 have kNO : own_G p e below E0 TNG (mkF m 78 #[vr a, vd xc, ss, vr is, vr ds, vi (1 : Int32), vr aK0, vi (0 : Int32)] [(.ref a)]) := by
  intro tQ kk
  refine kNN tQ ?_
  refine XS.aloadN XNI.here hx rfl (hH p49_2_77) rfl rfl ?_
  exact kk
 clear kNN
 obtain ⟨TNP, XNQ, eNR, stNS⟩ := getF XNI hx hZ hown (host := "") (Or.inl (tw37 hw)) Via.refl eNJ S1 (g := (mkF m 78 #[vr a, vd xc, ss, vr is, vr ds, vi (1 : Int32), vr aK0, vi (0 : Int32)] [(.ref a)])) rfl rfl (hH p49_2_78)
 have kNT : own_G p e below E0 TNP (mkF m 81 #[vr a, vd xc, ss, vr is, vr ds, vi (1 : Int32), vr aK0, vi (0 : Int32)] [(.ref cA)]) := fun tQ kk => kNO tQ (stNS _ kk)
 clear kNO stNS
 have kNU : own_G p e below E0 TNP (mkF m 84 #[vr a, vd xc, ss, vr is, vr ds, vi (1 : Int32), vr aK0, vi (0 : Int32)] [(.double xc), (.int (1 : Int32)), (.ref cA)]) := by
  intro tQ kk
  refine kNT tQ ?_
  refine XS.iload XNQ.here hx rfl (hH p49_2_81) rfl ?_
  refine XS.dloadN XNQ.here hx rfl (hH p49_2_83) rfl ?_
  exact kk
 clear kNT
 obtain ⟨TNV, hNW, XNX, eNY, WNZ, FP0, stP1⟩ := own_A.dst XNQ hx hZ eNR A1 (j := (1 : Int32)) (by decide) (List.getElem?_eq_getElem (by rw [lc]; decide)) (g := (mkF m 84 #[vr a, vd xc, ss, vr is, vr ds, vi (1 : Int32), vr aK0, vi (0 : Int32)] [(.double xc), (.int (1 : Int32)), (.ref cA)])) rfl rfl (hH p49_2_84)
 have NP2 := Fr.snoc XNX NNM ge_cA
 have kP3 : own_G p e below E0 TNV (mkF m 85 #[vr a, vd xc, ss, vr is, vr ds, vi (1 : Int32), vr aK0, vi (0 : Int32)] []) := fun tQ kk => kNU tQ (stP1 _ kk)
 clear kNU stP1
 replace EX := EX.wr WNZ
 replace S0 := S0.other WNZ (Or.inl q_a_cA)
 replace S1 := S1.other WNZ (Or.inl q_a_cA)
 replace S2 := S2.other WNZ (Or.inl q_a_cA)
 replace S3 := S3.other WNZ (Or.inl q_a_cA)
 replace S4 := S4.other WNZ (Or.inl q_a_cA)
 replace S5 := S5.other WNZ (Or.inl q_a_cA)
 replace S6 := S6.other WNZ (Or.inl q_a_cA)
 replace S7 := S7.other WNZ (Or.inl q_a_cA)
 replace E1 := E1.wr WNZ
 replace A2 := A2.other WNZ (fun q => q_cA_pA q.symm)
 replace A3 := A3.other WNZ (fun q => q_cA_is q.symm)
 replace A4 := A4.other WNZ (fun q => q_cA_ds q.symm)
 replace AJX := AJX.wr WNZ
 replace gKZ := gKZ.other WNZ (Or.inl (Ne.symm nK6))
 replace gL0 := gL0.other WNZ (Or.inl (Ne.symm nK6))
 replace gL1 := gL1.other WNZ (Or.inl (Ne.symm nK6))
 replace gL2 := gL2.other WNZ (Ne.symm nLD)
 replace gL3 := gL3.other WNZ (Ne.symm nLN)
 replace gMN := gMN.other WNZ (Or.inl q_al_cA)
 replace gMO := gMO.other WNZ (Or.inl q_al_cA)
 replace gMP := gMP.other WNZ (Or.inl q_al_cA)
 replace gMQ := gMQ.other WNZ (fun q => q_cA_r q.symm)
 replace Z0 := own_wrle WNZ Z0
 replace K0 := K0.wr WNZ (Or.inl (List.mem_of_getElem? (i := 2) rfl))
 have FP4 : own_A Z hNW cA .double (cv.set ((1 : Int32)).toNatClampNeg (.double xc)) := FP0
 have kP5 : own_G p e below E0 TNV (mkF m 87 #[vr a, vd xc, ss, vr is, vr ds, vi (1 : Int32), vr aK0, vi (0 : Int32)] [(.ref a), (.ref a)]) := by
  intro tQ kk
  refine kP3 tQ ?_
  refine XS.aloadN XNX.here hx rfl (hH p49_2_85) rfl rfl ?_
  refine XS.aloadN XNX.here hx rfl (hH p49_2_86) rfl rfl ?_
  exact kk
 clear kP3
 obtain ⟨TP6, XP7, eP8, stP9⟩ := getF XNX hx hZ hown (host := "") (Or.inl (tw44 hw)) Via.refl eNY S4 (g := (mkF m 87 #[vr a, vd xc, ss, vr is, vr ds, vi (1 : Int32), vr aK0, vi (0 : Int32)] [(.ref a), (.ref a)])) rfl rfl (hH p49_2_87)
 have kPA : own_G p e below E0 TP6 (mkF m 90 #[vr a, vd xc, ss, vr is, vr ds, vi (1 : Int32), vr aK0, vi (0 : Int32)] [(.ref pA), (.ref a)]) := fun tQ kk => kP5 tQ (stP9 _ kk)
 clear kP5 stP9
 have kPB : own_G p e below E0 TP6 (mkF m 94 #[vr a, vd xc, ss, vr is, vr ds, vi (1 : Int32), vr aK0, vi (0 : Int32)] [(.int (2 : Int32)), (.ref pA), (.ref a)]) := by
  intro tQ kk
  refine kPA tQ ?_
  refine XS.iload XP7.here hx rfl (hH p49_2_90) rfl ?_
  refine XS.iconst XP7.here hx rfl (hH p49_2_92) ?_
  refine XS.iadd XP7.here hx rfl (hH p49_2_93) rfl ?_
  exact kk
 clear kPA
 obtain ⟨_, _, ⟨TPC, LPD, kcPE, ncPF⟩, -, XPG, ⟨LcPH, hQPI, lPJ, yPK, zPL⟩, stPM⟩ := Jvm.LawKit.callS XP7 hx (y := mn119) hown (mvT hZ (tw230 hw)) (mvT hZ (tw231 hw)) (mvT hZ (tw228 hw)) (mvT hZ (tw232 hw)) (by decide) (backOf (W := 1) (rmGi l Z a0 hw [] pA (2 : Int32) pv hNW n0 Z0 A2 (by rw [lp]; decide)) hZ (tw232 hw) (tw228 hw) (by decide) (by decide)) (g := (mkF m 94 #[vr a, vd xc, ss, vr is, vr ds, vi (1 : Int32), vr aK0, vi (0 : Int32)] [(.int (2 : Int32)), (.ref pA), (.ref a)])) rfl (by rw [hml]; rfl) (argsL := [(.ref pA), (.int (2 : Int32))]) (rest := [(.ref a)]) (lenOf pd_158 rfl) rfl (by show 2 * 0 + _ ≤ _; exact Nat.le_of_eq rfl) (hH p49_2_94) (fun _ _ => ⟨rfl, eP8, (by decide : 3 + 0 ≤ _), (by decide : 11 + 0 ≤ _)⟩)
 dsimp only [Pt.U, Pt.locs, Pt.cells, Pt.slots] at XPG lPJ yPK zPL stPM hQPI
 subst yPK zPL
 obtain ⟨rfl, NPN, ePO⟩ := hQPI
 have NPQ : Fr n0 LPD := by rw [lPJ]; exact Fr.app NP2 NPN
 clear lPJ NPN
 have kPR : own_G p e below E0 TPC (mkF m 97 #[vr a, vd xc, ss, vr is, vr ds, vi (1 : Int32), vr aK0, vi (0 : Int32)] [(.ref pA), (.ref a)]) := fun tQ kk => kPB tQ (stPM _ kk)
 clear kPB stPM
 obtain ⟨TPS, hPT, XPU, ePV, WPW, stPX⟩ := putF XPG hx hZ hown (host := "") (Or.inl (tw44 hw)) Via.refl ePO S4 EX (Or.inl (tw45 hw)) (tw2 hw) (ty := (.array .int)) (by decide) rfl rfl (g := (mkF m 97 #[vr a, vd xc, ss, vr is, vr ds, vi (1 : Int32), vr aK0, vi (0 : Int32)] [(.ref pA), (.ref a)])) rfl rfl (hH p49_2_97)
 have NPY := Fr.snoc XPU NPQ ge_a
 have kPZ : own_G p e below E0 TPS (mkF m 100 #[vr a, vd xc, ss, vr is, vr ds, vi (1 : Int32), vr aK0, vi (0 : Int32)] []) := fun tQ kk => kPR tQ (stPX _ kk)
 clear kPR stPX
 replace EX := EX.wr WPW
 replace S0 := S0.other WPW (Or.inr (sn85 hw))
 replace S1 := S1.other WPW (Or.inr (sn86 hw))
 replace S2 := S2.other WPW (Or.inr (sn87 hw))
 replace S3 := S3.other WPW (Or.inr (sn88 hw))
 replace S4 := S4.same WPW
 replace S5 := S5.other WPW (Or.inr (sn89 hw))
 replace S6 := S6.other WPW (Or.inr (sn90 hw))
 replace S7 := S7.other WPW (Or.inr (sn92 hw))
 replace E1 := E1.wr WPW
 replace A2 := A2.other WPW (fun q => q_a_pA q.symm)
 replace A3 := A3.other WPW (fun q => q_a_is q.symm)
 replace A4 := A4.other WPW (fun q => q_a_ds q.symm)
 replace AJX := AJX.wr WPW
 replace gKZ := gKZ.other WPW (Or.inl (Ne.symm nK3))
 replace gL0 := gL0.other WPW (Or.inl (Ne.symm nK3))
 replace gL1 := gL1.other WPW (Or.inl (Ne.symm nK3))
 replace gL2 := gL2.other WPW (Ne.symm nLA)
 replace gL3 := gL3.other WPW (Ne.symm nLK)
 replace gMN := gMN.other WPW (Or.inl (fun q => q_a_al q.symm))
 replace gMO := gMO.other WPW (Or.inl (fun q => q_a_al q.symm))
 replace gMP := gMP.other WPW (Or.inl (fun q => q_a_al q.symm))
 replace gMQ := gMQ.other WPW (fun q => q_a_r q.symm)
 replace FP4 := FP4.other WPW (fun q => q_a_cA q.symm)
 replace Z0 := own_wrle WPW Z0
 replace K0 := K0.wr WPW (Or.inl (List.mem_of_getElem? (i := 0) rfl))
 have kQ0 : own_G p e below E0 TPS (mkF m 101 #[vr a, vd xc, ss, vr is, vr ds, vi (1 : Int32), vr aK0, vi (0 : Int32)] [(.ref a)]) := by
  intro tQ kk
  refine kPZ tQ ?_
  refine XS.aloadN XPU.here hx rfl (hH p49_2_100) rfl rfl ?_
  exact kk
 clear kPZ
 obtain ⟨TQ1, XQ2, eQ3, stQ4⟩ := getF XPU hx hZ hown (host := "") (Or.inl (tw44 hw)) Via.refl ePV S4 (g := (mkF m 101 #[vr a, vd xc, ss, vr is, vr ds, vi (1 : Int32), vr aK0, vi (0 : Int32)] [(.ref a)])) rfl rfl (hH p49_2_101)
 have kQ5 : own_G p e below E0 TQ1 (mkF m 104 #[vr a, vd xc, ss, vr is, vr ds, vi (1 : Int32), vr aK0, vi (0 : Int32)] [(.ref pA)]) := fun tQ kk => kQ0 tQ (stQ4 _ kk)
 clear kQ0 stQ4
 have kQ6 : own_G p e below E0 TQ1 (mkF m 107 #[vr a, vd xc, ss, vr is, vr ds, vi (1 : Int32), vr aK0, vi (0 : Int32)] [(.int (-1 : Int32)), (.int (1 : Int32)), (.ref pA)]) := by
  intro tQ kk
  refine kQ5 tQ ?_
  refine XS.iload XQ2.here hx rfl (hH p49_2_104) rfl ?_
  refine XS.iconst XQ2.here hx rfl (hH p49_2_106) ?_
  exact kk
 clear kQ5
 obtain ⟨TQ7, hQ8, XQ9, eQA, WQB, FQC, stQD⟩ := own_A.ist XQ2 hx hZ eQ3 A2 (j := (1 : Int32)) (by decide) (List.getElem?_eq_getElem (by rw [lp]; decide)) (g := (mkF m 107 #[vr a, vd xc, ss, vr is, vr ds, vi (1 : Int32), vr aK0, vi (0 : Int32)] [(.int (-1 : Int32)), (.int (1 : Int32)), (.ref pA)])) rfl rfl (hH p49_2_107)
 have NQE := Fr.snoc XQ9 NPY ge_pA
 have kQF : own_G p e below E0 TQ7 (mkF m 108 #[vr a, vd xc, ss, vr is, vr ds, vi (1 : Int32), vr aK0, vi (0 : Int32)] []) := fun tQ kk => kQ6 tQ (stQD _ kk)
 clear kQ6 stQD
 replace EX := EX.wr WQB
 replace S0 := S0.other WQB (Or.inl q_a_pA)
 replace S1 := S1.other WQB (Or.inl q_a_pA)
 replace S2 := S2.other WQB (Or.inl q_a_pA)
 replace S3 := S3.other WQB (Or.inl q_a_pA)
 replace S4 := S4.other WQB (Or.inl q_a_pA)
 replace S5 := S5.other WQB (Or.inl q_a_pA)
 replace S6 := S6.other WQB (Or.inl q_a_pA)
 replace S7 := S7.other WQB (Or.inl q_a_pA)
 replace E1 := E1.wr WQB
 replace A3 := A3.other WQB (fun q => q_pA_is q.symm)
 replace A4 := A4.other WQB (fun q => q_pA_ds q.symm)
 replace AJX := AJX.wr WQB
 replace gKZ := gKZ.other WQB (Or.inl (Ne.symm nK7))
 replace gL0 := gL0.other WQB (Or.inl (Ne.symm nK7))
 replace gL1 := gL1.other WQB (Or.inl (Ne.symm nK7))
 replace gL2 := gL2.other WQB (Ne.symm nLE)
 replace gL3 := gL3.other WQB (Ne.symm nLO)
 replace gMN := gMN.other WQB (Or.inl q_al_pA)
 replace gMO := gMO.other WQB (Or.inl q_al_pA)
 replace gMP := gMP.other WQB (Or.inl q_al_pA)
 replace gMQ := gMQ.other WQB (fun q => q_pA_r q.symm)
 replace FP4 := FP4.other WQB q_cA_pA
 replace Z0 := own_wrle WQB Z0
 replace K0 := K0.wr WQB (Or.inl (List.mem_of_getElem? (i := 3) rfl))
 have FQG : own_A Z hQ8 pA .int (pv.set ((1 : Int32)).toNatClampNeg (.int (-1 : Int32))) := FQC
 have kQH : own_G p e below E0 TQ7 (mkF m 110 #[vr a, vd xc, ss, vr is, vr ds, vi (1 : Int32), vr aK0, vi (0 : Int32)] [(.int (1 : Int32))]) := by
  intro tQ kk
  refine kQF tQ ?_
  refine XS.iload XQ9.here hx rfl (hH p49_2_108) rfl ?_
  exact kk
 clear kQF
 obtain ⟨fs, hr, hrun, hended, hW, hsame⟩ := XQ9.leave (v := some (.int (1 : Int32))) (fun h => by rw [Bd.returns] at h; cases h)
 have hrun0 := kQH _ (retOut XQ9 hx Bd.returns (t := .int) rfl (Or.inl ⟨rfl, Or.inl rfl, _, rfl⟩) (hH p49_2_110) hr)
 subst hE0
 refine ⟨_, _, hrun0, hrun, hended, _, _, rfl, ?_, ⟨_, rfl⟩, hW, hsame.mono (by decide) (by decide)⟩
 show QrmCo1 Z a is ds al cA ro ba pA fa va r x0 cv pv xc h0 n0 _ TQ7.heap _
 rw [eQA]
 exact ⟨aK0, r1KW, r2KX, rfl, NQE, K0, S0, S1, S2, S3, S4, S5, S6, S7, gMN, gMO, gMP, gMQ, FP4, FQG, AJX, gKZ, gL0, gL1, gL2, gL3, nwKA, nwL9, nwLJ, nLH, nLR, nL6⟩
def QrmCo2 (Z : State) (a : Addr) (is : Addr) (ds : Addr) (al : Addr) (cA : Addr) (ro : Addr) (ba : Addr) (pA : Addr) (fa : Addr) (va : Addr) (r : Addr) (x0 : Addr) (x1 : Addr) (cv : List Value) (pv : List Value) (xc : UInt64) (h0 : Heap) (n0 : Nat) (vQ : Option Value) (hQ : Heap) (LQ : List Loc) : Prop := ∃ (sc : Addr), ∃ (r1 : Addr), ∃ (r2 : Addr), vQ = some (.int (2 : Int32)) ∧ Fr n0 LQ ∧ Keep h0 hQ [a, al, cA, pA, r] ∧ (fd41 Z hQ a (.ref al)) ∧ (fd42 Z hQ a (.ref cA)) ∧ (fd43 Z hQ a (.ref ro)) ∧ (fd44 Z hQ a (.ref ba)) ∧ (fd45 Z hQ a (.ref pA)) ∧ (fd46 Z hQ a (.ref fa)) ∧ (fd47 Z hQ a (.ref va)) ∧ (fd48 Z hQ a (.int (0 : Int32))) ∧ (fd30 Z hQ al (.ref r)) ∧ (fd31 Z hQ al (.int (3 : Int32))) ∧ (fd29 Z hQ al (.int (3 : Int32))) ∧ (own_O Z hQ r "java/lang/Object" [(.ref x0), (.ref x1), (.ref sc), .null, .null, .null, .null, .null, .null, .null]) ∧ (own_A Z hQ cA .double (cv.set ((2 : Int32)).toNatClampNeg (.double xc))) ∧ (own_A Z hQ pA .int (pv.set ((2 : Int32)).toNatClampNeg (.int (-1 : Int32)))) ∧ (xa123 Z hQ sc) ∧ (fd120 Z hQ sc (.ref r1)) ∧ (fd121 Z hQ sc (.ref r2)) ∧ (fd122 Z hQ sc (.int (0 : Int32))) ∧ (own_A Z hQ r1 .int own_i4) ∧ (own_A Z hQ r2 .double own_d4) ∧ (h0.size ≤ sc) ∧ (h0.size ≤ r1) ∧ (h0.size ≤ r2) ∧ (sc ≠ r1) ∧ (sc ≠ r2) ∧ (r1 ≠ r2)
theorem ef_rmCo2 (m : MethodId) (a : Addr) (is : Addr) (ds : Addr) (al : Addr) (cA : Addr) (ro : Addr) (ba : Addr) (pA : Addr) (fa : Addr) (va : Addr) (r : Addr) (x0 : Addr) (x1 : Addr) (cv : List Value) (pv : List Value) (xc : UInt64) : entryFrame m #[(.ref a), (.double xc), (.ref is), (.ref ds)] 8 = mkF m 0 #[vr a, vd xc, ss, vr is, vr ds, uu, uu, uu] [] := by first | (simp [entryFrame, mkF, argsToLocals, Value.category]; done) | rfl
set_option maxRecDepth 65536 in
set_option maxHeartbeats 40000000 in
theorem rmCo2 (l : Launch) (Z : State) (a0 : Array Value) (hw : ∀ d ∈ tables_1, d.before a0 Z = true) (ws : List Jvm.Cond) (a : Addr) (is : Addr) (ds : Addr) (al : Addr) (cA : Addr) (ro : Addr) (ba : Addr) (pA : Addr) (fa : Addr) (va : Addr) (r : Addr) (x0 : Addr) (x1 : Addr) (cv : List Value) (pv : List Value) (xc : UInt64) (h0 : Heap) (n0 : Nat) (Z0 : n0 ≤ h0.size) (EX : xa49 Z h0 a) (S0 : fd41 Z h0 a (.ref al)) (S1 : fd42 Z h0 a (.ref cA)) (S2 : fd43 Z h0 a (.ref ro)) (S3 : fd44 Z h0 a (.ref ba)) (S4 : fd45 Z h0 a (.ref pA)) (S5 : fd46 Z h0 a (.ref fa)) (S6 : fd47 Z h0 a (.ref va)) (S7 : fd48 Z h0 a (.int (0 : Int32))) (E1 : xa32 Z h0 al) (L1 : fd30 Z h0 al (.ref r)) (L2 : fd31 Z h0 al (.int (2 : Int32))) (L3 : fd29 Z h0 al (.int (2 : Int32))) (AE : own_O Z h0 r "java/lang/Object" [(.ref x0), (.ref x1), .null, .null, .null, .null, .null, .null, .null, .null]) (A1 : own_A Z h0 cA .double cv) (A2 : own_A Z h0 pA .int pv) (A3 : own_A Z h0 is .int []) (A4 : own_A Z h0 ds .double []) (q_a_al : a ≠ al) (q_a_cA : a ≠ cA) (q_a_pA : a ≠ pA) (q_a_r : a ≠ r) (q_a_is : a ≠ is) (q_a_ds : a ≠ ds) (q_al_cA : al ≠ cA) (q_al_pA : al ≠ pA) (q_al_r : al ≠ r) (q_al_is : al ≠ is) (q_al_ds : al ≠ ds) (q_cA_pA : cA ≠ pA) (q_cA_r : cA ≠ r) (q_cA_is : cA ≠ is) (q_cA_ds : cA ≠ ds) (q_pA_r : pA ≠ r) (q_pA_is : pA ≠ is) (q_pA_ds : pA ≠ ds) (q_r_is : r ≠ is) (q_r_ds : r ≠ ds) (ge_a : n0 ≤ a) (ge_al : n0 ≤ al) (ge_cA : n0 ≤ cA) (ge_pA : n0 ≤ pA) (ge_r : n0 ≤ r) (lc : cv.length = 16) (lp : pv.length = 16) :
  MetFree l mn152 (head1 (Jvm.Cond.code mn152 prog_49_method_2_code 8 (some .int) :: ws) ({ frames := 6, cells := 3, slots := 11, locals := 90 } : Room)) (fun aA U => aA = #[(.ref a), (.double xc), (.ref is), (.ref ds)] ∧ Z.Warmed39 U.vm ∧ U.heap = h0) (fun _ _ _ _ _ => True) (fun _ U o U' => ∃ vR LR, o = .returned vR ∧ QrmCo2 Z a is ds al cA ro ba pA fa va r x0 x1 cv pv xc h0 n0 vR U'.heap LR ∧ FrameEnd U o U' LR ({ frames := 6, cells := 3, slots := 11, locals := 90 } : Room).cells ({ frames := 6, cells := 3, slots := 11, locals := 90 } : Room).slots) := by
 refine MetFree.of_bodySF (plainFor_of_name pn_com_example_netloom_netloom_embed_Simplex) hisR ?_
 intro p e s m args below meth c s₁ Bd hml0 hPre hKk
 obtain ⟨rfl, hZ, hh⟩ := hPre
 have hx := Bd.exec
 have hby := Bd.bytes
 have hH : ∀ {pc r}, decode prog_49_method_2_code pc = r → decode c.code pc = r := fun q => hb hby q
 have hml : c.maxLocals = 8 := hml0
 have hown : s.vm.findClass "com/example/netloom/netloom/embed/Simplex" = some m.cls := findClass_of_methodNamed Bd.named
 have hnm := (name_of_methodNamed Bd.named Bd.method).1
 have X0 : Stand p l e ({ frames := 6, cells := 3, slots := 11, locals := 90 } : Room) s m #[(.ref a), (.double xc), (.ref is), (.ref ds)] below meth c s₁ [] 0 0 := Stand.of_body Bd
 have e0 : s₁.heap = h0 := by rw [← hh, Bd.state]; rfl
 have N0 := Fr.nil n0
 obtain ⟨E0, hE0⟩ : ∃ zE : State, zE = s₁.setTop (entryFrame m #[(.ref a), (.double xc), (.ref is), (.ref ds)] 8) := ⟨_, rfl⟩
 have k0 : own_G p e below E0 s₁ (mkF m 0 #[vr a, vd xc, ss, vr is, vr ds, uu, uu, uu] []) := fun tz kz => hE0 ▸ castTop (ef_rmCo2 m a is ds al cA ro ba pA fa va r x0 x1 cv pv xc) kz
 have K0 : Keep h0 h0 [a, al, cA, pA, r] := Keep.refl _ _
 have kJ0 : own_G p e below E0 s₁ (mkF m 1 #[vr a, vd xc, ss, vr is, vr ds, uu, uu, uu] [(.ref a)]) := by
  intro tQ kk
  refine k0 tQ ?_
  refine XS.aloadN X0.here hx rfl (hH p49_2_0) rfl rfl ?_
  exact kk
 clear k0
 obtain ⟨TJ1, XJ2, eJ3, stJ4⟩ := getF X0 hx hZ hown (host := "") (Or.inl (tw34 hw)) Via.refl e0 S0 (g := (mkF m 1 #[vr a, vd xc, ss, vr is, vr ds, uu, uu, uu] [(.ref a)])) rfl rfl (hH p49_2_1)
 have kJ5 : own_G p e below E0 TJ1 (mkF m 4 #[vr a, vd xc, ss, vr is, vr ds, uu, uu, uu] [(.ref al)]) := fun tQ kk => kJ0 tQ (stJ4 _ kk)
 clear kJ0 stJ4
 obtain ⟨cqJH, kqJI, qaJJ, qbJK, qcJL⟩ := isOf hZ eJ3 E1
 obtain ⟨_, _, ⟨TJ6, LJ7, kcJ8, ncJ9⟩, -, XJA, ⟨LcJB, hQJC, lJD, yJE, zJF⟩, stJG⟩ := XJ2.interfaceBack hx (xi := mn154) (y := mn145) hown (mvT hZ (tw172 hw)) (mvT hZ (tw173 hw)) (mvT hZ (tw174 hw)) (mvT hZ (tw175 hw)) (mvT hZ (tw176 hw)) (mvT hZ (tw177 hw)) (mvT hZ (tw178 hw)) (mvT hZ (tw179 hw)) (by decide) (backOf (W := 0) (rmSz2 l Z a0 hw [] al h0 n0 Z0 L2) hZ (tw180 hw) (tw12 hw) (by decide) (by decide)) qaJJ qbJK qcJL (g := (mkF m 4 #[vr a, vd xc, ss, vr is, vr ds, uu, uu, uu] [(.ref al)])) rfl (by rw [hml]; rfl) (Steps.refl _) (argsL := []) (rest := []) (lenOf pd_153 rfl) rfl (by show 2 * 0 + _ ≤ _; exact Nat.le_of_eq rfl) (hH p49_2_4) (fun _ _ => ⟨rfl, eJ3, (by decide : 0 + 0 ≤ _), (by decide : 0 + 0 ≤ _)⟩)
 dsimp only [Pt.U, Pt.locs, Pt.cells, Pt.slots] at XJA lJD yJE zJF stJG hQJC
 subst yJE zJF
 obtain ⟨rfl, NJM, eJN⟩ := hQJC
 have NJP : Fr n0 LJ7 := by rw [lJD]; exact Fr.app N0 NJM
 clear lJD NJM
 have kJQ : own_G p e below E0 TJ6 (mkF m 9 #[vr a, vd xc, ss, vr is, vr ds, uu, uu, uu] [(.int (2 : Int32))]) := fun tQ kk => kJ5 tQ (stJG.trans kk)
 clear kJ5 stJG
 have kJR : own_G p e below E0 TJ6 (mkF m 11 #[vr a, vd xc, ss, vr is, vr ds, vi (2 : Int32), uu, uu] []) := by
  intro tQ kk
  refine kJQ tQ ?_
  refine XS.istore XJA.here hx rfl (hH p49_2_9) rfl (l' := #[vr a, vd xc, ss, vr is, vr ds, vi (2 : Int32), uu, uu]) rfl ?_
  exact kk
 clear kJQ
 obtain ⟨TJS, hJT, XJU, eJV, EJW, AJX, DJY, UnK2, stJZ⟩ := newO XJA hx hZ hown (tw183 hw) (tw184 hw) (tw185 hw) eJN (g := (mkF m 11 #[vr a, vd xc, ss, vr is, vr ds, vi (2 : Int32), uu, uu] [])) rfl (hH p49_2_11) (by decide) (by decide)
 obtain ⟨aK0, gK1⟩ : ∃ zA : Nat, zA = h0.size := ⟨_, rfl⟩
 rw [← gK1] at AJX DJY stJZ UnK2
 have nK3 := own_lt_ne EX.lt gK1
 have nK4 := own_lt_ne E1.lt gK1
 have nK5 := own_lt_ne AE.lt gK1
 have nK6 := own_lt_ne A1.lt gK1
 have nK7 := own_lt_ne A2.lt gK1
 have nK8 := own_lt_ne A3.lt gK1
 have nK9 := own_lt_ne A4.lt gK1
 have nwKA : h0.size ≤ aK0 := own_ge_of K0.1 gK1
 have geKB : n0 ≤ aK0 := own_ge_of Z0 gK1
 replace Z0 := Nat.le_trans Z0 EJW.1
 replace EX := EX.ext EJW
 replace S0 := S0.ext EJW
 replace S1 := S1.ext EJW
 replace S2 := S2.ext EJW
 replace S3 := S3.ext EJW
 replace S4 := S4.ext EJW
 replace S5 := S5.ext EJW
 replace S6 := S6.ext EJW
 replace S7 := S7.ext EJW
 replace E1 := E1.ext EJW
 replace L1 := L1.ext EJW
 replace L2 := L2.ext EJW
 replace L3 := L3.ext EJW
 replace AE := AE.ext EJW
 replace A1 := A1.ext EJW
 replace A2 := A2.ext EJW
 replace A3 := A3.ext EJW
 replace A4 := A4.ext EJW
 replace K0 := K0.ext EJW
 have UnKC : Unt hJT aK0 := UnK2
 have FKD : Fld Z hJT aK0 "com/example/netloom/netloom/embed/SparseColumn" "rows" "[I" .null := (DJY (Or.inl (tw191 hw)) (ty := (.array .int)) (by decide))
 have FKE : Fld Z hJT aK0 "com/example/netloom/netloom/embed/SparseColumn" "values" "[D" .null := (DJY (Or.inl (tw193 hw)) (ty := (.array .double)) (by decide))
 have FKF : Fld Z hJT aK0 "com/example/netloom/netloom/embed/SparseColumn" "size" "I" (.int (0 : Int32)) := (DJY (Or.inl (tw268 hw)) (ty := .int) (by decide))
 have kKG : own_G p e below E0 TJS (mkF m 14 #[vr a, vd xc, ss, vr is, vr ds, vi (2 : Int32), uu, uu] [(.ref aK0)]) := fun tQ kk => kJR tQ (stJZ _ kk)
 clear kJR stJZ
 have kKH : own_G p e below E0 TJS (mkF m 15 #[vr a, vd xc, ss, vr is, vr ds, vi (2 : Int32), uu, uu] [(.ref aK0), (.ref aK0)]) := by
  intro tQ kk
  refine kKG tQ ?_
  refine XS.dup XJU.here hx rfl (hH p49_2_14) rfl rfl ?_
  exact kk
 clear kKG
 obtain ⟨_, _, ⟨TKI, LKJ, kcKK, ncKL⟩, -, XKM, ⟨LcKN, hQKO, lKP, yKQ, zKR⟩, stKS⟩ := XJU.specialBack hx (y := mn124) rfl hown (mvT hZ (tw186 hw)) (mvT hZ (tw187 hw)) (mvT hZ (tw188 hw)) (by decide) (backOf (W := 1) (rmSc l Z a0 hw [] aK0 hJT n0 Z0 AJX FKD FKE FKF geKB) hZ (tw188 hw) (tw185 hw) (by decide) (by decide)) (g := (mkF m 15 #[vr a, vd xc, ss, vr is, vr ds, vi (2 : Int32), uu, uu] [(.ref aK0), (.ref aK0)])) rfl (by rw [hml]; rfl) (Steps.refl _) (a := aK0) (argsL := []) (rest := [(.ref aK0)]) (lenOf pd_8 rfl) rfl (by show 2 * 0 + _ ≤ _; exact Nat.le_of_eq rfl) (hH p49_2_15) (fun _ _ => ⟨rfl, eJV, (by decide : 1 + 2 ≤ _), (by decide : 3 + 8 ≤ _)⟩)
 dsimp only [Pt.U, Pt.locs, Pt.cells, Pt.slots] at XKM lKP yKQ zKR stKS hQKO
 subst yKQ zKR
 obtain ⟨r1KW, r2KX, rfl, NKT, KKY, gKZ, gL0, gL1, gL2, gL3, nwL4, nwL5, nL6⟩ := hQKO
 have NL7 : Fr n0 LKJ := by rw [lKP]; exact Fr.app NJP NKT
 clear lKP NKT
 have geL8 : n0 ≤ r1KW := Nat.le_trans Z0 nwL4
 have nwL9 : h0.size ≤ r1KW := Nat.le_trans K0.1 nwL4
 have nLA : a ≠ r1KW := own_lt_ne2 EX.lt nwL4
 have nLB : al ≠ r1KW := own_lt_ne2 E1.lt nwL4
 have nLC : r ≠ r1KW := own_lt_ne2 AE.lt nwL4
 have nLD : cA ≠ r1KW := own_lt_ne2 A1.lt nwL4
 have nLE : pA ≠ r1KW := own_lt_ne2 A2.lt nwL4
 have nLF : is ≠ r1KW := own_lt_ne2 A3.lt nwL4
 have nLG : ds ≠ r1KW := own_lt_ne2 A4.lt nwL4
 have nLH : aK0 ≠ r1KW := own_lt_ne2 AJX.lt nwL4
 have geLI : n0 ≤ r2KX := Nat.le_trans Z0 nwL5
 have nwLJ : h0.size ≤ r2KX := Nat.le_trans K0.1 nwL5
 have nLK : a ≠ r2KX := own_lt_ne2 EX.lt nwL5
 have nLL : al ≠ r2KX := own_lt_ne2 E1.lt nwL5
 have nLM : r ≠ r2KX := own_lt_ne2 AE.lt nwL5
 have nLN : cA ≠ r2KX := own_lt_ne2 A1.lt nwL5
 have nLO : pA ≠ r2KX := own_lt_ne2 A2.lt nwL5
 have nLP : is ≠ r2KX := own_lt_ne2 A3.lt nwL5
 have nLQ : ds ≠ r2KX := own_lt_ne2 A4.lt nwL5
 have nLR : aK0 ≠ r2KX := own_lt_ne2 AJX.lt nwL5
 replace Z0 := Nat.le_trans Z0 KKY.1
 replace EX := EX.keep KKY
 replace S0 := S0.keep KKY (ninS nK3 nin0)
 replace S1 := S1.keep KKY (ninS nK3 nin0)
 replace S2 := S2.keep KKY (ninS nK3 nin0)
 replace S3 := S3.keep KKY (ninS nK3 nin0)
 replace S4 := S4.keep KKY (ninS nK3 nin0)
 replace S5 := S5.keep KKY (ninS nK3 nin0)
 replace S6 := S6.keep KKY (ninS nK3 nin0)
 replace S7 := S7.keep KKY (ninS nK3 nin0)
 replace E1 := E1.keep KKY
 replace L1 := L1.keep KKY (ninS nK4 nin0)
 replace L2 := L2.keep KKY (ninS nK4 nin0)
 replace L3 := L3.keep KKY (ninS nK4 nin0)
 replace AE := AE.keep KKY (ninS nK5 nin0)
 replace A1 := A1.keep KKY (ninS nK6 nin0)
 replace A2 := A2.keep KKY (ninS nK7 nin0)
 replace A3 := A3.keep KKY (ninS nK8 nin0)
 replace A4 := A4.keep KKY (ninS nK9 nin0)
 replace AJX := AJX.keep KKY
 clear UnKC
 clear FKD
 clear FKE
 clear FKF
 replace K0 := K0.trans KKY (allS (Or.inr nwKA) all0)
 have kLS : own_G p e below E0 TKI (mkF m 18 #[vr a, vd xc, ss, vr is, vr ds, vi (2 : Int32), uu, uu] [(.ref aK0)]) := fun tQ kk => kKH tQ (stKS.trans kk)
 clear kKH stKS
 have kLT : own_G p e below E0 TKI (mkF m 26 #[vr a, vd xc, ss, vr is, vr ds, vi (2 : Int32), vr aK0, vi (0 : Int32)] [(.ref is), (.int (0 : Int32))]) := by
  intro tQ kk
  refine kLS tQ ?_
  refine XS.astore XKM.here hx rfl (hH p49_2_18) rfl rfl (l' := #[vr a, vd xc, ss, vr is, vr ds, vi (2 : Int32), vr aK0, uu]) rfl ?_
  refine XS.iconst XKM.here hx rfl (hH p49_2_20) ?_
  refine XS.istore XKM.here hx rfl (hH p49_2_21) rfl (l' := #[vr a, vd xc, ss, vr is, vr ds, vi (2 : Int32), vr aK0, vi (0 : Int32)]) rfl ?_
  refine XS.iload XKM.here hx rfl (hH p49_2_23) rfl ?_
  refine XS.aloadN XKM.here hx rfl (hH p49_2_25) rfl rfl ?_
  exact kk
 clear kLS
 have stLU := fun tQ => own_A.len XKM hx hZ rfl A3 (g := (mkF m 26 #[vr a, vd xc, ss, vr is, vr ds, vi (2 : Int32), vr aK0, vi (0 : Int32)] [(.ref is), (.int (0 : Int32))])) rfl rfl (hH p49_2_26) tQ
 have kLV : own_G p e below E0 TKI (mkF m 27 #[vr a, vd xc, ss, vr is, vr ds, vi (2 : Int32), vr aK0, vi (0 : Int32)] [(.int (0 : Int32)), (.int (0 : Int32))]) := fun tQ kk => kLT tQ (stLU _ kk)
 clear kLT stLU
 have kLW : own_G p e below E0 TKI (mkF m 51 #[vr a, vd xc, ss, vr is, vr ds, vi (2 : Int32), vr aK0, vi (0 : Int32)] [(.ref a)]) := by
  intro tQ kk
  refine kLV tQ ?_
  refine XS.icmpYes XKM.here hx rfl (pc0 := 27) (pc' := 50) rfl (hH p49_2_27) rfl (own_ic_geY (by decide)) (by decide) (by decide) ?_
  refine XS.aloadN XKM.here hx rfl (hH p49_2_50) rfl rfl ?_
  exact kk
 clear kLV
 obtain ⟨TLX, XLY, eLZ, stM0⟩ := getF XKM hx hZ hown (host := "") (Or.inl (tw34 hw)) Via.refl rfl S0 (g := (mkF m 51 #[vr a, vd xc, ss, vr is, vr ds, vi (2 : Int32), vr aK0, vi (0 : Int32)] [(.ref a)])) rfl rfl (hH p49_2_51)
 have kM1 : own_G p e below E0 TLX (mkF m 54 #[vr a, vd xc, ss, vr is, vr ds, vi (2 : Int32), vr aK0, vi (0 : Int32)] [(.ref al)]) := fun tQ kk => kLW tQ (stM0 _ kk)
 clear kLW stM0
 have kM2 : own_G p e below E0 TLX (mkF m 56 #[vr a, vd xc, ss, vr is, vr ds, vi (2 : Int32), vr aK0, vi (0 : Int32)] [(.ref aK0), (.ref al)]) := by
  intro tQ kk
  refine kM1 tQ ?_
  refine XS.aload XLY.here hx rfl (hH p49_2_54) rfl rfl ?_
  exact kk
 clear kM1
 obtain ⟨cqME, kqMF, qaMG, qbMH, qcMI⟩ := isOf hZ eLZ E1
 obtain ⟨_, _, ⟨TM3, LM4, kcM5, ncM6⟩, -, XM7, ⟨LcM8, hQM9, lMA, yMB, zMC⟩, stMD⟩ := XLY.interfaceBack hx (xi := mn156) (y := mn143) hown (mvT hZ (tw194 hw)) (mvT hZ (tw195 hw)) (mvT hZ (tw196 hw)) (mvT hZ (tw197 hw)) (mvT hZ (tw198 hw)) (mvT hZ (tw199 hw)) (mvT hZ (tw200 hw)) (mvT hZ (tw179 hw)) (by decide) (backOf (W := 0) (rmAd2 l Z a0 hw [] al aK0 x0 x1 r TKI.heap n0 Z0 E1 L1 L2 AE AJX L3 q_al_r nK4 (Ne.symm nK5) ge_al ge_r) hZ (tw201 hw) (tw12 hw) (by decide) (by decide)) qaMG qbMH qcMI (g := (mkF m 56 #[vr a, vd xc, ss, vr is, vr ds, vi (2 : Int32), vr aK0, vi (0 : Int32)] [(.ref aK0), (.ref al)])) rfl (by rw [hml]; rfl) (Steps.refl _) (argsL := [(.ref aK0)]) (rest := []) (lenOf pd_155 rfl) rfl (by show 2 * 0 + _ ≤ _; exact Nat.le_of_eq rfl) (hH p49_2_56) (fun _ _ => ⟨rfl, eLZ, (by decide : 3 + 0 ≤ _), (by decide : 11 + 0 ≤ _)⟩)
 dsimp only [Pt.U, Pt.locs, Pt.cells, Pt.slots] at XM7 lMA yMB zMC stMD hQM9
 subst yMB zMC
 obtain ⟨rfl, NMJ, KMM, gMN, gMO, gMP, gMQ⟩ := hQM9
 have NMR : Fr n0 LM4 := by rw [lMA]; exact Fr.app NL7 NMJ
 clear lMA NMJ
 replace Z0 := Nat.le_trans Z0 KMM.1
 replace EX := EX.keep KMM
 replace S0 := S0.keep KMM (ninS q_a_al (ninS q_a_r nin0))
 replace S1 := S1.keep KMM (ninS q_a_al (ninS q_a_r nin0))
 replace S2 := S2.keep KMM (ninS q_a_al (ninS q_a_r nin0))
 replace S3 := S3.keep KMM (ninS q_a_al (ninS q_a_r nin0))
 replace S4 := S4.keep KMM (ninS q_a_al (ninS q_a_r nin0))
 replace S5 := S5.keep KMM (ninS q_a_al (ninS q_a_r nin0))
 replace S6 := S6.keep KMM (ninS q_a_al (ninS q_a_r nin0))
 replace S7 := S7.keep KMM (ninS q_a_al (ninS q_a_r nin0))
 replace E1 := E1.keep KMM
 clear L1
 clear L2
 clear L3
 clear AE
 replace A1 := A1.keep KMM (ninS (fun q => q_al_cA q.symm) (ninS q_cA_r nin0))
 replace A2 := A2.keep KMM (ninS (fun q => q_al_pA q.symm) (ninS q_pA_r nin0))
 replace A3 := A3.keep KMM (ninS (fun q => q_al_is q.symm) (ninS (fun q => q_r_is q.symm) nin0))
 replace A4 := A4.keep KMM (ninS (fun q => q_al_ds q.symm) (ninS (fun q => q_r_ds q.symm) nin0))
 replace AJX := AJX.keep KMM
 replace gKZ := gKZ.keep KMM (ninS (Ne.symm nK4) (ninS (Ne.symm nK5) nin0))
 replace gL0 := gL0.keep KMM (ninS (Ne.symm nK4) (ninS (Ne.symm nK5) nin0))
 replace gL1 := gL1.keep KMM (ninS (Ne.symm nK4) (ninS (Ne.symm nK5) nin0))
 replace gL2 := gL2.keep KMM (ninS (Ne.symm nLB) (ninS (Ne.symm nLC) nin0))
 replace gL3 := gL3.keep KMM (ninS (Ne.symm nLL) (ninS (Ne.symm nLM) nin0))
 replace K0 := K0.trans KMM (allS (Or.inl (List.mem_of_getElem? (i := 1) rfl)) (allS (Or.inl (List.mem_of_getElem? (i := 4) rfl)) all0))
 have kMS : own_G p e below E0 TM3 (mkF m 61 #[vr a, vd xc, ss, vr is, vr ds, vi (2 : Int32), vr aK0, vi (0 : Int32)] [(.int (1 : Int32))]) := fun tQ kk => kM2 tQ (stMD.trans kk)
 clear kM2 stMD
 have kMT : own_G p e below E0 TM3 (mkF m 64 #[vr a, vd xc, ss, vr is, vr ds, vi (2 : Int32), vr aK0, vi (0 : Int32)] [(.ref a), (.ref a)]) := by
  intro tQ kk
  refine kMS tQ ?_
  refine XT.pop XM7.here hx rfl (hH p49_2_61) rfl rfl ?_
  refine XS.aloadN XM7.here hx rfl (hH p49_2_62) rfl rfl ?_
  refine XS.aloadN XM7.here hx rfl (hH p49_2_63) rfl rfl ?_
  exact kk
 clear kMS
 obtain ⟨TMU, XMV, eMW, stMX⟩ := getF XM7 hx hZ hown (host := "") (Or.inl (tw37 hw)) Via.refl rfl S1 (g := (mkF m 64 #[vr a, vd xc, ss, vr is, vr ds, vi (2 : Int32), vr aK0, vi (0 : Int32)] [(.ref a), (.ref a)])) rfl rfl (hH p49_2_64)
 have kMY : own_G p e below E0 TMU (mkF m 67 #[vr a, vd xc, ss, vr is, vr ds, vi (2 : Int32), vr aK0, vi (0 : Int32)] [(.ref cA), (.ref a)]) := fun tQ kk => kMT tQ (stMX _ kk)
 clear kMT stMX
 have kMZ : own_G p e below E0 TMU (mkF m 71 #[vr a, vd xc, ss, vr is, vr ds, vi (2 : Int32), vr aK0, vi (0 : Int32)] [(.int (3 : Int32)), (.ref cA), (.ref a)]) := by
  intro tQ kk
  refine kMY tQ ?_
  refine XS.iload XMV.here hx rfl (hH p49_2_67) rfl ?_
  refine XS.iconst XMV.here hx rfl (hH p49_2_69) ?_
  refine XS.iadd XMV.here hx rfl (hH p49_2_70) rfl ?_
  exact kk
 clear kMY
 obtain ⟨_, _, ⟨TN0, LN1, kcN2, ncN3⟩, -, XN4, ⟨LcN5, hQN6, lN7, yN8, zN9⟩, stNA⟩ := Jvm.LawKit.callS XMV hx (y := mn118) hown (mvT hZ (tw226 hw)) (mvT hZ (tw227 hw)) (mvT hZ (tw228 hw)) (mvT hZ (tw229 hw)) (by decide) (backOf (W := 1) (rmGd l Z a0 hw [] cA (3 : Int32) cv TM3.heap n0 Z0 A1 (by rw [lc]; decide)) hZ (tw229 hw) (tw228 hw) (by decide) (by decide)) (g := (mkF m 71 #[vr a, vd xc, ss, vr is, vr ds, vi (2 : Int32), vr aK0, vi (0 : Int32)] [(.int (3 : Int32)), (.ref cA), (.ref a)])) rfl (by rw [hml]; rfl) (argsL := [(.ref cA), (.int (3 : Int32))]) (rest := [(.ref a)]) (lenOf pd_157 rfl) rfl (by show 2 * 0 + _ ≤ _; exact Nat.le_of_eq rfl) (hH p49_2_71) (fun _ _ => ⟨rfl, eMW, (by decide : 3 + 0 ≤ _), (by decide : 11 + 0 ≤ _)⟩)
 dsimp only [Pt.U, Pt.locs, Pt.cells, Pt.slots] at XN4 lN7 yN8 zN9 stNA hQN6
 subst yN8 zN9
 obtain ⟨rfl, NNB, eNC⟩ := hQN6
 have NNE : Fr n0 LN1 := by rw [lN7]; exact Fr.app NMR NNB
 clear lN7 NNB
 have kNF : own_G p e below E0 TN0 (mkF m 74 #[vr a, vd xc, ss, vr is, vr ds, vi (2 : Int32), vr aK0, vi (0 : Int32)] [(.ref cA), (.ref a)]) := fun tQ kk => kMZ tQ (stNA _ kk)
 clear kMZ stNA
 obtain ⟨TNG, hNH, XNI, eNJ, WNK, stNL⟩ := putF XN4 hx hZ hown (host := "") (Or.inl (tw37 hw)) Via.refl eNC S1 EX (Or.inl (tw38 hw)) (tw2 hw) (ty := (.array .double)) (by decide) rfl rfl (g := (mkF m 74 #[vr a, vd xc, ss, vr is, vr ds, vi (2 : Int32), vr aK0, vi (0 : Int32)] [(.ref cA), (.ref a)])) rfl rfl (hH p49_2_74)
 have NNM := Fr.snoc XNI NNE ge_a
 have kNN : own_G p e below E0 TNG (mkF m 77 #[vr a, vd xc, ss, vr is, vr ds, vi (2 : Int32), vr aK0, vi (0 : Int32)] []) := fun tQ kk => kNF tQ (stNL _ kk)
 clear kNF stNL
 replace EX := EX.wr WNK
 replace S0 := S0.other WNK (Or.inr (sn61 hw))
 replace S1 := S1.same WNK
 replace S2 := S2.other WNK (Or.inr (sn62 hw))
 replace S3 := S3.other WNK (Or.inr (sn63 hw))
 replace S4 := S4.other WNK (Or.inr (sn64 hw))
 replace S5 := S5.other WNK (Or.inr (sn65 hw))
 replace S6 := S6.other WNK (Or.inr (sn66 hw))
 replace S7 := S7.other WNK (Or.inr (sn68 hw))
 replace E1 := E1.wr WNK
 replace A1 := A1.other WNK (fun q => q_a_cA q.symm)
 replace A2 := A2.other WNK (fun q => q_a_pA q.symm)
 replace A3 := A3.other WNK (fun q => q_a_is q.symm)
 replace A4 := A4.other WNK (fun q => q_a_ds q.symm)
 replace AJX := AJX.wr WNK
 replace gKZ := gKZ.other WNK (Or.inl (Ne.symm nK3))
 replace gL0 := gL0.other WNK (Or.inl (Ne.symm nK3))
 replace gL1 := gL1.other WNK (Or.inl (Ne.symm nK3))
 replace gL2 := gL2.other WNK (Ne.symm nLA)
 replace gL3 := gL3.other WNK (Ne.symm nLK)
 replace gMN := gMN.other WNK (Or.inl (fun q => q_a_al q.symm))
 replace gMO := gMO.other WNK (Or.inl (fun q => q_a_al q.symm))
 replace gMP := gMP.other WNK (Or.inl (fun q => q_a_al q.symm))
 replace gMQ := gMQ.other WNK (fun q => q_a_r q.symm)
 replace Z0 := own_wrle WNK Z0
 replace K0 := K0.wr WNK (Or.inl (List.mem_of_getElem? (i := 0) rfl))
 have kNO : own_G p e below E0 TNG (mkF m 78 #[vr a, vd xc, ss, vr is, vr ds, vi (2 : Int32), vr aK0, vi (0 : Int32)] [(.ref a)]) := by
  intro tQ kk
  refine kNN tQ ?_
  refine XS.aloadN XNI.here hx rfl (hH p49_2_77) rfl rfl ?_
  exact kk
 clear kNN
 obtain ⟨TNP, XNQ, eNR, stNS⟩ := getF XNI hx hZ hown (host := "") (Or.inl (tw37 hw)) Via.refl eNJ S1 (g := (mkF m 78 #[vr a, vd xc, ss, vr is, vr ds, vi (2 : Int32), vr aK0, vi (0 : Int32)] [(.ref a)])) rfl rfl (hH p49_2_78)
 have kNT : own_G p e below E0 TNP (mkF m 81 #[vr a, vd xc, ss, vr is, vr ds, vi (2 : Int32), vr aK0, vi (0 : Int32)] [(.ref cA)]) := fun tQ kk => kNO tQ (stNS _ kk)
 clear kNO stNS
 have kNU : own_G p e below E0 TNP (mkF m 84 #[vr a, vd xc, ss, vr is, vr ds, vi (2 : Int32), vr aK0, vi (0 : Int32)] [(.double xc), (.int (2 : Int32)), (.ref cA)]) := by
  intro tQ kk
  refine kNT tQ ?_
  refine XS.iload XNQ.here hx rfl (hH p49_2_81) rfl ?_
  refine XS.dloadN XNQ.here hx rfl (hH p49_2_83) rfl ?_
  exact kk
 clear kNT
 obtain ⟨TNV, hNW, XNX, eNY, WNZ, FP0, stP1⟩ := own_A.dst XNQ hx hZ eNR A1 (j := (2 : Int32)) (by decide) (List.getElem?_eq_getElem (by rw [lc]; decide)) (g := (mkF m 84 #[vr a, vd xc, ss, vr is, vr ds, vi (2 : Int32), vr aK0, vi (0 : Int32)] [(.double xc), (.int (2 : Int32)), (.ref cA)])) rfl rfl (hH p49_2_84)
 have NP2 := Fr.snoc XNX NNM ge_cA
 have kP3 : own_G p e below E0 TNV (mkF m 85 #[vr a, vd xc, ss, vr is, vr ds, vi (2 : Int32), vr aK0, vi (0 : Int32)] []) := fun tQ kk => kNU tQ (stP1 _ kk)
 clear kNU stP1
 replace EX := EX.wr WNZ
 replace S0 := S0.other WNZ (Or.inl q_a_cA)
 replace S1 := S1.other WNZ (Or.inl q_a_cA)
 replace S2 := S2.other WNZ (Or.inl q_a_cA)
 replace S3 := S3.other WNZ (Or.inl q_a_cA)
 replace S4 := S4.other WNZ (Or.inl q_a_cA)
 replace S5 := S5.other WNZ (Or.inl q_a_cA)
 replace S6 := S6.other WNZ (Or.inl q_a_cA)
 replace S7 := S7.other WNZ (Or.inl q_a_cA)
 replace E1 := E1.wr WNZ
 replace A2 := A2.other WNZ (fun q => q_cA_pA q.symm)
 replace A3 := A3.other WNZ (fun q => q_cA_is q.symm)
 replace A4 := A4.other WNZ (fun q => q_cA_ds q.symm)
 replace AJX := AJX.wr WNZ
 replace gKZ := gKZ.other WNZ (Or.inl (Ne.symm nK6))
 replace gL0 := gL0.other WNZ (Or.inl (Ne.symm nK6))
 replace gL1 := gL1.other WNZ (Or.inl (Ne.symm nK6))
 replace gL2 := gL2.other WNZ (Ne.symm nLD)
 replace gL3 := gL3.other WNZ (Ne.symm nLN)
 replace gMN := gMN.other WNZ (Or.inl q_al_cA)
 replace gMO := gMO.other WNZ (Or.inl q_al_cA)
 replace gMP := gMP.other WNZ (Or.inl q_al_cA)
 replace gMQ := gMQ.other WNZ (fun q => q_cA_r q.symm)
 replace Z0 := own_wrle WNZ Z0
 replace K0 := K0.wr WNZ (Or.inl (List.mem_of_getElem? (i := 2) rfl))
 have FP4 : own_A Z hNW cA .double (cv.set ((2 : Int32)).toNatClampNeg (.double xc)) := FP0
 have kP5 : own_G p e below E0 TNV (mkF m 87 #[vr a, vd xc, ss, vr is, vr ds, vi (2 : Int32), vr aK0, vi (0 : Int32)] [(.ref a), (.ref a)]) := by
  intro tQ kk
  refine kP3 tQ ?_
  refine XS.aloadN XNX.here hx rfl (hH p49_2_85) rfl rfl ?_
  refine XS.aloadN XNX.here hx rfl (hH p49_2_86) rfl rfl ?_
  exact kk
 clear kP3
 obtain ⟨TP6, XP7, eP8, stP9⟩ := getF XNX hx hZ hown (host := "") (Or.inl (tw44 hw)) Via.refl eNY S4 (g := (mkF m 87 #[vr a, vd xc, ss, vr is, vr ds, vi (2 : Int32), vr aK0, vi (0 : Int32)] [(.ref a), (.ref a)])) rfl rfl (hH p49_2_87)
 have kPA : own_G p e below E0 TP6 (mkF m 90 #[vr a, vd xc, ss, vr is, vr ds, vi (2 : Int32), vr aK0, vi (0 : Int32)] [(.ref pA), (.ref a)]) := fun tQ kk => kP5 tQ (stP9 _ kk)
 clear kP5 stP9
 have kPB : own_G p e below E0 TP6 (mkF m 94 #[vr a, vd xc, ss, vr is, vr ds, vi (2 : Int32), vr aK0, vi (0 : Int32)] [(.int (3 : Int32)), (.ref pA), (.ref a)]) := by
  intro tQ kk
  refine kPA tQ ?_
  refine XS.iload XP7.here hx rfl (hH p49_2_90) rfl ?_
  refine XS.iconst XP7.here hx rfl (hH p49_2_92) ?_
  refine XS.iadd XP7.here hx rfl (hH p49_2_93) rfl ?_
  exact kk
 clear kPA
 obtain ⟨_, _, ⟨TPC, LPD, kcPE, ncPF⟩, -, XPG, ⟨LcPH, hQPI, lPJ, yPK, zPL⟩, stPM⟩ := Jvm.LawKit.callS XP7 hx (y := mn119) hown (mvT hZ (tw230 hw)) (mvT hZ (tw231 hw)) (mvT hZ (tw228 hw)) (mvT hZ (tw232 hw)) (by decide) (backOf (W := 1) (rmGi l Z a0 hw [] pA (3 : Int32) pv hNW n0 Z0 A2 (by rw [lp]; decide)) hZ (tw232 hw) (tw228 hw) (by decide) (by decide)) (g := (mkF m 94 #[vr a, vd xc, ss, vr is, vr ds, vi (2 : Int32), vr aK0, vi (0 : Int32)] [(.int (3 : Int32)), (.ref pA), (.ref a)])) rfl (by rw [hml]; rfl) (argsL := [(.ref pA), (.int (3 : Int32))]) (rest := [(.ref a)]) (lenOf pd_158 rfl) rfl (by show 2 * 0 + _ ≤ _; exact Nat.le_of_eq rfl) (hH p49_2_94) (fun _ _ => ⟨rfl, eP8, (by decide : 3 + 0 ≤ _), (by decide : 11 + 0 ≤ _)⟩)
 dsimp only [Pt.U, Pt.locs, Pt.cells, Pt.slots] at XPG lPJ yPK zPL stPM hQPI
 subst yPK zPL
 obtain ⟨rfl, NPN, ePO⟩ := hQPI
 have NPQ : Fr n0 LPD := by rw [lPJ]; exact Fr.app NP2 NPN
 clear lPJ NPN
 have kPR : own_G p e below E0 TPC (mkF m 97 #[vr a, vd xc, ss, vr is, vr ds, vi (2 : Int32), vr aK0, vi (0 : Int32)] [(.ref pA), (.ref a)]) := fun tQ kk => kPB tQ (stPM _ kk)
 clear kPB stPM
 obtain ⟨TPS, hPT, XPU, ePV, WPW, stPX⟩ := putF XPG hx hZ hown (host := "") (Or.inl (tw44 hw)) Via.refl ePO S4 EX (Or.inl (tw45 hw)) (tw2 hw) (ty := (.array .int)) (by decide) rfl rfl (g := (mkF m 97 #[vr a, vd xc, ss, vr is, vr ds, vi (2 : Int32), vr aK0, vi (0 : Int32)] [(.ref pA), (.ref a)])) rfl rfl (hH p49_2_97)
 have NPY := Fr.snoc XPU NPQ ge_a
 have kPZ : own_G p e below E0 TPS (mkF m 100 #[vr a, vd xc, ss, vr is, vr ds, vi (2 : Int32), vr aK0, vi (0 : Int32)] []) := fun tQ kk => kPR tQ (stPX _ kk)
 clear kPR stPX
 replace EX := EX.wr WPW
 replace S0 := S0.other WPW (Or.inr (sn85 hw))
 replace S1 := S1.other WPW (Or.inr (sn86 hw))
 replace S2 := S2.other WPW (Or.inr (sn87 hw))
 replace S3 := S3.other WPW (Or.inr (sn88 hw))
 replace S4 := S4.same WPW
 replace S5 := S5.other WPW (Or.inr (sn89 hw))
 replace S6 := S6.other WPW (Or.inr (sn90 hw))
 replace S7 := S7.other WPW (Or.inr (sn92 hw))
 replace E1 := E1.wr WPW
 replace A2 := A2.other WPW (fun q => q_a_pA q.symm)
 replace A3 := A3.other WPW (fun q => q_a_is q.symm)
 replace A4 := A4.other WPW (fun q => q_a_ds q.symm)
 replace AJX := AJX.wr WPW
 replace gKZ := gKZ.other WPW (Or.inl (Ne.symm nK3))
 replace gL0 := gL0.other WPW (Or.inl (Ne.symm nK3))
 replace gL1 := gL1.other WPW (Or.inl (Ne.symm nK3))
 replace gL2 := gL2.other WPW (Ne.symm nLA)
 replace gL3 := gL3.other WPW (Ne.symm nLK)
 replace gMN := gMN.other WPW (Or.inl (fun q => q_a_al q.symm))
 replace gMO := gMO.other WPW (Or.inl (fun q => q_a_al q.symm))
 replace gMP := gMP.other WPW (Or.inl (fun q => q_a_al q.symm))
 replace gMQ := gMQ.other WPW (fun q => q_a_r q.symm)
 replace FP4 := FP4.other WPW (fun q => q_a_cA q.symm)
 replace Z0 := own_wrle WPW Z0
 replace K0 := K0.wr WPW (Or.inl (List.mem_of_getElem? (i := 0) rfl))
 have kQ0 : own_G p e below E0 TPS (mkF m 101 #[vr a, vd xc, ss, vr is, vr ds, vi (2 : Int32), vr aK0, vi (0 : Int32)] [(.ref a)]) := by
  intro tQ kk
  refine kPZ tQ ?_
  refine XS.aloadN XPU.here hx rfl (hH p49_2_100) rfl rfl ?_
  exact kk
 clear kPZ
 obtain ⟨TQ1, XQ2, eQ3, stQ4⟩ := getF XPU hx hZ hown (host := "") (Or.inl (tw44 hw)) Via.refl ePV S4 (g := (mkF m 101 #[vr a, vd xc, ss, vr is, vr ds, vi (2 : Int32), vr aK0, vi (0 : Int32)] [(.ref a)])) rfl rfl (hH p49_2_101)
 have kQ5 : own_G p e below E0 TQ1 (mkF m 104 #[vr a, vd xc, ss, vr is, vr ds, vi (2 : Int32), vr aK0, vi (0 : Int32)] [(.ref pA)]) := fun tQ kk => kQ0 tQ (stQ4 _ kk)
 clear kQ0 stQ4
 have kQ6 : own_G p e below E0 TQ1 (mkF m 107 #[vr a, vd xc, ss, vr is, vr ds, vi (2 : Int32), vr aK0, vi (0 : Int32)] [(.int (-1 : Int32)), (.int (2 : Int32)), (.ref pA)]) := by
  intro tQ kk
  refine kQ5 tQ ?_
  refine XS.iload XQ2.here hx rfl (hH p49_2_104) rfl ?_
  refine XS.iconst XQ2.here hx rfl (hH p49_2_106) ?_
  exact kk
 clear kQ5
 obtain ⟨TQ7, hQ8, XQ9, eQA, WQB, FQC, stQD⟩ := own_A.ist XQ2 hx hZ eQ3 A2 (j := (2 : Int32)) (by decide) (List.getElem?_eq_getElem (by rw [lp]; decide)) (g := (mkF m 107 #[vr a, vd xc, ss, vr is, vr ds, vi (2 : Int32), vr aK0, vi (0 : Int32)] [(.int (-1 : Int32)), (.int (2 : Int32)), (.ref pA)])) rfl rfl (hH p49_2_107)
 have NQE := Fr.snoc XQ9 NPY ge_pA
 have kQF : own_G p e below E0 TQ7 (mkF m 108 #[vr a, vd xc, ss, vr is, vr ds, vi (2 : Int32), vr aK0, vi (0 : Int32)] []) := fun tQ kk => kQ6 tQ (stQD _ kk)
 clear kQ6 stQD
 replace EX := EX.wr WQB
 replace S0 := S0.other WQB (Or.inl q_a_pA)
 replace S1 := S1.other WQB (Or.inl q_a_pA)
 replace S2 := S2.other WQB (Or.inl q_a_pA)
 replace S3 := S3.other WQB (Or.inl q_a_pA)
 replace S4 := S4.other WQB (Or.inl q_a_pA)
 replace S5 := S5.other WQB (Or.inl q_a_pA)
 replace S6 := S6.other WQB (Or.inl q_a_pA)
 replace S7 := S7.other WQB (Or.inl q_a_pA)
 replace E1 := E1.wr WQB
 replace A3 := A3.other WQB (fun q => q_pA_is q.symm)
 replace A4 := A4.other WQB (fun q => q_pA_ds q.symm)
 replace AJX := AJX.wr WQB
 replace gKZ := gKZ.other WQB (Or.inl (Ne.symm nK7))
 replace gL0 := gL0.other WQB (Or.inl (Ne.symm nK7))
 replace gL1 := gL1.other WQB (Or.inl (Ne.symm nK7))
 replace gL2 := gL2.other WQB (Ne.symm nLE)
 replace gL3 := gL3.other WQB (Ne.symm nLO)
 replace gMN := gMN.other WQB (Or.inl q_al_pA)
 replace gMO := gMO.other WQB (Or.inl q_al_pA)
 replace gMP := gMP.other WQB (Or.inl q_al_pA)
 replace gMQ := gMQ.other WQB (fun q => q_pA_r q.symm)
 replace FP4 := FP4.other WQB q_cA_pA
 replace Z0 := own_wrle WQB Z0
 replace K0 := K0.wr WQB (Or.inl (List.mem_of_getElem? (i := 3) rfl))
 have FQG : own_A Z hQ8 pA .int (pv.set ((2 : Int32)).toNatClampNeg (.int (-1 : Int32))) := FQC
 have kQH : own_G p e below E0 TQ7 (mkF m 110 #[vr a, vd xc, ss, vr is, vr ds, vi (2 : Int32), vr aK0, vi (0 : Int32)] [(.int (2 : Int32))]) := by
  intro tQ kk
  refine kQF tQ ?_
  refine XS.iload XQ9.here hx rfl (hH p49_2_108) rfl ?_
  exact kk
 clear kQF
 obtain ⟨fs, hr, hrun, hended, hW, hsame⟩ := XQ9.leave (v := some (.int (2 : Int32))) (fun h => by rw [Bd.returns] at h; cases h)
 have hrun0 := kQH _ (retOut XQ9 hx Bd.returns (t := .int) rfl (Or.inl ⟨rfl, Or.inl rfl, _, rfl⟩) (hH p49_2_110) hr)
 subst hE0
 refine ⟨_, _, hrun0, hrun, hended, _, _, rfl, ?_, ⟨_, rfl⟩, hW, hsame.mono (by decide) (by decide)⟩
 show QrmCo2 Z a is ds al cA ro ba pA fa va r x0 x1 cv pv xc h0 n0 _ TQ7.heap _
 rw [eQA]
 exact ⟨aK0, r1KW, r2KX, rfl, NQE, K0, S0, S1, S2, S3, S4, S5, S6, S7, gMN, gMO, gMP, gMQ, FP4, FQG, AJX, gKZ, gL0, gL1, gL2, gL3, nwKA, nwL9, nwLJ, nLH, nLR, nL6⟩
def QrmRo0 (Z : State) (a : Addr) (is : Addr) (ds : Addr) (al : Addr) (cA : Addr) (ro : Addr) (ba : Addr) (pA : Addr) (fa : Addr) (va : Addr) (r : Addr) (x0 : Addr) (x1 : Addr) (x2 : Addr) (ra : Addr) (sa : Addr) (rb : Addr) (sb : Addr) (rv : List Value) (bv : List Value) (pv : List Value) (vv : List Value) (la : List Value) (ma : List Value) (lb : List Value) (mb : List Value) (b : UInt64) (y0 : UInt64) (y1 : UInt64) (q : Int) (ee : Int) (h0 : Heap) (n0 : Nat) (vQ : Option Value) (hQ : Heap) (LQ : List Loc) : Prop := ∃ (mq : UInt64), vQ = some (.int (0 : Int32)) ∧ Fr n0 LQ ∧ Keep h0 hQ [a, ro, ba, pA, va, x0, ra, sa, x1, rb, sb] ∧ (fd41 Z hQ a (.ref al)) ∧ (fd42 Z hQ a (.ref cA)) ∧ (fd43 Z hQ a (.ref ro)) ∧ (fd44 Z hQ a (.ref ba)) ∧ (fd45 Z hQ a (.ref pA)) ∧ (fd46 Z hQ a (.ref fa)) ∧ (fd47 Z hQ a (.ref va)) ∧ (fd48 Z hQ a (.int (1 : Int32))) ∧ (own_A Z hQ ro .double (rv.set ((0 : Int32)).toNatClampNeg (.double b))) ∧ (own_A Z hQ ba .int (bv.set ((0 : Int32)).toNatClampNeg (.int (0 : Int32)))) ∧ (own_A Z hQ pA .int (pv.set ((0 : Int32)).toNatClampNeg (.int (0 : Int32)))) ∧ (own_A Z hQ va .double (vv.set ((0 : Int32)).toNatClampNeg (.double mq))) ∧ (fd120 Z hQ x0 (.ref ra)) ∧ (fd121 Z hQ x0 (.ref sa)) ∧ (fd122 Z hQ x0 (.int ((0 : Int32) + (1 : Int32)))) ∧ (fd120 Z hQ x1 (.ref rb)) ∧ (fd121 Z hQ x1 (.ref sb)) ∧ (fd122 Z hQ x1 (.int ((0 : Int32) + (1 : Int32)))) ∧ (own_A Z hQ ra .int (la.set ((0 : Int32)).toNatClampNeg (.int (0 : Int32)))) ∧ (own_A Z hQ sa .double (ma.set ((0 : Int32)).toNatClampNeg (.double y0))) ∧ (own_A Z hQ rb .int (lb.set ((0 : Int32)).toNatClampNeg (.int (0 : Int32)))) ∧ (own_A Z hQ sb .double (mb.set ((0 : Int32)).toNatClampNeg (.double y1))) ∧ (FP.Core.DInt q mq)
theorem ef_rmRo0 (m : MethodId) (a : Addr) (is : Addr) (ds : Addr) (al : Addr) (cA : Addr) (ro : Addr) (ba : Addr) (pA : Addr) (fa : Addr) (va : Addr) (r : Addr) (x0 : Addr) (x1 : Addr) (x2 : Addr) (ra : Addr) (sa : Addr) (rb : Addr) (sb : Addr) (rv : List Value) (bv : List Value) (pv : List Value) (vv : List Value) (la : List Value) (ma : List Value) (lb : List Value) (mb : List Value) (b : UInt64) (y0 : UInt64) (y1 : UInt64) (q : Int) (ee : Int) : entryFrame m #[(.ref a), (.double b), (.ref is), (.ref ds), (.int (0 : Int32))] 15 = mkF m 0 #[vr a, vd b, ss, vr is, vr ds, vi (0 : Int32), uu, uu, uu, uu, uu, uu, uu, uu, uu] [] := by first | (simp [entryFrame, mkF, argsToLocals, Value.category]; done) | rfl
abbrev mn159 : MethodName := ⟨"com/example/netloom/netloom/embed/Simplex", "addRow", "(D[I[DI)I"⟩
theorem p49_3_0 : decode prog_49_method_3_code 0 = .ok (.aload_n 0, 1) := by decide +kernel
theorem p49_3_1 : decode prog_49_method_3_code 1 = .ok (.getfield 68, 3) := by decide +kernel
def tw238 {Z a0} (hw : HW Z a0) := hw _ (List.mem_of_getElem? (i := 238) rfl)
theorem p49_3_4 : decode prog_49_method_3_code 4 = .ok (.istore 6, 2) := by decide +kernel
theorem p49_3_6 : decode prog_49_method_3_code 6 = .ok (.aload_n 0, 1) := by decide +kernel
theorem p49_3_7 : decode prog_49_method_3_code 7 = .ok (.getfield 27, 3) := by decide +kernel
theorem p49_3_10 : decode prog_49_method_3_code 10 = .ok (.iload 5, 2) := by decide +kernel
theorem p49_3_12 : decode prog_49_method_3_code 12 = .ok (.iaload, 1) := by decide +kernel
theorem p49_3_13 : decode prog_49_method_3_code 13 = .ok (.ifCond .ge 23, 3) := by decide +kernel
theorem p49_3_16 : decode prog_49_method_3_code 16 = .ok (.aload_n 0, 1) := by decide +kernel
theorem p49_3_17 : decode prog_49_method_3_code 17 = .ok (.getfield 10, 3) := by decide +kernel
theorem p49_3_20 : decode prog_49_method_3_code 20 = .ok (.iload 5, 2) := by decide +kernel
theorem p49_3_22 : decode prog_49_method_3_code 22 = .ok (.invokeinterface 72 2, 5) := by decide +kernel
def tw240 {Z a0} (hw : HW Z a0) := hw _ (List.mem_of_getElem? (i := 240) rfl)
def tw243 {Z a0} (hw : HW Z a0) := hw _ (List.mem_of_getElem? (i := 243) rfl)
def tw247 {Z a0} (hw : HW Z a0) := hw _ (List.mem_of_getElem? (i := 247) rfl)
abbrev mn160 : MethodName := ⟨"java/util/List", "get", "(I)Ljava/lang/Object;"⟩
def tw241 {Z a0} (hw : HW Z a0) := hw _ (List.mem_of_getElem? (i := 241) rfl)
def tw242 {Z a0} (hw : HW Z a0) := hw _ (List.mem_of_getElem? (i := 242) rfl)
def tw244 {Z a0} (hw : HW Z a0) := hw _ (List.mem_of_getElem? (i := 244) rfl)
def tw245 {Z a0} (hw : HW Z a0) := hw _ (List.mem_of_getElem? (i := 245) rfl)
def tw246 {Z a0} (hw : HW Z a0) := hw _ (List.mem_of_getElem? (i := 246) rfl)
theorem p49_3_27 : decode prog_49_method_3_code 27 = .ok (.checkcast 49, 3) := by decide +kernel
def tw261 {Z a0} (hw : HW Z a0) := hw _ (List.mem_of_getElem? (i := 261) rfl)
theorem p49_3_30 : decode prog_49_method_3_code 30 = .ok (.invokevirtual 76, 3) := by decide +kernel
def tw262 {Z a0} (hw : HW Z a0) := hw _ (List.mem_of_getElem? (i := 262) rfl)
def tw265 {Z a0} (hw : HW Z a0) := hw _ (List.mem_of_getElem? (i := 265) rfl)
def tw266 {Z a0} (hw : HW Z a0) := hw _ (List.mem_of_getElem? (i := 266) rfl)
def tw263 {Z a0} (hw : HW Z a0) := hw _ (List.mem_of_getElem? (i := 263) rfl)
def tw264 {Z a0} (hw : HW Z a0) := hw _ (List.mem_of_getElem? (i := 264) rfl)
theorem p49_3_33 : decode prog_49_method_3_code 33 = .ok (.ifCond .le 18, 3) := by decide +kernel
theorem p49_3_51 : decode prog_49_method_3_code 51 = .ok (.dconst 0, 1) := by decide +kernel
theorem p49_3_52 : decode prog_49_method_3_code 52 = .ok (.dstore 7, 2) := by decide +kernel
theorem p49_3_54 : decode prog_49_method_3_code 54 = .ok (.dconst 0, 1) := by decide +kernel
theorem p49_3_55 : decode prog_49_method_3_code 55 = .ok (.dstore 9, 2) := by decide +kernel
theorem p49_3_57 : decode prog_49_method_3_code 57 = .ok (.iload 6, 2) := by decide +kernel
theorem p49_3_59 : decode prog_49_method_3_code 59 = .ok (.newarray .double, 2) := by decide +kernel
theorem p49_3_61 : decode prog_49_method_3_code 61 = .ok (.astore 11, 2) := by decide +kernel
theorem p49_3_63 : decode prog_49_method_3_code 63 = .ok (.iconst 0, 1) := by decide +kernel
theorem p49_3_64 : decode prog_49_method_3_code 64 = .ok (.istore 12, 2) := by decide +kernel
theorem p49_3_66 : decode prog_49_method_3_code 66 = .ok (.iload 12, 2) := by decide +kernel
theorem p49_3_68 : decode prog_49_method_3_code 68 = .ok (.aload_n 3, 1) := by decide +kernel
theorem p49_3_69 : decode prog_49_method_3_code 69 = .ok (.arraylength, 1) := by decide +kernel
theorem p49_3_70 : decode prog_49_method_3_code 70 = .ok (.if_icmp .ge 80, 3) := by decide +kernel
theorem p49_3_73 : decode prog_49_method_3_code 73 = .ok (.aload_n 3, 1) := by decide +kernel
theorem p49_3_74 : decode prog_49_method_3_code 74 = .ok (.iload 12, 2) := by decide +kernel
theorem p49_3_76 : decode prog_49_method_3_code 76 = .ok (.iaload, 1) := by decide +kernel
theorem p49_3_77 : decode prog_49_method_3_code 77 = .ok (.istore 13, 2) := by decide +kernel
theorem p49_3_79 : decode prog_49_method_3_code 79 = .ok (.iload 13, 2) := by decide +kernel
theorem p49_3_81 : decode prog_49_method_3_code 81 = .ok (.iload 5, 2) := by decide +kernel
theorem p49_3_83 : decode prog_49_method_3_code 83 = .ok (.if_icmp .ne 13, 3) := by decide +kernel
theorem p49_3_86 : decode prog_49_method_3_code 86 = .ok (.aload 4, 2) := by decide +kernel
theorem p49_3_88 : decode prog_49_method_3_code 88 = .ok (.iload 12, 2) := by decide +kernel
theorem p49_3_90 : decode prog_49_method_3_code 90 = .ok (.daload, 1) := by decide +kernel
theorem p49_3_91 : decode prog_49_method_3_code 91 = .ok (.dstore 7, 2) := by decide +kernel
theorem p49_3_93 : decode prog_49_method_3_code 93 = .ok (.goto 51, 3) := by decide +kernel
theorem p49_3_144 : decode prog_49_method_3_code 144 = .ok (.iinc 12 1, 3) := by decide +kernel
theorem p49_3_147 : decode prog_49_method_3_code 147 = .ok (.goto (-81), 3) := by decide +kernel
theorem p49_3_96 : decode prog_49_method_3_code 96 = .ok (.aload_n 0, 1) := by decide +kernel
theorem p49_3_97 : decode prog_49_method_3_code 97 = .ok (.getfield 27, 3) := by decide +kernel
theorem p49_3_100 : decode prog_49_method_3_code 100 = .ok (.iload 13, 2) := by decide +kernel
theorem p49_3_102 : decode prog_49_method_3_code 102 = .ok (.iaload, 1) := by decide +kernel
theorem p49_3_103 : decode prog_49_method_3_code 103 = .ok (.ifCond .lt 41, 3) := by decide +kernel
theorem p49_3_150 : decode prog_49_method_3_code 150 = .ok (.dload 7, 2) := by decide +kernel
theorem p49_3_152 : decode prog_49_method_3_code 152 = .ok (.dconst 0, 1) := by decide +kernel
theorem p49_3_153 : decode prog_49_method_3_code 153 = .ok (.dcmp .l, 1) := by decide +kernel
theorem p49_3_154 : decode prog_49_method_3_code 154 = .ok (.ifCond .ne 9, 3) := by decide +kernel
theorem p49_3_163 : decode prog_49_method_3_code 163 = .ok (.dload_n 1, 1) := by decide +kernel
theorem p49_3_164 : decode prog_49_method_3_code 164 = .ok (.dload 9, 2) := by decide +kernel
theorem p49_3_166 : decode prog_49_method_3_code 166 = .ok (.dsub, 1) := by decide +kernel
theorem p49_3_167 : decode prog_49_method_3_code 167 = .ok (.dload 7, 2) := by decide +kernel
theorem p49_3_169 : decode prog_49_method_3_code 169 = .ok (.ddiv, 1) := by decide +kernel
theorem p49_3_170 : decode prog_49_method_3_code 170 = .ok (.dstore 12, 2) := by decide +kernel
theorem p49_3_172 : decode prog_49_method_3_code 172 = .ok (.dload 12, 2) := by decide +kernel
theorem p49_3_174 : decode prog_49_method_3_code 174 = .ok (.ldc2_w 90, 3) := by decide +kernel
def tw269 {Z a0} (hw : HW Z a0) := hw _ (List.mem_of_getElem? (i := 269) rfl)
theorem p49_3_177 : decode prog_49_method_3_code 177 = .ok (.dconst 1, 1) := by decide +kernel
theorem p49_3_178 : decode prog_49_method_3_code 178 = .ok (.dload_n 1, 1) := by decide +kernel
theorem p49_3_179 : decode prog_49_method_3_code 179 = .ok (.invokestatic 92, 3) := by decide +kernel
def tw270 {Z a0} (hw : HW Z a0) := hw _ (List.mem_of_getElem? (i := 270) rfl)
def tw271 {Z a0} (hw : HW Z a0) := hw _ (List.mem_of_getElem? (i := 271) rfl)
def tw272 {Z a0} (hw : HW Z a0) := hw _ (List.mem_of_getElem? (i := 272) rfl)
theorem pd_161 : parseMethodDescriptor "(D)D" = some ⟨[.double], some .double⟩ := by decide +kernel
theorem p49_3_182 : decode prog_49_method_3_code 182 = .ok (.invokestatic 98, 3) := by decide +kernel
def tw273 {Z a0} (hw : HW Z a0) := hw _ (List.mem_of_getElem? (i := 273) rfl)
def tw274 {Z a0} (hw : HW Z a0) := hw _ (List.mem_of_getElem? (i := 274) rfl)
def tw275 {Z a0} (hw : HW Z a0) := hw _ (List.mem_of_getElem? (i := 275) rfl)
theorem pd_162 : parseMethodDescriptor "(DD)D" = some ⟨[.double, .double], some .double⟩ := by decide +kernel
theorem p49_3_185 : decode prog_49_method_3_code 185 = .ok (.dmul, 1) := by decide +kernel
theorem p49_3_186 : decode prog_49_method_3_code 186 = .ok (.dcmp .l, 1) := by decide +kernel
theorem p49_3_187 : decode prog_49_method_3_code 187 = .ok (.ifCond .ge 20, 3) := by decide +kernel
theorem p49_3_207 : decode prog_49_method_3_code 207 = .ok (.iconst 0, 1) := by decide +kernel
theorem p49_3_208 : decode prog_49_method_3_code 208 = .ok (.istore 14, 2) := by decide +kernel
theorem p49_3_210 : decode prog_49_method_3_code 210 = .ok (.iload 14, 2) := by decide +kernel
theorem p49_3_212 : decode prog_49_method_3_code 212 = .ok (.aload_n 3, 1) := by decide +kernel
theorem p49_3_213 : decode prog_49_method_3_code 213 = .ok (.arraylength, 1) := by decide +kernel
theorem p49_3_214 : decode prog_49_method_3_code 214 = .ok (.if_icmp .ge 35, 3) := by decide +kernel
theorem p49_3_217 : decode prog_49_method_3_code 217 = .ok (.aload_n 0, 1) := by decide +kernel
theorem p49_3_218 : decode prog_49_method_3_code 218 = .ok (.getfield 10, 3) := by decide +kernel
theorem p49_3_221 : decode prog_49_method_3_code 221 = .ok (.aload_n 3, 1) := by decide +kernel
theorem p49_3_222 : decode prog_49_method_3_code 222 = .ok (.iload 14, 2) := by decide +kernel
theorem p49_3_224 : decode prog_49_method_3_code 224 = .ok (.iaload, 1) := by decide +kernel
theorem p49_3_225 : decode prog_49_method_3_code 225 = .ok (.invokeinterface 72 2, 5) := by decide +kernel
theorem p49_3_230 : decode prog_49_method_3_code 230 = .ok (.checkcast 49, 3) := by decide +kernel
theorem p49_3_233 : decode prog_49_method_3_code 233 = .ok (.iload 6, 2) := by decide +kernel
theorem p49_3_235 : decode prog_49_method_3_code 235 = .ok (.aload 4, 2) := by decide +kernel
theorem p49_3_237 : decode prog_49_method_3_code 237 = .ok (.iload 14, 2) := by decide +kernel
theorem p49_3_239 : decode prog_49_method_3_code 239 = .ok (.daload, 1) := by decide +kernel
theorem p49_3_240 : decode prog_49_method_3_code 240 = .ok (.invokevirtual 52, 3) := by decide +kernel
def tw276 {Z a0} (hw : HW Z a0) := hw _ (List.mem_of_getElem? (i := 276) rfl)
def tw279 {Z a0} (hw : HW Z a0) := hw _ (List.mem_of_getElem? (i := 279) rfl)
def tw280 {Z a0} (hw : HW Z a0) := hw _ (List.mem_of_getElem? (i := 280) rfl)
theorem pd_163 : parseMethodDescriptor "(ID)V" = some ⟨[.int, .double], none⟩ := by decide +kernel
def tw277 {Z a0} (hw : HW Z a0) := hw _ (List.mem_of_getElem? (i := 277) rfl)
def tw278 {Z a0} (hw : HW Z a0) := hw _ (List.mem_of_getElem? (i := 278) rfl)
theorem p49_3_243 : decode prog_49_method_3_code 243 = .ok (.iinc 14 1, 3) := by decide +kernel
theorem p49_3_246 : decode prog_49_method_3_code 246 = .ok (.goto (-36), 3) := by decide +kernel
theorem p49_3_249 : decode prog_49_method_3_code 249 = .ok (.aload_n 0, 1) := by decide +kernel
theorem p49_3_250 : decode prog_49_method_3_code 250 = .ok (.aload_n 0, 1) := by decide +kernel
theorem p49_3_251 : decode prog_49_method_3_code 251 = .ok (.getfield 20, 3) := by decide +kernel
theorem p49_3_254 : decode prog_49_method_3_code 254 = .ok (.iload 6, 2) := by decide +kernel
theorem p49_3_256 : decode prog_49_method_3_code 256 = .ok (.iconst 1, 1) := by decide +kernel
theorem p49_3_257 : decode prog_49_method_3_code 257 = .ok (.iadd, 1) := by decide +kernel
theorem p49_3_258 : decode prog_49_method_3_code 258 = .ok (.invokestatic 59, 3) := by decide +kernel
theorem p49_3_261 : decode prog_49_method_3_code 261 = .ok (.putfield 20, 3) := by decide +kernel
theorem p49_3_264 : decode prog_49_method_3_code 264 = .ok (.aload_n 0, 1) := by decide +kernel
theorem p49_3_265 : decode prog_49_method_3_code 265 = .ok (.getfield 20, 3) := by decide +kernel
theorem p49_3_268 : decode prog_49_method_3_code 268 = .ok (.iload 6, 2) := by decide +kernel
theorem p49_3_270 : decode prog_49_method_3_code 270 = .ok (.dload_n 1, 1) := by decide +kernel
theorem p49_3_271 : decode prog_49_method_3_code 271 = .ok (.dastore, 1) := by decide +kernel
theorem p49_3_272 : decode prog_49_method_3_code 272 = .ok (.aload_n 0, 1) := by decide +kernel
theorem p49_3_273 : decode prog_49_method_3_code 273 = .ok (.aload_n 0, 1) := by decide +kernel
theorem p49_3_274 : decode prog_49_method_3_code 274 = .ok (.getfield 23, 3) := by decide +kernel
theorem p49_3_277 : decode prog_49_method_3_code 277 = .ok (.iload 6, 2) := by decide +kernel
theorem p49_3_279 : decode prog_49_method_3_code 279 = .ok (.iconst 1, 1) := by decide +kernel
theorem p49_3_280 : decode prog_49_method_3_code 280 = .ok (.iadd, 1) := by decide +kernel
theorem p49_3_281 : decode prog_49_method_3_code 281 = .ok (.invokestatic 65, 3) := by decide +kernel
theorem p49_3_284 : decode prog_49_method_3_code 284 = .ok (.putfield 23, 3) := by decide +kernel
theorem p49_3_287 : decode prog_49_method_3_code 287 = .ok (.aload_n 0, 1) := by decide +kernel
theorem p49_3_288 : decode prog_49_method_3_code 288 = .ok (.getfield 23, 3) := by decide +kernel
theorem p49_3_291 : decode prog_49_method_3_code 291 = .ok (.iload 6, 2) := by decide +kernel
theorem p49_3_293 : decode prog_49_method_3_code 293 = .ok (.iload 5, 2) := by decide +kernel
theorem p49_3_295 : decode prog_49_method_3_code 295 = .ok (.iastore, 1) := by decide +kernel
theorem p49_3_296 : decode prog_49_method_3_code 296 = .ok (.aload_n 0, 1) := by decide +kernel
theorem p49_3_297 : decode prog_49_method_3_code 297 = .ok (.getfield 27, 3) := by decide +kernel
theorem p49_3_300 : decode prog_49_method_3_code 300 = .ok (.iload 5, 2) := by decide +kernel
theorem p49_3_302 : decode prog_49_method_3_code 302 = .ok (.iload 6, 2) := by decide +kernel
theorem p49_3_304 : decode prog_49_method_3_code 304 = .ok (.iastore, 1) := by decide +kernel
theorem p49_3_305 : decode prog_49_method_3_code 305 = .ok (.aload_n 0, 1) := by decide +kernel
theorem p49_3_306 : decode prog_49_method_3_code 306 = .ok (.aload_n 0, 1) := by decide +kernel
theorem p49_3_307 : decode prog_49_method_3_code 307 = .ok (.getfield 37, 3) := by decide +kernel
theorem p49_3_310 : decode prog_49_method_3_code 310 = .ok (.iload 6, 2) := by decide +kernel
theorem p49_3_312 : decode prog_49_method_3_code 312 = .ok (.iconst 1, 1) := by decide +kernel
theorem p49_3_313 : decode prog_49_method_3_code 313 = .ok (.iadd, 1) := by decide +kernel
theorem p49_3_314 : decode prog_49_method_3_code 314 = .ok (.invokestatic 59, 3) := by decide +kernel
theorem p49_3_317 : decode prog_49_method_3_code 317 = .ok (.putfield 37, 3) := by decide +kernel
theorem p49_3_320 : decode prog_49_method_3_code 320 = .ok (.aload_n 0, 1) := by decide +kernel
theorem p49_3_321 : decode prog_49_method_3_code 321 = .ok (.getfield 37, 3) := by decide +kernel
theorem p49_3_324 : decode prog_49_method_3_code 324 = .ok (.iload 6, 2) := by decide +kernel
theorem p49_3_326 : decode prog_49_method_3_code 326 = .ok (.dconst 0, 1) := by decide +kernel
theorem p49_3_327 : decode prog_49_method_3_code 327 = .ok (.dload 12, 2) := by decide +kernel
theorem p49_3_329 : decode prog_49_method_3_code 329 = .ok (.invokestatic 98, 3) := by decide +kernel
theorem p49_3_332 : decode prog_49_method_3_code 332 = .ok (.dastore, 1) := by decide +kernel
theorem p49_3_333 : decode prog_49_method_3_code 333 = .ok (.aload_n 0, 1) := by decide +kernel
theorem p49_3_334 : decode prog_49_method_3_code 334 = .ok (.getfield 33, 3) := by decide +kernel
theorem p49_3_337 : decode prog_49_method_3_code 337 = .ok (.invokevirtual 105, 3) := by decide +kernel
def tw281 {Z a0} (hw : HW Z a0) := hw _ (List.mem_of_getElem? (i := 281) rfl)
def tw284 {Z a0} (hw : HW Z a0) := hw _ (List.mem_of_getElem? (i := 284) rfl)
def tw285 {Z a0} (hw : HW Z a0) := hw _ (List.mem_of_getElem? (i := 285) rfl)
def tw282 {Z a0} (hw : HW Z a0) := hw _ (List.mem_of_getElem? (i := 282) rfl)
def tw283 {Z a0} (hw : HW Z a0) := hw _ (List.mem_of_getElem? (i := 283) rfl)
theorem p49_3_340 : decode prog_49_method_3_code 340 = .ok (.iload 6, 2) := by decide +kernel
theorem p49_3_342 : decode prog_49_method_3_code 342 = .ok (.if_icmp .ne 14, 3) := by decide +kernel
theorem p49_3_356 : decode prog_49_method_3_code 356 = .ok (.aload_n 0, 1) := by decide +kernel
theorem p49_3_357 : decode prog_49_method_3_code 357 = .ok (.dup, 1) := by decide +kernel
theorem p49_3_358 : decode prog_49_method_3_code 358 = .ok (.getfield 68, 3) := by decide +kernel
theorem p49_3_361 : decode prog_49_method_3_code 361 = .ok (.iconst 1, 1) := by decide +kernel
theorem p49_3_362 : decode prog_49_method_3_code 362 = .ok (.iadd, 1) := by decide +kernel
theorem p49_3_363 : decode prog_49_method_3_code 363 = .ok (.putfield 68, 3) := by decide +kernel
theorem sn164 {Z a0} (hw : HW Z a0) : RoadKit.slotOf Z cn53 "columns" "Ljava/util/List;" ≠ RoadKit.slotOf Z cn53 "rowCount" "I" := (slot_ne (C := cn53) (Or.inr (tw35 hw)) (Or.inl (tw239 hw)) (by decide) (t := (.object "java/util/List")) (t' := .int) (by decide) (by decide))
theorem sn165 {Z a0} (hw : HW Z a0) : RoadKit.slotOf Z cn53 "cost" "[D" ≠ RoadKit.slotOf Z cn53 "rowCount" "I" := (slot_ne (C := cn53) (Or.inl (tw38 hw)) (Or.inl (tw239 hw)) (by decide) (t := (.array .double)) (t' := .int) (by decide) (by decide))
theorem sn166 {Z a0} (hw : HW Z a0) : RoadKit.slotOf Z cn53 "rhs" "[D" ≠ RoadKit.slotOf Z cn53 "rowCount" "I" := (slot_ne (C := cn53) (Or.inl (tw40 hw)) (Or.inl (tw239 hw)) (by decide) (t := (.array .double)) (t' := .int) (by decide) (by decide))
theorem sn167 {Z a0} (hw : HW Z a0) : RoadKit.slotOf Z cn53 "basic" "[I" ≠ RoadKit.slotOf Z cn53 "rowCount" "I" := (slot_ne (C := cn53) (Or.inl (tw43 hw)) (Or.inl (tw239 hw)) (by decide) (t := (.array .int)) (t' := .int) (by decide) (by decide))
theorem sn168 {Z a0} (hw : HW Z a0) : RoadKit.slotOf Z cn53 "positionOf" "[I" ≠ RoadKit.slotOf Z cn53 "rowCount" "I" := (slot_ne (C := cn53) (Or.inl (tw45 hw)) (Or.inl (tw239 hw)) (by decide) (t := (.array .int)) (t' := .int) (by decide) (by decide))
theorem sn169 {Z a0} (hw : HW Z a0) : RoadKit.slotOf Z cn53 "factor" "Lcom/example/netloom/netloom/embed/BasisFactor;" ≠ RoadKit.slotOf Z cn53 "rowCount" "I" := (slot_ne (C := cn53) (Or.inr (tw162 hw)) (Or.inl (tw239 hw)) (by decide) (t := (.object "com/example/netloom/netloom/embed/BasisFactor")) (t' := .int) (by decide) (by decide))
theorem sn170 {Z a0} (hw : HW Z a0) : RoadKit.slotOf Z cn53 "value" "[D" ≠ RoadKit.slotOf Z cn53 "rowCount" "I" := (slot_ne (C := cn53) (Or.inl (tw164 hw)) (Or.inl (tw239 hw)) (by decide) (t := (.array .double)) (t' := .int) (by decide) (by decide))
theorem p49_3_366 : decode prog_49_method_3_code 366 = .ok (.iload 6, 2) := by decide +kernel
theorem p49_3_368 : decode prog_49_method_3_code 368 = .ok (.ireturn, 1) := by decide +kernel
set_option maxRecDepth 65536 in
set_option maxHeartbeats 40000000 in
theorem rmRo0 (l : Launch) (Z : State) (a0 : Array Value) (hw : ∀ d ∈ tables_1, d.before a0 Z = true) (ws : List Jvm.Cond) (a : Addr) (is : Addr) (ds : Addr) (al : Addr) (cA : Addr) (ro : Addr) (ba : Addr) (pA : Addr) (fa : Addr) (va : Addr) (r : Addr) (x0 : Addr) (x1 : Addr) (x2 : Addr) (ra : Addr) (sa : Addr) (rb : Addr) (sb : Addr) (rv : List Value) (bv : List Value) (pv : List Value) (vv : List Value) (la : List Value) (ma : List Value) (lb : List Value) (mb : List Value) (b : UInt64) (y0 : UInt64) (y1 : UInt64) (q : Int) (ee : Int) (h0 : Heap) (n0 : Nat) (Z0 : n0 ≤ h0.size) (EX : xa49 Z h0 a) (S0 : fd41 Z h0 a (.ref al)) (S1 : fd42 Z h0 a (.ref cA)) (S2 : fd43 Z h0 a (.ref ro)) (S3 : fd44 Z h0 a (.ref ba)) (S4 : fd45 Z h0 a (.ref pA)) (S5 : fd46 Z h0 a (.ref fa)) (S6 : fd47 Z h0 a (.ref va)) (S7 : fd48 Z h0 a (.int (0 : Int32))) (E1 : xa32 Z h0 al) (L1 : fd30 Z h0 al (.ref r)) (L2 : fd31 Z h0 al (.int (3 : Int32))) (AE : own_O Z h0 r "java/lang/Object" [(.ref x0), (.ref x1), (.ref x2), .null, .null, .null, .null, .null, .null, .null]) (E3 : xa10 Z h0 fa) (L3 : fd9 Z h0 fa (.int (-1 : Int32))) (Ca1 : xa123 Z h0 x0) (Ca2 : fd120 Z h0 x0 (.ref ra)) (Ca3 : fd121 Z h0 x0 (.ref sa)) (Ca4 : fd122 Z h0 x0 (.int (0 : Int32))) (Ca5 : own_A Z h0 ra .int la) (Ca6 : own_A Z h0 sa .double ma) (Cb1 : xa123 Z h0 x1) (Cb2 : fd120 Z h0 x1 (.ref rb)) (Cb3 : fd121 Z h0 x1 (.ref sb)) (Cb4 : fd122 Z h0 x1 (.int (0 : Int32))) (Cb5 : own_A Z h0 rb .int lb) (Cb6 : own_A Z h0 sb .double mb) (A1 : own_A Z h0 ro .double rv) (A2 : own_A Z h0 ba .int bv) (A3 : own_A Z h0 pA .int pv) (A4 : own_A Z h0 va .double vv) (A5 : own_A Z h0 is .int [(.int (0 : Int32)), (.int (1 : Int32))]) (A6 : own_A Z h0 ds .double [(.double y0), (.double y1)]) (q_a_ro : a ≠ ro) (q_a_ba : a ≠ ba) (q_a_pA : a ≠ pA) (q_a_va : a ≠ va) (q_a_x0 : a ≠ x0) (q_a_ra : a ≠ ra) (q_a_sa : a ≠ sa) (q_a_x1 : a ≠ x1) (q_a_rb : a ≠ rb) (q_a_sb : a ≠ sb) (q_a_is : a ≠ is) (q_a_ds : a ≠ ds) (q_a_al : a ≠ al) (q_a_r : a ≠ r) (q_a_fa : a ≠ fa) (q_ro_ba : ro ≠ ba) (q_ro_pA : ro ≠ pA) (q_ro_va : ro ≠ va) (q_ro_x0 : ro ≠ x0) (q_ro_ra : ro ≠ ra) (q_ro_sa : ro ≠ sa) (q_ro_x1 : ro ≠ x1) (q_ro_rb : ro ≠ rb) (q_ro_sb : ro ≠ sb) (q_ro_is : ro ≠ is) (q_ro_ds : ro ≠ ds) (q_ro_al : ro ≠ al) (q_ro_r : ro ≠ r) (q_ro_fa : ro ≠ fa) (q_ba_pA : ba ≠ pA) (q_ba_va : ba ≠ va) (q_ba_x0 : ba ≠ x0) (q_ba_ra : ba ≠ ra) (q_ba_sa : ba ≠ sa) (q_ba_x1 : ba ≠ x1) (q_ba_rb : ba ≠ rb) (q_ba_sb : ba ≠ sb) (q_ba_is : ba ≠ is) (q_ba_ds : ba ≠ ds) (q_ba_al : ba ≠ al) (q_ba_r : ba ≠ r) (q_ba_fa : ba ≠ fa) (q_pA_va : pA ≠ va) (q_pA_x0 : pA ≠ x0) (q_pA_ra : pA ≠ ra) (q_pA_sa : pA ≠ sa) (q_pA_x1 : pA ≠ x1) (q_pA_rb : pA ≠ rb) (q_pA_sb : pA ≠ sb) (q_pA_is : pA ≠ is) (q_pA_ds : pA ≠ ds) (q_pA_al : pA ≠ al) (q_pA_r : pA ≠ r) (q_pA_fa : pA ≠ fa) (q_va_x0 : va ≠ x0) (q_va_ra : va ≠ ra) (q_va_sa : va ≠ sa) (q_va_x1 : va ≠ x1) (q_va_rb : va ≠ rb) (q_va_sb : va ≠ sb) (q_va_is : va ≠ is) (q_va_ds : va ≠ ds) (q_va_al : va ≠ al) (q_va_r : va ≠ r) (q_va_fa : va ≠ fa) (q_x0_ra : x0 ≠ ra) (q_x0_sa : x0 ≠ sa) (q_x0_x1 : x0 ≠ x1) (q_x0_rb : x0 ≠ rb) (q_x0_sb : x0 ≠ sb) (q_x0_is : x0 ≠ is) (q_x0_ds : x0 ≠ ds) (q_x0_al : x0 ≠ al) (q_x0_r : x0 ≠ r) (q_x0_fa : x0 ≠ fa) (q_ra_sa : ra ≠ sa) (q_ra_x1 : ra ≠ x1) (q_ra_rb : ra ≠ rb) (q_ra_sb : ra ≠ sb) (q_ra_is : ra ≠ is) (q_ra_ds : ra ≠ ds) (q_ra_al : ra ≠ al) (q_ra_r : ra ≠ r) (q_ra_fa : ra ≠ fa) (q_sa_x1 : sa ≠ x1) (q_sa_rb : sa ≠ rb) (q_sa_sb : sa ≠ sb) (q_sa_is : sa ≠ is) (q_sa_ds : sa ≠ ds) (q_sa_al : sa ≠ al) (q_sa_r : sa ≠ r) (q_sa_fa : sa ≠ fa) (q_x1_rb : x1 ≠ rb) (q_x1_sb : x1 ≠ sb) (q_x1_is : x1 ≠ is) (q_x1_ds : x1 ≠ ds) (q_x1_al : x1 ≠ al) (q_x1_r : x1 ≠ r) (q_x1_fa : x1 ≠ fa) (q_rb_sb : rb ≠ sb) (q_rb_is : rb ≠ is) (q_rb_ds : rb ≠ ds) (q_rb_al : rb ≠ al) (q_rb_r : rb ≠ r) (q_rb_fa : rb ≠ fa) (q_sb_is : sb ≠ is) (q_sb_ds : sb ≠ ds) (q_sb_al : sb ≠ al) (q_sb_r : sb ≠ r) (q_sb_fa : sb ≠ fa) (ge_a : n0 ≤ a) (ge_ro : n0 ≤ ro) (ge_ba : n0 ≤ ba) (ge_pA : n0 ≤ pA) (ge_va : n0 ≤ va) (ge_x0 : n0 ≤ x0) (ge_ra : n0 ≤ ra) (ge_sa : n0 ≤ sa) (ge_x1 : n0 ≤ x1) (ge_rb : n0 ≤ rb) (ge_sb : n0 ≤ sb) (lr : rv.length = 16) (lbv : bv.length = 16) (lp : pv.length = 16) (lv : vv.length = 16) (la4 : la.length = 4) (ma4 : ma.length = 4) (lb4 : lb.length = 4) (mb4 : mb.length = 4) (hp0 : pv[((0 : Int32)).toNatClampNeg]? = some (.int (-1 : Int32))) (hp1 : pv[((1 : Int32)).toNatClampNeg]? = some (.int (-1 : Int32))) (Db : FP.Core.DInt (q * ee) b) (De : FP.Core.DInt ee y0) (he : own_e8 ee) (hq : 0 ≤ q ∧ q ≤ 65535) :
  MetFree l mn159 (head1 (Jvm.Cond.code mn159 prog_49_method_3_code 15 (some .int) :: ws) ({ frames := 4, cells := 1, slots := 0, locals := 60 } : Room)) (fun aA U => aA = #[(.ref a), (.double b), (.ref is), (.ref ds), (.int (0 : Int32))] ∧ Z.Warmed39 U.vm ∧ U.heap = h0) (fun _ _ _ _ _ => True) (fun _ U o U' => ∃ vR LR, o = .returned vR ∧ QrmRo0 Z a is ds al cA ro ba pA fa va r x0 x1 x2 ra sa rb sb rv bv pv vv la ma lb mb b y0 y1 q ee h0 n0 vR U'.heap LR ∧ FrameEnd U o U' LR ({ frames := 4, cells := 1, slots := 0, locals := 60 } : Room).cells ({ frames := 4, cells := 1, slots := 0, locals := 60 } : Room).slots) := by
 refine MetFree.of_bodySF (plainFor_of_name pn_com_example_netloom_netloom_embed_Simplex) hisR ?_
 intro p e s m args below meth c s₁ Bd hml0 hPre hKk
 obtain ⟨rfl, hZ, hh⟩ := hPre
 have hx := Bd.exec
 have hby := Bd.bytes
 have hH : ∀ {pc r}, decode prog_49_method_3_code pc = r → decode c.code pc = r := fun q => hb hby q
 have hml : c.maxLocals = 15 := hml0
 have hown : s.vm.findClass "com/example/netloom/netloom/embed/Simplex" = some m.cls := findClass_of_methodNamed Bd.named
 have hnm := (name_of_methodNamed Bd.named Bd.method).1
 have X0 : Stand p l e ({ frames := 4, cells := 1, slots := 0, locals := 60 } : Room) s m #[(.ref a), (.double b), (.ref is), (.ref ds), (.int (0 : Int32))] below meth c s₁ [] 0 0 := Stand.of_body Bd
 have e0 : s₁.heap = h0 := by rw [← hh, Bd.state]; rfl
 have N0 := Fr.nil n0
 obtain ⟨E0, hE0⟩ : ∃ zE : State, zE = s₁.setTop (entryFrame m #[(.ref a), (.double b), (.ref is), (.ref ds), (.int (0 : Int32))] 15) := ⟨_, rfl⟩
 have k0 : own_G p e below E0 s₁ (mkF m 0 #[vr a, vd b, ss, vr is, vr ds, vi (0 : Int32), uu, uu, uu, uu, uu, uu, uu, uu, uu] []) := fun tz kz => hE0 ▸ castTop (ef_rmRo0 m a is ds al cA ro ba pA fa va r x0 x1 x2 ra sa rb sb rv bv pv vv la ma lb mb b y0 y1 q ee) kz
 have K0 : Keep h0 h0 [a, ro, ba, pA, va, x0, ra, sa, x1, rb, sb] := Keep.refl _ _
 have kJ0 : own_G p e below E0 s₁ (mkF m 1 #[vr a, vd b, ss, vr is, vr ds, vi (0 : Int32), uu, uu, uu, uu, uu, uu, uu, uu, uu] [(.ref a)]) := by
  intro tQ kk
  refine k0 tQ ?_
  refine XS.aloadN X0.here hx rfl (hH p49_3_0) rfl rfl ?_
  exact kk
 clear k0
 obtain ⟨TJ1, XJ2, eJ3, stJ4⟩ := getF X0 hx hZ hown (host := "") (Or.inl (tw238 hw)) Via.refl e0 S7 (g := (mkF m 1 #[vr a, vd b, ss, vr is, vr ds, vi (0 : Int32), uu, uu, uu, uu, uu, uu, uu, uu, uu] [(.ref a)])) rfl rfl (hH p49_3_1)
 have kJ5 : own_G p e below E0 TJ1 (mkF m 4 #[vr a, vd b, ss, vr is, vr ds, vi (0 : Int32), uu, uu, uu, uu, uu, uu, uu, uu, uu] [(.int (0 : Int32))]) := fun tQ kk => kJ0 tQ (stJ4 _ kk)
 clear kJ0 stJ4
 have kJ6 : own_G p e below E0 TJ1 (mkF m 7 #[vr a, vd b, ss, vr is, vr ds, vi (0 : Int32), vi (0 : Int32), uu, uu, uu, uu, uu, uu, uu, uu] [(.ref a)]) := by
  intro tQ kk
  refine kJ5 tQ ?_
  refine XS.istore XJ2.here hx rfl (hH p49_3_4) rfl (l' := #[vr a, vd b, ss, vr is, vr ds, vi (0 : Int32), vi (0 : Int32), uu, uu, uu, uu, uu, uu, uu, uu]) rfl ?_
  refine XS.aloadN XJ2.here hx rfl (hH p49_3_6) rfl rfl ?_
  exact kk
 clear kJ5
 obtain ⟨TJ7, XJ8, eJ9, stJA⟩ := getF XJ2 hx hZ hown (host := "") (Or.inl (tw44 hw)) Via.refl eJ3 S4 (g := (mkF m 7 #[vr a, vd b, ss, vr is, vr ds, vi (0 : Int32), vi (0 : Int32), uu, uu, uu, uu, uu, uu, uu, uu] [(.ref a)])) rfl rfl (hH p49_3_7)
 have kJB : own_G p e below E0 TJ7 (mkF m 10 #[vr a, vd b, ss, vr is, vr ds, vi (0 : Int32), vi (0 : Int32), uu, uu, uu, uu, uu, uu, uu, uu] [(.ref pA)]) := fun tQ kk => kJ6 tQ (stJA _ kk)
 clear kJ6 stJA
 have kJC : own_G p e below E0 TJ7 (mkF m 12 #[vr a, vd b, ss, vr is, vr ds, vi (0 : Int32), vi (0 : Int32), uu, uu, uu, uu, uu, uu, uu, uu] [(.int (0 : Int32)), (.ref pA)]) := by
  intro tQ kk
  refine kJB tQ ?_
  refine XS.iload XJ8.here hx rfl (hH p49_3_10) rfl ?_
  exact kk
 clear kJB
 have stJD := fun tQ => own_A.ild XJ8 hx hZ eJ9 A3 (j := (0 : Int32)) (v := (.int (-1 : Int32))) (by decide) hp0 (g := (mkF m 12 #[vr a, vd b, ss, vr is, vr ds, vi (0 : Int32), vi (0 : Int32), uu, uu, uu, uu, uu, uu, uu, uu] [(.int (0 : Int32)), (.ref pA)])) rfl rfl (hH p49_3_12) tQ
 have kJE : own_G p e below E0 TJ7 (mkF m 13 #[vr a, vd b, ss, vr is, vr ds, vi (0 : Int32), vi (0 : Int32), uu, uu, uu, uu, uu, uu, uu, uu] [(.int (-1 : Int32))]) := fun tQ kk => kJC tQ (stJD _ kk)
 clear kJC stJD
 have kJF : own_G p e below E0 TJ7 (mkF m 17 #[vr a, vd b, ss, vr is, vr ds, vi (0 : Int32), vi (0 : Int32), uu, uu, uu, uu, uu, uu, uu, uu] [(.ref a)]) := by
  intro tQ kk
  refine kJE tQ ?_
  refine XS.ifNo XJ8.here hx rfl (hH p49_3_13) rfl (own_if_geN (by decide)) ?_
  refine XS.aloadN XJ8.here hx rfl (hH p49_3_16) rfl rfl ?_
  exact kk
 clear kJE
 obtain ⟨TJG, XJH, eJI, stJJ⟩ := getF XJ8 hx hZ hown (host := "") (Or.inl (tw34 hw)) Via.refl eJ9 S0 (g := (mkF m 17 #[vr a, vd b, ss, vr is, vr ds, vi (0 : Int32), vi (0 : Int32), uu, uu, uu, uu, uu, uu, uu, uu] [(.ref a)])) rfl rfl (hH p49_3_17)
 have kJK : own_G p e below E0 TJG (mkF m 20 #[vr a, vd b, ss, vr is, vr ds, vi (0 : Int32), vi (0 : Int32), uu, uu, uu, uu, uu, uu, uu, uu] [(.ref al)]) := fun tQ kk => kJF tQ (stJJ _ kk)
 clear kJF stJJ
 have kJL : own_G p e below E0 TJG (mkF m 22 #[vr a, vd b, ss, vr is, vr ds, vi (0 : Int32), vi (0 : Int32), uu, uu, uu, uu, uu, uu, uu, uu] [(.int (0 : Int32)), (.ref al)]) := by
  intro tQ kk
  refine kJK tQ ?_
  refine XS.iload XJH.here hx rfl (hH p49_3_20) rfl ?_
  exact kk
 clear kJK
 obtain ⟨cqJX, kqJY, qaJZ, qbK0, qcK1⟩ := isOf hZ eJI E1
 obtain ⟨_, _, ⟨TJM, LJN, kcJO, ncJP⟩, -, XJQ, ⟨LcJR, hQJS, lJT, yJU, zJV⟩, stJW⟩ := XJH.interfaceBack hx (xi := mn160) (y := mn150) hown (mvT hZ (tw240 hw)) (mvT hZ (tw241 hw)) (mvT hZ (tw242 hw)) (mvT hZ (tw243 hw)) (mvT hZ (tw244 hw)) (mvT hZ (tw245 hw)) (mvT hZ (tw246 hw)) (mvT hZ (tw179 hw)) (by decide) (backOf (W := 0) (rmGt0 l Z a0 hw [] al r x0 x1 x2 h0 n0 Z0 E1 L1 L2 AE) hZ (tw247 hw) (tw12 hw) (by decide) (by decide)) qaJZ qbK0 qcK1 (g := (mkF m 22 #[vr a, vd b, ss, vr is, vr ds, vi (0 : Int32), vi (0 : Int32), uu, uu, uu, uu, uu, uu, uu, uu] [(.int (0 : Int32)), (.ref al)])) rfl (by rw [hml]; rfl) (Steps.refl _) (argsL := [(.int (0 : Int32))]) (rest := []) (lenOf pd_151 rfl) rfl (by show 2 * 0 + _ ≤ _; exact Nat.le_of_eq rfl) (hH p49_3_22) (fun _ _ => ⟨rfl, eJI, (by decide : 0 + 0 ≤ _), (by decide : 0 + 0 ≤ _)⟩)
 dsimp only [Pt.U, Pt.locs, Pt.cells, Pt.slots] at XJQ lJT yJU zJV stJW hQJS
 subst yJU zJV
 obtain ⟨rfl, NK2, eK3⟩ := hQJS
 have NK5 : Fr n0 LJN := by rw [lJT]; exact Fr.app N0 NK2
 clear lJT NK2
 have kK6 : own_G p e below E0 TJM (mkF m 27 #[vr a, vd b, ss, vr is, vr ds, vi (0 : Int32), vi (0 : Int32), uu, uu, uu, uu, uu, uu, uu, uu] [(.ref x0)]) := fun tQ kk => kJL tQ (stJW.trans kk)
 clear kJL stJW
 obtain ⟨TK7, XK8, eK9, stKA⟩ := castY XJQ hx hZ hown (tw183 hw) eK3 (Ins.of_exa Ca1 (tw261 hw)) (g := (mkF m 27 #[vr a, vd b, ss, vr is, vr ds, vi (0 : Int32), vi (0 : Int32), uu, uu, uu, uu, uu, uu, uu, uu] [(.ref x0)])) rfl rfl (hH p49_3_27)
 have kKB : own_G p e below E0 TK7 (mkF m 30 #[vr a, vd b, ss, vr is, vr ds, vi (0 : Int32), vi (0 : Int32), uu, uu, uu, uu, uu, uu, uu, uu] [(.ref x0)]) := fun tQ kk => kK6 tQ (stKA _ kk)
 clear kK6 stKA
 obtain ⟨cqKN, kqKO, qaKP, qbKQ, qcKR⟩ := isOf hZ eK9 Ca1
 obtain ⟨_, _, ⟨TKC, LKD, kcKE, ncKF⟩, -, XKG, ⟨LcKH, hQKI, lKJ, yKK, zKL⟩, stKM⟩ := XK8.virtualBack hx (y := mn133) (z := mn133) hown (mvT hZ (tw262 hw)) (mvT hZ (tw263 hw)) (notFace_of_selects (args := #[]) (mvT hZ (tw265 hw))) (mvT hZ (tw265 hw)) (mvT hZ (tw264 hw)) (by decide) (backOf (W := 0) (rmSs l Z a0 hw [] x0 (0 : Int32) h0 n0 Z0 Ca4) hZ (tw266 hw) (tw185 hw) (by decide) (by decide)) qaKP qcKR (g := (mkF m 30 #[vr a, vd b, ss, vr is, vr ds, vi (0 : Int32), vi (0 : Int32), uu, uu, uu, uu, uu, uu, uu, uu] [(.ref x0)])) rfl (by rw [hml]; rfl) (Steps.refl _) (argsL := []) (rest := []) (lenOf pd_153 rfl) rfl (by show 2 * 0 + _ ≤ _; exact Nat.le_of_eq rfl) (hH p49_3_30) (fun _ _ => ⟨rfl, eK9, (by decide : 0 + 0 ≤ _), (by decide : 0 + 0 ≤ _)⟩)
 dsimp only [Pt.U, Pt.locs, Pt.cells, Pt.slots] at XKG lKJ yKK zKL stKM hQKI
 subst yKK zKL
 obtain ⟨rfl, NKS, eKT⟩ := hQKI
 have NKV : Fr n0 LKD := by rw [lKJ]; exact Fr.app NK5 NKS
 clear lKJ NKS
 have kKW : own_G p e below E0 TKC (mkF m 33 #[vr a, vd b, ss, vr is, vr ds, vi (0 : Int32), vi (0 : Int32), uu, uu, uu, uu, uu, uu, uu, uu] [(.int (0 : Int32))]) := fun tQ kk => kKB tQ (stKM.trans kk)
 clear kKB stKM
 have kKX : own_G p e below E0 TKC (mkF m 59 #[vr a, vd b, ss, vr is, vr ds, vi (0 : Int32), vi (0 : Int32), vd FP.dconst0, ss, vd FP.dconst0, ss, uu, uu, uu, uu] [(.int (0 : Int32))]) := by
  intro tQ kk
  refine kKW tQ ?_
  refine XS.ifYes XKG.here hx rfl (pc0 := 33) (pc' := 51) rfl (hH p49_3_33) rfl (own_if_leY (by decide)) (by decide) (by decide) ?_
  refine XS.dconst0 XKG.here hx rfl (hH p49_3_51) rfl ?_
  refine XS.dstore XKG.here hx rfl (hH p49_3_52) rfl (l' := #[vr a, vd b, ss, vr is, vr ds, vi (0 : Int32), vi (0 : Int32), vd FP.dconst0, ss, uu, uu, uu, uu, uu, uu]) rfl ?_
  refine XS.dconst0 XKG.here hx rfl (hH p49_3_54) rfl ?_
  refine XS.dstore XKG.here hx rfl (hH p49_3_55) rfl (l' := #[vr a, vd b, ss, vr is, vr ds, vi (0 : Int32), vi (0 : Int32), vd FP.dconst0, ss, vd FP.dconst0, ss, uu, uu, uu, uu]) rfl ?_
  refine XS.iload XKG.here hx rfl (hH p49_3_57) rfl ?_
  exact kk
 clear kKW
 obtain ⟨TKY, hKZ, cAL0, XL1, eL2, EL3, AL4, stL5⟩ := newP (aty := .double) XKG hx hZ (tw36 hw) eKT (g := (mkF m 59 #[vr a, vd b, ss, vr is, vr ds, vi (0 : Int32), vi (0 : Int32), vd FP.dconst0, ss, vd FP.dconst0, ss, uu, uu, uu, uu] [(.int (0 : Int32))])) rfl (hH p49_3_59) rfl (by decide) (cap := 0) (by decide) (by decide) (by decide) (by decide)
 obtain ⟨aL6, gL7⟩ : ∃ zA : Nat, zA = h0.size := ⟨_, rfl⟩
 rw [← gL7] at AL4 stL5
 have nL8 := own_lt_ne EX.lt gL7
 have nL9 := own_lt_ne E1.lt gL7
 have nLA := own_lt_ne AE.lt gL7
 have nLB := own_lt_ne E3.lt gL7
 have nLC := own_lt_ne Ca1.lt gL7
 have nLD := own_lt_ne Ca5.lt gL7
 have nLE := own_lt_ne Ca6.lt gL7
 have nLF := own_lt_ne Cb1.lt gL7
 have nLG := own_lt_ne Cb5.lt gL7
 have nLH := own_lt_ne Cb6.lt gL7
 have nLI := own_lt_ne A1.lt gL7
 have nLJ := own_lt_ne A2.lt gL7
 have nLK := own_lt_ne A3.lt gL7
 have nLL := own_lt_ne A4.lt gL7
 have nLM := own_lt_ne A5.lt gL7
 have nLN := own_lt_ne A6.lt gL7
 have nwLO : h0.size ≤ aL6 := own_ge_of K0.1 gL7
 have geLP : n0 ≤ aL6 := own_ge_of Z0 gL7
 replace Z0 := Nat.le_trans Z0 EL3.1
 replace EX := EX.ext EL3
 replace S0 := S0.ext EL3
 replace S1 := S1.ext EL3
 replace S2 := S2.ext EL3
 replace S3 := S3.ext EL3
 replace S4 := S4.ext EL3
 replace S5 := S5.ext EL3
 replace S6 := S6.ext EL3
 replace S7 := S7.ext EL3
 replace E1 := E1.ext EL3
 replace L1 := L1.ext EL3
 replace L2 := L2.ext EL3
 replace AE := AE.ext EL3
 replace E3 := E3.ext EL3
 replace L3 := L3.ext EL3
 replace Ca1 := Ca1.ext EL3
 replace Ca2 := Ca2.ext EL3
 replace Ca3 := Ca3.ext EL3
 replace Ca4 := Ca4.ext EL3
 replace Ca5 := Ca5.ext EL3
 replace Ca6 := Ca6.ext EL3
 replace Cb1 := Cb1.ext EL3
 replace Cb2 := Cb2.ext EL3
 replace Cb3 := Cb3.ext EL3
 replace Cb4 := Cb4.ext EL3
 replace Cb5 := Cb5.ext EL3
 replace Cb6 := Cb6.ext EL3
 replace A1 := A1.ext EL3
 replace A2 := A2.ext EL3
 replace A3 := A3.ext EL3
 replace A4 := A4.ext EL3
 replace A5 := A5.ext EL3
 replace A6 := A6.ext EL3
 replace K0 := K0.ext EL3
 have FLQ : own_A Z hKZ aL6 .double [] := own_A.new AL4
 have kLR : own_G p e below E0 TKY (mkF m 61 #[vr a, vd b, ss, vr is, vr ds, vi (0 : Int32), vi (0 : Int32), vd FP.dconst0, ss, vd FP.dconst0, ss, uu, uu, uu, uu] [(.ref aL6)]) := fun tQ kk => kKX tQ (stL5 _ kk)
 clear kKX stL5
 have kLS : own_G p e below E0 TKY (mkF m 69 #[vr a, vd b, ss, vr is, vr ds, vi (0 : Int32), vi (0 : Int32), vd FP.dconst0, ss, vd FP.dconst0, ss, vr aL6, vi (0 : Int32), uu, uu] [(.ref is), (.int (0 : Int32))]) := by
  intro tQ kk
  refine kLR tQ ?_
  refine XS.astore XL1.here hx rfl (hH p49_3_61) rfl rfl (l' := #[vr a, vd b, ss, vr is, vr ds, vi (0 : Int32), vi (0 : Int32), vd FP.dconst0, ss, vd FP.dconst0, ss, vr aL6, uu, uu, uu]) rfl ?_
  refine XS.iconst XL1.here hx rfl (hH p49_3_63) ?_
  refine XS.istore XL1.here hx rfl (hH p49_3_64) rfl (l' := #[vr a, vd b, ss, vr is, vr ds, vi (0 : Int32), vi (0 : Int32), vd FP.dconst0, ss, vd FP.dconst0, ss, vr aL6, vi (0 : Int32), uu, uu]) rfl ?_
  refine XS.iload XL1.here hx rfl (hH p49_3_66) rfl ?_
  refine XS.aloadN XL1.here hx rfl (hH p49_3_68) rfl rfl ?_
  exact kk
 clear kLR
 have stLT := fun tQ => own_A.len XL1 hx hZ eL2 A5 (g := (mkF m 69 #[vr a, vd b, ss, vr is, vr ds, vi (0 : Int32), vi (0 : Int32), vd FP.dconst0, ss, vd FP.dconst0, ss, vr aL6, vi (0 : Int32), uu, uu] [(.ref is), (.int (0 : Int32))])) rfl rfl (hH p49_3_69) tQ
 have kLU : own_G p e below E0 TKY (mkF m 70 #[vr a, vd b, ss, vr is, vr ds, vi (0 : Int32), vi (0 : Int32), vd FP.dconst0, ss, vd FP.dconst0, ss, vr aL6, vi (0 : Int32), uu, uu] [(.int (2 : Int32)), (.int (0 : Int32))]) := fun tQ kk => kLS tQ (stLT _ kk)
 clear kLS stLT
 have kLV : own_G p e below E0 TKY (mkF m 76 #[vr a, vd b, ss, vr is, vr ds, vi (0 : Int32), vi (0 : Int32), vd FP.dconst0, ss, vd FP.dconst0, ss, vr aL6, vi (0 : Int32), uu, uu] [(.int (0 : Int32)), (.ref is)]) := by
  intro tQ kk
  refine kLU tQ ?_
  refine XS.icmpNo XL1.here hx rfl (hH p49_3_70) rfl (own_ic_geN (by decide)) ?_
  refine XS.aloadN XL1.here hx rfl (hH p49_3_73) rfl rfl ?_
  refine XS.iload XL1.here hx rfl (hH p49_3_74) rfl ?_
  exact kk
 clear kLU
 have stLW := fun tQ => own_A.ild XL1 hx hZ eL2 A5 (j := (0 : Int32)) (v := (.int (0 : Int32))) (by decide) rfl (g := (mkF m 76 #[vr a, vd b, ss, vr is, vr ds, vi (0 : Int32), vi (0 : Int32), vd FP.dconst0, ss, vd FP.dconst0, ss, vr aL6, vi (0 : Int32), uu, uu] [(.int (0 : Int32)), (.ref is)])) rfl rfl (hH p49_3_76) tQ
 have kLX : own_G p e below E0 TKY (mkF m 77 #[vr a, vd b, ss, vr is, vr ds, vi (0 : Int32), vi (0 : Int32), vd FP.dconst0, ss, vd FP.dconst0, ss, vr aL6, vi (0 : Int32), uu, uu] [(.int (0 : Int32))]) := fun tQ kk => kLV tQ (stLW _ kk)
 clear kLV stLW
 have kLY : own_G p e below E0 TKY (mkF m 90 #[vr a, vd b, ss, vr is, vr ds, vi (0 : Int32), vi (0 : Int32), vd FP.dconst0, ss, vd FP.dconst0, ss, vr aL6, vi (0 : Int32), vi (0 : Int32), uu] [(.int (0 : Int32)), (.ref ds)]) := by
  intro tQ kk
  refine kLX tQ ?_
  refine XS.istore XL1.here hx rfl (hH p49_3_77) rfl (l' := #[vr a, vd b, ss, vr is, vr ds, vi (0 : Int32), vi (0 : Int32), vd FP.dconst0, ss, vd FP.dconst0, ss, vr aL6, vi (0 : Int32), vi (0 : Int32), uu]) rfl ?_
  refine XS.iload XL1.here hx rfl (hH p49_3_79) rfl ?_
  refine XS.iload XL1.here hx rfl (hH p49_3_81) rfl ?_
  refine XS.icmpNo XL1.here hx rfl (hH p49_3_83) rfl (own_ic_neN (by decide)) ?_
  refine XS.aload XL1.here hx rfl (hH p49_3_86) rfl rfl ?_
  refine XS.iload XL1.here hx rfl (hH p49_3_88) rfl ?_
  exact kk
 clear kLX
 have stLZ := fun tQ => own_A.dld XL1 hx hZ eL2 A6 (j := (0 : Int32)) (v := (.double y0)) (by decide) rfl (g := (mkF m 90 #[vr a, vd b, ss, vr is, vr ds, vi (0 : Int32), vi (0 : Int32), vd FP.dconst0, ss, vd FP.dconst0, ss, vr aL6, vi (0 : Int32), vi (0 : Int32), uu] [(.int (0 : Int32)), (.ref ds)])) rfl rfl (hH p49_3_90) tQ
 have kM0 : own_G p e below E0 TKY (mkF m 91 #[vr a, vd b, ss, vr is, vr ds, vi (0 : Int32), vi (0 : Int32), vd FP.dconst0, ss, vd FP.dconst0, ss, vr aL6, vi (0 : Int32), vi (0 : Int32), uu] [(.double y0)]) := fun tQ kk => kLY tQ (stLZ _ kk)
 clear kLY stLZ
 have kM1 : own_G p e below E0 TKY (mkF m 69 #[vr a, vd b, ss, vr is, vr ds, vi (0 : Int32), vi (0 : Int32), vd y0, ss, vd FP.dconst0, ss, vr aL6, vi (1 : Int32), vi (0 : Int32), uu] [(.ref is), (.int (1 : Int32))]) := by
  intro tQ kk
  refine kM0 tQ ?_
  refine XS.dstore XL1.here hx rfl (hH p49_3_91) rfl (l' := #[vr a, vd b, ss, vr is, vr ds, vi (0 : Int32), vi (0 : Int32), vd y0, ss, vd FP.dconst0, ss, vr aL6, vi (0 : Int32), vi (0 : Int32), uu]) rfl ?_
  refine XS.goto XL1.here hx rfl (pc0 := 93) (pc' := 144) rfl (hH p49_3_93) (by decide) (by decide) ?_
  refine XS.iinc XL1.here hx rfl (hH p49_3_144) rfl (l' := #[vr a, vd b, ss, vr is, vr ds, vi (0 : Int32), vi (0 : Int32), vd y0, ss, vd FP.dconst0, ss, vr aL6, vi (1 : Int32), vi (0 : Int32), uu]) rfl ?_
  refine XS.goto XL1.here hx rfl (pc0 := 147) (pc' := 66) rfl (hH p49_3_147) (by decide) (by decide) ?_
  refine XS.iload XL1.here hx rfl (hH p49_3_66) rfl ?_
  refine XS.aloadN XL1.here hx rfl (hH p49_3_68) rfl rfl ?_
  exact kk
 clear kM0
 have stM2 := fun tQ => own_A.len XL1 hx hZ eL2 A5 (g := (mkF m 69 #[vr a, vd b, ss, vr is, vr ds, vi (0 : Int32), vi (0 : Int32), vd y0, ss, vd FP.dconst0, ss, vr aL6, vi (1 : Int32), vi (0 : Int32), uu] [(.ref is), (.int (1 : Int32))])) rfl rfl (hH p49_3_69) tQ
 have kM3 : own_G p e below E0 TKY (mkF m 70 #[vr a, vd b, ss, vr is, vr ds, vi (0 : Int32), vi (0 : Int32), vd y0, ss, vd FP.dconst0, ss, vr aL6, vi (1 : Int32), vi (0 : Int32), uu] [(.int (2 : Int32)), (.int (1 : Int32))]) := fun tQ kk => kM1 tQ (stM2 _ kk)
 clear kM1 stM2
 have kM4 : own_G p e below E0 TKY (mkF m 76 #[vr a, vd b, ss, vr is, vr ds, vi (0 : Int32), vi (0 : Int32), vd y0, ss, vd FP.dconst0, ss, vr aL6, vi (1 : Int32), vi (0 : Int32), uu] [(.int (1 : Int32)), (.ref is)]) := by
  intro tQ kk
  refine kM3 tQ ?_
  refine XS.icmpNo XL1.here hx rfl (hH p49_3_70) rfl (own_ic_geN (by decide)) ?_
  refine XS.aloadN XL1.here hx rfl (hH p49_3_73) rfl rfl ?_
  refine XS.iload XL1.here hx rfl (hH p49_3_74) rfl ?_
  exact kk
 clear kM3
 have stM5 := fun tQ => own_A.ild XL1 hx hZ eL2 A5 (j := (1 : Int32)) (v := (.int (1 : Int32))) (by decide) rfl (g := (mkF m 76 #[vr a, vd b, ss, vr is, vr ds, vi (0 : Int32), vi (0 : Int32), vd y0, ss, vd FP.dconst0, ss, vr aL6, vi (1 : Int32), vi (0 : Int32), uu] [(.int (1 : Int32)), (.ref is)])) rfl rfl (hH p49_3_76) tQ
 have kM6 : own_G p e below E0 TKY (mkF m 77 #[vr a, vd b, ss, vr is, vr ds, vi (0 : Int32), vi (0 : Int32), vd y0, ss, vd FP.dconst0, ss, vr aL6, vi (1 : Int32), vi (0 : Int32), uu] [(.int (1 : Int32))]) := fun tQ kk => kM4 tQ (stM5 _ kk)
 clear kM4 stM5
 have kM7 : own_G p e below E0 TKY (mkF m 97 #[vr a, vd b, ss, vr is, vr ds, vi (0 : Int32), vi (0 : Int32), vd y0, ss, vd FP.dconst0, ss, vr aL6, vi (1 : Int32), vi (1 : Int32), uu] [(.ref a)]) := by
  intro tQ kk
  refine kM6 tQ ?_
  refine XS.istore XL1.here hx rfl (hH p49_3_77) rfl (l' := #[vr a, vd b, ss, vr is, vr ds, vi (0 : Int32), vi (0 : Int32), vd y0, ss, vd FP.dconst0, ss, vr aL6, vi (1 : Int32), vi (1 : Int32), uu]) rfl ?_
  refine XS.iload XL1.here hx rfl (hH p49_3_79) rfl ?_
  refine XS.iload XL1.here hx rfl (hH p49_3_81) rfl ?_
  refine XS.icmpYes XL1.here hx rfl (pc0 := 83) (pc' := 96) rfl (hH p49_3_83) rfl (own_ic_neY (by decide)) (by decide) (by decide) ?_
  refine XS.aloadN XL1.here hx rfl (hH p49_3_96) rfl rfl ?_
  exact kk
 clear kM6
 obtain ⟨TM8, XM9, eMA, stMB⟩ := getF XL1 hx hZ hown (host := "") (Or.inl (tw44 hw)) Via.refl eL2 S4 (g := (mkF m 97 #[vr a, vd b, ss, vr is, vr ds, vi (0 : Int32), vi (0 : Int32), vd y0, ss, vd FP.dconst0, ss, vr aL6, vi (1 : Int32), vi (1 : Int32), uu] [(.ref a)])) rfl rfl (hH p49_3_97)
 have kMC : own_G p e below E0 TM8 (mkF m 100 #[vr a, vd b, ss, vr is, vr ds, vi (0 : Int32), vi (0 : Int32), vd y0, ss, vd FP.dconst0, ss, vr aL6, vi (1 : Int32), vi (1 : Int32), uu] [(.ref pA)]) := fun tQ kk => kM7 tQ (stMB _ kk)
 clear kM7 stMB
 have kMD : own_G p e below E0 TM8 (mkF m 102 #[vr a, vd b, ss, vr is, vr ds, vi (0 : Int32), vi (0 : Int32), vd y0, ss, vd FP.dconst0, ss, vr aL6, vi (1 : Int32), vi (1 : Int32), uu] [(.int (1 : Int32)), (.ref pA)]) := by
  intro tQ kk
  refine kMC tQ ?_
  refine XS.iload XM9.here hx rfl (hH p49_3_100) rfl ?_
  exact kk
 clear kMC
 have stME := fun tQ => own_A.ild XM9 hx hZ eMA A3 (j := (1 : Int32)) (v := (.int (-1 : Int32))) (by decide) hp1 (g := (mkF m 102 #[vr a, vd b, ss, vr is, vr ds, vi (0 : Int32), vi (0 : Int32), vd y0, ss, vd FP.dconst0, ss, vr aL6, vi (1 : Int32), vi (1 : Int32), uu] [(.int (1 : Int32)), (.ref pA)])) rfl rfl (hH p49_3_102) tQ
 have kMF : own_G p e below E0 TM8 (mkF m 103 #[vr a, vd b, ss, vr is, vr ds, vi (0 : Int32), vi (0 : Int32), vd y0, ss, vd FP.dconst0, ss, vr aL6, vi (1 : Int32), vi (1 : Int32), uu] [(.int (-1 : Int32))]) := fun tQ kk => kMD tQ (stME _ kk)
 clear kMD stME
 have kMG : own_G p e below E0 TM8 (mkF m 69 #[vr a, vd b, ss, vr is, vr ds, vi (0 : Int32), vi (0 : Int32), vd y0, ss, vd FP.dconst0, ss, vr aL6, vi (2 : Int32), vi (1 : Int32), uu] [(.ref is), (.int (2 : Int32))]) := by
  intro tQ kk
  refine kMF tQ ?_
  refine XS.ifYes XM9.here hx rfl (pc0 := 103) (pc' := 144) rfl (hH p49_3_103) rfl (own_if_ltY (by decide)) (by decide) (by decide) ?_
  refine XS.iinc XM9.here hx rfl (hH p49_3_144) rfl (l' := #[vr a, vd b, ss, vr is, vr ds, vi (0 : Int32), vi (0 : Int32), vd y0, ss, vd FP.dconst0, ss, vr aL6, vi (2 : Int32), vi (1 : Int32), uu]) rfl ?_
  refine XS.goto XM9.here hx rfl (pc0 := 147) (pc' := 66) rfl (hH p49_3_147) (by decide) (by decide) ?_
  refine XS.iload XM9.here hx rfl (hH p49_3_66) rfl ?_
  refine XS.aloadN XM9.here hx rfl (hH p49_3_68) rfl rfl ?_
  exact kk
 clear kMF
 have stMH := fun tQ => own_A.len XM9 hx hZ eMA A5 (g := (mkF m 69 #[vr a, vd b, ss, vr is, vr ds, vi (0 : Int32), vi (0 : Int32), vd y0, ss, vd FP.dconst0, ss, vr aL6, vi (2 : Int32), vi (1 : Int32), uu] [(.ref is), (.int (2 : Int32))])) rfl rfl (hH p49_3_69) tQ
 have kMI : own_G p e below E0 TM8 (mkF m 70 #[vr a, vd b, ss, vr is, vr ds, vi (0 : Int32), vi (0 : Int32), vd y0, ss, vd FP.dconst0, ss, vr aL6, vi (2 : Int32), vi (1 : Int32), uu] [(.int (2 : Int32)), (.int (2 : Int32))]) := fun tQ kk => kMG tQ (stMH _ kk)
 clear kMG stMH
 have kMJ : own_G p e below E0 TM8 (mkF m 169 #[vr a, vd b, ss, vr is, vr ds, vi (0 : Int32), vi (0 : Int32), vd y0, ss, vd FP.dconst0, ss, vr aL6, vi (2 : Int32), vi (1 : Int32), uu] [(.double y0), (.double (FP.dsub b FP.dconst0))]) := by
  intro tQ kk
  refine kMI tQ ?_
  refine XS.icmpYes XM9.here hx rfl (pc0 := 70) (pc' := 150) rfl (hH p49_3_70) rfl (own_ic_geY (by decide)) (by decide) (by decide) ?_
  refine XS.dload XM9.here hx rfl (hH p49_3_150) rfl ?_
  refine XS.dconst0 XM9.here hx rfl (hH p49_3_152) rfl ?_
  refine XS.dcmpS (v := (own_c (own_z y0) (own_z FP.dconst0))) XM9.here hx rfl (hH p49_3_153) rfl (own_cE .l (own_cmpz (own_nn De) own_n0)) ?_
  refine XS.ifYes XM9.here hx rfl (pc0 := 154) (pc' := 163) rfl (hH p49_3_154) rfl (own_c_neY (own_nz0 De he)) (by decide) (by decide) ?_
  refine XS.dloadN XM9.here hx rfl (hH p49_3_163) rfl ?_
  refine XS.dload XM9.here hx rfl (hH p49_3_164) rfl ?_
  refine XS.dsubS XM9.here hx rfl (hH p49_3_166) rfl (own_r0 Db De he hq).1 rfl ?_
  show Steps p.tables e below (TM8.setTop (mkF m 167 #[vr a, vd b, ss, vr is, vr ds, vi (0 : Int32), vi (0 : Int32), vd y0, ss, vd FP.dconst0, ss, vr aL6, vi (2 : Int32), vi (1 : Int32), uu] [(.double (FP.dsub b FP.dconst0))])) tQ
  refine XS.dload XM9.here hx rfl (hH p49_3_167) rfl ?_
  exact kk
 clear kMI
 obtain ⟨vq, hvq⟩ : ∃ vA, FP.ddiv (FP.dsub b FP.dconst0) y0 = vA := ⟨_, rfl⟩
 have Dv : FP.Core.DInt q vq := hvq ▸ (own_r0 Db De he hq).2
 have kMK : own_G p e below E0 TM8 (mkF m 174 #[vr a, vd b, ss, vr is, vr ds, vi (0 : Int32), vi (0 : Int32), vd y0, ss, vd FP.dconst0, ss, vr aL6, vd vq, ss, uu] [(.double vq)]) := by
  intro tQ kk
  refine kMJ tQ ?_
  refine XS.ddivS XM9.here hx rfl (hH p49_3_169) rfl (own_nn (own_r0 Db De he hq).2) hvq ?_
  refine XS.dstore XM9.here hx rfl (hH p49_3_170) rfl (l' := #[vr a, vd b, ss, vr is, vr ds, vi (0 : Int32), vi (0 : Int32), vd y0, ss, vd FP.dconst0, ss, vr aL6, vd vq, ss, uu]) rfl ?_
  refine XS.dload XM9.here hx rfl (hH p49_3_172) rfl ?_
  exact kk
 clear kMJ
 have stML := XM9.ldc2DoubleC hx hown (mvT hZ (tw269 hw)) (g := (mkF m 174 #[vr a, vd b, ss, vr is, vr ds, vi (0 : Int32), vi (0 : Int32), vd y0, ss, vd FP.dconst0, ss, vr aL6, vd vq, ss, uu] [(.double vq)])) rfl (hH p49_3_174)
 have kMM : own_G p e below E0 TM8 (mkF m 177 #[vr a, vd b, ss, vr is, vr ds, vi (0 : Int32), vi (0 : Int32), vd y0, ss, vd FP.dconst0, ss, vr aL6, vd vq, ss, uu] [(.double (13695778570484766357 : UInt64)), (.double vq)]) := fun tQ kk => kMK tQ (stML _ kk)
 clear kMK stML
 have kMN : own_G p e below E0 TM8 (mkF m 179 #[vr a, vd b, ss, vr is, vr ds, vi (0 : Int32), vi (0 : Int32), vd y0, ss, vd FP.dconst0, ss, vr aL6, vd vq, ss, uu] [(.double b), (.double FP.dconst1), (.double (13695778570484766357 : UInt64)), (.double vq)]) := by
  intro tQ kk
  refine kMM tQ ?_
  refine XS.dconst1 XM9.here hx rfl (hH p49_3_177) rfl ?_
  refine XS.dloadN XM9.here hx rfl (hH p49_3_178) rfl ?_
  exact kk
 clear kMM
 obtain ⟨TMO, XMP, eMQ, stMR⟩ := natS XM9 hx hZ hown (tw270 hw) (tw271 hw) (tw221 hw) (tw272 hw) (by decide) eMA (W := 6) (fun c4 => Jvm.Free.Fl.Abs.absD_pays b c4 (by decide) (by decide)) (g := (mkF m 179 #[vr a, vd b, ss, vr is, vr ds, vi (0 : Int32), vi (0 : Int32), vd y0, ss, vd FP.dconst0, ss, vr aL6, vd vq, ss, uu] [(.double b), (.double FP.dconst1), (.double (13695778570484766357 : UInt64)), (.double vq)])) rfl (by rw [hml]; rfl) (argsL := [(.double b)]) (rest := [(.double FP.dconst1), (.double (13695778570484766357 : UInt64)), (.double vq)]) (lenOf pd_161 rfl) rfl (by show 2 * 0 + _ ≤ _; exact Nat.le_of_eq rfl) (hH p49_3_179) (by decide) (by decide) ⟨rfl, (own_fini Db).noNaN⟩ rfl
 have kMS : own_G p e below E0 TMO (mkF m 182 #[vr a, vd b, ss, vr is, vr ds, vi (0 : Int32), vi (0 : Int32), vd y0, ss, vd FP.dconst0, ss, vr aL6, vd vq, ss, uu] [(.double (b &&& 0x7fffffffffffffff)), (.double FP.dconst1), (.double (13695778570484766357 : UInt64)), (.double vq)]) := fun tQ kk => kMN tQ (stMR _ kk)
 clear kMN stMR
 obtain ⟨TMT, XMU, eMV, stMW⟩ := natS XMP hx hZ hown (tw273 hw) (tw274 hw) (tw221 hw) (tw275 hw) (by decide) eMQ (W := 4) (fun c4 => Jvm.Free.Fl.Abs.maxD_pays FP.dconst1 (b &&& 0x7fffffffffffffff) c4 (by decide) (by decide)) (g := (mkF m 182 #[vr a, vd b, ss, vr is, vr ds, vi (0 : Int32), vi (0 : Int32), vd y0, ss, vd FP.dconst0, ss, vr aL6, vd vq, ss, uu] [(.double (b &&& 0x7fffffffffffffff)), (.double FP.dconst1), (.double (13695778570484766357 : UInt64)), (.double vq)])) rfl (by rw [hml]; rfl) (argsL := [(.double FP.dconst1), (.double (b &&& 0x7fffffffffffffff))]) (rest := [(.double (13695778570484766357 : UInt64)), (.double vq)]) (lenOf pd_162 rfl) rfl (by show 2 * 0 + _ ≤ _; exact Nat.le_of_eq rfl) (hH p49_3_182) (by decide) (by decide) ⟨rfl, own_n1, (own_absn (own_fini Db))⟩ rfl
 have kMX : own_G p e below E0 TMT (mkF m 185 #[vr a, vd b, ss, vr is, vr ds, vi (0 : Int32), vi (0 : Int32), vd y0, ss, vd FP.dconst0, ss, vr aL6, vd vq, ss, uu] [(.double (Native.java_lang_Math.nans.pick64 true FP.dconst1 (b &&& 0x7fffffffffffffff))), (.double (13695778570484766357 : UInt64)), (.double vq)]) := fun tQ kk => kMS tQ (stMW _ kk)
 clear kMS stMW
 have kMY : own_G p e below E0 TMT (mkF m 213 #[vr a, vd b, ss, vr is, vr ds, vi (0 : Int32), vi (0 : Int32), vd y0, ss, vd FP.dconst0, ss, vr aL6, vd vq, ss, vi (0 : Int32)] [(.ref is), (.int (0 : Int32))]) := by
  intro tQ kk
  refine kMX tQ ?_
  refine XS.dmulS XMU.here hx rfl (hH p49_3_185) rfl (own_chk Dv hq.1 (own_fini Db)).1 rfl ?_
  refine XS.dcmpS (v := (own_c (own_z vq) (own_z (FP.dmul (13695778570484766357 : UInt64) (Native.java_lang_Math.nans.pick64 true FP.dconst1 (b &&& 0x7fffffffffffffff)))))) XMU.here hx rfl (hH p49_3_186) rfl (own_cE .l (own_cmpz (own_nn Dv) (own_chk Dv hq.1 (own_fini Db)).1)) ?_
  refine XS.ifYes XMU.here hx rfl (pc0 := 187) (pc' := 207) rfl (hH p49_3_187) rfl (own_c_geY (own_chk Dv hq.1 (own_fini Db)).2) (by decide) (by decide) ?_
  refine XS.iconst XMU.here hx rfl (hH p49_3_207) ?_
  refine XS.istore XMU.here hx rfl (hH p49_3_208) rfl (l' := #[vr a, vd b, ss, vr is, vr ds, vi (0 : Int32), vi (0 : Int32), vd y0, ss, vd FP.dconst0, ss, vr aL6, vd vq, ss, vi (0 : Int32)]) rfl ?_
  refine XS.iload XMU.here hx rfl (hH p49_3_210) rfl ?_
  refine XS.aloadN XMU.here hx rfl (hH p49_3_212) rfl rfl ?_
  exact kk
 clear kMX
 have stMZ := fun tQ => own_A.len XMU hx hZ eMV A5 (g := (mkF m 213 #[vr a, vd b, ss, vr is, vr ds, vi (0 : Int32), vi (0 : Int32), vd y0, ss, vd FP.dconst0, ss, vr aL6, vd vq, ss, vi (0 : Int32)] [(.ref is), (.int (0 : Int32))])) rfl rfl (hH p49_3_213) tQ
 have kN0 : own_G p e below E0 TMT (mkF m 214 #[vr a, vd b, ss, vr is, vr ds, vi (0 : Int32), vi (0 : Int32), vd y0, ss, vd FP.dconst0, ss, vr aL6, vd vq, ss, vi (0 : Int32)] [(.int (2 : Int32)), (.int (0 : Int32))]) := fun tQ kk => kMY tQ (stMZ _ kk)
 clear kMY stMZ
 have kN1 : own_G p e below E0 TMT (mkF m 218 #[vr a, vd b, ss, vr is, vr ds, vi (0 : Int32), vi (0 : Int32), vd y0, ss, vd FP.dconst0, ss, vr aL6, vd vq, ss, vi (0 : Int32)] [(.ref a)]) := by
  intro tQ kk
  refine kN0 tQ ?_
  refine XS.icmpNo XMU.here hx rfl (hH p49_3_214) rfl (own_ic_geN (by decide)) ?_
  refine XS.aloadN XMU.here hx rfl (hH p49_3_217) rfl rfl ?_
  exact kk
 clear kN0
 obtain ⟨TN2, XN3, eN4, stN5⟩ := getF XMU hx hZ hown (host := "") (Or.inl (tw34 hw)) Via.refl eMV S0 (g := (mkF m 218 #[vr a, vd b, ss, vr is, vr ds, vi (0 : Int32), vi (0 : Int32), vd y0, ss, vd FP.dconst0, ss, vr aL6, vd vq, ss, vi (0 : Int32)] [(.ref a)])) rfl rfl (hH p49_3_218)
 have kN6 : own_G p e below E0 TN2 (mkF m 221 #[vr a, vd b, ss, vr is, vr ds, vi (0 : Int32), vi (0 : Int32), vd y0, ss, vd FP.dconst0, ss, vr aL6, vd vq, ss, vi (0 : Int32)] [(.ref al)]) := fun tQ kk => kN1 tQ (stN5 _ kk)
 clear kN1 stN5
 have kN7 : own_G p e below E0 TN2 (mkF m 224 #[vr a, vd b, ss, vr is, vr ds, vi (0 : Int32), vi (0 : Int32), vd y0, ss, vd FP.dconst0, ss, vr aL6, vd vq, ss, vi (0 : Int32)] [(.int (0 : Int32)), (.ref is), (.ref al)]) := by
  intro tQ kk
  refine kN6 tQ ?_
  refine XS.aloadN XN3.here hx rfl (hH p49_3_221) rfl rfl ?_
  refine XS.iload XN3.here hx rfl (hH p49_3_222) rfl ?_
  exact kk
 clear kN6
 have stN8 := fun tQ => own_A.ild XN3 hx hZ eN4 A5 (j := (0 : Int32)) (v := (.int (0 : Int32))) (by decide) rfl (g := (mkF m 224 #[vr a, vd b, ss, vr is, vr ds, vi (0 : Int32), vi (0 : Int32), vd y0, ss, vd FP.dconst0, ss, vr aL6, vd vq, ss, vi (0 : Int32)] [(.int (0 : Int32)), (.ref is), (.ref al)])) rfl rfl (hH p49_3_224) tQ
 have kN9 : own_G p e below E0 TN2 (mkF m 225 #[vr a, vd b, ss, vr is, vr ds, vi (0 : Int32), vi (0 : Int32), vd y0, ss, vd FP.dconst0, ss, vr aL6, vd vq, ss, vi (0 : Int32)] [(.int (0 : Int32)), (.ref al)]) := fun tQ kk => kN7 tQ (stN8 _ kk)
 clear kN7 stN8
 obtain ⟨cqNL, kqNM, qaNN, qbNO, qcNP⟩ := isOf hZ eN4 E1
 obtain ⟨_, _, ⟨TNA, LNB, kcNC, ncND⟩, -, XNE, ⟨LcNF, hQNG, lNH, yNI, zNJ⟩, stNK⟩ := XN3.interfaceBack hx (xi := mn160) (y := mn150) hown (mvT hZ (tw240 hw)) (mvT hZ (tw241 hw)) (mvT hZ (tw242 hw)) (mvT hZ (tw243 hw)) (mvT hZ (tw244 hw)) (mvT hZ (tw245 hw)) (mvT hZ (tw246 hw)) (mvT hZ (tw179 hw)) (by decide) (backOf (W := 0) (rmGt0 l Z a0 hw [] al r x0 x1 x2 hKZ n0 Z0 E1 L1 L2 AE) hZ (tw247 hw) (tw12 hw) (by decide) (by decide)) qaNN qbNO qcNP (g := (mkF m 225 #[vr a, vd b, ss, vr is, vr ds, vi (0 : Int32), vi (0 : Int32), vd y0, ss, vd FP.dconst0, ss, vr aL6, vd vq, ss, vi (0 : Int32)] [(.int (0 : Int32)), (.ref al)])) rfl (by rw [hml]; rfl) (Steps.refl _) (argsL := [(.int (0 : Int32))]) (rest := []) (lenOf pd_151 rfl) rfl (by show 2 * 0 + _ ≤ _; exact Nat.le_of_eq rfl) (hH p49_3_225) (fun _ _ => ⟨rfl, eN4, (by decide : 1 + 0 ≤ _), (by decide : 0 + 0 ≤ _)⟩)
 dsimp only [Pt.U, Pt.locs, Pt.cells, Pt.slots] at XNE lNH yNI zNJ stNK hQNG
 subst yNI zNJ
 obtain ⟨rfl, NNQ, eNR⟩ := hQNG
 have NNT : Fr n0 LNB := by rw [lNH]; exact Fr.app NKV NNQ
 clear lNH NNQ
 have kNU : own_G p e below E0 TNA (mkF m 230 #[vr a, vd b, ss, vr is, vr ds, vi (0 : Int32), vi (0 : Int32), vd y0, ss, vd FP.dconst0, ss, vr aL6, vd vq, ss, vi (0 : Int32)] [(.ref x0)]) := fun tQ kk => kN9 tQ (stNK.trans kk)
 clear kN9 stNK
 obtain ⟨TNV, XNW, eNX, stNY⟩ := castY XNE hx hZ hown (tw183 hw) eNR (Ins.of_exa Ca1 (tw261 hw)) (g := (mkF m 230 #[vr a, vd b, ss, vr is, vr ds, vi (0 : Int32), vi (0 : Int32), vd y0, ss, vd FP.dconst0, ss, vr aL6, vd vq, ss, vi (0 : Int32)] [(.ref x0)])) rfl rfl (hH p49_3_230)
 have kNZ : own_G p e below E0 TNV (mkF m 233 #[vr a, vd b, ss, vr is, vr ds, vi (0 : Int32), vi (0 : Int32), vd y0, ss, vd FP.dconst0, ss, vr aL6, vd vq, ss, vi (0 : Int32)] [(.ref x0)]) := fun tQ kk => kNU tQ (stNY _ kk)
 clear kNU stNY
 have kP0 : own_G p e below E0 TNV (mkF m 239 #[vr a, vd b, ss, vr is, vr ds, vi (0 : Int32), vi (0 : Int32), vd y0, ss, vd FP.dconst0, ss, vr aL6, vd vq, ss, vi (0 : Int32)] [(.int (0 : Int32)), (.ref ds), (.int (0 : Int32)), (.ref x0)]) := by
  intro tQ kk
  refine kNZ tQ ?_
  refine XS.iload XNW.here hx rfl (hH p49_3_233) rfl ?_
  refine XS.aload XNW.here hx rfl (hH p49_3_235) rfl rfl ?_
  refine XS.iload XNW.here hx rfl (hH p49_3_237) rfl ?_
  exact kk
 clear kNZ
 have stP1 := fun tQ => own_A.dld XNW hx hZ eNX A6 (j := (0 : Int32)) (v := (.double y0)) (by decide) rfl (g := (mkF m 239 #[vr a, vd b, ss, vr is, vr ds, vi (0 : Int32), vi (0 : Int32), vd y0, ss, vd FP.dconst0, ss, vr aL6, vd vq, ss, vi (0 : Int32)] [(.int (0 : Int32)), (.ref ds), (.int (0 : Int32)), (.ref x0)])) rfl rfl (hH p49_3_239) tQ
 have kP2 : own_G p e below E0 TNV (mkF m 240 #[vr a, vd b, ss, vr is, vr ds, vi (0 : Int32), vi (0 : Int32), vd y0, ss, vd FP.dconst0, ss, vr aL6, vd vq, ss, vi (0 : Int32)] [(.double y0), (.int (0 : Int32)), (.ref x0)]) := fun tQ kk => kP0 tQ (stP1 _ kk)
 clear kP0 stP1
 obtain ⟨cqPE, kqPF, qaPG, qbPH, qcPI⟩ := isOf hZ eNX Ca1
 obtain ⟨_, _, ⟨TP3, LP4, kcP5, ncP6⟩, -, XP7, ⟨LcP8, hQP9, lPA, yPB, zPC⟩, stPD⟩ := XNW.virtualBack hx (y := mn130) (z := mn130) hown (mvT hZ (tw276 hw)) (mvT hZ (tw277 hw)) (notFace_of_selects (args := #[]) (mvT hZ (tw279 hw))) (mvT hZ (tw279 hw)) (mvT hZ (tw278 hw)) (by decide) (backOf (W := 0) (rmSa l Z a0 hw [] x0 ra sa (0 : Int32) (0 : Int32) y0 la ma hKZ n0 Z0 Ca1 Ca2 Ca3 Ca4 Ca5 Ca6 q_x0_ra q_x0_sa q_ra_sa ge_x0 ge_ra ge_sa (by rw [la4]; decide) (by decide) (by rw [la4]; decide) (by rw [ma4]; decide)) hZ (tw280 hw) (tw185 hw) (by decide) (by decide)) qaPG qcPI (g := (mkF m 240 #[vr a, vd b, ss, vr is, vr ds, vi (0 : Int32), vi (0 : Int32), vd y0, ss, vd FP.dconst0, ss, vr aL6, vd vq, ss, vi (0 : Int32)] [(.double y0), (.int (0 : Int32)), (.ref x0)])) rfl (by rw [hml]; rfl) (Steps.refl _) (argsL := [(.int (0 : Int32)), (.double y0)]) (rest := []) (lenOf pd_163 rfl) rfl (by show 2 * 0 + _ ≤ _; exact Nat.le_of_eq rfl) (hH p49_3_240) (fun _ _ => ⟨rfl, eNX, (by decide : 1 + 0 ≤ _), (by decide : 0 + 0 ≤ _)⟩)
 dsimp only [Pt.U, Pt.locs, Pt.cells, Pt.slots] at XP7 lPA yPB zPC stPD hQP9
 subst yPB zPC
 obtain ⟨rfl, NPJ, KPM, gPN, gPO, gPP, gPQ, gPR⟩ := hQP9
 have NPS : Fr n0 LP4 := by rw [lPA]; exact Fr.app NNT NPJ
 clear lPA NPJ
 replace Z0 := Nat.le_trans Z0 KPM.1
 replace EX := EX.keep KPM
 replace S0 := S0.keep KPM (ninS q_a_x0 (ninS q_a_ra (ninS q_a_sa nin0)))
 replace S1 := S1.keep KPM (ninS q_a_x0 (ninS q_a_ra (ninS q_a_sa nin0)))
 replace S2 := S2.keep KPM (ninS q_a_x0 (ninS q_a_ra (ninS q_a_sa nin0)))
 replace S3 := S3.keep KPM (ninS q_a_x0 (ninS q_a_ra (ninS q_a_sa nin0)))
 replace S4 := S4.keep KPM (ninS q_a_x0 (ninS q_a_ra (ninS q_a_sa nin0)))
 replace S5 := S5.keep KPM (ninS q_a_x0 (ninS q_a_ra (ninS q_a_sa nin0)))
 replace S6 := S6.keep KPM (ninS q_a_x0 (ninS q_a_ra (ninS q_a_sa nin0)))
 replace S7 := S7.keep KPM (ninS q_a_x0 (ninS q_a_ra (ninS q_a_sa nin0)))
 replace E1 := E1.keep KPM
 replace L1 := L1.keep KPM (ninS (fun q => q_x0_al q.symm) (ninS (fun q => q_ra_al q.symm) (ninS (fun q => q_sa_al q.symm) nin0)))
 replace L2 := L2.keep KPM (ninS (fun q => q_x0_al q.symm) (ninS (fun q => q_ra_al q.symm) (ninS (fun q => q_sa_al q.symm) nin0)))
 replace AE := AE.keep KPM (ninS (fun q => q_x0_r q.symm) (ninS (fun q => q_ra_r q.symm) (ninS (fun q => q_sa_r q.symm) nin0)))
 replace E3 := E3.keep KPM
 replace L3 := L3.keep KPM (ninS (fun q => q_x0_fa q.symm) (ninS (fun q => q_ra_fa q.symm) (ninS (fun q => q_sa_fa q.symm) nin0)))
 replace Ca1 := Ca1.keep KPM
 clear Ca2
 clear Ca3
 clear Ca4
 clear Ca5
 clear Ca6
 replace Cb1 := Cb1.keep KPM
 replace Cb2 := Cb2.keep KPM (ninS (fun q => q_x0_x1 q.symm) (ninS (fun q => q_ra_x1 q.symm) (ninS (fun q => q_sa_x1 q.symm) nin0)))
 replace Cb3 := Cb3.keep KPM (ninS (fun q => q_x0_x1 q.symm) (ninS (fun q => q_ra_x1 q.symm) (ninS (fun q => q_sa_x1 q.symm) nin0)))
 replace Cb4 := Cb4.keep KPM (ninS (fun q => q_x0_x1 q.symm) (ninS (fun q => q_ra_x1 q.symm) (ninS (fun q => q_sa_x1 q.symm) nin0)))
 replace Cb5 := Cb5.keep KPM (ninS (fun q => q_x0_rb q.symm) (ninS (fun q => q_ra_rb q.symm) (ninS (fun q => q_sa_rb q.symm) nin0)))
 replace Cb6 := Cb6.keep KPM (ninS (fun q => q_x0_sb q.symm) (ninS (fun q => q_ra_sb q.symm) (ninS (fun q => q_sa_sb q.symm) nin0)))
 replace A1 := A1.keep KPM (ninS q_ro_x0 (ninS q_ro_ra (ninS q_ro_sa nin0)))
 replace A2 := A2.keep KPM (ninS q_ba_x0 (ninS q_ba_ra (ninS q_ba_sa nin0)))
 replace A3 := A3.keep KPM (ninS q_pA_x0 (ninS q_pA_ra (ninS q_pA_sa nin0)))
 replace A4 := A4.keep KPM (ninS q_va_x0 (ninS q_va_ra (ninS q_va_sa nin0)))
 replace A5 := A5.keep KPM (ninS (fun q => q_x0_is q.symm) (ninS (fun q => q_ra_is q.symm) (ninS (fun q => q_sa_is q.symm) nin0)))
 replace A6 := A6.keep KPM (ninS (fun q => q_x0_ds q.symm) (ninS (fun q => q_ra_ds q.symm) (ninS (fun q => q_sa_ds q.symm) nin0)))
 replace FLQ := FLQ.keep KPM (ninS (Ne.symm nLC) (ninS (Ne.symm nLD) (ninS (Ne.symm nLE) nin0)))
 replace K0 := K0.trans KPM (allS (Or.inl (List.mem_of_getElem? (i := 5) rfl)) (allS (Or.inl (List.mem_of_getElem? (i := 6) rfl)) (allS (Or.inl (List.mem_of_getElem? (i := 7) rfl)) all0)))
 have kPT : own_G p e below E0 TP3 (mkF m 243 #[vr a, vd b, ss, vr is, vr ds, vi (0 : Int32), vi (0 : Int32), vd y0, ss, vd FP.dconst0, ss, vr aL6, vd vq, ss, vi (0 : Int32)] []) := fun tQ kk => kP2 tQ (stPD.trans kk)
 clear kP2 stPD
 have kPU : own_G p e below E0 TP3 (mkF m 213 #[vr a, vd b, ss, vr is, vr ds, vi (0 : Int32), vi (0 : Int32), vd y0, ss, vd FP.dconst0, ss, vr aL6, vd vq, ss, vi (1 : Int32)] [(.ref is), (.int (1 : Int32))]) := by
  intro tQ kk
  refine kPT tQ ?_
  refine XS.iinc XP7.here hx rfl (hH p49_3_243) rfl (l' := #[vr a, vd b, ss, vr is, vr ds, vi (0 : Int32), vi (0 : Int32), vd y0, ss, vd FP.dconst0, ss, vr aL6, vd vq, ss, vi (1 : Int32)]) rfl ?_
  refine XS.goto XP7.here hx rfl (pc0 := 246) (pc' := 210) rfl (hH p49_3_246) (by decide) (by decide) ?_
  refine XS.iload XP7.here hx rfl (hH p49_3_210) rfl ?_
  refine XS.aloadN XP7.here hx rfl (hH p49_3_212) rfl rfl ?_
  exact kk
 clear kPT
 have stPV := fun tQ => own_A.len XP7 hx hZ rfl A5 (g := (mkF m 213 #[vr a, vd b, ss, vr is, vr ds, vi (0 : Int32), vi (0 : Int32), vd y0, ss, vd FP.dconst0, ss, vr aL6, vd vq, ss, vi (1 : Int32)] [(.ref is), (.int (1 : Int32))])) rfl rfl (hH p49_3_213) tQ
 have kPW : own_G p e below E0 TP3 (mkF m 214 #[vr a, vd b, ss, vr is, vr ds, vi (0 : Int32), vi (0 : Int32), vd y0, ss, vd FP.dconst0, ss, vr aL6, vd vq, ss, vi (1 : Int32)] [(.int (2 : Int32)), (.int (1 : Int32))]) := fun tQ kk => kPU tQ (stPV _ kk)
 clear kPU stPV
 have kPX : own_G p e below E0 TP3 (mkF m 218 #[vr a, vd b, ss, vr is, vr ds, vi (0 : Int32), vi (0 : Int32), vd y0, ss, vd FP.dconst0, ss, vr aL6, vd vq, ss, vi (1 : Int32)] [(.ref a)]) := by
  intro tQ kk
  refine kPW tQ ?_
  refine XS.icmpNo XP7.here hx rfl (hH p49_3_214) rfl (own_ic_geN (by decide)) ?_
  refine XS.aloadN XP7.here hx rfl (hH p49_3_217) rfl rfl ?_
  exact kk
 clear kPW
 obtain ⟨TPY, XPZ, eQ0, stQ1⟩ := getF XP7 hx hZ hown (host := "") (Or.inl (tw34 hw)) Via.refl rfl S0 (g := (mkF m 218 #[vr a, vd b, ss, vr is, vr ds, vi (0 : Int32), vi (0 : Int32), vd y0, ss, vd FP.dconst0, ss, vr aL6, vd vq, ss, vi (1 : Int32)] [(.ref a)])) rfl rfl (hH p49_3_218)
 have kQ2 : own_G p e below E0 TPY (mkF m 221 #[vr a, vd b, ss, vr is, vr ds, vi (0 : Int32), vi (0 : Int32), vd y0, ss, vd FP.dconst0, ss, vr aL6, vd vq, ss, vi (1 : Int32)] [(.ref al)]) := fun tQ kk => kPX tQ (stQ1 _ kk)
 clear kPX stQ1
 have kQ3 : own_G p e below E0 TPY (mkF m 224 #[vr a, vd b, ss, vr is, vr ds, vi (0 : Int32), vi (0 : Int32), vd y0, ss, vd FP.dconst0, ss, vr aL6, vd vq, ss, vi (1 : Int32)] [(.int (1 : Int32)), (.ref is), (.ref al)]) := by
  intro tQ kk
  refine kQ2 tQ ?_
  refine XS.aloadN XPZ.here hx rfl (hH p49_3_221) rfl rfl ?_
  refine XS.iload XPZ.here hx rfl (hH p49_3_222) rfl ?_
  exact kk
 clear kQ2
 have stQ4 := fun tQ => own_A.ild XPZ hx hZ eQ0 A5 (j := (1 : Int32)) (v := (.int (1 : Int32))) (by decide) rfl (g := (mkF m 224 #[vr a, vd b, ss, vr is, vr ds, vi (0 : Int32), vi (0 : Int32), vd y0, ss, vd FP.dconst0, ss, vr aL6, vd vq, ss, vi (1 : Int32)] [(.int (1 : Int32)), (.ref is), (.ref al)])) rfl rfl (hH p49_3_224) tQ
 have kQ5 : own_G p e below E0 TPY (mkF m 225 #[vr a, vd b, ss, vr is, vr ds, vi (0 : Int32), vi (0 : Int32), vd y0, ss, vd FP.dconst0, ss, vr aL6, vd vq, ss, vi (1 : Int32)] [(.int (1 : Int32)), (.ref al)]) := fun tQ kk => kQ3 tQ (stQ4 _ kk)
 clear kQ3 stQ4
 obtain ⟨cqQH, kqQI, qaQJ, qbQK, qcQL⟩ := isOf hZ eQ0 E1
 obtain ⟨_, _, ⟨TQ6, LQ7, kcQ8, ncQ9⟩, -, XQA, ⟨LcQB, hQQC, lQD, yQE, zQF⟩, stQG⟩ := XPZ.interfaceBack hx (xi := mn160) (y := mn150) hown (mvT hZ (tw240 hw)) (mvT hZ (tw241 hw)) (mvT hZ (tw242 hw)) (mvT hZ (tw243 hw)) (mvT hZ (tw244 hw)) (mvT hZ (tw245 hw)) (mvT hZ (tw246 hw)) (mvT hZ (tw179 hw)) (by decide) (backOf (W := 0) (rmGt1 l Z a0 hw [] al r x0 x1 x2 TP3.heap n0 Z0 E1 L1 L2 AE) hZ (tw247 hw) (tw12 hw) (by decide) (by decide)) qaQJ qbQK qcQL (g := (mkF m 225 #[vr a, vd b, ss, vr is, vr ds, vi (0 : Int32), vi (0 : Int32), vd y0, ss, vd FP.dconst0, ss, vr aL6, vd vq, ss, vi (1 : Int32)] [(.int (1 : Int32)), (.ref al)])) rfl (by rw [hml]; rfl) (Steps.refl _) (argsL := [(.int (1 : Int32))]) (rest := []) (lenOf pd_151 rfl) rfl (by show 2 * 0 + _ ≤ _; exact Nat.le_of_eq rfl) (hH p49_3_225) (fun _ _ => ⟨rfl, eQ0, (by decide : 1 + 0 ≤ _), (by decide : 0 + 0 ≤ _)⟩)
 dsimp only [Pt.U, Pt.locs, Pt.cells, Pt.slots] at XQA lQD yQE zQF stQG hQQC
 subst yQE zQF
 obtain ⟨rfl, NQM, eQN⟩ := hQQC
 have NQP : Fr n0 LQ7 := by rw [lQD]; exact Fr.app NPS NQM
 clear lQD NQM
 have kQQ : own_G p e below E0 TQ6 (mkF m 230 #[vr a, vd b, ss, vr is, vr ds, vi (0 : Int32), vi (0 : Int32), vd y0, ss, vd FP.dconst0, ss, vr aL6, vd vq, ss, vi (1 : Int32)] [(.ref x1)]) := fun tQ kk => kQ5 tQ (stQG.trans kk)
 clear kQ5 stQG
 obtain ⟨TQR, XQS, eQT, stQU⟩ := castY XQA hx hZ hown (tw183 hw) eQN (Ins.of_exa Cb1 (tw261 hw)) (g := (mkF m 230 #[vr a, vd b, ss, vr is, vr ds, vi (0 : Int32), vi (0 : Int32), vd y0, ss, vd FP.dconst0, ss, vr aL6, vd vq, ss, vi (1 : Int32)] [(.ref x1)])) rfl rfl (hH p49_3_230)
 have kQV : own_G p e below E0 TQR (mkF m 233 #[vr a, vd b, ss, vr is, vr ds, vi (0 : Int32), vi (0 : Int32), vd y0, ss, vd FP.dconst0, ss, vr aL6, vd vq, ss, vi (1 : Int32)] [(.ref x1)]) := fun tQ kk => kQQ tQ (stQU _ kk)
 clear kQQ stQU
 have kQW : own_G p e below E0 TQR (mkF m 239 #[vr a, vd b, ss, vr is, vr ds, vi (0 : Int32), vi (0 : Int32), vd y0, ss, vd FP.dconst0, ss, vr aL6, vd vq, ss, vi (1 : Int32)] [(.int (1 : Int32)), (.ref ds), (.int (0 : Int32)), (.ref x1)]) := by
  intro tQ kk
  refine kQV tQ ?_
  refine XS.iload XQS.here hx rfl (hH p49_3_233) rfl ?_
  refine XS.aload XQS.here hx rfl (hH p49_3_235) rfl rfl ?_
  refine XS.iload XQS.here hx rfl (hH p49_3_237) rfl ?_
  exact kk
 clear kQV
 have stQX := fun tQ => own_A.dld XQS hx hZ eQT A6 (j := (1 : Int32)) (v := (.double y1)) (by decide) rfl (g := (mkF m 239 #[vr a, vd b, ss, vr is, vr ds, vi (0 : Int32), vi (0 : Int32), vd y0, ss, vd FP.dconst0, ss, vr aL6, vd vq, ss, vi (1 : Int32)] [(.int (1 : Int32)), (.ref ds), (.int (0 : Int32)), (.ref x1)])) rfl rfl (hH p49_3_239) tQ
 have kQY : own_G p e below E0 TQR (mkF m 240 #[vr a, vd b, ss, vr is, vr ds, vi (0 : Int32), vi (0 : Int32), vd y0, ss, vd FP.dconst0, ss, vr aL6, vd vq, ss, vi (1 : Int32)] [(.double y1), (.int (0 : Int32)), (.ref x1)]) := fun tQ kk => kQW tQ (stQX _ kk)
 clear kQW stQX
 obtain ⟨cqRA, kqRB, qaRC, qbRD, qcRE⟩ := isOf hZ eQT Cb1
 obtain ⟨_, _, ⟨TQZ, LR0, kcR1, ncR2⟩, -, XR3, ⟨LcR4, hQR5, lR6, yR7, zR8⟩, stR9⟩ := XQS.virtualBack hx (y := mn130) (z := mn130) hown (mvT hZ (tw276 hw)) (mvT hZ (tw277 hw)) (notFace_of_selects (args := #[]) (mvT hZ (tw279 hw))) (mvT hZ (tw279 hw)) (mvT hZ (tw278 hw)) (by decide) (backOf (W := 0) (rmSa l Z a0 hw [] x1 rb sb (0 : Int32) (0 : Int32) y1 lb mb TP3.heap n0 Z0 Cb1 Cb2 Cb3 Cb4 Cb5 Cb6 q_x1_rb q_x1_sb q_rb_sb ge_x1 ge_rb ge_sb (by rw [lb4]; decide) (by decide) (by rw [lb4]; decide) (by rw [mb4]; decide)) hZ (tw280 hw) (tw185 hw) (by decide) (by decide)) qaRC qcRE (g := (mkF m 240 #[vr a, vd b, ss, vr is, vr ds, vi (0 : Int32), vi (0 : Int32), vd y0, ss, vd FP.dconst0, ss, vr aL6, vd vq, ss, vi (1 : Int32)] [(.double y1), (.int (0 : Int32)), (.ref x1)])) rfl (by rw [hml]; rfl) (Steps.refl _) (argsL := [(.int (0 : Int32)), (.double y1)]) (rest := []) (lenOf pd_163 rfl) rfl (by show 2 * 0 + _ ≤ _; exact Nat.le_of_eq rfl) (hH p49_3_240) (fun _ _ => ⟨rfl, eQT, (by decide : 1 + 0 ≤ _), (by decide : 0 + 0 ≤ _)⟩)
 dsimp only [Pt.U, Pt.locs, Pt.cells, Pt.slots] at XR3 lR6 yR7 zR8 stR9 hQR5
 subst yR7 zR8
 obtain ⟨rfl, NRF, KRI, gRJ, gRK, gRL, gRM, gRN⟩ := hQR5
 have NRO : Fr n0 LR0 := by rw [lR6]; exact Fr.app NQP NRF
 clear lR6 NRF
 replace Z0 := Nat.le_trans Z0 KRI.1
 replace EX := EX.keep KRI
 replace S0 := S0.keep KRI (ninS q_a_x1 (ninS q_a_rb (ninS q_a_sb nin0)))
 replace S1 := S1.keep KRI (ninS q_a_x1 (ninS q_a_rb (ninS q_a_sb nin0)))
 replace S2 := S2.keep KRI (ninS q_a_x1 (ninS q_a_rb (ninS q_a_sb nin0)))
 replace S3 := S3.keep KRI (ninS q_a_x1 (ninS q_a_rb (ninS q_a_sb nin0)))
 replace S4 := S4.keep KRI (ninS q_a_x1 (ninS q_a_rb (ninS q_a_sb nin0)))
 replace S5 := S5.keep KRI (ninS q_a_x1 (ninS q_a_rb (ninS q_a_sb nin0)))
 replace S6 := S6.keep KRI (ninS q_a_x1 (ninS q_a_rb (ninS q_a_sb nin0)))
 replace S7 := S7.keep KRI (ninS q_a_x1 (ninS q_a_rb (ninS q_a_sb nin0)))
 replace E1 := E1.keep KRI
 replace L1 := L1.keep KRI (ninS (fun q => q_x1_al q.symm) (ninS (fun q => q_rb_al q.symm) (ninS (fun q => q_sb_al q.symm) nin0)))
 replace L2 := L2.keep KRI (ninS (fun q => q_x1_al q.symm) (ninS (fun q => q_rb_al q.symm) (ninS (fun q => q_sb_al q.symm) nin0)))
 replace AE := AE.keep KRI (ninS (fun q => q_x1_r q.symm) (ninS (fun q => q_rb_r q.symm) (ninS (fun q => q_sb_r q.symm) nin0)))
 replace E3 := E3.keep KRI
 replace L3 := L3.keep KRI (ninS (fun q => q_x1_fa q.symm) (ninS (fun q => q_rb_fa q.symm) (ninS (fun q => q_sb_fa q.symm) nin0)))
 replace Ca1 := Ca1.keep KRI
 replace Cb1 := Cb1.keep KRI
 clear Cb2
 clear Cb3
 clear Cb4
 clear Cb5
 clear Cb6
 replace A1 := A1.keep KRI (ninS q_ro_x1 (ninS q_ro_rb (ninS q_ro_sb nin0)))
 replace A2 := A2.keep KRI (ninS q_ba_x1 (ninS q_ba_rb (ninS q_ba_sb nin0)))
 replace A3 := A3.keep KRI (ninS q_pA_x1 (ninS q_pA_rb (ninS q_pA_sb nin0)))
 replace A4 := A4.keep KRI (ninS q_va_x1 (ninS q_va_rb (ninS q_va_sb nin0)))
 replace A5 := A5.keep KRI (ninS (fun q => q_x1_is q.symm) (ninS (fun q => q_rb_is q.symm) (ninS (fun q => q_sb_is q.symm) nin0)))
 replace A6 := A6.keep KRI (ninS (fun q => q_x1_ds q.symm) (ninS (fun q => q_rb_ds q.symm) (ninS (fun q => q_sb_ds q.symm) nin0)))
 replace FLQ := FLQ.keep KRI (ninS (Ne.symm nLF) (ninS (Ne.symm nLG) (ninS (Ne.symm nLH) nin0)))
 replace gPN := gPN.keep KRI (ninS q_x0_x1 (ninS q_x0_rb (ninS q_x0_sb nin0)))
 replace gPO := gPO.keep KRI (ninS q_x0_x1 (ninS q_x0_rb (ninS q_x0_sb nin0)))
 replace gPP := gPP.keep KRI (ninS q_x0_x1 (ninS q_x0_rb (ninS q_x0_sb nin0)))
 replace gPQ := gPQ.keep KRI (ninS q_ra_x1 (ninS q_ra_rb (ninS q_ra_sb nin0)))
 replace gPR := gPR.keep KRI (ninS q_sa_x1 (ninS q_sa_rb (ninS q_sa_sb nin0)))
 replace K0 := K0.trans KRI (allS (Or.inl (List.mem_of_getElem? (i := 8) rfl)) (allS (Or.inl (List.mem_of_getElem? (i := 9) rfl)) (allS (Or.inl (List.mem_of_getElem? (i := 10) rfl)) all0)))
 have kRP : own_G p e below E0 TQZ (mkF m 243 #[vr a, vd b, ss, vr is, vr ds, vi (0 : Int32), vi (0 : Int32), vd y0, ss, vd FP.dconst0, ss, vr aL6, vd vq, ss, vi (1 : Int32)] []) := fun tQ kk => kQY tQ (stR9.trans kk)
 clear kQY stR9
 have kRQ : own_G p e below E0 TQZ (mkF m 213 #[vr a, vd b, ss, vr is, vr ds, vi (0 : Int32), vi (0 : Int32), vd y0, ss, vd FP.dconst0, ss, vr aL6, vd vq, ss, vi (2 : Int32)] [(.ref is), (.int (2 : Int32))]) := by
  intro tQ kk
  refine kRP tQ ?_
  refine XS.iinc XR3.here hx rfl (hH p49_3_243) rfl (l' := #[vr a, vd b, ss, vr is, vr ds, vi (0 : Int32), vi (0 : Int32), vd y0, ss, vd FP.dconst0, ss, vr aL6, vd vq, ss, vi (2 : Int32)]) rfl ?_
  refine XS.goto XR3.here hx rfl (pc0 := 246) (pc' := 210) rfl (hH p49_3_246) (by decide) (by decide) ?_
  refine XS.iload XR3.here hx rfl (hH p49_3_210) rfl ?_
  refine XS.aloadN XR3.here hx rfl (hH p49_3_212) rfl rfl ?_
  exact kk
 clear kRP
 have stRR := fun tQ => own_A.len XR3 hx hZ rfl A5 (g := (mkF m 213 #[vr a, vd b, ss, vr is, vr ds, vi (0 : Int32), vi (0 : Int32), vd y0, ss, vd FP.dconst0, ss, vr aL6, vd vq, ss, vi (2 : Int32)] [(.ref is), (.int (2 : Int32))])) rfl rfl (hH p49_3_213) tQ
 have kRS : own_G p e below E0 TQZ (mkF m 214 #[vr a, vd b, ss, vr is, vr ds, vi (0 : Int32), vi (0 : Int32), vd y0, ss, vd FP.dconst0, ss, vr aL6, vd vq, ss, vi (2 : Int32)] [(.int (2 : Int32)), (.int (2 : Int32))]) := fun tQ kk => kRQ tQ (stRR _ kk)
 clear kRQ stRR
 have kRT : own_G p e below E0 TQZ (mkF m 251 #[vr a, vd b, ss, vr is, vr ds, vi (0 : Int32), vi (0 : Int32), vd y0, ss, vd FP.dconst0, ss, vr aL6, vd vq, ss, vi (2 : Int32)] [(.ref a), (.ref a)]) := by
  intro tQ kk
  refine kRS tQ ?_
  refine XS.icmpYes XR3.here hx rfl (pc0 := 214) (pc' := 249) rfl (hH p49_3_214) rfl (own_ic_geY (by decide)) (by decide) (by decide) ?_
  refine XS.aloadN XR3.here hx rfl (hH p49_3_249) rfl rfl ?_
  refine XS.aloadN XR3.here hx rfl (hH p49_3_250) rfl rfl ?_
  exact kk
 clear kRS
 obtain ⟨TRU, XRV, eRW, stRX⟩ := getF XR3 hx hZ hown (host := "") (Or.inl (tw39 hw)) Via.refl rfl S2 (g := (mkF m 251 #[vr a, vd b, ss, vr is, vr ds, vi (0 : Int32), vi (0 : Int32), vd y0, ss, vd FP.dconst0, ss, vr aL6, vd vq, ss, vi (2 : Int32)] [(.ref a), (.ref a)])) rfl rfl (hH p49_3_251)
 have kRY : own_G p e below E0 TRU (mkF m 254 #[vr a, vd b, ss, vr is, vr ds, vi (0 : Int32), vi (0 : Int32), vd y0, ss, vd FP.dconst0, ss, vr aL6, vd vq, ss, vi (2 : Int32)] [(.ref ro), (.ref a)]) := fun tQ kk => kRT tQ (stRX _ kk)
 clear kRT stRX
 have kRZ : own_G p e below E0 TRU (mkF m 258 #[vr a, vd b, ss, vr is, vr ds, vi (0 : Int32), vi (0 : Int32), vd y0, ss, vd FP.dconst0, ss, vr aL6, vd vq, ss, vi (2 : Int32)] [(.int (1 : Int32)), (.ref ro), (.ref a)]) := by
  intro tQ kk
  refine kRY tQ ?_
  refine XS.iload XRV.here hx rfl (hH p49_3_254) rfl ?_
  refine XS.iconst XRV.here hx rfl (hH p49_3_256) ?_
  refine XS.iadd XRV.here hx rfl (hH p49_3_257) rfl ?_
  exact kk
 clear kRY
 obtain ⟨_, _, ⟨TS0, LS1, kcS2, ncS3⟩, -, XS4, ⟨LcS5, hQS6, lS7, yS8, zS9⟩, stSA⟩ := Jvm.LawKit.callS XRV hx (y := mn118) hown (mvT hZ (tw226 hw)) (mvT hZ (tw227 hw)) (mvT hZ (tw228 hw)) (mvT hZ (tw229 hw)) (by decide) (backOf (W := 1) (rmGd l Z a0 hw [] ro (1 : Int32) rv TQZ.heap n0 Z0 A1 (by rw [lr]; decide)) hZ (tw229 hw) (tw228 hw) (by decide) (by decide)) (g := (mkF m 258 #[vr a, vd b, ss, vr is, vr ds, vi (0 : Int32), vi (0 : Int32), vd y0, ss, vd FP.dconst0, ss, vr aL6, vd vq, ss, vi (2 : Int32)] [(.int (1 : Int32)), (.ref ro), (.ref a)])) rfl (by rw [hml]; rfl) (argsL := [(.ref ro), (.int (1 : Int32))]) (rest := [(.ref a)]) (lenOf pd_157 rfl) rfl (by show 2 * 0 + _ ≤ _; exact Nat.le_of_eq rfl) (hH p49_3_258) (fun _ _ => ⟨rfl, eRW, (by decide : 1 + 0 ≤ _), (by decide : 0 + 0 ≤ _)⟩)
 dsimp only [Pt.U, Pt.locs, Pt.cells, Pt.slots] at XS4 lS7 yS8 zS9 stSA hQS6
 subst yS8 zS9
 obtain ⟨rfl, NSB, eSC⟩ := hQS6
 have NSE : Fr n0 LS1 := by rw [lS7]; exact Fr.app NRO NSB
 clear lS7 NSB
 have kSF : own_G p e below E0 TS0 (mkF m 261 #[vr a, vd b, ss, vr is, vr ds, vi (0 : Int32), vi (0 : Int32), vd y0, ss, vd FP.dconst0, ss, vr aL6, vd vq, ss, vi (2 : Int32)] [(.ref ro), (.ref a)]) := fun tQ kk => kRZ tQ (stSA _ kk)
 clear kRZ stSA
 obtain ⟨TSG, hSH, XSI, eSJ, WSK, stSL⟩ := putF XS4 hx hZ hown (host := "") (Or.inl (tw39 hw)) Via.refl eSC S2 EX (Or.inl (tw40 hw)) (tw2 hw) (ty := (.array .double)) (by decide) rfl rfl (g := (mkF m 261 #[vr a, vd b, ss, vr is, vr ds, vi (0 : Int32), vi (0 : Int32), vd y0, ss, vd FP.dconst0, ss, vr aL6, vd vq, ss, vi (2 : Int32)] [(.ref ro), (.ref a)])) rfl rfl (hH p49_3_261)
 have NSM := Fr.snoc XSI NSE ge_a
 have kSN : own_G p e below E0 TSG (mkF m 264 #[vr a, vd b, ss, vr is, vr ds, vi (0 : Int32), vi (0 : Int32), vd y0, ss, vd FP.dconst0, ss, vr aL6, vd vq, ss, vi (2 : Int32)] []) := fun tQ kk => kSF tQ (stSL _ kk)
 clear kSF stSL
 replace EX := EX.wr WSK
 replace S0 := S0.other WSK (Or.inr (sn69 hw))
 replace S1 := S1.other WSK (Or.inr (sn70 hw))
 replace S2 := S2.same WSK
 replace S3 := S3.other WSK (Or.inr (sn71 hw))
 replace S4 := S4.other WSK (Or.inr (sn72 hw))
 replace S5 := S5.other WSK (Or.inr (sn73 hw))
 replace S6 := S6.other WSK (Or.inr (sn74 hw))
 replace S7 := S7.other WSK (Or.inr (sn76 hw))
 replace E1 := E1.wr WSK
 replace L1 := L1.other WSK (Or.inl (fun q => q_a_al q.symm))
 replace L2 := L2.other WSK (Or.inl (fun q => q_a_al q.symm))
 replace AE := AE.other WSK (fun q => q_a_r q.symm)
 replace E3 := E3.wr WSK
 replace L3 := L3.other WSK (Or.inl (fun q => q_a_fa q.symm))
 replace Ca1 := Ca1.wr WSK
 replace Cb1 := Cb1.wr WSK
 replace A1 := A1.other WSK (fun q => q_a_ro q.symm)
 replace A2 := A2.other WSK (fun q => q_a_ba q.symm)
 replace A3 := A3.other WSK (fun q => q_a_pA q.symm)
 replace A4 := A4.other WSK (fun q => q_a_va q.symm)
 replace A5 := A5.other WSK (fun q => q_a_is q.symm)
 replace A6 := A6.other WSK (fun q => q_a_ds q.symm)
 replace FLQ := FLQ.other WSK (Ne.symm nL8)
 replace gPN := gPN.other WSK (Or.inl (fun q => q_a_x0 q.symm))
 replace gPO := gPO.other WSK (Or.inl (fun q => q_a_x0 q.symm))
 replace gPP := gPP.other WSK (Or.inl (fun q => q_a_x0 q.symm))
 replace gPQ := gPQ.other WSK (fun q => q_a_ra q.symm)
 replace gPR := gPR.other WSK (fun q => q_a_sa q.symm)
 replace gRJ := gRJ.other WSK (Or.inl (fun q => q_a_x1 q.symm))
 replace gRK := gRK.other WSK (Or.inl (fun q => q_a_x1 q.symm))
 replace gRL := gRL.other WSK (Or.inl (fun q => q_a_x1 q.symm))
 replace gRM := gRM.other WSK (fun q => q_a_rb q.symm)
 replace gRN := gRN.other WSK (fun q => q_a_sb q.symm)
 replace Z0 := own_wrle WSK Z0
 replace K0 := K0.wr WSK (Or.inl (List.mem_of_getElem? (i := 0) rfl))
 have kSO : own_G p e below E0 TSG (mkF m 265 #[vr a, vd b, ss, vr is, vr ds, vi (0 : Int32), vi (0 : Int32), vd y0, ss, vd FP.dconst0, ss, vr aL6, vd vq, ss, vi (2 : Int32)] [(.ref a)]) := by
  intro tQ kk
  refine kSN tQ ?_
  refine XS.aloadN XSI.here hx rfl (hH p49_3_264) rfl rfl ?_
  exact kk
 clear kSN
 obtain ⟨TSP, XSQ, eSR, stSS⟩ := getF XSI hx hZ hown (host := "") (Or.inl (tw39 hw)) Via.refl eSJ S2 (g := (mkF m 265 #[vr a, vd b, ss, vr is, vr ds, vi (0 : Int32), vi (0 : Int32), vd y0, ss, vd FP.dconst0, ss, vr aL6, vd vq, ss, vi (2 : Int32)] [(.ref a)])) rfl rfl (hH p49_3_265)
 have kST : own_G p e below E0 TSP (mkF m 268 #[vr a, vd b, ss, vr is, vr ds, vi (0 : Int32), vi (0 : Int32), vd y0, ss, vd FP.dconst0, ss, vr aL6, vd vq, ss, vi (2 : Int32)] [(.ref ro)]) := fun tQ kk => kSO tQ (stSS _ kk)
 clear kSO stSS
 have kSU : own_G p e below E0 TSP (mkF m 271 #[vr a, vd b, ss, vr is, vr ds, vi (0 : Int32), vi (0 : Int32), vd y0, ss, vd FP.dconst0, ss, vr aL6, vd vq, ss, vi (2 : Int32)] [(.double b), (.int (0 : Int32)), (.ref ro)]) := by
  intro tQ kk
  refine kST tQ ?_
  refine XS.iload XSQ.here hx rfl (hH p49_3_268) rfl ?_
  refine XS.dloadN XSQ.here hx rfl (hH p49_3_270) rfl ?_
  exact kk
 clear kST
 obtain ⟨TSV, hSW, XSX, eSY, WSZ, FT0, stT1⟩ := own_A.dst XSQ hx hZ eSR A1 (j := (0 : Int32)) (by decide) (List.getElem?_eq_getElem (by rw [lr]; decide)) (g := (mkF m 271 #[vr a, vd b, ss, vr is, vr ds, vi (0 : Int32), vi (0 : Int32), vd y0, ss, vd FP.dconst0, ss, vr aL6, vd vq, ss, vi (2 : Int32)] [(.double b), (.int (0 : Int32)), (.ref ro)])) rfl rfl (hH p49_3_271)
 have NT2 := Fr.snoc XSX NSM ge_ro
 have kT3 : own_G p e below E0 TSV (mkF m 272 #[vr a, vd b, ss, vr is, vr ds, vi (0 : Int32), vi (0 : Int32), vd y0, ss, vd FP.dconst0, ss, vr aL6, vd vq, ss, vi (2 : Int32)] []) := fun tQ kk => kSU tQ (stT1 _ kk)
 clear kSU stT1
 replace EX := EX.wr WSZ
 replace S0 := S0.other WSZ (Or.inl q_a_ro)
 replace S1 := S1.other WSZ (Or.inl q_a_ro)
 replace S2 := S2.other WSZ (Or.inl q_a_ro)
 replace S3 := S3.other WSZ (Or.inl q_a_ro)
 replace S4 := S4.other WSZ (Or.inl q_a_ro)
 replace S5 := S5.other WSZ (Or.inl q_a_ro)
 replace S6 := S6.other WSZ (Or.inl q_a_ro)
 replace S7 := S7.other WSZ (Or.inl q_a_ro)
 replace E1 := E1.wr WSZ
 replace L1 := L1.other WSZ (Or.inl (fun q => q_ro_al q.symm))
 replace L2 := L2.other WSZ (Or.inl (fun q => q_ro_al q.symm))
 replace AE := AE.other WSZ (fun q => q_ro_r q.symm)
 replace E3 := E3.wr WSZ
 replace L3 := L3.other WSZ (Or.inl (fun q => q_ro_fa q.symm))
 replace Ca1 := Ca1.wr WSZ
 replace Cb1 := Cb1.wr WSZ
 replace A2 := A2.other WSZ (fun q => q_ro_ba q.symm)
 replace A3 := A3.other WSZ (fun q => q_ro_pA q.symm)
 replace A4 := A4.other WSZ (fun q => q_ro_va q.symm)
 replace A5 := A5.other WSZ (fun q => q_ro_is q.symm)
 replace A6 := A6.other WSZ (fun q => q_ro_ds q.symm)
 replace FLQ := FLQ.other WSZ (Ne.symm nLI)
 replace gPN := gPN.other WSZ (Or.inl (fun q => q_ro_x0 q.symm))
 replace gPO := gPO.other WSZ (Or.inl (fun q => q_ro_x0 q.symm))
 replace gPP := gPP.other WSZ (Or.inl (fun q => q_ro_x0 q.symm))
 replace gPQ := gPQ.other WSZ (fun q => q_ro_ra q.symm)
 replace gPR := gPR.other WSZ (fun q => q_ro_sa q.symm)
 replace gRJ := gRJ.other WSZ (Or.inl (fun q => q_ro_x1 q.symm))
 replace gRK := gRK.other WSZ (Or.inl (fun q => q_ro_x1 q.symm))
 replace gRL := gRL.other WSZ (Or.inl (fun q => q_ro_x1 q.symm))
 replace gRM := gRM.other WSZ (fun q => q_ro_rb q.symm)
 replace gRN := gRN.other WSZ (fun q => q_ro_sb q.symm)
 replace Z0 := own_wrle WSZ Z0
 replace K0 := K0.wr WSZ (Or.inl (List.mem_of_getElem? (i := 1) rfl))
 have FT4 : own_A Z hSW ro .double (rv.set ((0 : Int32)).toNatClampNeg (.double b)) := FT0
 have kT5 : own_G p e below E0 TSV (mkF m 274 #[vr a, vd b, ss, vr is, vr ds, vi (0 : Int32), vi (0 : Int32), vd y0, ss, vd FP.dconst0, ss, vr aL6, vd vq, ss, vi (2 : Int32)] [(.ref a), (.ref a)]) := by
  intro tQ kk
  refine kT3 tQ ?_
  refine XS.aloadN XSX.here hx rfl (hH p49_3_272) rfl rfl ?_
  refine XS.aloadN XSX.here hx rfl (hH p49_3_273) rfl rfl ?_
  exact kk
 clear kT3
 obtain ⟨TT6, XT7, eT8, stT9⟩ := getF XSX hx hZ hown (host := "") (Or.inl (tw42 hw)) Via.refl eSY S3 (g := (mkF m 274 #[vr a, vd b, ss, vr is, vr ds, vi (0 : Int32), vi (0 : Int32), vd y0, ss, vd FP.dconst0, ss, vr aL6, vd vq, ss, vi (2 : Int32)] [(.ref a), (.ref a)])) rfl rfl (hH p49_3_274)
 have kTA : own_G p e below E0 TT6 (mkF m 277 #[vr a, vd b, ss, vr is, vr ds, vi (0 : Int32), vi (0 : Int32), vd y0, ss, vd FP.dconst0, ss, vr aL6, vd vq, ss, vi (2 : Int32)] [(.ref ba), (.ref a)]) := fun tQ kk => kT5 tQ (stT9 _ kk)
 clear kT5 stT9
 have kTB : own_G p e below E0 TT6 (mkF m 281 #[vr a, vd b, ss, vr is, vr ds, vi (0 : Int32), vi (0 : Int32), vd y0, ss, vd FP.dconst0, ss, vr aL6, vd vq, ss, vi (2 : Int32)] [(.int (1 : Int32)), (.ref ba), (.ref a)]) := by
  intro tQ kk
  refine kTA tQ ?_
  refine XS.iload XT7.here hx rfl (hH p49_3_277) rfl ?_
  refine XS.iconst XT7.here hx rfl (hH p49_3_279) ?_
  refine XS.iadd XT7.here hx rfl (hH p49_3_280) rfl ?_
  exact kk
 clear kTA
 obtain ⟨_, _, ⟨TTC, LTD, kcTE, ncTF⟩, -, XTG, ⟨LcTH, hQTI, lTJ, yTK, zTL⟩, stTM⟩ := Jvm.LawKit.callS XT7 hx (y := mn119) hown (mvT hZ (tw230 hw)) (mvT hZ (tw231 hw)) (mvT hZ (tw228 hw)) (mvT hZ (tw232 hw)) (by decide) (backOf (W := 1) (rmGi l Z a0 hw [] ba (1 : Int32) bv hSW n0 Z0 A2 (by rw [lbv]; decide)) hZ (tw232 hw) (tw228 hw) (by decide) (by decide)) (g := (mkF m 281 #[vr a, vd b, ss, vr is, vr ds, vi (0 : Int32), vi (0 : Int32), vd y0, ss, vd FP.dconst0, ss, vr aL6, vd vq, ss, vi (2 : Int32)] [(.int (1 : Int32)), (.ref ba), (.ref a)])) rfl (by rw [hml]; rfl) (argsL := [(.ref ba), (.int (1 : Int32))]) (rest := [(.ref a)]) (lenOf pd_158 rfl) rfl (by show 2 * 0 + _ ≤ _; exact Nat.le_of_eq rfl) (hH p49_3_281) (fun _ _ => ⟨rfl, eT8, (by decide : 1 + 0 ≤ _), (by decide : 0 + 0 ≤ _)⟩)
 dsimp only [Pt.U, Pt.locs, Pt.cells, Pt.slots] at XTG lTJ yTK zTL stTM hQTI
 subst yTK zTL
 obtain ⟨rfl, NTN, eTO⟩ := hQTI
 have NTQ : Fr n0 LTD := by rw [lTJ]; exact Fr.app NT2 NTN
 clear lTJ NTN
 have kTR : own_G p e below E0 TTC (mkF m 284 #[vr a, vd b, ss, vr is, vr ds, vi (0 : Int32), vi (0 : Int32), vd y0, ss, vd FP.dconst0, ss, vr aL6, vd vq, ss, vi (2 : Int32)] [(.ref ba), (.ref a)]) := fun tQ kk => kTB tQ (stTM _ kk)
 clear kTB stTM
 obtain ⟨TTS, hTT, XTU, eTV, WTW, stTX⟩ := putF XTG hx hZ hown (host := "") (Or.inl (tw42 hw)) Via.refl eTO S3 EX (Or.inl (tw43 hw)) (tw2 hw) (ty := (.array .int)) (by decide) rfl rfl (g := (mkF m 284 #[vr a, vd b, ss, vr is, vr ds, vi (0 : Int32), vi (0 : Int32), vd y0, ss, vd FP.dconst0, ss, vr aL6, vd vq, ss, vi (2 : Int32)] [(.ref ba), (.ref a)])) rfl rfl (hH p49_3_284)
 have NTY := Fr.snoc XTU NTQ ge_a
 have kTZ : own_G p e below E0 TTS (mkF m 287 #[vr a, vd b, ss, vr is, vr ds, vi (0 : Int32), vi (0 : Int32), vd y0, ss, vd FP.dconst0, ss, vr aL6, vd vq, ss, vi (2 : Int32)] []) := fun tQ kk => kTR tQ (stTX _ kk)
 clear kTR stTX
 replace EX := EX.wr WTW
 replace S0 := S0.other WTW (Or.inr (sn77 hw))
 replace S1 := S1.other WTW (Or.inr (sn78 hw))
 replace S2 := S2.other WTW (Or.inr (sn79 hw))
 replace S3 := S3.same WTW
 replace S4 := S4.other WTW (Or.inr (sn80 hw))
 replace S5 := S5.other WTW (Or.inr (sn81 hw))
 replace S6 := S6.other WTW (Or.inr (sn82 hw))
 replace S7 := S7.other WTW (Or.inr (sn84 hw))
 replace E1 := E1.wr WTW
 replace L1 := L1.other WTW (Or.inl (fun q => q_a_al q.symm))
 replace L2 := L2.other WTW (Or.inl (fun q => q_a_al q.symm))
 replace AE := AE.other WTW (fun q => q_a_r q.symm)
 replace E3 := E3.wr WTW
 replace L3 := L3.other WTW (Or.inl (fun q => q_a_fa q.symm))
 replace Ca1 := Ca1.wr WTW
 replace Cb1 := Cb1.wr WTW
 replace A2 := A2.other WTW (fun q => q_a_ba q.symm)
 replace A3 := A3.other WTW (fun q => q_a_pA q.symm)
 replace A4 := A4.other WTW (fun q => q_a_va q.symm)
 replace A5 := A5.other WTW (fun q => q_a_is q.symm)
 replace A6 := A6.other WTW (fun q => q_a_ds q.symm)
 replace FLQ := FLQ.other WTW (Ne.symm nL8)
 replace gPN := gPN.other WTW (Or.inl (fun q => q_a_x0 q.symm))
 replace gPO := gPO.other WTW (Or.inl (fun q => q_a_x0 q.symm))
 replace gPP := gPP.other WTW (Or.inl (fun q => q_a_x0 q.symm))
 replace gPQ := gPQ.other WTW (fun q => q_a_ra q.symm)
 replace gPR := gPR.other WTW (fun q => q_a_sa q.symm)
 replace gRJ := gRJ.other WTW (Or.inl (fun q => q_a_x1 q.symm))
 replace gRK := gRK.other WTW (Or.inl (fun q => q_a_x1 q.symm))
 replace gRL := gRL.other WTW (Or.inl (fun q => q_a_x1 q.symm))
 replace gRM := gRM.other WTW (fun q => q_a_rb q.symm)
 replace gRN := gRN.other WTW (fun q => q_a_sb q.symm)
 replace FT4 := FT4.other WTW (fun q => q_a_ro q.symm)
 replace Z0 := own_wrle WTW Z0
 replace K0 := K0.wr WTW (Or.inl (List.mem_of_getElem? (i := 0) rfl))
 have kU0 : own_G p e below E0 TTS (mkF m 288 #[vr a, vd b, ss, vr is, vr ds, vi (0 : Int32), vi (0 : Int32), vd y0, ss, vd FP.dconst0, ss, vr aL6, vd vq, ss, vi (2 : Int32)] [(.ref a)]) := by
  intro tQ kk
  refine kTZ tQ ?_
  refine XS.aloadN XTU.here hx rfl (hH p49_3_287) rfl rfl ?_
  exact kk
 clear kTZ
 obtain ⟨TU1, XU2, eU3, stU4⟩ := getF XTU hx hZ hown (host := "") (Or.inl (tw42 hw)) Via.refl eTV S3 (g := (mkF m 288 #[vr a, vd b, ss, vr is, vr ds, vi (0 : Int32), vi (0 : Int32), vd y0, ss, vd FP.dconst0, ss, vr aL6, vd vq, ss, vi (2 : Int32)] [(.ref a)])) rfl rfl (hH p49_3_288)
 have kU5 : own_G p e below E0 TU1 (mkF m 291 #[vr a, vd b, ss, vr is, vr ds, vi (0 : Int32), vi (0 : Int32), vd y0, ss, vd FP.dconst0, ss, vr aL6, vd vq, ss, vi (2 : Int32)] [(.ref ba)]) := fun tQ kk => kU0 tQ (stU4 _ kk)
 clear kU0 stU4
 have kU6 : own_G p e below E0 TU1 (mkF m 295 #[vr a, vd b, ss, vr is, vr ds, vi (0 : Int32), vi (0 : Int32), vd y0, ss, vd FP.dconst0, ss, vr aL6, vd vq, ss, vi (2 : Int32)] [(.int (0 : Int32)), (.int (0 : Int32)), (.ref ba)]) := by
  intro tQ kk
  refine kU5 tQ ?_
  refine XS.iload XU2.here hx rfl (hH p49_3_291) rfl ?_
  refine XS.iload XU2.here hx rfl (hH p49_3_293) rfl ?_
  exact kk
 clear kU5
 obtain ⟨TU7, hU8, XU9, eUA, WUB, FUC, stUD⟩ := own_A.ist XU2 hx hZ eU3 A2 (j := (0 : Int32)) (by decide) (List.getElem?_eq_getElem (by rw [lbv]; decide)) (g := (mkF m 295 #[vr a, vd b, ss, vr is, vr ds, vi (0 : Int32), vi (0 : Int32), vd y0, ss, vd FP.dconst0, ss, vr aL6, vd vq, ss, vi (2 : Int32)] [(.int (0 : Int32)), (.int (0 : Int32)), (.ref ba)])) rfl rfl (hH p49_3_295)
 have NUE := Fr.snoc XU9 NTY ge_ba
 have kUF : own_G p e below E0 TU7 (mkF m 296 #[vr a, vd b, ss, vr is, vr ds, vi (0 : Int32), vi (0 : Int32), vd y0, ss, vd FP.dconst0, ss, vr aL6, vd vq, ss, vi (2 : Int32)] []) := fun tQ kk => kU6 tQ (stUD _ kk)
 clear kU6 stUD
 replace EX := EX.wr WUB
 replace S0 := S0.other WUB (Or.inl q_a_ba)
 replace S1 := S1.other WUB (Or.inl q_a_ba)
 replace S2 := S2.other WUB (Or.inl q_a_ba)
 replace S3 := S3.other WUB (Or.inl q_a_ba)
 replace S4 := S4.other WUB (Or.inl q_a_ba)
 replace S5 := S5.other WUB (Or.inl q_a_ba)
 replace S6 := S6.other WUB (Or.inl q_a_ba)
 replace S7 := S7.other WUB (Or.inl q_a_ba)
 replace E1 := E1.wr WUB
 replace L1 := L1.other WUB (Or.inl (fun q => q_ba_al q.symm))
 replace L2 := L2.other WUB (Or.inl (fun q => q_ba_al q.symm))
 replace AE := AE.other WUB (fun q => q_ba_r q.symm)
 replace E3 := E3.wr WUB
 replace L3 := L3.other WUB (Or.inl (fun q => q_ba_fa q.symm))
 replace Ca1 := Ca1.wr WUB
 replace Cb1 := Cb1.wr WUB
 replace A3 := A3.other WUB (fun q => q_ba_pA q.symm)
 replace A4 := A4.other WUB (fun q => q_ba_va q.symm)
 replace A5 := A5.other WUB (fun q => q_ba_is q.symm)
 replace A6 := A6.other WUB (fun q => q_ba_ds q.symm)
 replace FLQ := FLQ.other WUB (Ne.symm nLJ)
 replace gPN := gPN.other WUB (Or.inl (fun q => q_ba_x0 q.symm))
 replace gPO := gPO.other WUB (Or.inl (fun q => q_ba_x0 q.symm))
 replace gPP := gPP.other WUB (Or.inl (fun q => q_ba_x0 q.symm))
 replace gPQ := gPQ.other WUB (fun q => q_ba_ra q.symm)
 replace gPR := gPR.other WUB (fun q => q_ba_sa q.symm)
 replace gRJ := gRJ.other WUB (Or.inl (fun q => q_ba_x1 q.symm))
 replace gRK := gRK.other WUB (Or.inl (fun q => q_ba_x1 q.symm))
 replace gRL := gRL.other WUB (Or.inl (fun q => q_ba_x1 q.symm))
 replace gRM := gRM.other WUB (fun q => q_ba_rb q.symm)
 replace gRN := gRN.other WUB (fun q => q_ba_sb q.symm)
 replace FT4 := FT4.other WUB q_ro_ba
 replace Z0 := own_wrle WUB Z0
 replace K0 := K0.wr WUB (Or.inl (List.mem_of_getElem? (i := 2) rfl))
 have FUG : own_A Z hU8 ba .int (bv.set ((0 : Int32)).toNatClampNeg (.int (0 : Int32))) := FUC
 have kUH : own_G p e below E0 TU7 (mkF m 297 #[vr a, vd b, ss, vr is, vr ds, vi (0 : Int32), vi (0 : Int32), vd y0, ss, vd FP.dconst0, ss, vr aL6, vd vq, ss, vi (2 : Int32)] [(.ref a)]) := by
  intro tQ kk
  refine kUF tQ ?_
  refine XS.aloadN XU9.here hx rfl (hH p49_3_296) rfl rfl ?_
  exact kk
 clear kUF
 obtain ⟨TUI, XUJ, eUK, stUL⟩ := getF XU9 hx hZ hown (host := "") (Or.inl (tw44 hw)) Via.refl eUA S4 (g := (mkF m 297 #[vr a, vd b, ss, vr is, vr ds, vi (0 : Int32), vi (0 : Int32), vd y0, ss, vd FP.dconst0, ss, vr aL6, vd vq, ss, vi (2 : Int32)] [(.ref a)])) rfl rfl (hH p49_3_297)
 have kUM : own_G p e below E0 TUI (mkF m 300 #[vr a, vd b, ss, vr is, vr ds, vi (0 : Int32), vi (0 : Int32), vd y0, ss, vd FP.dconst0, ss, vr aL6, vd vq, ss, vi (2 : Int32)] [(.ref pA)]) := fun tQ kk => kUH tQ (stUL _ kk)
 clear kUH stUL
 have kUN : own_G p e below E0 TUI (mkF m 304 #[vr a, vd b, ss, vr is, vr ds, vi (0 : Int32), vi (0 : Int32), vd y0, ss, vd FP.dconst0, ss, vr aL6, vd vq, ss, vi (2 : Int32)] [(.int (0 : Int32)), (.int (0 : Int32)), (.ref pA)]) := by
  intro tQ kk
  refine kUM tQ ?_
  refine XS.iload XUJ.here hx rfl (hH p49_3_300) rfl ?_
  refine XS.iload XUJ.here hx rfl (hH p49_3_302) rfl ?_
  exact kk
 clear kUM
 obtain ⟨TUO, hUP, XUQ, eUR, WUS, FUT, stUU⟩ := own_A.ist XUJ hx hZ eUK A3 (j := (0 : Int32)) (by decide) (List.getElem?_eq_getElem (by rw [lp]; decide)) (g := (mkF m 304 #[vr a, vd b, ss, vr is, vr ds, vi (0 : Int32), vi (0 : Int32), vd y0, ss, vd FP.dconst0, ss, vr aL6, vd vq, ss, vi (2 : Int32)] [(.int (0 : Int32)), (.int (0 : Int32)), (.ref pA)])) rfl rfl (hH p49_3_304)
 have NUV := Fr.snoc XUQ NUE ge_pA
 have kUW : own_G p e below E0 TUO (mkF m 305 #[vr a, vd b, ss, vr is, vr ds, vi (0 : Int32), vi (0 : Int32), vd y0, ss, vd FP.dconst0, ss, vr aL6, vd vq, ss, vi (2 : Int32)] []) := fun tQ kk => kUN tQ (stUU _ kk)
 clear kUN stUU
 replace EX := EX.wr WUS
 replace S0 := S0.other WUS (Or.inl q_a_pA)
 replace S1 := S1.other WUS (Or.inl q_a_pA)
 replace S2 := S2.other WUS (Or.inl q_a_pA)
 replace S3 := S3.other WUS (Or.inl q_a_pA)
 replace S4 := S4.other WUS (Or.inl q_a_pA)
 replace S5 := S5.other WUS (Or.inl q_a_pA)
 replace S6 := S6.other WUS (Or.inl q_a_pA)
 replace S7 := S7.other WUS (Or.inl q_a_pA)
 replace E1 := E1.wr WUS
 replace L1 := L1.other WUS (Or.inl (fun q => q_pA_al q.symm))
 replace L2 := L2.other WUS (Or.inl (fun q => q_pA_al q.symm))
 replace AE := AE.other WUS (fun q => q_pA_r q.symm)
 replace E3 := E3.wr WUS
 replace L3 := L3.other WUS (Or.inl (fun q => q_pA_fa q.symm))
 replace Ca1 := Ca1.wr WUS
 replace Cb1 := Cb1.wr WUS
 replace A4 := A4.other WUS (fun q => q_pA_va q.symm)
 replace A5 := A5.other WUS (fun q => q_pA_is q.symm)
 replace A6 := A6.other WUS (fun q => q_pA_ds q.symm)
 replace FLQ := FLQ.other WUS (Ne.symm nLK)
 replace gPN := gPN.other WUS (Or.inl (fun q => q_pA_x0 q.symm))
 replace gPO := gPO.other WUS (Or.inl (fun q => q_pA_x0 q.symm))
 replace gPP := gPP.other WUS (Or.inl (fun q => q_pA_x0 q.symm))
 replace gPQ := gPQ.other WUS (fun q => q_pA_ra q.symm)
 replace gPR := gPR.other WUS (fun q => q_pA_sa q.symm)
 replace gRJ := gRJ.other WUS (Or.inl (fun q => q_pA_x1 q.symm))
 replace gRK := gRK.other WUS (Or.inl (fun q => q_pA_x1 q.symm))
 replace gRL := gRL.other WUS (Or.inl (fun q => q_pA_x1 q.symm))
 replace gRM := gRM.other WUS (fun q => q_pA_rb q.symm)
 replace gRN := gRN.other WUS (fun q => q_pA_sb q.symm)
 replace FT4 := FT4.other WUS q_ro_pA
 replace FUG := FUG.other WUS q_ba_pA
 replace Z0 := own_wrle WUS Z0
 replace K0 := K0.wr WUS (Or.inl (List.mem_of_getElem? (i := 3) rfl))
 have FUX : own_A Z hUP pA .int (pv.set ((0 : Int32)).toNatClampNeg (.int (0 : Int32))) := FUT
 have kUY : own_G p e below E0 TUO (mkF m 307 #[vr a, vd b, ss, vr is, vr ds, vi (0 : Int32), vi (0 : Int32), vd y0, ss, vd FP.dconst0, ss, vr aL6, vd vq, ss, vi (2 : Int32)] [(.ref a), (.ref a)]) := by
  intro tQ kk
  refine kUW tQ ?_
  refine XS.aloadN XUQ.here hx rfl (hH p49_3_305) rfl rfl ?_
  refine XS.aloadN XUQ.here hx rfl (hH p49_3_306) rfl rfl ?_
  exact kk
 clear kUW
 obtain ⟨TUZ, XV0, eV1, stV2⟩ := getF XUQ hx hZ hown (host := "") (Or.inl (tw163 hw)) Via.refl eUR S6 (g := (mkF m 307 #[vr a, vd b, ss, vr is, vr ds, vi (0 : Int32), vi (0 : Int32), vd y0, ss, vd FP.dconst0, ss, vr aL6, vd vq, ss, vi (2 : Int32)] [(.ref a), (.ref a)])) rfl rfl (hH p49_3_307)
 have kV3 : own_G p e below E0 TUZ (mkF m 310 #[vr a, vd b, ss, vr is, vr ds, vi (0 : Int32), vi (0 : Int32), vd y0, ss, vd FP.dconst0, ss, vr aL6, vd vq, ss, vi (2 : Int32)] [(.ref va), (.ref a)]) := fun tQ kk => kUY tQ (stV2 _ kk)
 clear kUY stV2
 have kV4 : own_G p e below E0 TUZ (mkF m 314 #[vr a, vd b, ss, vr is, vr ds, vi (0 : Int32), vi (0 : Int32), vd y0, ss, vd FP.dconst0, ss, vr aL6, vd vq, ss, vi (2 : Int32)] [(.int (1 : Int32)), (.ref va), (.ref a)]) := by
  intro tQ kk
  refine kV3 tQ ?_
  refine XS.iload XV0.here hx rfl (hH p49_3_310) rfl ?_
  refine XS.iconst XV0.here hx rfl (hH p49_3_312) ?_
  refine XS.iadd XV0.here hx rfl (hH p49_3_313) rfl ?_
  exact kk
 clear kV3
 obtain ⟨_, _, ⟨TV5, LV6, kcV7, ncV8⟩, -, XV9, ⟨LcVA, hQVB, lVC, yVD, zVE⟩, stVF⟩ := Jvm.LawKit.callS XV0 hx (y := mn118) hown (mvT hZ (tw226 hw)) (mvT hZ (tw227 hw)) (mvT hZ (tw228 hw)) (mvT hZ (tw229 hw)) (by decide) (backOf (W := 1) (rmGd l Z a0 hw [] va (1 : Int32) vv hUP n0 Z0 A4 (by rw [lv]; decide)) hZ (tw229 hw) (tw228 hw) (by decide) (by decide)) (g := (mkF m 314 #[vr a, vd b, ss, vr is, vr ds, vi (0 : Int32), vi (0 : Int32), vd y0, ss, vd FP.dconst0, ss, vr aL6, vd vq, ss, vi (2 : Int32)] [(.int (1 : Int32)), (.ref va), (.ref a)])) rfl (by rw [hml]; rfl) (argsL := [(.ref va), (.int (1 : Int32))]) (rest := [(.ref a)]) (lenOf pd_157 rfl) rfl (by show 2 * 0 + _ ≤ _; exact Nat.le_of_eq rfl) (hH p49_3_314) (fun _ _ => ⟨rfl, eV1, (by decide : 1 + 0 ≤ _), (by decide : 0 + 0 ≤ _)⟩)
 dsimp only [Pt.U, Pt.locs, Pt.cells, Pt.slots] at XV9 lVC yVD zVE stVF hQVB
 subst yVD zVE
 obtain ⟨rfl, NVG, eVH⟩ := hQVB
 have NVJ : Fr n0 LV6 := by rw [lVC]; exact Fr.app NUV NVG
 clear lVC NVG
 have kVK : own_G p e below E0 TV5 (mkF m 317 #[vr a, vd b, ss, vr is, vr ds, vi (0 : Int32), vi (0 : Int32), vd y0, ss, vd FP.dconst0, ss, vr aL6, vd vq, ss, vi (2 : Int32)] [(.ref va), (.ref a)]) := fun tQ kk => kV4 tQ (stVF _ kk)
 clear kV4 stVF
 obtain ⟨TVL, hVM, XVN, eVO, WVP, stVQ⟩ := putF XV9 hx hZ hown (host := "") (Or.inl (tw163 hw)) Via.refl eVH S6 EX (Or.inl (tw164 hw)) (tw2 hw) (ty := (.array .double)) (by decide) rfl rfl (g := (mkF m 317 #[vr a, vd b, ss, vr is, vr ds, vi (0 : Int32), vi (0 : Int32), vd y0, ss, vd FP.dconst0, ss, vr aL6, vd vq, ss, vi (2 : Int32)] [(.ref va), (.ref a)])) rfl rfl (hH p49_3_317)
 have NVR := Fr.snoc XVN NVJ ge_a
 have kVS : own_G p e below E0 TVL (mkF m 320 #[vr a, vd b, ss, vr is, vr ds, vi (0 : Int32), vi (0 : Int32), vd y0, ss, vd FP.dconst0, ss, vr aL6, vd vq, ss, vi (2 : Int32)] []) := fun tQ kk => kVK tQ (stVQ _ kk)
 clear kVK stVQ
 replace EX := EX.wr WVP
 replace S0 := S0.other WVP (Or.inr (sn101 hw))
 replace S1 := S1.other WVP (Or.inr (sn102 hw))
 replace S2 := S2.other WVP (Or.inr (sn103 hw))
 replace S3 := S3.other WVP (Or.inr (sn104 hw))
 replace S4 := S4.other WVP (Or.inr (sn105 hw))
 replace S5 := S5.other WVP (Or.inr (sn106 hw))
 replace S6 := S6.same WVP
 replace S7 := S7.other WVP (Or.inr (sn108 hw))
 replace E1 := E1.wr WVP
 replace L1 := L1.other WVP (Or.inl (fun q => q_a_al q.symm))
 replace L2 := L2.other WVP (Or.inl (fun q => q_a_al q.symm))
 replace AE := AE.other WVP (fun q => q_a_r q.symm)
 replace E3 := E3.wr WVP
 replace L3 := L3.other WVP (Or.inl (fun q => q_a_fa q.symm))
 replace Ca1 := Ca1.wr WVP
 replace Cb1 := Cb1.wr WVP
 replace A4 := A4.other WVP (fun q => q_a_va q.symm)
 replace A5 := A5.other WVP (fun q => q_a_is q.symm)
 replace A6 := A6.other WVP (fun q => q_a_ds q.symm)
 replace FLQ := FLQ.other WVP (Ne.symm nL8)
 replace gPN := gPN.other WVP (Or.inl (fun q => q_a_x0 q.symm))
 replace gPO := gPO.other WVP (Or.inl (fun q => q_a_x0 q.symm))
 replace gPP := gPP.other WVP (Or.inl (fun q => q_a_x0 q.symm))
 replace gPQ := gPQ.other WVP (fun q => q_a_ra q.symm)
 replace gPR := gPR.other WVP (fun q => q_a_sa q.symm)
 replace gRJ := gRJ.other WVP (Or.inl (fun q => q_a_x1 q.symm))
 replace gRK := gRK.other WVP (Or.inl (fun q => q_a_x1 q.symm))
 replace gRL := gRL.other WVP (Or.inl (fun q => q_a_x1 q.symm))
 replace gRM := gRM.other WVP (fun q => q_a_rb q.symm)
 replace gRN := gRN.other WVP (fun q => q_a_sb q.symm)
 replace FT4 := FT4.other WVP (fun q => q_a_ro q.symm)
 replace FUG := FUG.other WVP (fun q => q_a_ba q.symm)
 replace FUX := FUX.other WVP (fun q => q_a_pA q.symm)
 replace Z0 := own_wrle WVP Z0
 replace K0 := K0.wr WVP (Or.inl (List.mem_of_getElem? (i := 0) rfl))
 have kVT : own_G p e below E0 TVL (mkF m 321 #[vr a, vd b, ss, vr is, vr ds, vi (0 : Int32), vi (0 : Int32), vd y0, ss, vd FP.dconst0, ss, vr aL6, vd vq, ss, vi (2 : Int32)] [(.ref a)]) := by
  intro tQ kk
  refine kVS tQ ?_
  refine XS.aloadN XVN.here hx rfl (hH p49_3_320) rfl rfl ?_
  exact kk
 clear kVS
 obtain ⟨TVU, XVV, eVW, stVX⟩ := getF XVN hx hZ hown (host := "") (Or.inl (tw163 hw)) Via.refl eVO S6 (g := (mkF m 321 #[vr a, vd b, ss, vr is, vr ds, vi (0 : Int32), vi (0 : Int32), vd y0, ss, vd FP.dconst0, ss, vr aL6, vd vq, ss, vi (2 : Int32)] [(.ref a)])) rfl rfl (hH p49_3_321)
 have kVY : own_G p e below E0 TVU (mkF m 324 #[vr a, vd b, ss, vr is, vr ds, vi (0 : Int32), vi (0 : Int32), vd y0, ss, vd FP.dconst0, ss, vr aL6, vd vq, ss, vi (2 : Int32)] [(.ref va)]) := fun tQ kk => kVT tQ (stVX _ kk)
 clear kVT stVX
 have kVZ : own_G p e below E0 TVU (mkF m 329 #[vr a, vd b, ss, vr is, vr ds, vi (0 : Int32), vi (0 : Int32), vd y0, ss, vd FP.dconst0, ss, vr aL6, vd vq, ss, vi (2 : Int32)] [(.double vq), (.double FP.dconst0), (.int (0 : Int32)), (.ref va)]) := by
  intro tQ kk
  refine kVY tQ ?_
  refine XS.iload XVV.here hx rfl (hH p49_3_324) rfl ?_
  refine XS.dconst0 XVV.here hx rfl (hH p49_3_326) rfl ?_
  refine XS.dload XVV.here hx rfl (hH p49_3_327) rfl ?_
  exact kk
 clear kVY
 obtain ⟨TW0, XW1, eW2, stW3⟩ := natS XVV hx hZ hown (tw273 hw) (tw274 hw) (tw221 hw) (tw275 hw) (by decide) eVW (W := 2) (fun c4 => Jvm.Free.Fl.Abs.maxD_pays FP.dconst0 vq c4 (by decide) (by decide)) (g := (mkF m 329 #[vr a, vd b, ss, vr is, vr ds, vi (0 : Int32), vi (0 : Int32), vd y0, ss, vd FP.dconst0, ss, vr aL6, vd vq, ss, vi (2 : Int32)] [(.double vq), (.double FP.dconst0), (.int (0 : Int32)), (.ref va)])) rfl (by rw [hml]; rfl) (argsL := [(.double FP.dconst0), (.double vq)]) (rest := [(.int (0 : Int32)), (.ref va)]) (lenOf pd_162 rfl) rfl (by show 2 * 0 + _ ≤ _; exact Nat.le_of_eq rfl) (hH p49_3_329) (by decide) (by decide) ⟨rfl, own_n0, (own_nn Dv)⟩ rfl
 have kW4 : own_G p e below E0 TW0 (mkF m 332 #[vr a, vd b, ss, vr is, vr ds, vi (0 : Int32), vi (0 : Int32), vd y0, ss, vd FP.dconst0, ss, vr aL6, vd vq, ss, vi (2 : Int32)] [(.double (Native.java_lang_Math.nans.pick64 true FP.dconst0 vq)), (.int (0 : Int32)), (.ref va)]) := fun tQ kk => kVZ tQ (stW3 _ kk)
 clear kVZ stW3
 obtain ⟨TW5, hW6, XW7, eW8, WW9, FWA, stWB⟩ := own_A.dst XW1 hx hZ eW2 A4 (j := (0 : Int32)) (by decide) (List.getElem?_eq_getElem (by rw [lv]; decide)) (g := (mkF m 332 #[vr a, vd b, ss, vr is, vr ds, vi (0 : Int32), vi (0 : Int32), vd y0, ss, vd FP.dconst0, ss, vr aL6, vd vq, ss, vi (2 : Int32)] [(.double (Native.java_lang_Math.nans.pick64 true FP.dconst0 vq)), (.int (0 : Int32)), (.ref va)])) rfl rfl (hH p49_3_332)
 have NWC := Fr.snoc XW7 NVR ge_va
 have kWD : own_G p e below E0 TW5 (mkF m 333 #[vr a, vd b, ss, vr is, vr ds, vi (0 : Int32), vi (0 : Int32), vd y0, ss, vd FP.dconst0, ss, vr aL6, vd vq, ss, vi (2 : Int32)] []) := fun tQ kk => kW4 tQ (stWB _ kk)
 clear kW4 stWB
 replace EX := EX.wr WW9
 replace S0 := S0.other WW9 (Or.inl q_a_va)
 replace S1 := S1.other WW9 (Or.inl q_a_va)
 replace S2 := S2.other WW9 (Or.inl q_a_va)
 replace S3 := S3.other WW9 (Or.inl q_a_va)
 replace S4 := S4.other WW9 (Or.inl q_a_va)
 replace S5 := S5.other WW9 (Or.inl q_a_va)
 replace S6 := S6.other WW9 (Or.inl q_a_va)
 replace S7 := S7.other WW9 (Or.inl q_a_va)
 replace E1 := E1.wr WW9
 replace L1 := L1.other WW9 (Or.inl (fun q => q_va_al q.symm))
 replace L2 := L2.other WW9 (Or.inl (fun q => q_va_al q.symm))
 replace AE := AE.other WW9 (fun q => q_va_r q.symm)
 replace E3 := E3.wr WW9
 replace L3 := L3.other WW9 (Or.inl (fun q => q_va_fa q.symm))
 replace Ca1 := Ca1.wr WW9
 replace Cb1 := Cb1.wr WW9
 replace A5 := A5.other WW9 (fun q => q_va_is q.symm)
 replace A6 := A6.other WW9 (fun q => q_va_ds q.symm)
 replace FLQ := FLQ.other WW9 (Ne.symm nLL)
 replace gPN := gPN.other WW9 (Or.inl (fun q => q_va_x0 q.symm))
 replace gPO := gPO.other WW9 (Or.inl (fun q => q_va_x0 q.symm))
 replace gPP := gPP.other WW9 (Or.inl (fun q => q_va_x0 q.symm))
 replace gPQ := gPQ.other WW9 (fun q => q_va_ra q.symm)
 replace gPR := gPR.other WW9 (fun q => q_va_sa q.symm)
 replace gRJ := gRJ.other WW9 (Or.inl (fun q => q_va_x1 q.symm))
 replace gRK := gRK.other WW9 (Or.inl (fun q => q_va_x1 q.symm))
 replace gRL := gRL.other WW9 (Or.inl (fun q => q_va_x1 q.symm))
 replace gRM := gRM.other WW9 (fun q => q_va_rb q.symm)
 replace gRN := gRN.other WW9 (fun q => q_va_sb q.symm)
 replace FT4 := FT4.other WW9 q_ro_va
 replace FUG := FUG.other WW9 q_ba_va
 replace FUX := FUX.other WW9 q_pA_va
 replace Z0 := own_wrle WW9 Z0
 replace K0 := K0.wr WW9 (Or.inl (List.mem_of_getElem? (i := 4) rfl))
 have FWE : own_A Z hW6 va .double (vv.set ((0 : Int32)).toNatClampNeg (.double (Native.java_lang_Math.nans.pick64 true FP.dconst0 vq))) := FWA
 have kWF : own_G p e below E0 TW5 (mkF m 334 #[vr a, vd b, ss, vr is, vr ds, vi (0 : Int32), vi (0 : Int32), vd y0, ss, vd FP.dconst0, ss, vr aL6, vd vq, ss, vi (2 : Int32)] [(.ref a)]) := by
  intro tQ kk
  refine kWD tQ ?_
  refine XS.aloadN XW7.here hx rfl (hH p49_3_333) rfl rfl ?_
  exact kk
 clear kWD
 obtain ⟨TWG, XWH, eWI, stWJ⟩ := getF XW7 hx hZ hown (host := "") (Or.inl (tw161 hw)) Via.refl eW8 S5 (g := (mkF m 334 #[vr a, vd b, ss, vr is, vr ds, vi (0 : Int32), vi (0 : Int32), vd y0, ss, vd FP.dconst0, ss, vr aL6, vd vq, ss, vi (2 : Int32)] [(.ref a)])) rfl rfl (hH p49_3_334)
 have kWK : own_G p e below E0 TWG (mkF m 337 #[vr a, vd b, ss, vr is, vr ds, vi (0 : Int32), vi (0 : Int32), vd y0, ss, vd FP.dconst0, ss, vr aL6, vd vq, ss, vi (2 : Int32)] [(.ref fa)]) := fun tQ kk => kWF tQ (stWJ _ kk)
 clear kWF stWJ
 obtain ⟨cqWW, kqWX, qaWY, qbWZ, qcX0⟩ := isOf hZ eWI E3
 obtain ⟨_, _, ⟨TWL, LWM, kcWN, ncWO⟩, -, XWP, ⟨LcWQ, hQWR, lWS, yWT, zWU⟩, stWV⟩ := XWH.virtualBack hx (y := mn134) (z := mn134) hown (mvT hZ (tw281 hw)) (mvT hZ (tw282 hw)) (notFace_of_selects (args := #[]) (mvT hZ (tw284 hw))) (mvT hZ (tw284 hw)) (mvT hZ (tw283 hw)) (by decide) (backOf (W := 0) (rmBs l Z a0 hw [] fa hW6 n0 Z0 L3) hZ (tw285 hw) (tw48 hw) (by decide) (by decide)) qaWY qcX0 (g := (mkF m 337 #[vr a, vd b, ss, vr is, vr ds, vi (0 : Int32), vi (0 : Int32), vd y0, ss, vd FP.dconst0, ss, vr aL6, vd vq, ss, vi (2 : Int32)] [(.ref fa)])) rfl (by rw [hml]; rfl) (Steps.refl _) (argsL := []) (rest := []) (lenOf pd_153 rfl) rfl (by show 2 * 0 + _ ≤ _; exact Nat.le_of_eq rfl) (hH p49_3_337) (fun _ _ => ⟨rfl, eWI, (by decide : 1 + 0 ≤ _), (by decide : 0 + 0 ≤ _)⟩)
 dsimp only [Pt.U, Pt.locs, Pt.cells, Pt.slots] at XWP lWS yWT zWU stWV hQWR
 subst yWT zWU
 obtain ⟨rfl, NX1, eX2⟩ := hQWR
 have NX4 : Fr n0 LWM := by rw [lWS]; exact Fr.app NWC NX1
 clear lWS NX1
 have kX5 : own_G p e below E0 TWL (mkF m 340 #[vr a, vd b, ss, vr is, vr ds, vi (0 : Int32), vi (0 : Int32), vd y0, ss, vd FP.dconst0, ss, vr aL6, vd vq, ss, vi (2 : Int32)] [(.int (-1 : Int32))]) := fun tQ kk => kWK tQ (stWV.trans kk)
 clear kWK stWV
 have kX6 : own_G p e below E0 TWL (mkF m 358 #[vr a, vd b, ss, vr is, vr ds, vi (0 : Int32), vi (0 : Int32), vd y0, ss, vd FP.dconst0, ss, vr aL6, vd vq, ss, vi (2 : Int32)] [(.ref a), (.ref a)]) := by
  intro tQ kk
  refine kX5 tQ ?_
  refine XS.iload XWP.here hx rfl (hH p49_3_340) rfl ?_
  refine XS.icmpYes XWP.here hx rfl (pc0 := 342) (pc' := 356) rfl (hH p49_3_342) rfl (own_ic_neY (by decide)) (by decide) (by decide) ?_
  refine XS.aloadN XWP.here hx rfl (hH p49_3_356) rfl rfl ?_
  refine XS.dup XWP.here hx rfl (hH p49_3_357) rfl rfl ?_
  exact kk
 clear kX5
 obtain ⟨TX7, XX8, eX9, stXA⟩ := getF XWP hx hZ hown (host := "") (Or.inl (tw238 hw)) Via.refl eX2 S7 (g := (mkF m 358 #[vr a, vd b, ss, vr is, vr ds, vi (0 : Int32), vi (0 : Int32), vd y0, ss, vd FP.dconst0, ss, vr aL6, vd vq, ss, vi (2 : Int32)] [(.ref a), (.ref a)])) rfl rfl (hH p49_3_358)
 have kXB : own_G p e below E0 TX7 (mkF m 361 #[vr a, vd b, ss, vr is, vr ds, vi (0 : Int32), vi (0 : Int32), vd y0, ss, vd FP.dconst0, ss, vr aL6, vd vq, ss, vi (2 : Int32)] [(.int (0 : Int32)), (.ref a)]) := fun tQ kk => kX6 tQ (stXA _ kk)
 clear kX6 stXA
 have kXC : own_G p e below E0 TX7 (mkF m 363 #[vr a, vd b, ss, vr is, vr ds, vi (0 : Int32), vi (0 : Int32), vd y0, ss, vd FP.dconst0, ss, vr aL6, vd vq, ss, vi (2 : Int32)] [(.int (1 : Int32)), (.ref a)]) := by
  intro tQ kk
  refine kXB tQ ?_
  refine XS.iconst XX8.here hx rfl (hH p49_3_361) ?_
  refine XS.iadd XX8.here hx rfl (hH p49_3_362) rfl ?_
  exact kk
 clear kXB
 obtain ⟨TXD, hXE, XXF, eXG, WXH, stXI⟩ := putF XX8 hx hZ hown (host := "") (Or.inl (tw238 hw)) Via.refl eX9 S7 EX (Or.inl (tw239 hw)) (tw2 hw) (ty := .int) (by decide) rfl rfl (g := (mkF m 363 #[vr a, vd b, ss, vr is, vr ds, vi (0 : Int32), vi (0 : Int32), vd y0, ss, vd FP.dconst0, ss, vr aL6, vd vq, ss, vi (2 : Int32)] [(.int (1 : Int32)), (.ref a)])) rfl rfl (hH p49_3_363)
 have NXJ := Fr.snoc XXF NX4 ge_a
 have kXK : own_G p e below E0 TXD (mkF m 366 #[vr a, vd b, ss, vr is, vr ds, vi (0 : Int32), vi (0 : Int32), vd y0, ss, vd FP.dconst0, ss, vr aL6, vd vq, ss, vi (2 : Int32)] []) := fun tQ kk => kXC tQ (stXI _ kk)
 clear kXC stXI
 replace EX := EX.wr WXH
 replace S0 := S0.other WXH (Or.inr (sn164 hw))
 replace S1 := S1.other WXH (Or.inr (sn165 hw))
 replace S2 := S2.other WXH (Or.inr (sn166 hw))
 replace S3 := S3.other WXH (Or.inr (sn167 hw))
 replace S4 := S4.other WXH (Or.inr (sn168 hw))
 replace S5 := S5.other WXH (Or.inr (sn169 hw))
 replace S6 := S6.other WXH (Or.inr (sn170 hw))
 replace S7 := S7.same WXH
 replace E1 := E1.wr WXH
 replace L1 := L1.other WXH (Or.inl (fun q => q_a_al q.symm))
 replace L2 := L2.other WXH (Or.inl (fun q => q_a_al q.symm))
 replace AE := AE.other WXH (fun q => q_a_r q.symm)
 replace E3 := E3.wr WXH
 replace L3 := L3.other WXH (Or.inl (fun q => q_a_fa q.symm))
 replace Ca1 := Ca1.wr WXH
 replace Cb1 := Cb1.wr WXH
 replace A5 := A5.other WXH (fun q => q_a_is q.symm)
 replace A6 := A6.other WXH (fun q => q_a_ds q.symm)
 replace FLQ := FLQ.other WXH (Ne.symm nL8)
 replace gPN := gPN.other WXH (Or.inl (fun q => q_a_x0 q.symm))
 replace gPO := gPO.other WXH (Or.inl (fun q => q_a_x0 q.symm))
 replace gPP := gPP.other WXH (Or.inl (fun q => q_a_x0 q.symm))
 replace gPQ := gPQ.other WXH (fun q => q_a_ra q.symm)
 replace gPR := gPR.other WXH (fun q => q_a_sa q.symm)
 replace gRJ := gRJ.other WXH (Or.inl (fun q => q_a_x1 q.symm))
 replace gRK := gRK.other WXH (Or.inl (fun q => q_a_x1 q.symm))
 replace gRL := gRL.other WXH (Or.inl (fun q => q_a_x1 q.symm))
 replace gRM := gRM.other WXH (fun q => q_a_rb q.symm)
 replace gRN := gRN.other WXH (fun q => q_a_sb q.symm)
 replace FT4 := FT4.other WXH (fun q => q_a_ro q.symm)
 replace FUG := FUG.other WXH (fun q => q_a_ba q.symm)
 replace FUX := FUX.other WXH (fun q => q_a_pA q.symm)
 replace FWE := FWE.other WXH (fun q => q_a_va q.symm)
 replace Z0 := own_wrle WXH Z0
 replace K0 := K0.wr WXH (Or.inl (List.mem_of_getElem? (i := 0) rfl))
 have kXL : own_G p e below E0 TXD (mkF m 368 #[vr a, vd b, ss, vr is, vr ds, vi (0 : Int32), vi (0 : Int32), vd y0, ss, vd FP.dconst0, ss, vr aL6, vd vq, ss, vi (2 : Int32)] [(.int (0 : Int32))]) := by
  intro tQ kk
  refine kXK tQ ?_
  refine XS.iload XXF.here hx rfl (hH p49_3_366) rfl ?_
  exact kk
 clear kXK
 obtain ⟨fs, hr, hrun, hended, hW, hsame⟩ := XXF.leave (v := some (.int (0 : Int32))) (fun h => by rw [Bd.returns] at h; cases h)
 have hrun0 := kXL _ (retOut XXF hx Bd.returns (t := .int) rfl (Or.inl ⟨rfl, Or.inl rfl, _, rfl⟩) (hH p49_3_368) hr)
 subst hE0
 refine ⟨_, _, hrun0, hrun, hended, _, _, rfl, ?_, ⟨_, rfl⟩, hW, hsame.mono (by decide) (by decide)⟩
 show QrmRo0 Z a is ds al cA ro ba pA fa va r x0 x1 x2 ra sa rb sb rv bv pv vv la ma lb mb b y0 y1 q ee h0 n0 _ TXD.heap _
 rw [eXG]
 exact ⟨(Native.java_lang_Math.nans.pick64 true FP.dconst0 vq), rfl, NXJ, K0, S0, S1, S2, S3, S4, S5, S6, S7, FT4, FUG, FUX, FWE, gPN, gPO, gPP, gRJ, gRK, gRL, gPQ, gPR, gRM, gRN, (own_mq Dv hq.1)⟩
def QrmRo1 (Z : State) (a : Addr) (is : Addr) (ds : Addr) (al : Addr) (cA : Addr) (ro : Addr) (ba : Addr) (pA : Addr) (fa : Addr) (va : Addr) (r : Addr) (x0 : Addr) (x1 : Addr) (x2 : Addr) (ra : Addr) (sa : Addr) (rb : Addr) (sb : Addr) (rv : List Value) (bv : List Value) (pv : List Value) (vv : List Value) (la : List Value) (ma : List Value) (lb : List Value) (mb : List Value) (b : UInt64) (y0 : UInt64) (y1 : UInt64) (m0 : UInt64) (aa : Int) (q : Int) (rr : Int) (ee : Int) (h0 : Heap) (n0 : Nat) (vQ : Option Value) (hQ : Heap) (LQ : List Loc) : Prop := ∃ (mq : UInt64), vQ = some (.int (1 : Int32)) ∧ Fr n0 LQ ∧ Keep h0 hQ [a, ro, ba, pA, va, x0, ra, sa, x2, rb, sb] ∧ (fd41 Z hQ a (.ref al)) ∧ (fd42 Z hQ a (.ref cA)) ∧ (fd43 Z hQ a (.ref ro)) ∧ (fd44 Z hQ a (.ref ba)) ∧ (fd45 Z hQ a (.ref pA)) ∧ (fd46 Z hQ a (.ref fa)) ∧ (fd47 Z hQ a (.ref va)) ∧ (fd48 Z hQ a (.int (2 : Int32))) ∧ (own_A Z hQ ro .double (rv.set ((1 : Int32)).toNatClampNeg (.double b))) ∧ (own_A Z hQ ba .int (bv.set ((1 : Int32)).toNatClampNeg (.int (2 : Int32)))) ∧ (own_A Z hQ pA .int (pv.set ((2 : Int32)).toNatClampNeg (.int (1 : Int32)))) ∧ (own_A Z hQ va .double (vv.set ((1 : Int32)).toNatClampNeg (.double mq))) ∧ (fd120 Z hQ x0 (.ref ra)) ∧ (fd121 Z hQ x0 (.ref sa)) ∧ (fd122 Z hQ x0 (.int (((0 : Int32) + (1 : Int32)) + (1 : Int32)))) ∧ (fd120 Z hQ x2 (.ref rb)) ∧ (fd121 Z hQ x2 (.ref sb)) ∧ (fd122 Z hQ x2 (.int ((0 : Int32) + (1 : Int32)))) ∧ (own_A Z hQ ra .int (la.set (((0 : Int32) + (1 : Int32))).toNatClampNeg (.int (1 : Int32)))) ∧ (own_A Z hQ sa .double (ma.set (((0 : Int32) + (1 : Int32))).toNatClampNeg (.double y0))) ∧ (own_A Z hQ rb .int (lb.set ((0 : Int32)).toNatClampNeg (.int (1 : Int32)))) ∧ (own_A Z hQ sb .double (mb.set ((0 : Int32)).toNatClampNeg (.double y1))) ∧ (FP.Core.DInt rr mq)
theorem ef_rmRo1 (m : MethodId) (a : Addr) (is : Addr) (ds : Addr) (al : Addr) (cA : Addr) (ro : Addr) (ba : Addr) (pA : Addr) (fa : Addr) (va : Addr) (r : Addr) (x0 : Addr) (x1 : Addr) (x2 : Addr) (ra : Addr) (sa : Addr) (rb : Addr) (sb : Addr) (rv : List Value) (bv : List Value) (pv : List Value) (vv : List Value) (la : List Value) (ma : List Value) (lb : List Value) (mb : List Value) (b : UInt64) (y0 : UInt64) (y1 : UInt64) (m0 : UInt64) (aa : Int) (q : Int) (rr : Int) (ee : Int) : entryFrame m #[(.ref a), (.double b), (.ref is), (.ref ds), (.int (2 : Int32))] 15 = mkF m 0 #[vr a, vd b, ss, vr is, vr ds, vi (2 : Int32), uu, uu, uu, uu, uu, uu, uu, uu, uu] [] := by first | (simp [entryFrame, mkF, argsToLocals, Value.category]; done) | rfl
theorem p49_3_106 : decode prog_49_method_3_code 106 = .ok (.dload 9, 2) := by decide +kernel
theorem p49_3_108 : decode prog_49_method_3_code 108 = .ok (.aload 4, 2) := by decide +kernel
theorem p49_3_110 : decode prog_49_method_3_code 110 = .ok (.iload 12, 2) := by decide +kernel
theorem p49_3_112 : decode prog_49_method_3_code 112 = .ok (.daload, 1) := by decide +kernel
theorem p49_3_113 : decode prog_49_method_3_code 113 = .ok (.aload_n 0, 1) := by decide +kernel
theorem p49_3_114 : decode prog_49_method_3_code 114 = .ok (.getfield 37, 3) := by decide +kernel
theorem p49_3_117 : decode prog_49_method_3_code 117 = .ok (.aload_n 0, 1) := by decide +kernel
theorem p49_3_118 : decode prog_49_method_3_code 118 = .ok (.getfield 27, 3) := by decide +kernel
theorem p49_3_121 : decode prog_49_method_3_code 121 = .ok (.iload 13, 2) := by decide +kernel
theorem p49_3_123 : decode prog_49_method_3_code 123 = .ok (.iaload, 1) := by decide +kernel
theorem p49_3_124 : decode prog_49_method_3_code 124 = .ok (.daload, 1) := by decide +kernel
theorem p49_3_125 : decode prog_49_method_3_code 125 = .ok (.dmul, 1) := by decide +kernel
theorem p49_3_126 : decode prog_49_method_3_code 126 = .ok (.dadd, 1) := by decide +kernel
theorem p49_3_127 : decode prog_49_method_3_code 127 = .ok (.dstore 9, 2) := by decide +kernel
theorem p49_3_129 : decode prog_49_method_3_code 129 = .ok (.aload 11, 2) := by decide +kernel
theorem p49_3_131 : decode prog_49_method_3_code 131 = .ok (.aload_n 0, 1) := by decide +kernel
theorem p49_3_132 : decode prog_49_method_3_code 132 = .ok (.getfield 27, 3) := by decide +kernel
theorem p49_3_135 : decode prog_49_method_3_code 135 = .ok (.iload 13, 2) := by decide +kernel
theorem p49_3_137 : decode prog_49_method_3_code 137 = .ok (.iaload, 1) := by decide +kernel
theorem p49_3_138 : decode prog_49_method_3_code 138 = .ok (.aload 4, 2) := by decide +kernel
theorem p49_3_140 : decode prog_49_method_3_code 140 = .ok (.iload 12, 2) := by decide +kernel
theorem p49_3_142 : decode prog_49_method_3_code 142 = .ok (.daload, 1) := by decide +kernel
theorem p49_3_143 : decode prog_49_method_3_code 143 = .ok (.dastore, 1) := by decide +kernel
set_option maxRecDepth 65536 in
set_option maxHeartbeats 40000000 in
theorem rmRo1 (l : Launch) (Z : State) (a0 : Array Value) (hw : ∀ d ∈ tables_1, d.before a0 Z = true) (ws : List Jvm.Cond) (a : Addr) (is : Addr) (ds : Addr) (al : Addr) (cA : Addr) (ro : Addr) (ba : Addr) (pA : Addr) (fa : Addr) (va : Addr) (r : Addr) (x0 : Addr) (x1 : Addr) (x2 : Addr) (ra : Addr) (sa : Addr) (rb : Addr) (sb : Addr) (rv : List Value) (bv : List Value) (pv : List Value) (vv : List Value) (la : List Value) (ma : List Value) (lb : List Value) (mb : List Value) (b : UInt64) (y0 : UInt64) (y1 : UInt64) (m0 : UInt64) (aa : Int) (q : Int) (rr : Int) (ee : Int) (h0 : Heap) (n0 : Nat) (Z0 : n0 ≤ h0.size) (EX : xa49 Z h0 a) (S0 : fd41 Z h0 a (.ref al)) (S1 : fd42 Z h0 a (.ref cA)) (S2 : fd43 Z h0 a (.ref ro)) (S3 : fd44 Z h0 a (.ref ba)) (S4 : fd45 Z h0 a (.ref pA)) (S5 : fd46 Z h0 a (.ref fa)) (S6 : fd47 Z h0 a (.ref va)) (S7 : fd48 Z h0 a (.int (1 : Int32))) (E1 : xa32 Z h0 al) (L1 : fd30 Z h0 al (.ref r)) (L2 : fd31 Z h0 al (.int (3 : Int32))) (AE : own_O Z h0 r "java/lang/Object" [(.ref x0), (.ref x1), (.ref x2), .null, .null, .null, .null, .null, .null, .null]) (E3 : xa10 Z h0 fa) (L3 : fd9 Z h0 fa (.int (-1 : Int32))) (Ca1 : xa123 Z h0 x0) (Ca2 : fd120 Z h0 x0 (.ref ra)) (Ca3 : fd121 Z h0 x0 (.ref sa)) (Ca4 : fd122 Z h0 x0 (.int ((0 : Int32) + (1 : Int32)))) (Ca5 : own_A Z h0 ra .int la) (Ca6 : own_A Z h0 sa .double ma) (Cb1 : xa123 Z h0 x2) (Cb2 : fd120 Z h0 x2 (.ref rb)) (Cb3 : fd121 Z h0 x2 (.ref sb)) (Cb4 : fd122 Z h0 x2 (.int (0 : Int32))) (Cb5 : own_A Z h0 rb .int lb) (Cb6 : own_A Z h0 sb .double mb) (A1 : own_A Z h0 ro .double rv) (A2 : own_A Z h0 ba .int bv) (A3 : own_A Z h0 pA .int pv) (A4 : own_A Z h0 va .double vv) (A5 : own_A Z h0 is .int [(.int (0 : Int32)), (.int (2 : Int32))]) (A6 : own_A Z h0 ds .double [(.double y0), (.double y1)]) (q_a_ro : a ≠ ro) (q_a_ba : a ≠ ba) (q_a_pA : a ≠ pA) (q_a_va : a ≠ va) (q_a_x0 : a ≠ x0) (q_a_ra : a ≠ ra) (q_a_sa : a ≠ sa) (q_a_x2 : a ≠ x2) (q_a_rb : a ≠ rb) (q_a_sb : a ≠ sb) (q_a_is : a ≠ is) (q_a_ds : a ≠ ds) (q_a_al : a ≠ al) (q_a_r : a ≠ r) (q_a_fa : a ≠ fa) (q_ro_ba : ro ≠ ba) (q_ro_pA : ro ≠ pA) (q_ro_va : ro ≠ va) (q_ro_x0 : ro ≠ x0) (q_ro_ra : ro ≠ ra) (q_ro_sa : ro ≠ sa) (q_ro_x2 : ro ≠ x2) (q_ro_rb : ro ≠ rb) (q_ro_sb : ro ≠ sb) (q_ro_is : ro ≠ is) (q_ro_ds : ro ≠ ds) (q_ro_al : ro ≠ al) (q_ro_r : ro ≠ r) (q_ro_fa : ro ≠ fa) (q_ba_pA : ba ≠ pA) (q_ba_va : ba ≠ va) (q_ba_x0 : ba ≠ x0) (q_ba_ra : ba ≠ ra) (q_ba_sa : ba ≠ sa) (q_ba_x2 : ba ≠ x2) (q_ba_rb : ba ≠ rb) (q_ba_sb : ba ≠ sb) (q_ba_is : ba ≠ is) (q_ba_ds : ba ≠ ds) (q_ba_al : ba ≠ al) (q_ba_r : ba ≠ r) (q_ba_fa : ba ≠ fa) (q_pA_va : pA ≠ va) (q_pA_x0 : pA ≠ x0) (q_pA_ra : pA ≠ ra) (q_pA_sa : pA ≠ sa) (q_pA_x2 : pA ≠ x2) (q_pA_rb : pA ≠ rb) (q_pA_sb : pA ≠ sb) (q_pA_is : pA ≠ is) (q_pA_ds : pA ≠ ds) (q_pA_al : pA ≠ al) (q_pA_r : pA ≠ r) (q_pA_fa : pA ≠ fa) (q_va_x0 : va ≠ x0) (q_va_ra : va ≠ ra) (q_va_sa : va ≠ sa) (q_va_x2 : va ≠ x2) (q_va_rb : va ≠ rb) (q_va_sb : va ≠ sb) (q_va_is : va ≠ is) (q_va_ds : va ≠ ds) (q_va_al : va ≠ al) (q_va_r : va ≠ r) (q_va_fa : va ≠ fa) (q_x0_ra : x0 ≠ ra) (q_x0_sa : x0 ≠ sa) (q_x0_x2 : x0 ≠ x2) (q_x0_rb : x0 ≠ rb) (q_x0_sb : x0 ≠ sb) (q_x0_is : x0 ≠ is) (q_x0_ds : x0 ≠ ds) (q_x0_al : x0 ≠ al) (q_x0_r : x0 ≠ r) (q_x0_fa : x0 ≠ fa) (q_ra_sa : ra ≠ sa) (q_ra_x2 : ra ≠ x2) (q_ra_rb : ra ≠ rb) (q_ra_sb : ra ≠ sb) (q_ra_is : ra ≠ is) (q_ra_ds : ra ≠ ds) (q_ra_al : ra ≠ al) (q_ra_r : ra ≠ r) (q_ra_fa : ra ≠ fa) (q_sa_x2 : sa ≠ x2) (q_sa_rb : sa ≠ rb) (q_sa_sb : sa ≠ sb) (q_sa_is : sa ≠ is) (q_sa_ds : sa ≠ ds) (q_sa_al : sa ≠ al) (q_sa_r : sa ≠ r) (q_sa_fa : sa ≠ fa) (q_x2_rb : x2 ≠ rb) (q_x2_sb : x2 ≠ sb) (q_x2_is : x2 ≠ is) (q_x2_ds : x2 ≠ ds) (q_x2_al : x2 ≠ al) (q_x2_r : x2 ≠ r) (q_x2_fa : x2 ≠ fa) (q_rb_sb : rb ≠ sb) (q_rb_is : rb ≠ is) (q_rb_ds : rb ≠ ds) (q_rb_al : rb ≠ al) (q_rb_r : rb ≠ r) (q_rb_fa : rb ≠ fa) (q_sb_is : sb ≠ is) (q_sb_ds : sb ≠ ds) (q_sb_al : sb ≠ al) (q_sb_r : sb ≠ r) (q_sb_fa : sb ≠ fa) (ge_a : n0 ≤ a) (ge_ro : n0 ≤ ro) (ge_ba : n0 ≤ ba) (ge_pA : n0 ≤ pA) (ge_va : n0 ≤ va) (ge_x0 : n0 ≤ x0) (ge_ra : n0 ≤ ra) (ge_sa : n0 ≤ sa) (ge_x2 : n0 ≤ x2) (ge_rb : n0 ≤ rb) (ge_sb : n0 ≤ sb) (lr : rv.length = 16) (lbv : bv.length = 16) (lp : pv.length = 16) (lv : vv.length = 16) (la4 : la.length = 4) (ma4 : ma.length = 4) (lb4 : lb.length = 4) (mb4 : mb.length = 4) (hp0 : pv[((0 : Int32)).toNatClampNeg]? = some (.int (0 : Int32))) (hp2 : pv[((2 : Int32)).toNatClampNeg]? = some (.int (-1 : Int32))) (hm : vv[((0 : Int32)).toNatClampNeg]? = some (.double m0)) (Dm : FP.Core.DInt q m0) (Da : FP.Core.DInt aa y0) (Db : FP.Core.DInt (aa * q + rr * ee) b) (De : FP.Core.DInt ee y1) (he : own_e8 ee) (ha : -128 ≤ aa ∧ aa ≤ 127) (hq : 0 ≤ q ∧ q ≤ 65535) (hRr : 0 ≤ rr ∧ rr ≤ 65535) :
  MetFree l mn159 (head1 (Jvm.Cond.code mn159 prog_49_method_3_code 15 (some .int) :: ws) ({ frames := 4, cells := 1, slots := 1, locals := 60 } : Room)) (fun aA U => aA = #[(.ref a), (.double b), (.ref is), (.ref ds), (.int (2 : Int32))] ∧ Z.Warmed39 U.vm ∧ U.heap = h0) (fun _ _ _ _ _ => True) (fun _ U o U' => ∃ vR LR, o = .returned vR ∧ QrmRo1 Z a is ds al cA ro ba pA fa va r x0 x1 x2 ra sa rb sb rv bv pv vv la ma lb mb b y0 y1 m0 aa q rr ee h0 n0 vR U'.heap LR ∧ FrameEnd U o U' LR ({ frames := 4, cells := 1, slots := 1, locals := 60 } : Room).cells ({ frames := 4, cells := 1, slots := 1, locals := 60 } : Room).slots) := by
 refine MetFree.of_bodySF (plainFor_of_name pn_com_example_netloom_netloom_embed_Simplex) hisR ?_
 intro p e s m args below meth c s₁ Bd hml0 hPre hKk
 obtain ⟨rfl, hZ, hh⟩ := hPre
 have hx := Bd.exec
 have hby := Bd.bytes
 have hH : ∀ {pc r}, decode prog_49_method_3_code pc = r → decode c.code pc = r := fun q => hb hby q
 have hml : c.maxLocals = 15 := hml0
 have hown : s.vm.findClass "com/example/netloom/netloom/embed/Simplex" = some m.cls := findClass_of_methodNamed Bd.named
 have hnm := (name_of_methodNamed Bd.named Bd.method).1
 have X0 : Stand p l e ({ frames := 4, cells := 1, slots := 1, locals := 60 } : Room) s m #[(.ref a), (.double b), (.ref is), (.ref ds), (.int (2 : Int32))] below meth c s₁ [] 0 0 := Stand.of_body Bd
 have e0 : s₁.heap = h0 := by rw [← hh, Bd.state]; rfl
 have N0 := Fr.nil n0
 obtain ⟨E0, hE0⟩ : ∃ zE : State, zE = s₁.setTop (entryFrame m #[(.ref a), (.double b), (.ref is), (.ref ds), (.int (2 : Int32))] 15) := ⟨_, rfl⟩
 have k0 : own_G p e below E0 s₁ (mkF m 0 #[vr a, vd b, ss, vr is, vr ds, vi (2 : Int32), uu, uu, uu, uu, uu, uu, uu, uu, uu] []) := fun tz kz => hE0 ▸ castTop (ef_rmRo1 m a is ds al cA ro ba pA fa va r x0 x1 x2 ra sa rb sb rv bv pv vv la ma lb mb b y0 y1 m0 aa q rr ee) kz
 have K0 : Keep h0 h0 [a, ro, ba, pA, va, x0, ra, sa, x2, rb, sb] := Keep.refl _ _
 have kJ0 : own_G p e below E0 s₁ (mkF m 1 #[vr a, vd b, ss, vr is, vr ds, vi (2 : Int32), uu, uu, uu, uu, uu, uu, uu, uu, uu] [(.ref a)]) := by
  intro tQ kk
  refine k0 tQ ?_
  refine XS.aloadN X0.here hx rfl (hH p49_3_0) rfl rfl ?_
  exact kk
 clear k0
 obtain ⟨TJ1, XJ2, eJ3, stJ4⟩ := getF X0 hx hZ hown (host := "") (Or.inl (tw238 hw)) Via.refl e0 S7 (g := (mkF m 1 #[vr a, vd b, ss, vr is, vr ds, vi (2 : Int32), uu, uu, uu, uu, uu, uu, uu, uu, uu] [(.ref a)])) rfl rfl (hH p49_3_1)
 have kJ5 : own_G p e below E0 TJ1 (mkF m 4 #[vr a, vd b, ss, vr is, vr ds, vi (2 : Int32), uu, uu, uu, uu, uu, uu, uu, uu, uu] [(.int (1 : Int32))]) := fun tQ kk => kJ0 tQ (stJ4 _ kk)
 clear kJ0 stJ4
 have kJ6 : own_G p e below E0 TJ1 (mkF m 7 #[vr a, vd b, ss, vr is, vr ds, vi (2 : Int32), vi (1 : Int32), uu, uu, uu, uu, uu, uu, uu, uu] [(.ref a)]) := by
  intro tQ kk
  refine kJ5 tQ ?_
  refine XS.istore XJ2.here hx rfl (hH p49_3_4) rfl (l' := #[vr a, vd b, ss, vr is, vr ds, vi (2 : Int32), vi (1 : Int32), uu, uu, uu, uu, uu, uu, uu, uu]) rfl ?_
  refine XS.aloadN XJ2.here hx rfl (hH p49_3_6) rfl rfl ?_
  exact kk
 clear kJ5
 obtain ⟨TJ7, XJ8, eJ9, stJA⟩ := getF XJ2 hx hZ hown (host := "") (Or.inl (tw44 hw)) Via.refl eJ3 S4 (g := (mkF m 7 #[vr a, vd b, ss, vr is, vr ds, vi (2 : Int32), vi (1 : Int32), uu, uu, uu, uu, uu, uu, uu, uu] [(.ref a)])) rfl rfl (hH p49_3_7)
 have kJB : own_G p e below E0 TJ7 (mkF m 10 #[vr a, vd b, ss, vr is, vr ds, vi (2 : Int32), vi (1 : Int32), uu, uu, uu, uu, uu, uu, uu, uu] [(.ref pA)]) := fun tQ kk => kJ6 tQ (stJA _ kk)
 clear kJ6 stJA
 have kJC : own_G p e below E0 TJ7 (mkF m 12 #[vr a, vd b, ss, vr is, vr ds, vi (2 : Int32), vi (1 : Int32), uu, uu, uu, uu, uu, uu, uu, uu] [(.int (2 : Int32)), (.ref pA)]) := by
  intro tQ kk
  refine kJB tQ ?_
  refine XS.iload XJ8.here hx rfl (hH p49_3_10) rfl ?_
  exact kk
 clear kJB
 have stJD := fun tQ => own_A.ild XJ8 hx hZ eJ9 A3 (j := (2 : Int32)) (v := (.int (-1 : Int32))) (by decide) hp2 (g := (mkF m 12 #[vr a, vd b, ss, vr is, vr ds, vi (2 : Int32), vi (1 : Int32), uu, uu, uu, uu, uu, uu, uu, uu] [(.int (2 : Int32)), (.ref pA)])) rfl rfl (hH p49_3_12) tQ
 have kJE : own_G p e below E0 TJ7 (mkF m 13 #[vr a, vd b, ss, vr is, vr ds, vi (2 : Int32), vi (1 : Int32), uu, uu, uu, uu, uu, uu, uu, uu] [(.int (-1 : Int32))]) := fun tQ kk => kJC tQ (stJD _ kk)
 clear kJC stJD
 have kJF : own_G p e below E0 TJ7 (mkF m 17 #[vr a, vd b, ss, vr is, vr ds, vi (2 : Int32), vi (1 : Int32), uu, uu, uu, uu, uu, uu, uu, uu] [(.ref a)]) := by
  intro tQ kk
  refine kJE tQ ?_
  refine XS.ifNo XJ8.here hx rfl (hH p49_3_13) rfl (own_if_geN (by decide)) ?_
  refine XS.aloadN XJ8.here hx rfl (hH p49_3_16) rfl rfl ?_
  exact kk
 clear kJE
 obtain ⟨TJG, XJH, eJI, stJJ⟩ := getF XJ8 hx hZ hown (host := "") (Or.inl (tw34 hw)) Via.refl eJ9 S0 (g := (mkF m 17 #[vr a, vd b, ss, vr is, vr ds, vi (2 : Int32), vi (1 : Int32), uu, uu, uu, uu, uu, uu, uu, uu] [(.ref a)])) rfl rfl (hH p49_3_17)
 have kJK : own_G p e below E0 TJG (mkF m 20 #[vr a, vd b, ss, vr is, vr ds, vi (2 : Int32), vi (1 : Int32), uu, uu, uu, uu, uu, uu, uu, uu] [(.ref al)]) := fun tQ kk => kJF tQ (stJJ _ kk)
 clear kJF stJJ
 have kJL : own_G p e below E0 TJG (mkF m 22 #[vr a, vd b, ss, vr is, vr ds, vi (2 : Int32), vi (1 : Int32), uu, uu, uu, uu, uu, uu, uu, uu] [(.int (2 : Int32)), (.ref al)]) := by
  intro tQ kk
  refine kJK tQ ?_
  refine XS.iload XJH.here hx rfl (hH p49_3_20) rfl ?_
  exact kk
 clear kJK
 obtain ⟨cqJX, kqJY, qaJZ, qbK0, qcK1⟩ := isOf hZ eJI E1
 obtain ⟨_, _, ⟨TJM, LJN, kcJO, ncJP⟩, -, XJQ, ⟨LcJR, hQJS, lJT, yJU, zJV⟩, stJW⟩ := XJH.interfaceBack hx (xi := mn160) (y := mn150) hown (mvT hZ (tw240 hw)) (mvT hZ (tw241 hw)) (mvT hZ (tw242 hw)) (mvT hZ (tw243 hw)) (mvT hZ (tw244 hw)) (mvT hZ (tw245 hw)) (mvT hZ (tw246 hw)) (mvT hZ (tw179 hw)) (by decide) (backOf (W := 0) (rmGt2 l Z a0 hw [] al r x0 x1 x2 h0 n0 Z0 E1 L1 L2 AE) hZ (tw247 hw) (tw12 hw) (by decide) (by decide)) qaJZ qbK0 qcK1 (g := (mkF m 22 #[vr a, vd b, ss, vr is, vr ds, vi (2 : Int32), vi (1 : Int32), uu, uu, uu, uu, uu, uu, uu, uu] [(.int (2 : Int32)), (.ref al)])) rfl (by rw [hml]; rfl) (Steps.refl _) (argsL := [(.int (2 : Int32))]) (rest := []) (lenOf pd_151 rfl) rfl (by show 2 * 0 + _ ≤ _; exact Nat.le_of_eq rfl) (hH p49_3_22) (fun _ _ => ⟨rfl, eJI, (by decide : 0 + 0 ≤ _), (by decide : 0 + 0 ≤ _)⟩)
 dsimp only [Pt.U, Pt.locs, Pt.cells, Pt.slots] at XJQ lJT yJU zJV stJW hQJS
 subst yJU zJV
 obtain ⟨rfl, NK2, eK3⟩ := hQJS
 have NK5 : Fr n0 LJN := by rw [lJT]; exact Fr.app N0 NK2
 clear lJT NK2
 have kK6 : own_G p e below E0 TJM (mkF m 27 #[vr a, vd b, ss, vr is, vr ds, vi (2 : Int32), vi (1 : Int32), uu, uu, uu, uu, uu, uu, uu, uu] [(.ref x2)]) := fun tQ kk => kJL tQ (stJW.trans kk)
 clear kJL stJW
 obtain ⟨TK7, XK8, eK9, stKA⟩ := castY XJQ hx hZ hown (tw183 hw) eK3 (Ins.of_exa Cb1 (tw261 hw)) (g := (mkF m 27 #[vr a, vd b, ss, vr is, vr ds, vi (2 : Int32), vi (1 : Int32), uu, uu, uu, uu, uu, uu, uu, uu] [(.ref x2)])) rfl rfl (hH p49_3_27)
 have kKB : own_G p e below E0 TK7 (mkF m 30 #[vr a, vd b, ss, vr is, vr ds, vi (2 : Int32), vi (1 : Int32), uu, uu, uu, uu, uu, uu, uu, uu] [(.ref x2)]) := fun tQ kk => kK6 tQ (stKA _ kk)
 clear kK6 stKA
 obtain ⟨cqKN, kqKO, qaKP, qbKQ, qcKR⟩ := isOf hZ eK9 Cb1
 obtain ⟨_, _, ⟨TKC, LKD, kcKE, ncKF⟩, -, XKG, ⟨LcKH, hQKI, lKJ, yKK, zKL⟩, stKM⟩ := XK8.virtualBack hx (y := mn133) (z := mn133) hown (mvT hZ (tw262 hw)) (mvT hZ (tw263 hw)) (notFace_of_selects (args := #[]) (mvT hZ (tw265 hw))) (mvT hZ (tw265 hw)) (mvT hZ (tw264 hw)) (by decide) (backOf (W := 0) (rmSs l Z a0 hw [] x2 (0 : Int32) h0 n0 Z0 Cb4) hZ (tw266 hw) (tw185 hw) (by decide) (by decide)) qaKP qcKR (g := (mkF m 30 #[vr a, vd b, ss, vr is, vr ds, vi (2 : Int32), vi (1 : Int32), uu, uu, uu, uu, uu, uu, uu, uu] [(.ref x2)])) rfl (by rw [hml]; rfl) (Steps.refl _) (argsL := []) (rest := []) (lenOf pd_153 rfl) rfl (by show 2 * 0 + _ ≤ _; exact Nat.le_of_eq rfl) (hH p49_3_30) (fun _ _ => ⟨rfl, eK9, (by decide : 0 + 0 ≤ _), (by decide : 0 + 0 ≤ _)⟩)
 dsimp only [Pt.U, Pt.locs, Pt.cells, Pt.slots] at XKG lKJ yKK zKL stKM hQKI
 subst yKK zKL
 obtain ⟨rfl, NKS, eKT⟩ := hQKI
 have NKV : Fr n0 LKD := by rw [lKJ]; exact Fr.app NK5 NKS
 clear lKJ NKS
 have kKW : own_G p e below E0 TKC (mkF m 33 #[vr a, vd b, ss, vr is, vr ds, vi (2 : Int32), vi (1 : Int32), uu, uu, uu, uu, uu, uu, uu, uu] [(.int (0 : Int32))]) := fun tQ kk => kKB tQ (stKM.trans kk)
 clear kKB stKM
 have kKX : own_G p e below E0 TKC (mkF m 59 #[vr a, vd b, ss, vr is, vr ds, vi (2 : Int32), vi (1 : Int32), vd FP.dconst0, ss, vd FP.dconst0, ss, uu, uu, uu, uu] [(.int (1 : Int32))]) := by
  intro tQ kk
  refine kKW tQ ?_
  refine XS.ifYes XKG.here hx rfl (pc0 := 33) (pc' := 51) rfl (hH p49_3_33) rfl (own_if_leY (by decide)) (by decide) (by decide) ?_
  refine XS.dconst0 XKG.here hx rfl (hH p49_3_51) rfl ?_
  refine XS.dstore XKG.here hx rfl (hH p49_3_52) rfl (l' := #[vr a, vd b, ss, vr is, vr ds, vi (2 : Int32), vi (1 : Int32), vd FP.dconst0, ss, uu, uu, uu, uu, uu, uu]) rfl ?_
  refine XS.dconst0 XKG.here hx rfl (hH p49_3_54) rfl ?_
  refine XS.dstore XKG.here hx rfl (hH p49_3_55) rfl (l' := #[vr a, vd b, ss, vr is, vr ds, vi (2 : Int32), vi (1 : Int32), vd FP.dconst0, ss, vd FP.dconst0, ss, uu, uu, uu, uu]) rfl ?_
  refine XS.iload XKG.here hx rfl (hH p49_3_57) rfl ?_
  exact kk
 clear kKW
 obtain ⟨TKY, hKZ, cAL0, XL1, eL2, EL3, AL4, stL5⟩ := newP (aty := .double) XKG hx hZ (tw36 hw) eKT (g := (mkF m 59 #[vr a, vd b, ss, vr is, vr ds, vi (2 : Int32), vi (1 : Int32), vd FP.dconst0, ss, vd FP.dconst0, ss, uu, uu, uu, uu] [(.int (1 : Int32))])) rfl (hH p49_3_59) rfl (by decide) (cap := 1) (by decide) (by decide) (by decide) (by decide)
 obtain ⟨aL6, gL7⟩ : ∃ zA : Nat, zA = h0.size := ⟨_, rfl⟩
 rw [← gL7] at AL4 stL5
 have nL8 := own_lt_ne EX.lt gL7
 have nL9 := own_lt_ne E1.lt gL7
 have nLA := own_lt_ne AE.lt gL7
 have nLB := own_lt_ne E3.lt gL7
 have nLC := own_lt_ne Ca1.lt gL7
 have nLD := own_lt_ne Ca5.lt gL7
 have nLE := own_lt_ne Ca6.lt gL7
 have nLF := own_lt_ne Cb1.lt gL7
 have nLG := own_lt_ne Cb5.lt gL7
 have nLH := own_lt_ne Cb6.lt gL7
 have nLI := own_lt_ne A1.lt gL7
 have nLJ := own_lt_ne A2.lt gL7
 have nLK := own_lt_ne A3.lt gL7
 have nLL := own_lt_ne A4.lt gL7
 have nLM := own_lt_ne A5.lt gL7
 have nLN := own_lt_ne A6.lt gL7
 have nwLO : h0.size ≤ aL6 := own_ge_of K0.1 gL7
 have geLP : n0 ≤ aL6 := own_ge_of Z0 gL7
 replace Z0 := Nat.le_trans Z0 EL3.1
 replace EX := EX.ext EL3
 replace S0 := S0.ext EL3
 replace S1 := S1.ext EL3
 replace S2 := S2.ext EL3
 replace S3 := S3.ext EL3
 replace S4 := S4.ext EL3
 replace S5 := S5.ext EL3
 replace S6 := S6.ext EL3
 replace S7 := S7.ext EL3
 replace E1 := E1.ext EL3
 replace L1 := L1.ext EL3
 replace L2 := L2.ext EL3
 replace AE := AE.ext EL3
 replace E3 := E3.ext EL3
 replace L3 := L3.ext EL3
 replace Ca1 := Ca1.ext EL3
 replace Ca2 := Ca2.ext EL3
 replace Ca3 := Ca3.ext EL3
 replace Ca4 := Ca4.ext EL3
 replace Ca5 := Ca5.ext EL3
 replace Ca6 := Ca6.ext EL3
 replace Cb1 := Cb1.ext EL3
 replace Cb2 := Cb2.ext EL3
 replace Cb3 := Cb3.ext EL3
 replace Cb4 := Cb4.ext EL3
 replace Cb5 := Cb5.ext EL3
 replace Cb6 := Cb6.ext EL3
 replace A1 := A1.ext EL3
 replace A2 := A2.ext EL3
 replace A3 := A3.ext EL3
 replace A4 := A4.ext EL3
 replace A5 := A5.ext EL3
 replace A6 := A6.ext EL3
 replace K0 := K0.ext EL3
 have FLQ : own_A Z hKZ aL6 .double [(.double (0 : UInt64))] := own_A.new AL4
 have kLR : own_G p e below E0 TKY (mkF m 61 #[vr a, vd b, ss, vr is, vr ds, vi (2 : Int32), vi (1 : Int32), vd FP.dconst0, ss, vd FP.dconst0, ss, uu, uu, uu, uu] [(.ref aL6)]) := fun tQ kk => kKX tQ (stL5 _ kk)
 clear kKX stL5
 have kLS : own_G p e below E0 TKY (mkF m 69 #[vr a, vd b, ss, vr is, vr ds, vi (2 : Int32), vi (1 : Int32), vd FP.dconst0, ss, vd FP.dconst0, ss, vr aL6, vi (0 : Int32), uu, uu] [(.ref is), (.int (0 : Int32))]) := by
  intro tQ kk
  refine kLR tQ ?_
  refine XS.astore XL1.here hx rfl (hH p49_3_61) rfl rfl (l' := #[vr a, vd b, ss, vr is, vr ds, vi (2 : Int32), vi (1 : Int32), vd FP.dconst0, ss, vd FP.dconst0, ss, vr aL6, uu, uu, uu]) rfl ?_
  refine XS.iconst XL1.here hx rfl (hH p49_3_63) ?_
  refine XS.istore XL1.here hx rfl (hH p49_3_64) rfl (l' := #[vr a, vd b, ss, vr is, vr ds, vi (2 : Int32), vi (1 : Int32), vd FP.dconst0, ss, vd FP.dconst0, ss, vr aL6, vi (0 : Int32), uu, uu]) rfl ?_
  refine XS.iload XL1.here hx rfl (hH p49_3_66) rfl ?_
  refine XS.aloadN XL1.here hx rfl (hH p49_3_68) rfl rfl ?_
  exact kk
 clear kLR
 have stLT := fun tQ => own_A.len XL1 hx hZ eL2 A5 (g := (mkF m 69 #[vr a, vd b, ss, vr is, vr ds, vi (2 : Int32), vi (1 : Int32), vd FP.dconst0, ss, vd FP.dconst0, ss, vr aL6, vi (0 : Int32), uu, uu] [(.ref is), (.int (0 : Int32))])) rfl rfl (hH p49_3_69) tQ
 have kLU : own_G p e below E0 TKY (mkF m 70 #[vr a, vd b, ss, vr is, vr ds, vi (2 : Int32), vi (1 : Int32), vd FP.dconst0, ss, vd FP.dconst0, ss, vr aL6, vi (0 : Int32), uu, uu] [(.int (2 : Int32)), (.int (0 : Int32))]) := fun tQ kk => kLS tQ (stLT _ kk)
 clear kLS stLT
 have kLV : own_G p e below E0 TKY (mkF m 76 #[vr a, vd b, ss, vr is, vr ds, vi (2 : Int32), vi (1 : Int32), vd FP.dconst0, ss, vd FP.dconst0, ss, vr aL6, vi (0 : Int32), uu, uu] [(.int (0 : Int32)), (.ref is)]) := by
  intro tQ kk
  refine kLU tQ ?_
  refine XS.icmpNo XL1.here hx rfl (hH p49_3_70) rfl (own_ic_geN (by decide)) ?_
  refine XS.aloadN XL1.here hx rfl (hH p49_3_73) rfl rfl ?_
  refine XS.iload XL1.here hx rfl (hH p49_3_74) rfl ?_
  exact kk
 clear kLU
 have stLW := fun tQ => own_A.ild XL1 hx hZ eL2 A5 (j := (0 : Int32)) (v := (.int (0 : Int32))) (by decide) rfl (g := (mkF m 76 #[vr a, vd b, ss, vr is, vr ds, vi (2 : Int32), vi (1 : Int32), vd FP.dconst0, ss, vd FP.dconst0, ss, vr aL6, vi (0 : Int32), uu, uu] [(.int (0 : Int32)), (.ref is)])) rfl rfl (hH p49_3_76) tQ
 have kLX : own_G p e below E0 TKY (mkF m 77 #[vr a, vd b, ss, vr is, vr ds, vi (2 : Int32), vi (1 : Int32), vd FP.dconst0, ss, vd FP.dconst0, ss, vr aL6, vi (0 : Int32), uu, uu] [(.int (0 : Int32))]) := fun tQ kk => kLV tQ (stLW _ kk)
 clear kLV stLW
 have kLY : own_G p e below E0 TKY (mkF m 97 #[vr a, vd b, ss, vr is, vr ds, vi (2 : Int32), vi (1 : Int32), vd FP.dconst0, ss, vd FP.dconst0, ss, vr aL6, vi (0 : Int32), vi (0 : Int32), uu] [(.ref a)]) := by
  intro tQ kk
  refine kLX tQ ?_
  refine XS.istore XL1.here hx rfl (hH p49_3_77) rfl (l' := #[vr a, vd b, ss, vr is, vr ds, vi (2 : Int32), vi (1 : Int32), vd FP.dconst0, ss, vd FP.dconst0, ss, vr aL6, vi (0 : Int32), vi (0 : Int32), uu]) rfl ?_
  refine XS.iload XL1.here hx rfl (hH p49_3_79) rfl ?_
  refine XS.iload XL1.here hx rfl (hH p49_3_81) rfl ?_
  refine XS.icmpYes XL1.here hx rfl (pc0 := 83) (pc' := 96) rfl (hH p49_3_83) rfl (own_ic_neY (by decide)) (by decide) (by decide) ?_
  refine XS.aloadN XL1.here hx rfl (hH p49_3_96) rfl rfl ?_
  exact kk
 clear kLX
 obtain ⟨TLZ, XM0, eM1, stM2⟩ := getF XL1 hx hZ hown (host := "") (Or.inl (tw44 hw)) Via.refl eL2 S4 (g := (mkF m 97 #[vr a, vd b, ss, vr is, vr ds, vi (2 : Int32), vi (1 : Int32), vd FP.dconst0, ss, vd FP.dconst0, ss, vr aL6, vi (0 : Int32), vi (0 : Int32), uu] [(.ref a)])) rfl rfl (hH p49_3_97)
 have kM3 : own_G p e below E0 TLZ (mkF m 100 #[vr a, vd b, ss, vr is, vr ds, vi (2 : Int32), vi (1 : Int32), vd FP.dconst0, ss, vd FP.dconst0, ss, vr aL6, vi (0 : Int32), vi (0 : Int32), uu] [(.ref pA)]) := fun tQ kk => kLY tQ (stM2 _ kk)
 clear kLY stM2
 have kM4 : own_G p e below E0 TLZ (mkF m 102 #[vr a, vd b, ss, vr is, vr ds, vi (2 : Int32), vi (1 : Int32), vd FP.dconst0, ss, vd FP.dconst0, ss, vr aL6, vi (0 : Int32), vi (0 : Int32), uu] [(.int (0 : Int32)), (.ref pA)]) := by
  intro tQ kk
  refine kM3 tQ ?_
  refine XS.iload XM0.here hx rfl (hH p49_3_100) rfl ?_
  exact kk
 clear kM3
 have stM5 := fun tQ => own_A.ild XM0 hx hZ eM1 A3 (j := (0 : Int32)) (v := (.int (0 : Int32))) (by decide) hp0 (g := (mkF m 102 #[vr a, vd b, ss, vr is, vr ds, vi (2 : Int32), vi (1 : Int32), vd FP.dconst0, ss, vd FP.dconst0, ss, vr aL6, vi (0 : Int32), vi (0 : Int32), uu] [(.int (0 : Int32)), (.ref pA)])) rfl rfl (hH p49_3_102) tQ
 have kM6 : own_G p e below E0 TLZ (mkF m 103 #[vr a, vd b, ss, vr is, vr ds, vi (2 : Int32), vi (1 : Int32), vd FP.dconst0, ss, vd FP.dconst0, ss, vr aL6, vi (0 : Int32), vi (0 : Int32), uu] [(.int (0 : Int32))]) := fun tQ kk => kM4 tQ (stM5 _ kk)
 clear kM4 stM5
 have kM7 : own_G p e below E0 TLZ (mkF m 112 #[vr a, vd b, ss, vr is, vr ds, vi (2 : Int32), vi (1 : Int32), vd FP.dconst0, ss, vd FP.dconst0, ss, vr aL6, vi (0 : Int32), vi (0 : Int32), uu] [(.int (0 : Int32)), (.ref ds), (.double FP.dconst0)]) := by
  intro tQ kk
  refine kM6 tQ ?_
  refine XS.ifNo XM0.here hx rfl (hH p49_3_103) rfl (own_if_ltN (by decide)) ?_
  refine XS.dload XM0.here hx rfl (hH p49_3_106) rfl ?_
  refine XS.aload XM0.here hx rfl (hH p49_3_108) rfl rfl ?_
  refine XS.iload XM0.here hx rfl (hH p49_3_110) rfl ?_
  exact kk
 clear kM6
 have stM8 := fun tQ => own_A.dld XM0 hx hZ eM1 A6 (j := (0 : Int32)) (v := (.double y0)) (by decide) rfl (g := (mkF m 112 #[vr a, vd b, ss, vr is, vr ds, vi (2 : Int32), vi (1 : Int32), vd FP.dconst0, ss, vd FP.dconst0, ss, vr aL6, vi (0 : Int32), vi (0 : Int32), uu] [(.int (0 : Int32)), (.ref ds), (.double FP.dconst0)])) rfl rfl (hH p49_3_112) tQ
 have kM9 : own_G p e below E0 TLZ (mkF m 113 #[vr a, vd b, ss, vr is, vr ds, vi (2 : Int32), vi (1 : Int32), vd FP.dconst0, ss, vd FP.dconst0, ss, vr aL6, vi (0 : Int32), vi (0 : Int32), uu] [(.double y0), (.double FP.dconst0)]) := fun tQ kk => kM7 tQ (stM8 _ kk)
 clear kM7 stM8
 have kMA : own_G p e below E0 TLZ (mkF m 114 #[vr a, vd b, ss, vr is, vr ds, vi (2 : Int32), vi (1 : Int32), vd FP.dconst0, ss, vd FP.dconst0, ss, vr aL6, vi (0 : Int32), vi (0 : Int32), uu] [(.ref a), (.double y0), (.double FP.dconst0)]) := by
  intro tQ kk
  refine kM9 tQ ?_
  refine XS.aloadN XM0.here hx rfl (hH p49_3_113) rfl rfl ?_
  exact kk
 clear kM9
 obtain ⟨TMB, XMC, eMD, stME⟩ := getF XM0 hx hZ hown (host := "") (Or.inl (tw163 hw)) Via.refl eM1 S6 (g := (mkF m 114 #[vr a, vd b, ss, vr is, vr ds, vi (2 : Int32), vi (1 : Int32), vd FP.dconst0, ss, vd FP.dconst0, ss, vr aL6, vi (0 : Int32), vi (0 : Int32), uu] [(.ref a), (.double y0), (.double FP.dconst0)])) rfl rfl (hH p49_3_114)
 have kMF : own_G p e below E0 TMB (mkF m 117 #[vr a, vd b, ss, vr is, vr ds, vi (2 : Int32), vi (1 : Int32), vd FP.dconst0, ss, vd FP.dconst0, ss, vr aL6, vi (0 : Int32), vi (0 : Int32), uu] [(.ref va), (.double y0), (.double FP.dconst0)]) := fun tQ kk => kMA tQ (stME _ kk)
 clear kMA stME
 have kMG : own_G p e below E0 TMB (mkF m 118 #[vr a, vd b, ss, vr is, vr ds, vi (2 : Int32), vi (1 : Int32), vd FP.dconst0, ss, vd FP.dconst0, ss, vr aL6, vi (0 : Int32), vi (0 : Int32), uu] [(.ref a), (.ref va), (.double y0), (.double FP.dconst0)]) := by
  intro tQ kk
  refine kMF tQ ?_
  refine XS.aloadN XMC.here hx rfl (hH p49_3_117) rfl rfl ?_
  exact kk
 clear kMF
 obtain ⟨TMH, XMI, eMJ, stMK⟩ := getF XMC hx hZ hown (host := "") (Or.inl (tw44 hw)) Via.refl eMD S4 (g := (mkF m 118 #[vr a, vd b, ss, vr is, vr ds, vi (2 : Int32), vi (1 : Int32), vd FP.dconst0, ss, vd FP.dconst0, ss, vr aL6, vi (0 : Int32), vi (0 : Int32), uu] [(.ref a), (.ref va), (.double y0), (.double FP.dconst0)])) rfl rfl (hH p49_3_118)
 have kML : own_G p e below E0 TMH (mkF m 121 #[vr a, vd b, ss, vr is, vr ds, vi (2 : Int32), vi (1 : Int32), vd FP.dconst0, ss, vd FP.dconst0, ss, vr aL6, vi (0 : Int32), vi (0 : Int32), uu] [(.ref pA), (.ref va), (.double y0), (.double FP.dconst0)]) := fun tQ kk => kMG tQ (stMK _ kk)
 clear kMG stMK
 have kMM : own_G p e below E0 TMH (mkF m 123 #[vr a, vd b, ss, vr is, vr ds, vi (2 : Int32), vi (1 : Int32), vd FP.dconst0, ss, vd FP.dconst0, ss, vr aL6, vi (0 : Int32), vi (0 : Int32), uu] [(.int (0 : Int32)), (.ref pA), (.ref va), (.double y0), (.double FP.dconst0)]) := by
  intro tQ kk
  refine kML tQ ?_
  refine XS.iload XMI.here hx rfl (hH p49_3_121) rfl ?_
  exact kk
 clear kML
 have stMN := fun tQ => own_A.ild XMI hx hZ eMJ A3 (j := (0 : Int32)) (v := (.int (0 : Int32))) (by decide) hp0 (g := (mkF m 123 #[vr a, vd b, ss, vr is, vr ds, vi (2 : Int32), vi (1 : Int32), vd FP.dconst0, ss, vd FP.dconst0, ss, vr aL6, vi (0 : Int32), vi (0 : Int32), uu] [(.int (0 : Int32)), (.ref pA), (.ref va), (.double y0), (.double FP.dconst0)])) rfl rfl (hH p49_3_123) tQ
 have kMO : own_G p e below E0 TMH (mkF m 124 #[vr a, vd b, ss, vr is, vr ds, vi (2 : Int32), vi (1 : Int32), vd FP.dconst0, ss, vd FP.dconst0, ss, vr aL6, vi (0 : Int32), vi (0 : Int32), uu] [(.int (0 : Int32)), (.ref va), (.double y0), (.double FP.dconst0)]) := fun tQ kk => kMM tQ (stMN _ kk)
 clear kMM stMN
 have stMP := fun tQ => own_A.dld XMI hx hZ eMJ A4 (j := (0 : Int32)) (v := (.double m0)) (by decide) hm (g := (mkF m 124 #[vr a, vd b, ss, vr is, vr ds, vi (2 : Int32), vi (1 : Int32), vd FP.dconst0, ss, vd FP.dconst0, ss, vr aL6, vi (0 : Int32), vi (0 : Int32), uu] [(.int (0 : Int32)), (.ref va), (.double y0), (.double FP.dconst0)])) rfl rfl (hH p49_3_124) tQ
 have kMQ : own_G p e below E0 TMH (mkF m 125 #[vr a, vd b, ss, vr is, vr ds, vi (2 : Int32), vi (1 : Int32), vd FP.dconst0, ss, vd FP.dconst0, ss, vr aL6, vi (0 : Int32), vi (0 : Int32), uu] [(.double m0), (.double y0), (.double FP.dconst0)]) := fun tQ kk => kMO tQ (stMP _ kk)
 clear kMO stMP
 have kMR : own_G p e below E0 TMH (mkF m 132 #[vr a, vd b, ss, vr is, vr ds, vi (2 : Int32), vi (1 : Int32), vd FP.dconst0, ss, vd (FP.dadd FP.dconst0 (FP.dmul y0 m0)), ss, vr aL6, vi (0 : Int32), vi (0 : Int32), uu] [(.ref a), (.ref aL6)]) := by
  intro tQ kk
  refine kMQ tQ ?_
  refine XS.dmulS XMI.here hx rfl (hH p49_3_125) rfl (own_r1 Dm Da Db De he ha hq hRr).1 rfl ?_
  refine XS.daddS XMI.here hx rfl (hH p49_3_126) rfl (own_r1 Dm Da Db De he ha hq hRr).2.1 rfl ?_
  refine XS.dstore XMI.here hx rfl (hH p49_3_127) rfl (l' := #[vr a, vd b, ss, vr is, vr ds, vi (2 : Int32), vi (1 : Int32), vd FP.dconst0, ss, vd (FP.dadd FP.dconst0 (FP.dmul y0 m0)), ss, vr aL6, vi (0 : Int32), vi (0 : Int32), uu]) rfl ?_
  refine XS.aload XMI.here hx rfl (hH p49_3_129) rfl rfl ?_
  refine XS.aloadN XMI.here hx rfl (hH p49_3_131) rfl rfl ?_
  exact kk
 clear kMQ
 obtain ⟨TMS, XMT, eMU, stMV⟩ := getF XMI hx hZ hown (host := "") (Or.inl (tw44 hw)) Via.refl eMJ S4 (g := (mkF m 132 #[vr a, vd b, ss, vr is, vr ds, vi (2 : Int32), vi (1 : Int32), vd FP.dconst0, ss, vd (FP.dadd FP.dconst0 (FP.dmul y0 m0)), ss, vr aL6, vi (0 : Int32), vi (0 : Int32), uu] [(.ref a), (.ref aL6)])) rfl rfl (hH p49_3_132)
 have kMW : own_G p e below E0 TMS (mkF m 135 #[vr a, vd b, ss, vr is, vr ds, vi (2 : Int32), vi (1 : Int32), vd FP.dconst0, ss, vd (FP.dadd FP.dconst0 (FP.dmul y0 m0)), ss, vr aL6, vi (0 : Int32), vi (0 : Int32), uu] [(.ref pA), (.ref aL6)]) := fun tQ kk => kMR tQ (stMV _ kk)
 clear kMR stMV
 have kMX : own_G p e below E0 TMS (mkF m 137 #[vr a, vd b, ss, vr is, vr ds, vi (2 : Int32), vi (1 : Int32), vd FP.dconst0, ss, vd (FP.dadd FP.dconst0 (FP.dmul y0 m0)), ss, vr aL6, vi (0 : Int32), vi (0 : Int32), uu] [(.int (0 : Int32)), (.ref pA), (.ref aL6)]) := by
  intro tQ kk
  refine kMW tQ ?_
  refine XS.iload XMT.here hx rfl (hH p49_3_135) rfl ?_
  exact kk
 clear kMW
 have stMY := fun tQ => own_A.ild XMT hx hZ eMU A3 (j := (0 : Int32)) (v := (.int (0 : Int32))) (by decide) hp0 (g := (mkF m 137 #[vr a, vd b, ss, vr is, vr ds, vi (2 : Int32), vi (1 : Int32), vd FP.dconst0, ss, vd (FP.dadd FP.dconst0 (FP.dmul y0 m0)), ss, vr aL6, vi (0 : Int32), vi (0 : Int32), uu] [(.int (0 : Int32)), (.ref pA), (.ref aL6)])) rfl rfl (hH p49_3_137) tQ
 have kMZ : own_G p e below E0 TMS (mkF m 138 #[vr a, vd b, ss, vr is, vr ds, vi (2 : Int32), vi (1 : Int32), vd FP.dconst0, ss, vd (FP.dadd FP.dconst0 (FP.dmul y0 m0)), ss, vr aL6, vi (0 : Int32), vi (0 : Int32), uu] [(.int (0 : Int32)), (.ref aL6)]) := fun tQ kk => kMX tQ (stMY _ kk)
 clear kMX stMY
 have kN0 : own_G p e below E0 TMS (mkF m 142 #[vr a, vd b, ss, vr is, vr ds, vi (2 : Int32), vi (1 : Int32), vd FP.dconst0, ss, vd (FP.dadd FP.dconst0 (FP.dmul y0 m0)), ss, vr aL6, vi (0 : Int32), vi (0 : Int32), uu] [(.int (0 : Int32)), (.ref ds), (.int (0 : Int32)), (.ref aL6)]) := by
  intro tQ kk
  refine kMZ tQ ?_
  refine XS.aload XMT.here hx rfl (hH p49_3_138) rfl rfl ?_
  refine XS.iload XMT.here hx rfl (hH p49_3_140) rfl ?_
  exact kk
 clear kMZ
 have stN1 := fun tQ => own_A.dld XMT hx hZ eMU A6 (j := (0 : Int32)) (v := (.double y0)) (by decide) rfl (g := (mkF m 142 #[vr a, vd b, ss, vr is, vr ds, vi (2 : Int32), vi (1 : Int32), vd FP.dconst0, ss, vd (FP.dadd FP.dconst0 (FP.dmul y0 m0)), ss, vr aL6, vi (0 : Int32), vi (0 : Int32), uu] [(.int (0 : Int32)), (.ref ds), (.int (0 : Int32)), (.ref aL6)])) rfl rfl (hH p49_3_142) tQ
 have kN2 : own_G p e below E0 TMS (mkF m 143 #[vr a, vd b, ss, vr is, vr ds, vi (2 : Int32), vi (1 : Int32), vd FP.dconst0, ss, vd (FP.dadd FP.dconst0 (FP.dmul y0 m0)), ss, vr aL6, vi (0 : Int32), vi (0 : Int32), uu] [(.double y0), (.int (0 : Int32)), (.ref aL6)]) := fun tQ kk => kN0 tQ (stN1 _ kk)
 clear kN0 stN1
 obtain ⟨TN3, hN4, XN5, eN6, WN7, FN8, stN9⟩ := own_A.dst XMT hx hZ eMU FLQ (j := (0 : Int32)) (by decide) rfl (g := (mkF m 143 #[vr a, vd b, ss, vr is, vr ds, vi (2 : Int32), vi (1 : Int32), vd FP.dconst0, ss, vd (FP.dadd FP.dconst0 (FP.dmul y0 m0)), ss, vr aL6, vi (0 : Int32), vi (0 : Int32), uu] [(.double y0), (.int (0 : Int32)), (.ref aL6)])) rfl rfl (hH p49_3_143)
 have NNA := Fr.snoc XN5 NKV geLP
 have kNB : own_G p e below E0 TN3 (mkF m 144 #[vr a, vd b, ss, vr is, vr ds, vi (2 : Int32), vi (1 : Int32), vd FP.dconst0, ss, vd (FP.dadd FP.dconst0 (FP.dmul y0 m0)), ss, vr aL6, vi (0 : Int32), vi (0 : Int32), uu] []) := fun tQ kk => kN2 tQ (stN9 _ kk)
 clear kN2 stN9
 replace EX := EX.wr WN7
 replace S0 := S0.other WN7 (Or.inl nL8)
 replace S1 := S1.other WN7 (Or.inl nL8)
 replace S2 := S2.other WN7 (Or.inl nL8)
 replace S3 := S3.other WN7 (Or.inl nL8)
 replace S4 := S4.other WN7 (Or.inl nL8)
 replace S5 := S5.other WN7 (Or.inl nL8)
 replace S6 := S6.other WN7 (Or.inl nL8)
 replace S7 := S7.other WN7 (Or.inl nL8)
 replace E1 := E1.wr WN7
 replace L1 := L1.other WN7 (Or.inl nL9)
 replace L2 := L2.other WN7 (Or.inl nL9)
 replace AE := AE.other WN7 nLA
 replace E3 := E3.wr WN7
 replace L3 := L3.other WN7 (Or.inl nLB)
 replace Ca1 := Ca1.wr WN7
 replace Ca2 := Ca2.other WN7 (Or.inl nLC)
 replace Ca3 := Ca3.other WN7 (Or.inl nLC)
 replace Ca4 := Ca4.other WN7 (Or.inl nLC)
 replace Ca5 := Ca5.other WN7 nLD
 replace Ca6 := Ca6.other WN7 nLE
 replace Cb1 := Cb1.wr WN7
 replace Cb2 := Cb2.other WN7 (Or.inl nLF)
 replace Cb3 := Cb3.other WN7 (Or.inl nLF)
 replace Cb4 := Cb4.other WN7 (Or.inl nLF)
 replace Cb5 := Cb5.other WN7 nLG
 replace Cb6 := Cb6.other WN7 nLH
 replace A1 := A1.other WN7 nLI
 replace A2 := A2.other WN7 nLJ
 replace A3 := A3.other WN7 nLK
 replace A4 := A4.other WN7 nLL
 replace A5 := A5.other WN7 nLM
 replace A6 := A6.other WN7 nLN
 replace Z0 := own_wrle WN7 Z0
 replace K0 := K0.wr WN7 (Or.inr nwLO)
 have FNC : own_A Z hN4 aL6 .double [(.double y0)] := FN8
 have kND : own_G p e below E0 TN3 (mkF m 69 #[vr a, vd b, ss, vr is, vr ds, vi (2 : Int32), vi (1 : Int32), vd FP.dconst0, ss, vd (FP.dadd FP.dconst0 (FP.dmul y0 m0)), ss, vr aL6, vi (1 : Int32), vi (0 : Int32), uu] [(.ref is), (.int (1 : Int32))]) := by
  intro tQ kk
  refine kNB tQ ?_
  refine XS.iinc XN5.here hx rfl (hH p49_3_144) rfl (l' := #[vr a, vd b, ss, vr is, vr ds, vi (2 : Int32), vi (1 : Int32), vd FP.dconst0, ss, vd (FP.dadd FP.dconst0 (FP.dmul y0 m0)), ss, vr aL6, vi (1 : Int32), vi (0 : Int32), uu]) rfl ?_
  refine XS.goto XN5.here hx rfl (pc0 := 147) (pc' := 66) rfl (hH p49_3_147) (by decide) (by decide) ?_
  refine XS.iload XN5.here hx rfl (hH p49_3_66) rfl ?_
  refine XS.aloadN XN5.here hx rfl (hH p49_3_68) rfl rfl ?_
  exact kk
 clear kNB
 have stNE := fun tQ => own_A.len XN5 hx hZ eN6 A5 (g := (mkF m 69 #[vr a, vd b, ss, vr is, vr ds, vi (2 : Int32), vi (1 : Int32), vd FP.dconst0, ss, vd (FP.dadd FP.dconst0 (FP.dmul y0 m0)), ss, vr aL6, vi (1 : Int32), vi (0 : Int32), uu] [(.ref is), (.int (1 : Int32))])) rfl rfl (hH p49_3_69) tQ
 have kNF : own_G p e below E0 TN3 (mkF m 70 #[vr a, vd b, ss, vr is, vr ds, vi (2 : Int32), vi (1 : Int32), vd FP.dconst0, ss, vd (FP.dadd FP.dconst0 (FP.dmul y0 m0)), ss, vr aL6, vi (1 : Int32), vi (0 : Int32), uu] [(.int (2 : Int32)), (.int (1 : Int32))]) := fun tQ kk => kND tQ (stNE _ kk)
 clear kND stNE
 have kNG : own_G p e below E0 TN3 (mkF m 76 #[vr a, vd b, ss, vr is, vr ds, vi (2 : Int32), vi (1 : Int32), vd FP.dconst0, ss, vd (FP.dadd FP.dconst0 (FP.dmul y0 m0)), ss, vr aL6, vi (1 : Int32), vi (0 : Int32), uu] [(.int (1 : Int32)), (.ref is)]) := by
  intro tQ kk
  refine kNF tQ ?_
  refine XS.icmpNo XN5.here hx rfl (hH p49_3_70) rfl (own_ic_geN (by decide)) ?_
  refine XS.aloadN XN5.here hx rfl (hH p49_3_73) rfl rfl ?_
  refine XS.iload XN5.here hx rfl (hH p49_3_74) rfl ?_
  exact kk
 clear kNF
 have stNH := fun tQ => own_A.ild XN5 hx hZ eN6 A5 (j := (1 : Int32)) (v := (.int (2 : Int32))) (by decide) rfl (g := (mkF m 76 #[vr a, vd b, ss, vr is, vr ds, vi (2 : Int32), vi (1 : Int32), vd FP.dconst0, ss, vd (FP.dadd FP.dconst0 (FP.dmul y0 m0)), ss, vr aL6, vi (1 : Int32), vi (0 : Int32), uu] [(.int (1 : Int32)), (.ref is)])) rfl rfl (hH p49_3_76) tQ
 have kNI : own_G p e below E0 TN3 (mkF m 77 #[vr a, vd b, ss, vr is, vr ds, vi (2 : Int32), vi (1 : Int32), vd FP.dconst0, ss, vd (FP.dadd FP.dconst0 (FP.dmul y0 m0)), ss, vr aL6, vi (1 : Int32), vi (0 : Int32), uu] [(.int (2 : Int32))]) := fun tQ kk => kNG tQ (stNH _ kk)
 clear kNG stNH
 have kNJ : own_G p e below E0 TN3 (mkF m 90 #[vr a, vd b, ss, vr is, vr ds, vi (2 : Int32), vi (1 : Int32), vd FP.dconst0, ss, vd (FP.dadd FP.dconst0 (FP.dmul y0 m0)), ss, vr aL6, vi (1 : Int32), vi (2 : Int32), uu] [(.int (1 : Int32)), (.ref ds)]) := by
  intro tQ kk
  refine kNI tQ ?_
  refine XS.istore XN5.here hx rfl (hH p49_3_77) rfl (l' := #[vr a, vd b, ss, vr is, vr ds, vi (2 : Int32), vi (1 : Int32), vd FP.dconst0, ss, vd (FP.dadd FP.dconst0 (FP.dmul y0 m0)), ss, vr aL6, vi (1 : Int32), vi (2 : Int32), uu]) rfl ?_
  refine XS.iload XN5.here hx rfl (hH p49_3_79) rfl ?_
  refine XS.iload XN5.here hx rfl (hH p49_3_81) rfl ?_
  refine XS.icmpNo XN5.here hx rfl (hH p49_3_83) rfl (own_ic_neN (by decide)) ?_
  refine XS.aload XN5.here hx rfl (hH p49_3_86) rfl rfl ?_
  refine XS.iload XN5.here hx rfl (hH p49_3_88) rfl ?_
  exact kk
 clear kNI
 have stNK := fun tQ => own_A.dld XN5 hx hZ eN6 A6 (j := (1 : Int32)) (v := (.double y1)) (by decide) rfl (g := (mkF m 90 #[vr a, vd b, ss, vr is, vr ds, vi (2 : Int32), vi (1 : Int32), vd FP.dconst0, ss, vd (FP.dadd FP.dconst0 (FP.dmul y0 m0)), ss, vr aL6, vi (1 : Int32), vi (2 : Int32), uu] [(.int (1 : Int32)), (.ref ds)])) rfl rfl (hH p49_3_90) tQ
 have kNL : own_G p e below E0 TN3 (mkF m 91 #[vr a, vd b, ss, vr is, vr ds, vi (2 : Int32), vi (1 : Int32), vd FP.dconst0, ss, vd (FP.dadd FP.dconst0 (FP.dmul y0 m0)), ss, vr aL6, vi (1 : Int32), vi (2 : Int32), uu] [(.double y1)]) := fun tQ kk => kNJ tQ (stNK _ kk)
 clear kNJ stNK
 have kNM : own_G p e below E0 TN3 (mkF m 69 #[vr a, vd b, ss, vr is, vr ds, vi (2 : Int32), vi (1 : Int32), vd y1, ss, vd (FP.dadd FP.dconst0 (FP.dmul y0 m0)), ss, vr aL6, vi (2 : Int32), vi (2 : Int32), uu] [(.ref is), (.int (2 : Int32))]) := by
  intro tQ kk
  refine kNL tQ ?_
  refine XS.dstore XN5.here hx rfl (hH p49_3_91) rfl (l' := #[vr a, vd b, ss, vr is, vr ds, vi (2 : Int32), vi (1 : Int32), vd y1, ss, vd (FP.dadd FP.dconst0 (FP.dmul y0 m0)), ss, vr aL6, vi (1 : Int32), vi (2 : Int32), uu]) rfl ?_
  refine XS.goto XN5.here hx rfl (pc0 := 93) (pc' := 144) rfl (hH p49_3_93) (by decide) (by decide) ?_
  refine XS.iinc XN5.here hx rfl (hH p49_3_144) rfl (l' := #[vr a, vd b, ss, vr is, vr ds, vi (2 : Int32), vi (1 : Int32), vd y1, ss, vd (FP.dadd FP.dconst0 (FP.dmul y0 m0)), ss, vr aL6, vi (2 : Int32), vi (2 : Int32), uu]) rfl ?_
  refine XS.goto XN5.here hx rfl (pc0 := 147) (pc' := 66) rfl (hH p49_3_147) (by decide) (by decide) ?_
  refine XS.iload XN5.here hx rfl (hH p49_3_66) rfl ?_
  refine XS.aloadN XN5.here hx rfl (hH p49_3_68) rfl rfl ?_
  exact kk
 clear kNL
 have stNN := fun tQ => own_A.len XN5 hx hZ eN6 A5 (g := (mkF m 69 #[vr a, vd b, ss, vr is, vr ds, vi (2 : Int32), vi (1 : Int32), vd y1, ss, vd (FP.dadd FP.dconst0 (FP.dmul y0 m0)), ss, vr aL6, vi (2 : Int32), vi (2 : Int32), uu] [(.ref is), (.int (2 : Int32))])) rfl rfl (hH p49_3_69) tQ
 have kNO : own_G p e below E0 TN3 (mkF m 70 #[vr a, vd b, ss, vr is, vr ds, vi (2 : Int32), vi (1 : Int32), vd y1, ss, vd (FP.dadd FP.dconst0 (FP.dmul y0 m0)), ss, vr aL6, vi (2 : Int32), vi (2 : Int32), uu] [(.int (2 : Int32)), (.int (2 : Int32))]) := fun tQ kk => kNM tQ (stNN _ kk)
 clear kNM stNN
 have kNP : own_G p e below E0 TN3 (mkF m 169 #[vr a, vd b, ss, vr is, vr ds, vi (2 : Int32), vi (1 : Int32), vd y1, ss, vd (FP.dadd FP.dconst0 (FP.dmul y0 m0)), ss, vr aL6, vi (2 : Int32), vi (2 : Int32), uu] [(.double y1), (.double (FP.dsub b (FP.dadd FP.dconst0 (FP.dmul y0 m0))))]) := by
  intro tQ kk
  refine kNO tQ ?_
  refine XS.icmpYes XN5.here hx rfl (pc0 := 70) (pc' := 150) rfl (hH p49_3_70) rfl (own_ic_geY (by decide)) (by decide) (by decide) ?_
  refine XS.dload XN5.here hx rfl (hH p49_3_150) rfl ?_
  refine XS.dconst0 XN5.here hx rfl (hH p49_3_152) rfl ?_
  refine XS.dcmpS (v := (own_c (own_z y1) (own_z FP.dconst0))) XN5.here hx rfl (hH p49_3_153) rfl (own_cE .l (own_cmpz (own_nn De) own_n0)) ?_
  refine XS.ifYes XN5.here hx rfl (pc0 := 154) (pc' := 163) rfl (hH p49_3_154) rfl (own_c_neY (own_nz0 De he)) (by decide) (by decide) ?_
  refine XS.dloadN XN5.here hx rfl (hH p49_3_163) rfl ?_
  refine XS.dload XN5.here hx rfl (hH p49_3_164) rfl ?_
  refine XS.dsubS XN5.here hx rfl (hH p49_3_166) rfl (own_r1 Dm Da Db De he ha hq hRr).2.2.1 rfl ?_
  show Steps p.tables e below (TN3.setTop (mkF m 167 #[vr a, vd b, ss, vr is, vr ds, vi (2 : Int32), vi (1 : Int32), vd y1, ss, vd (FP.dadd FP.dconst0 (FP.dmul y0 m0)), ss, vr aL6, vi (2 : Int32), vi (2 : Int32), uu] [(.double (FP.dsub b (FP.dadd FP.dconst0 (FP.dmul y0 m0))))])) tQ
  refine XS.dload XN5.here hx rfl (hH p49_3_167) rfl ?_
  exact kk
 clear kNO
 obtain ⟨vq, hvq⟩ : ∃ vA, FP.ddiv (FP.dsub b (FP.dadd FP.dconst0 (FP.dmul y0 m0))) y1 = vA := ⟨_, rfl⟩
 have Dv : FP.Core.DInt rr vq := hvq ▸ (own_r1 Dm Da Db De he ha hq hRr).2.2.2
 have kNQ : own_G p e below E0 TN3 (mkF m 174 #[vr a, vd b, ss, vr is, vr ds, vi (2 : Int32), vi (1 : Int32), vd y1, ss, vd (FP.dadd FP.dconst0 (FP.dmul y0 m0)), ss, vr aL6, vd vq, ss, uu] [(.double vq)]) := by
  intro tQ kk
  refine kNP tQ ?_
  refine XS.ddivS XN5.here hx rfl (hH p49_3_169) rfl (own_nn (own_r1 Dm Da Db De he ha hq hRr).2.2.2) hvq ?_
  refine XS.dstore XN5.here hx rfl (hH p49_3_170) rfl (l' := #[vr a, vd b, ss, vr is, vr ds, vi (2 : Int32), vi (1 : Int32), vd y1, ss, vd (FP.dadd FP.dconst0 (FP.dmul y0 m0)), ss, vr aL6, vd vq, ss, uu]) rfl ?_
  refine XS.dload XN5.here hx rfl (hH p49_3_172) rfl ?_
  exact kk
 clear kNP
 have stNR := XN5.ldc2DoubleC hx hown (mvT hZ (tw269 hw)) (g := (mkF m 174 #[vr a, vd b, ss, vr is, vr ds, vi (2 : Int32), vi (1 : Int32), vd y1, ss, vd (FP.dadd FP.dconst0 (FP.dmul y0 m0)), ss, vr aL6, vd vq, ss, uu] [(.double vq)])) rfl (hH p49_3_174)
 have kNS : own_G p e below E0 TN3 (mkF m 177 #[vr a, vd b, ss, vr is, vr ds, vi (2 : Int32), vi (1 : Int32), vd y1, ss, vd (FP.dadd FP.dconst0 (FP.dmul y0 m0)), ss, vr aL6, vd vq, ss, uu] [(.double (13695778570484766357 : UInt64)), (.double vq)]) := fun tQ kk => kNQ tQ (stNR _ kk)
 clear kNQ stNR
 have kNT : own_G p e below E0 TN3 (mkF m 179 #[vr a, vd b, ss, vr is, vr ds, vi (2 : Int32), vi (1 : Int32), vd y1, ss, vd (FP.dadd FP.dconst0 (FP.dmul y0 m0)), ss, vr aL6, vd vq, ss, uu] [(.double b), (.double FP.dconst1), (.double (13695778570484766357 : UInt64)), (.double vq)]) := by
  intro tQ kk
  refine kNS tQ ?_
  refine XS.dconst1 XN5.here hx rfl (hH p49_3_177) rfl ?_
  refine XS.dloadN XN5.here hx rfl (hH p49_3_178) rfl ?_
  exact kk
 clear kNS
 obtain ⟨TNU, XNV, eNW, stNX⟩ := natS XN5 hx hZ hown (tw270 hw) (tw271 hw) (tw221 hw) (tw272 hw) (by decide) eN6 (W := 6) (fun c4 => Jvm.Free.Fl.Abs.absD_pays b c4 (by decide) (by decide)) (g := (mkF m 179 #[vr a, vd b, ss, vr is, vr ds, vi (2 : Int32), vi (1 : Int32), vd y1, ss, vd (FP.dadd FP.dconst0 (FP.dmul y0 m0)), ss, vr aL6, vd vq, ss, uu] [(.double b), (.double FP.dconst1), (.double (13695778570484766357 : UInt64)), (.double vq)])) rfl (by rw [hml]; rfl) (argsL := [(.double b)]) (rest := [(.double FP.dconst1), (.double (13695778570484766357 : UInt64)), (.double vq)]) (lenOf pd_161 rfl) rfl (by show 2 * 0 + _ ≤ _; exact Nat.le_of_eq rfl) (hH p49_3_179) (by decide) (by decide) ⟨rfl, (own_fini Db).noNaN⟩ rfl
 have kNY : own_G p e below E0 TNU (mkF m 182 #[vr a, vd b, ss, vr is, vr ds, vi (2 : Int32), vi (1 : Int32), vd y1, ss, vd (FP.dadd FP.dconst0 (FP.dmul y0 m0)), ss, vr aL6, vd vq, ss, uu] [(.double (b &&& 0x7fffffffffffffff)), (.double FP.dconst1), (.double (13695778570484766357 : UInt64)), (.double vq)]) := fun tQ kk => kNT tQ (stNX _ kk)
 clear kNT stNX
 obtain ⟨TNZ, XP0, eP1, stP2⟩ := natS XNV hx hZ hown (tw273 hw) (tw274 hw) (tw221 hw) (tw275 hw) (by decide) eNW (W := 4) (fun c4 => Jvm.Free.Fl.Abs.maxD_pays FP.dconst1 (b &&& 0x7fffffffffffffff) c4 (by decide) (by decide)) (g := (mkF m 182 #[vr a, vd b, ss, vr is, vr ds, vi (2 : Int32), vi (1 : Int32), vd y1, ss, vd (FP.dadd FP.dconst0 (FP.dmul y0 m0)), ss, vr aL6, vd vq, ss, uu] [(.double (b &&& 0x7fffffffffffffff)), (.double FP.dconst1), (.double (13695778570484766357 : UInt64)), (.double vq)])) rfl (by rw [hml]; rfl) (argsL := [(.double FP.dconst1), (.double (b &&& 0x7fffffffffffffff))]) (rest := [(.double (13695778570484766357 : UInt64)), (.double vq)]) (lenOf pd_162 rfl) rfl (by show 2 * 0 + _ ≤ _; exact Nat.le_of_eq rfl) (hH p49_3_182) (by decide) (by decide) ⟨rfl, own_n1, (own_absn (own_fini Db))⟩ rfl
 have kP3 : own_G p e below E0 TNZ (mkF m 185 #[vr a, vd b, ss, vr is, vr ds, vi (2 : Int32), vi (1 : Int32), vd y1, ss, vd (FP.dadd FP.dconst0 (FP.dmul y0 m0)), ss, vr aL6, vd vq, ss, uu] [(.double (Native.java_lang_Math.nans.pick64 true FP.dconst1 (b &&& 0x7fffffffffffffff))), (.double (13695778570484766357 : UInt64)), (.double vq)]) := fun tQ kk => kNY tQ (stP2 _ kk)
 clear kNY stP2
 have kP4 : own_G p e below E0 TNZ (mkF m 213 #[vr a, vd b, ss, vr is, vr ds, vi (2 : Int32), vi (1 : Int32), vd y1, ss, vd (FP.dadd FP.dconst0 (FP.dmul y0 m0)), ss, vr aL6, vd vq, ss, vi (0 : Int32)] [(.ref is), (.int (0 : Int32))]) := by
  intro tQ kk
  refine kP3 tQ ?_
  refine XS.dmulS XP0.here hx rfl (hH p49_3_185) rfl (own_chk Dv hRr.1 (own_fini Db)).1 rfl ?_
  refine XS.dcmpS (v := (own_c (own_z vq) (own_z (FP.dmul (13695778570484766357 : UInt64) (Native.java_lang_Math.nans.pick64 true FP.dconst1 (b &&& 0x7fffffffffffffff)))))) XP0.here hx rfl (hH p49_3_186) rfl (own_cE .l (own_cmpz (own_nn Dv) (own_chk Dv hRr.1 (own_fini Db)).1)) ?_
  refine XS.ifYes XP0.here hx rfl (pc0 := 187) (pc' := 207) rfl (hH p49_3_187) rfl (own_c_geY (own_chk Dv hRr.1 (own_fini Db)).2) (by decide) (by decide) ?_
  refine XS.iconst XP0.here hx rfl (hH p49_3_207) ?_
  refine XS.istore XP0.here hx rfl (hH p49_3_208) rfl (l' := #[vr a, vd b, ss, vr is, vr ds, vi (2 : Int32), vi (1 : Int32), vd y1, ss, vd (FP.dadd FP.dconst0 (FP.dmul y0 m0)), ss, vr aL6, vd vq, ss, vi (0 : Int32)]) rfl ?_
  refine XS.iload XP0.here hx rfl (hH p49_3_210) rfl ?_
  refine XS.aloadN XP0.here hx rfl (hH p49_3_212) rfl rfl ?_
  exact kk
 clear kP3
 have stP5 := fun tQ => own_A.len XP0 hx hZ eP1 A5 (g := (mkF m 213 #[vr a, vd b, ss, vr is, vr ds, vi (2 : Int32), vi (1 : Int32), vd y1, ss, vd (FP.dadd FP.dconst0 (FP.dmul y0 m0)), ss, vr aL6, vd vq, ss, vi (0 : Int32)] [(.ref is), (.int (0 : Int32))])) rfl rfl (hH p49_3_213) tQ
 have kP6 : own_G p e below E0 TNZ (mkF m 214 #[vr a, vd b, ss, vr is, vr ds, vi (2 : Int32), vi (1 : Int32), vd y1, ss, vd (FP.dadd FP.dconst0 (FP.dmul y0 m0)), ss, vr aL6, vd vq, ss, vi (0 : Int32)] [(.int (2 : Int32)), (.int (0 : Int32))]) := fun tQ kk => kP4 tQ (stP5 _ kk)
 clear kP4 stP5
 have kP7 : own_G p e below E0 TNZ (mkF m 218 #[vr a, vd b, ss, vr is, vr ds, vi (2 : Int32), vi (1 : Int32), vd y1, ss, vd (FP.dadd FP.dconst0 (FP.dmul y0 m0)), ss, vr aL6, vd vq, ss, vi (0 : Int32)] [(.ref a)]) := by
  intro tQ kk
  refine kP6 tQ ?_
  refine XS.icmpNo XP0.here hx rfl (hH p49_3_214) rfl (own_ic_geN (by decide)) ?_
  refine XS.aloadN XP0.here hx rfl (hH p49_3_217) rfl rfl ?_
  exact kk
 clear kP6
 obtain ⟨TP8, XP9, ePA, stPB⟩ := getF XP0 hx hZ hown (host := "") (Or.inl (tw34 hw)) Via.refl eP1 S0 (g := (mkF m 218 #[vr a, vd b, ss, vr is, vr ds, vi (2 : Int32), vi (1 : Int32), vd y1, ss, vd (FP.dadd FP.dconst0 (FP.dmul y0 m0)), ss, vr aL6, vd vq, ss, vi (0 : Int32)] [(.ref a)])) rfl rfl (hH p49_3_218)
 have kPC : own_G p e below E0 TP8 (mkF m 221 #[vr a, vd b, ss, vr is, vr ds, vi (2 : Int32), vi (1 : Int32), vd y1, ss, vd (FP.dadd FP.dconst0 (FP.dmul y0 m0)), ss, vr aL6, vd vq, ss, vi (0 : Int32)] [(.ref al)]) := fun tQ kk => kP7 tQ (stPB _ kk)
 clear kP7 stPB
 have kPD : own_G p e below E0 TP8 (mkF m 224 #[vr a, vd b, ss, vr is, vr ds, vi (2 : Int32), vi (1 : Int32), vd y1, ss, vd (FP.dadd FP.dconst0 (FP.dmul y0 m0)), ss, vr aL6, vd vq, ss, vi (0 : Int32)] [(.int (0 : Int32)), (.ref is), (.ref al)]) := by
  intro tQ kk
  refine kPC tQ ?_
  refine XS.aloadN XP9.here hx rfl (hH p49_3_221) rfl rfl ?_
  refine XS.iload XP9.here hx rfl (hH p49_3_222) rfl ?_
  exact kk
 clear kPC
 have stPE := fun tQ => own_A.ild XP9 hx hZ ePA A5 (j := (0 : Int32)) (v := (.int (0 : Int32))) (by decide) rfl (g := (mkF m 224 #[vr a, vd b, ss, vr is, vr ds, vi (2 : Int32), vi (1 : Int32), vd y1, ss, vd (FP.dadd FP.dconst0 (FP.dmul y0 m0)), ss, vr aL6, vd vq, ss, vi (0 : Int32)] [(.int (0 : Int32)), (.ref is), (.ref al)])) rfl rfl (hH p49_3_224) tQ
 have kPF : own_G p e below E0 TP8 (mkF m 225 #[vr a, vd b, ss, vr is, vr ds, vi (2 : Int32), vi (1 : Int32), vd y1, ss, vd (FP.dadd FP.dconst0 (FP.dmul y0 m0)), ss, vr aL6, vd vq, ss, vi (0 : Int32)] [(.int (0 : Int32)), (.ref al)]) := fun tQ kk => kPD tQ (stPE _ kk)
 clear kPD stPE
 obtain ⟨cqPR, kqPS, qaPT, qbPU, qcPV⟩ := isOf hZ ePA E1
 obtain ⟨_, _, ⟨TPG, LPH, kcPI, ncPJ⟩, -, XPK, ⟨LcPL, hQPM, lPN, yPO, zPP⟩, stPQ⟩ := XP9.interfaceBack hx (xi := mn160) (y := mn150) hown (mvT hZ (tw240 hw)) (mvT hZ (tw241 hw)) (mvT hZ (tw242 hw)) (mvT hZ (tw243 hw)) (mvT hZ (tw244 hw)) (mvT hZ (tw245 hw)) (mvT hZ (tw246 hw)) (mvT hZ (tw179 hw)) (by decide) (backOf (W := 0) (rmGt0 l Z a0 hw [] al r x0 x1 x2 hN4 n0 Z0 E1 L1 L2 AE) hZ (tw247 hw) (tw12 hw) (by decide) (by decide)) qaPT qbPU qcPV (g := (mkF m 225 #[vr a, vd b, ss, vr is, vr ds, vi (2 : Int32), vi (1 : Int32), vd y1, ss, vd (FP.dadd FP.dconst0 (FP.dmul y0 m0)), ss, vr aL6, vd vq, ss, vi (0 : Int32)] [(.int (0 : Int32)), (.ref al)])) rfl (by rw [hml]; rfl) (Steps.refl _) (argsL := [(.int (0 : Int32))]) (rest := []) (lenOf pd_151 rfl) rfl (by show 2 * 0 + _ ≤ _; exact Nat.le_of_eq rfl) (hH p49_3_225) (fun _ _ => ⟨rfl, ePA, (by decide : 1 + 0 ≤ _), (by decide : 1 + 0 ≤ _)⟩)
 dsimp only [Pt.U, Pt.locs, Pt.cells, Pt.slots] at XPK lPN yPO zPP stPQ hQPM
 subst yPO zPP
 obtain ⟨rfl, NPW, ePX⟩ := hQPM
 have NPZ : Fr n0 LPH := by rw [lPN]; exact Fr.app NNA NPW
 clear lPN NPW
 have kQ0 : own_G p e below E0 TPG (mkF m 230 #[vr a, vd b, ss, vr is, vr ds, vi (2 : Int32), vi (1 : Int32), vd y1, ss, vd (FP.dadd FP.dconst0 (FP.dmul y0 m0)), ss, vr aL6, vd vq, ss, vi (0 : Int32)] [(.ref x0)]) := fun tQ kk => kPF tQ (stPQ.trans kk)
 clear kPF stPQ
 obtain ⟨TQ1, XQ2, eQ3, stQ4⟩ := castY XPK hx hZ hown (tw183 hw) ePX (Ins.of_exa Ca1 (tw261 hw)) (g := (mkF m 230 #[vr a, vd b, ss, vr is, vr ds, vi (2 : Int32), vi (1 : Int32), vd y1, ss, vd (FP.dadd FP.dconst0 (FP.dmul y0 m0)), ss, vr aL6, vd vq, ss, vi (0 : Int32)] [(.ref x0)])) rfl rfl (hH p49_3_230)
 have kQ5 : own_G p e below E0 TQ1 (mkF m 233 #[vr a, vd b, ss, vr is, vr ds, vi (2 : Int32), vi (1 : Int32), vd y1, ss, vd (FP.dadd FP.dconst0 (FP.dmul y0 m0)), ss, vr aL6, vd vq, ss, vi (0 : Int32)] [(.ref x0)]) := fun tQ kk => kQ0 tQ (stQ4 _ kk)
 clear kQ0 stQ4
 have kQ6 : own_G p e below E0 TQ1 (mkF m 239 #[vr a, vd b, ss, vr is, vr ds, vi (2 : Int32), vi (1 : Int32), vd y1, ss, vd (FP.dadd FP.dconst0 (FP.dmul y0 m0)), ss, vr aL6, vd vq, ss, vi (0 : Int32)] [(.int (0 : Int32)), (.ref ds), (.int (1 : Int32)), (.ref x0)]) := by
  intro tQ kk
  refine kQ5 tQ ?_
  refine XS.iload XQ2.here hx rfl (hH p49_3_233) rfl ?_
  refine XS.aload XQ2.here hx rfl (hH p49_3_235) rfl rfl ?_
  refine XS.iload XQ2.here hx rfl (hH p49_3_237) rfl ?_
  exact kk
 clear kQ5
 have stQ7 := fun tQ => own_A.dld XQ2 hx hZ eQ3 A6 (j := (0 : Int32)) (v := (.double y0)) (by decide) rfl (g := (mkF m 239 #[vr a, vd b, ss, vr is, vr ds, vi (2 : Int32), vi (1 : Int32), vd y1, ss, vd (FP.dadd FP.dconst0 (FP.dmul y0 m0)), ss, vr aL6, vd vq, ss, vi (0 : Int32)] [(.int (0 : Int32)), (.ref ds), (.int (1 : Int32)), (.ref x0)])) rfl rfl (hH p49_3_239) tQ
 have kQ8 : own_G p e below E0 TQ1 (mkF m 240 #[vr a, vd b, ss, vr is, vr ds, vi (2 : Int32), vi (1 : Int32), vd y1, ss, vd (FP.dadd FP.dconst0 (FP.dmul y0 m0)), ss, vr aL6, vd vq, ss, vi (0 : Int32)] [(.double y0), (.int (1 : Int32)), (.ref x0)]) := fun tQ kk => kQ6 tQ (stQ7 _ kk)
 clear kQ6 stQ7
 obtain ⟨cqQK, kqQL, qaQM, qbQN, qcQO⟩ := isOf hZ eQ3 Ca1
 obtain ⟨_, _, ⟨TQ9, LQA, kcQB, ncQC⟩, -, XQD, ⟨LcQE, hQQF, lQG, yQH, zQI⟩, stQJ⟩ := XQ2.virtualBack hx (y := mn130) (z := mn130) hown (mvT hZ (tw276 hw)) (mvT hZ (tw277 hw)) (notFace_of_selects (args := #[]) (mvT hZ (tw279 hw))) (mvT hZ (tw279 hw)) (mvT hZ (tw278 hw)) (by decide) (backOf (W := 0) (rmSa l Z a0 hw [] x0 ra sa ((0 : Int32) + (1 : Int32)) (1 : Int32) y0 la ma hN4 n0 Z0 Ca1 Ca2 Ca3 Ca4 Ca5 Ca6 q_x0_ra q_x0_sa q_ra_sa ge_x0 ge_ra ge_sa (by rw [la4]; decide) (by decide) (by rw [la4]; decide) (by rw [ma4]; decide)) hZ (tw280 hw) (tw185 hw) (by decide) (by decide)) qaQM qcQO (g := (mkF m 240 #[vr a, vd b, ss, vr is, vr ds, vi (2 : Int32), vi (1 : Int32), vd y1, ss, vd (FP.dadd FP.dconst0 (FP.dmul y0 m0)), ss, vr aL6, vd vq, ss, vi (0 : Int32)] [(.double y0), (.int (1 : Int32)), (.ref x0)])) rfl (by rw [hml]; rfl) (Steps.refl _) (argsL := [(.int (1 : Int32)), (.double y0)]) (rest := []) (lenOf pd_163 rfl) rfl (by show 2 * 0 + _ ≤ _; exact Nat.le_of_eq rfl) (hH p49_3_240) (fun _ _ => ⟨rfl, eQ3, (by decide : 1 + 0 ≤ _), (by decide : 1 + 0 ≤ _)⟩)
 dsimp only [Pt.U, Pt.locs, Pt.cells, Pt.slots] at XQD lQG yQH zQI stQJ hQQF
 subst yQH zQI
 obtain ⟨rfl, NQP, KQS, gQT, gQU, gQV, gQW, gQX⟩ := hQQF
 have NQY : Fr n0 LQA := by rw [lQG]; exact Fr.app NPZ NQP
 clear lQG NQP
 replace Z0 := Nat.le_trans Z0 KQS.1
 replace EX := EX.keep KQS
 replace S0 := S0.keep KQS (ninS q_a_x0 (ninS q_a_ra (ninS q_a_sa nin0)))
 replace S1 := S1.keep KQS (ninS q_a_x0 (ninS q_a_ra (ninS q_a_sa nin0)))
 replace S2 := S2.keep KQS (ninS q_a_x0 (ninS q_a_ra (ninS q_a_sa nin0)))
 replace S3 := S3.keep KQS (ninS q_a_x0 (ninS q_a_ra (ninS q_a_sa nin0)))
 replace S4 := S4.keep KQS (ninS q_a_x0 (ninS q_a_ra (ninS q_a_sa nin0)))
 replace S5 := S5.keep KQS (ninS q_a_x0 (ninS q_a_ra (ninS q_a_sa nin0)))
 replace S6 := S6.keep KQS (ninS q_a_x0 (ninS q_a_ra (ninS q_a_sa nin0)))
 replace S7 := S7.keep KQS (ninS q_a_x0 (ninS q_a_ra (ninS q_a_sa nin0)))
 replace E1 := E1.keep KQS
 replace L1 := L1.keep KQS (ninS (fun q => q_x0_al q.symm) (ninS (fun q => q_ra_al q.symm) (ninS (fun q => q_sa_al q.symm) nin0)))
 replace L2 := L2.keep KQS (ninS (fun q => q_x0_al q.symm) (ninS (fun q => q_ra_al q.symm) (ninS (fun q => q_sa_al q.symm) nin0)))
 replace AE := AE.keep KQS (ninS (fun q => q_x0_r q.symm) (ninS (fun q => q_ra_r q.symm) (ninS (fun q => q_sa_r q.symm) nin0)))
 replace E3 := E3.keep KQS
 replace L3 := L3.keep KQS (ninS (fun q => q_x0_fa q.symm) (ninS (fun q => q_ra_fa q.symm) (ninS (fun q => q_sa_fa q.symm) nin0)))
 replace Ca1 := Ca1.keep KQS
 clear Ca2
 clear Ca3
 clear Ca4
 clear Ca5
 clear Ca6
 replace Cb1 := Cb1.keep KQS
 replace Cb2 := Cb2.keep KQS (ninS (fun q => q_x0_x2 q.symm) (ninS (fun q => q_ra_x2 q.symm) (ninS (fun q => q_sa_x2 q.symm) nin0)))
 replace Cb3 := Cb3.keep KQS (ninS (fun q => q_x0_x2 q.symm) (ninS (fun q => q_ra_x2 q.symm) (ninS (fun q => q_sa_x2 q.symm) nin0)))
 replace Cb4 := Cb4.keep KQS (ninS (fun q => q_x0_x2 q.symm) (ninS (fun q => q_ra_x2 q.symm) (ninS (fun q => q_sa_x2 q.symm) nin0)))
 replace Cb5 := Cb5.keep KQS (ninS (fun q => q_x0_rb q.symm) (ninS (fun q => q_ra_rb q.symm) (ninS (fun q => q_sa_rb q.symm) nin0)))
 replace Cb6 := Cb6.keep KQS (ninS (fun q => q_x0_sb q.symm) (ninS (fun q => q_ra_sb q.symm) (ninS (fun q => q_sa_sb q.symm) nin0)))
 replace A1 := A1.keep KQS (ninS q_ro_x0 (ninS q_ro_ra (ninS q_ro_sa nin0)))
 replace A2 := A2.keep KQS (ninS q_ba_x0 (ninS q_ba_ra (ninS q_ba_sa nin0)))
 replace A3 := A3.keep KQS (ninS q_pA_x0 (ninS q_pA_ra (ninS q_pA_sa nin0)))
 replace A4 := A4.keep KQS (ninS q_va_x0 (ninS q_va_ra (ninS q_va_sa nin0)))
 replace A5 := A5.keep KQS (ninS (fun q => q_x0_is q.symm) (ninS (fun q => q_ra_is q.symm) (ninS (fun q => q_sa_is q.symm) nin0)))
 replace A6 := A6.keep KQS (ninS (fun q => q_x0_ds q.symm) (ninS (fun q => q_ra_ds q.symm) (ninS (fun q => q_sa_ds q.symm) nin0)))
 replace FNC := FNC.keep KQS (ninS (Ne.symm nLC) (ninS (Ne.symm nLD) (ninS (Ne.symm nLE) nin0)))
 replace K0 := K0.trans KQS (allS (Or.inl (List.mem_of_getElem? (i := 5) rfl)) (allS (Or.inl (List.mem_of_getElem? (i := 6) rfl)) (allS (Or.inl (List.mem_of_getElem? (i := 7) rfl)) all0)))
 have kQZ : own_G p e below E0 TQ9 (mkF m 243 #[vr a, vd b, ss, vr is, vr ds, vi (2 : Int32), vi (1 : Int32), vd y1, ss, vd (FP.dadd FP.dconst0 (FP.dmul y0 m0)), ss, vr aL6, vd vq, ss, vi (0 : Int32)] []) := fun tQ kk => kQ8 tQ (stQJ.trans kk)
 clear kQ8 stQJ
 have kR0 : own_G p e below E0 TQ9 (mkF m 213 #[vr a, vd b, ss, vr is, vr ds, vi (2 : Int32), vi (1 : Int32), vd y1, ss, vd (FP.dadd FP.dconst0 (FP.dmul y0 m0)), ss, vr aL6, vd vq, ss, vi (1 : Int32)] [(.ref is), (.int (1 : Int32))]) := by
  intro tQ kk
  refine kQZ tQ ?_
  refine XS.iinc XQD.here hx rfl (hH p49_3_243) rfl (l' := #[vr a, vd b, ss, vr is, vr ds, vi (2 : Int32), vi (1 : Int32), vd y1, ss, vd (FP.dadd FP.dconst0 (FP.dmul y0 m0)), ss, vr aL6, vd vq, ss, vi (1 : Int32)]) rfl ?_
  refine XS.goto XQD.here hx rfl (pc0 := 246) (pc' := 210) rfl (hH p49_3_246) (by decide) (by decide) ?_
  refine XS.iload XQD.here hx rfl (hH p49_3_210) rfl ?_
  refine XS.aloadN XQD.here hx rfl (hH p49_3_212) rfl rfl ?_
  exact kk
 clear kQZ
 have stR1 := fun tQ => own_A.len XQD hx hZ rfl A5 (g := (mkF m 213 #[vr a, vd b, ss, vr is, vr ds, vi (2 : Int32), vi (1 : Int32), vd y1, ss, vd (FP.dadd FP.dconst0 (FP.dmul y0 m0)), ss, vr aL6, vd vq, ss, vi (1 : Int32)] [(.ref is), (.int (1 : Int32))])) rfl rfl (hH p49_3_213) tQ
 have kR2 : own_G p e below E0 TQ9 (mkF m 214 #[vr a, vd b, ss, vr is, vr ds, vi (2 : Int32), vi (1 : Int32), vd y1, ss, vd (FP.dadd FP.dconst0 (FP.dmul y0 m0)), ss, vr aL6, vd vq, ss, vi (1 : Int32)] [(.int (2 : Int32)), (.int (1 : Int32))]) := fun tQ kk => kR0 tQ (stR1 _ kk)
 clear kR0 stR1
 have kR3 : own_G p e below E0 TQ9 (mkF m 218 #[vr a, vd b, ss, vr is, vr ds, vi (2 : Int32), vi (1 : Int32), vd y1, ss, vd (FP.dadd FP.dconst0 (FP.dmul y0 m0)), ss, vr aL6, vd vq, ss, vi (1 : Int32)] [(.ref a)]) := by
  intro tQ kk
  refine kR2 tQ ?_
  refine XS.icmpNo XQD.here hx rfl (hH p49_3_214) rfl (own_ic_geN (by decide)) ?_
  refine XS.aloadN XQD.here hx rfl (hH p49_3_217) rfl rfl ?_
  exact kk
 clear kR2
 obtain ⟨TR4, XR5, eR6, stR7⟩ := getF XQD hx hZ hown (host := "") (Or.inl (tw34 hw)) Via.refl rfl S0 (g := (mkF m 218 #[vr a, vd b, ss, vr is, vr ds, vi (2 : Int32), vi (1 : Int32), vd y1, ss, vd (FP.dadd FP.dconst0 (FP.dmul y0 m0)), ss, vr aL6, vd vq, ss, vi (1 : Int32)] [(.ref a)])) rfl rfl (hH p49_3_218)
 have kR8 : own_G p e below E0 TR4 (mkF m 221 #[vr a, vd b, ss, vr is, vr ds, vi (2 : Int32), vi (1 : Int32), vd y1, ss, vd (FP.dadd FP.dconst0 (FP.dmul y0 m0)), ss, vr aL6, vd vq, ss, vi (1 : Int32)] [(.ref al)]) := fun tQ kk => kR3 tQ (stR7 _ kk)
 clear kR3 stR7
 have kR9 : own_G p e below E0 TR4 (mkF m 224 #[vr a, vd b, ss, vr is, vr ds, vi (2 : Int32), vi (1 : Int32), vd y1, ss, vd (FP.dadd FP.dconst0 (FP.dmul y0 m0)), ss, vr aL6, vd vq, ss, vi (1 : Int32)] [(.int (1 : Int32)), (.ref is), (.ref al)]) := by
  intro tQ kk
  refine kR8 tQ ?_
  refine XS.aloadN XR5.here hx rfl (hH p49_3_221) rfl rfl ?_
  refine XS.iload XR5.here hx rfl (hH p49_3_222) rfl ?_
  exact kk
 clear kR8
 have stRA := fun tQ => own_A.ild XR5 hx hZ eR6 A5 (j := (1 : Int32)) (v := (.int (2 : Int32))) (by decide) rfl (g := (mkF m 224 #[vr a, vd b, ss, vr is, vr ds, vi (2 : Int32), vi (1 : Int32), vd y1, ss, vd (FP.dadd FP.dconst0 (FP.dmul y0 m0)), ss, vr aL6, vd vq, ss, vi (1 : Int32)] [(.int (1 : Int32)), (.ref is), (.ref al)])) rfl rfl (hH p49_3_224) tQ
 have kRB : own_G p e below E0 TR4 (mkF m 225 #[vr a, vd b, ss, vr is, vr ds, vi (2 : Int32), vi (1 : Int32), vd y1, ss, vd (FP.dadd FP.dconst0 (FP.dmul y0 m0)), ss, vr aL6, vd vq, ss, vi (1 : Int32)] [(.int (2 : Int32)), (.ref al)]) := fun tQ kk => kR9 tQ (stRA _ kk)
 clear kR9 stRA
 obtain ⟨cqRN, kqRO, qaRP, qbRQ, qcRR⟩ := isOf hZ eR6 E1
 obtain ⟨_, _, ⟨TRC, LRD, kcRE, ncRF⟩, -, XRG, ⟨LcRH, hQRI, lRJ, yRK, zRL⟩, stRM⟩ := XR5.interfaceBack hx (xi := mn160) (y := mn150) hown (mvT hZ (tw240 hw)) (mvT hZ (tw241 hw)) (mvT hZ (tw242 hw)) (mvT hZ (tw243 hw)) (mvT hZ (tw244 hw)) (mvT hZ (tw245 hw)) (mvT hZ (tw246 hw)) (mvT hZ (tw179 hw)) (by decide) (backOf (W := 0) (rmGt2 l Z a0 hw [] al r x0 x1 x2 TQ9.heap n0 Z0 E1 L1 L2 AE) hZ (tw247 hw) (tw12 hw) (by decide) (by decide)) qaRP qbRQ qcRR (g := (mkF m 225 #[vr a, vd b, ss, vr is, vr ds, vi (2 : Int32), vi (1 : Int32), vd y1, ss, vd (FP.dadd FP.dconst0 (FP.dmul y0 m0)), ss, vr aL6, vd vq, ss, vi (1 : Int32)] [(.int (2 : Int32)), (.ref al)])) rfl (by rw [hml]; rfl) (Steps.refl _) (argsL := [(.int (2 : Int32))]) (rest := []) (lenOf pd_151 rfl) rfl (by show 2 * 0 + _ ≤ _; exact Nat.le_of_eq rfl) (hH p49_3_225) (fun _ _ => ⟨rfl, eR6, (by decide : 1 + 0 ≤ _), (by decide : 1 + 0 ≤ _)⟩)
 dsimp only [Pt.U, Pt.locs, Pt.cells, Pt.slots] at XRG lRJ yRK zRL stRM hQRI
 subst yRK zRL
 obtain ⟨rfl, NRS, eRT⟩ := hQRI
 have NRV : Fr n0 LRD := by rw [lRJ]; exact Fr.app NQY NRS
 clear lRJ NRS
 have kRW : own_G p e below E0 TRC (mkF m 230 #[vr a, vd b, ss, vr is, vr ds, vi (2 : Int32), vi (1 : Int32), vd y1, ss, vd (FP.dadd FP.dconst0 (FP.dmul y0 m0)), ss, vr aL6, vd vq, ss, vi (1 : Int32)] [(.ref x2)]) := fun tQ kk => kRB tQ (stRM.trans kk)
 clear kRB stRM
 obtain ⟨TRX, XRY, eRZ, stS0⟩ := castY XRG hx hZ hown (tw183 hw) eRT (Ins.of_exa Cb1 (tw261 hw)) (g := (mkF m 230 #[vr a, vd b, ss, vr is, vr ds, vi (2 : Int32), vi (1 : Int32), vd y1, ss, vd (FP.dadd FP.dconst0 (FP.dmul y0 m0)), ss, vr aL6, vd vq, ss, vi (1 : Int32)] [(.ref x2)])) rfl rfl (hH p49_3_230)
 have kS1 : own_G p e below E0 TRX (mkF m 233 #[vr a, vd b, ss, vr is, vr ds, vi (2 : Int32), vi (1 : Int32), vd y1, ss, vd (FP.dadd FP.dconst0 (FP.dmul y0 m0)), ss, vr aL6, vd vq, ss, vi (1 : Int32)] [(.ref x2)]) := fun tQ kk => kRW tQ (stS0 _ kk)
 clear kRW stS0
 have kS2 : own_G p e below E0 TRX (mkF m 239 #[vr a, vd b, ss, vr is, vr ds, vi (2 : Int32), vi (1 : Int32), vd y1, ss, vd (FP.dadd FP.dconst0 (FP.dmul y0 m0)), ss, vr aL6, vd vq, ss, vi (1 : Int32)] [(.int (1 : Int32)), (.ref ds), (.int (1 : Int32)), (.ref x2)]) := by
  intro tQ kk
  refine kS1 tQ ?_
  refine XS.iload XRY.here hx rfl (hH p49_3_233) rfl ?_
  refine XS.aload XRY.here hx rfl (hH p49_3_235) rfl rfl ?_
  refine XS.iload XRY.here hx rfl (hH p49_3_237) rfl ?_
  exact kk
 clear kS1
 have stS3 := fun tQ => own_A.dld XRY hx hZ eRZ A6 (j := (1 : Int32)) (v := (.double y1)) (by decide) rfl (g := (mkF m 239 #[vr a, vd b, ss, vr is, vr ds, vi (2 : Int32), vi (1 : Int32), vd y1, ss, vd (FP.dadd FP.dconst0 (FP.dmul y0 m0)), ss, vr aL6, vd vq, ss, vi (1 : Int32)] [(.int (1 : Int32)), (.ref ds), (.int (1 : Int32)), (.ref x2)])) rfl rfl (hH p49_3_239) tQ
 have kS4 : own_G p e below E0 TRX (mkF m 240 #[vr a, vd b, ss, vr is, vr ds, vi (2 : Int32), vi (1 : Int32), vd y1, ss, vd (FP.dadd FP.dconst0 (FP.dmul y0 m0)), ss, vr aL6, vd vq, ss, vi (1 : Int32)] [(.double y1), (.int (1 : Int32)), (.ref x2)]) := fun tQ kk => kS2 tQ (stS3 _ kk)
 clear kS2 stS3
 obtain ⟨cqSG, kqSH, qaSI, qbSJ, qcSK⟩ := isOf hZ eRZ Cb1
 obtain ⟨_, _, ⟨TS5, LS6, kcS7, ncS8⟩, -, XS9, ⟨LcSA, hQSB, lSC, ySD, zSE⟩, stSF⟩ := XRY.virtualBack hx (y := mn130) (z := mn130) hown (mvT hZ (tw276 hw)) (mvT hZ (tw277 hw)) (notFace_of_selects (args := #[]) (mvT hZ (tw279 hw))) (mvT hZ (tw279 hw)) (mvT hZ (tw278 hw)) (by decide) (backOf (W := 0) (rmSa l Z a0 hw [] x2 rb sb (0 : Int32) (1 : Int32) y1 lb mb TQ9.heap n0 Z0 Cb1 Cb2 Cb3 Cb4 Cb5 Cb6 q_x2_rb q_x2_sb q_rb_sb ge_x2 ge_rb ge_sb (by rw [lb4]; decide) (by decide) (by rw [lb4]; decide) (by rw [mb4]; decide)) hZ (tw280 hw) (tw185 hw) (by decide) (by decide)) qaSI qcSK (g := (mkF m 240 #[vr a, vd b, ss, vr is, vr ds, vi (2 : Int32), vi (1 : Int32), vd y1, ss, vd (FP.dadd FP.dconst0 (FP.dmul y0 m0)), ss, vr aL6, vd vq, ss, vi (1 : Int32)] [(.double y1), (.int (1 : Int32)), (.ref x2)])) rfl (by rw [hml]; rfl) (Steps.refl _) (argsL := [(.int (1 : Int32)), (.double y1)]) (rest := []) (lenOf pd_163 rfl) rfl (by show 2 * 0 + _ ≤ _; exact Nat.le_of_eq rfl) (hH p49_3_240) (fun _ _ => ⟨rfl, eRZ, (by decide : 1 + 0 ≤ _), (by decide : 1 + 0 ≤ _)⟩)
 dsimp only [Pt.U, Pt.locs, Pt.cells, Pt.slots] at XS9 lSC ySD zSE stSF hQSB
 subst ySD zSE
 obtain ⟨rfl, NSL, KSO, gSP, gSQ, gSR, gSS, gST⟩ := hQSB
 have NSU : Fr n0 LS6 := by rw [lSC]; exact Fr.app NRV NSL
 clear lSC NSL
 replace Z0 := Nat.le_trans Z0 KSO.1
 replace EX := EX.keep KSO
 replace S0 := S0.keep KSO (ninS q_a_x2 (ninS q_a_rb (ninS q_a_sb nin0)))
 replace S1 := S1.keep KSO (ninS q_a_x2 (ninS q_a_rb (ninS q_a_sb nin0)))
 replace S2 := S2.keep KSO (ninS q_a_x2 (ninS q_a_rb (ninS q_a_sb nin0)))
 replace S3 := S3.keep KSO (ninS q_a_x2 (ninS q_a_rb (ninS q_a_sb nin0)))
 replace S4 := S4.keep KSO (ninS q_a_x2 (ninS q_a_rb (ninS q_a_sb nin0)))
 replace S5 := S5.keep KSO (ninS q_a_x2 (ninS q_a_rb (ninS q_a_sb nin0)))
 replace S6 := S6.keep KSO (ninS q_a_x2 (ninS q_a_rb (ninS q_a_sb nin0)))
 replace S7 := S7.keep KSO (ninS q_a_x2 (ninS q_a_rb (ninS q_a_sb nin0)))
 replace E1 := E1.keep KSO
 replace L1 := L1.keep KSO (ninS (fun q => q_x2_al q.symm) (ninS (fun q => q_rb_al q.symm) (ninS (fun q => q_sb_al q.symm) nin0)))
 replace L2 := L2.keep KSO (ninS (fun q => q_x2_al q.symm) (ninS (fun q => q_rb_al q.symm) (ninS (fun q => q_sb_al q.symm) nin0)))
 replace AE := AE.keep KSO (ninS (fun q => q_x2_r q.symm) (ninS (fun q => q_rb_r q.symm) (ninS (fun q => q_sb_r q.symm) nin0)))
 replace E3 := E3.keep KSO
 replace L3 := L3.keep KSO (ninS (fun q => q_x2_fa q.symm) (ninS (fun q => q_rb_fa q.symm) (ninS (fun q => q_sb_fa q.symm) nin0)))
 replace Ca1 := Ca1.keep KSO
 replace Cb1 := Cb1.keep KSO
 clear Cb2
 clear Cb3
 clear Cb4
 clear Cb5
 clear Cb6
 replace A1 := A1.keep KSO (ninS q_ro_x2 (ninS q_ro_rb (ninS q_ro_sb nin0)))
 replace A2 := A2.keep KSO (ninS q_ba_x2 (ninS q_ba_rb (ninS q_ba_sb nin0)))
 replace A3 := A3.keep KSO (ninS q_pA_x2 (ninS q_pA_rb (ninS q_pA_sb nin0)))
 replace A4 := A4.keep KSO (ninS q_va_x2 (ninS q_va_rb (ninS q_va_sb nin0)))
 replace A5 := A5.keep KSO (ninS (fun q => q_x2_is q.symm) (ninS (fun q => q_rb_is q.symm) (ninS (fun q => q_sb_is q.symm) nin0)))
 replace A6 := A6.keep KSO (ninS (fun q => q_x2_ds q.symm) (ninS (fun q => q_rb_ds q.symm) (ninS (fun q => q_sb_ds q.symm) nin0)))
 replace FNC := FNC.keep KSO (ninS (Ne.symm nLF) (ninS (Ne.symm nLG) (ninS (Ne.symm nLH) nin0)))
 replace gQT := gQT.keep KSO (ninS q_x0_x2 (ninS q_x0_rb (ninS q_x0_sb nin0)))
 replace gQU := gQU.keep KSO (ninS q_x0_x2 (ninS q_x0_rb (ninS q_x0_sb nin0)))
 replace gQV := gQV.keep KSO (ninS q_x0_x2 (ninS q_x0_rb (ninS q_x0_sb nin0)))
 replace gQW := gQW.keep KSO (ninS q_ra_x2 (ninS q_ra_rb (ninS q_ra_sb nin0)))
 replace gQX := gQX.keep KSO (ninS q_sa_x2 (ninS q_sa_rb (ninS q_sa_sb nin0)))
 replace K0 := K0.trans KSO (allS (Or.inl (List.mem_of_getElem? (i := 8) rfl)) (allS (Or.inl (List.mem_of_getElem? (i := 9) rfl)) (allS (Or.inl (List.mem_of_getElem? (i := 10) rfl)) all0)))
 have kSV : own_G p e below E0 TS5 (mkF m 243 #[vr a, vd b, ss, vr is, vr ds, vi (2 : Int32), vi (1 : Int32), vd y1, ss, vd (FP.dadd FP.dconst0 (FP.dmul y0 m0)), ss, vr aL6, vd vq, ss, vi (1 : Int32)] []) := fun tQ kk => kS4 tQ (stSF.trans kk)
 clear kS4 stSF
 have kSW : own_G p e below E0 TS5 (mkF m 213 #[vr a, vd b, ss, vr is, vr ds, vi (2 : Int32), vi (1 : Int32), vd y1, ss, vd (FP.dadd FP.dconst0 (FP.dmul y0 m0)), ss, vr aL6, vd vq, ss, vi (2 : Int32)] [(.ref is), (.int (2 : Int32))]) := by
  intro tQ kk
  refine kSV tQ ?_
  refine XS.iinc XS9.here hx rfl (hH p49_3_243) rfl (l' := #[vr a, vd b, ss, vr is, vr ds, vi (2 : Int32), vi (1 : Int32), vd y1, ss, vd (FP.dadd FP.dconst0 (FP.dmul y0 m0)), ss, vr aL6, vd vq, ss, vi (2 : Int32)]) rfl ?_
  refine XS.goto XS9.here hx rfl (pc0 := 246) (pc' := 210) rfl (hH p49_3_246) (by decide) (by decide) ?_
  refine XS.iload XS9.here hx rfl (hH p49_3_210) rfl ?_
  refine XS.aloadN XS9.here hx rfl (hH p49_3_212) rfl rfl ?_
  exact kk
 clear kSV
 have stSX := fun tQ => own_A.len XS9 hx hZ rfl A5 (g := (mkF m 213 #[vr a, vd b, ss, vr is, vr ds, vi (2 : Int32), vi (1 : Int32), vd y1, ss, vd (FP.dadd FP.dconst0 (FP.dmul y0 m0)), ss, vr aL6, vd vq, ss, vi (2 : Int32)] [(.ref is), (.int (2 : Int32))])) rfl rfl (hH p49_3_213) tQ
 have kSY : own_G p e below E0 TS5 (mkF m 214 #[vr a, vd b, ss, vr is, vr ds, vi (2 : Int32), vi (1 : Int32), vd y1, ss, vd (FP.dadd FP.dconst0 (FP.dmul y0 m0)), ss, vr aL6, vd vq, ss, vi (2 : Int32)] [(.int (2 : Int32)), (.int (2 : Int32))]) := fun tQ kk => kSW tQ (stSX _ kk)
 clear kSW stSX
 have kSZ : own_G p e below E0 TS5 (mkF m 251 #[vr a, vd b, ss, vr is, vr ds, vi (2 : Int32), vi (1 : Int32), vd y1, ss, vd (FP.dadd FP.dconst0 (FP.dmul y0 m0)), ss, vr aL6, vd vq, ss, vi (2 : Int32)] [(.ref a), (.ref a)]) := by
  intro tQ kk
  refine kSY tQ ?_
  refine XS.icmpYes XS9.here hx rfl (pc0 := 214) (pc' := 249) rfl (hH p49_3_214) rfl (own_ic_geY (by decide)) (by decide) (by decide) ?_
  refine XS.aloadN XS9.here hx rfl (hH p49_3_249) rfl rfl ?_
  refine XS.aloadN XS9.here hx rfl (hH p49_3_250) rfl rfl ?_
  exact kk
 clear kSY
 obtain ⟨TT0, XT1, eT2, stT3⟩ := getF XS9 hx hZ hown (host := "") (Or.inl (tw39 hw)) Via.refl rfl S2 (g := (mkF m 251 #[vr a, vd b, ss, vr is, vr ds, vi (2 : Int32), vi (1 : Int32), vd y1, ss, vd (FP.dadd FP.dconst0 (FP.dmul y0 m0)), ss, vr aL6, vd vq, ss, vi (2 : Int32)] [(.ref a), (.ref a)])) rfl rfl (hH p49_3_251)
 have kT4 : own_G p e below E0 TT0 (mkF m 254 #[vr a, vd b, ss, vr is, vr ds, vi (2 : Int32), vi (1 : Int32), vd y1, ss, vd (FP.dadd FP.dconst0 (FP.dmul y0 m0)), ss, vr aL6, vd vq, ss, vi (2 : Int32)] [(.ref ro), (.ref a)]) := fun tQ kk => kSZ tQ (stT3 _ kk)
 clear kSZ stT3
 have kT5 : own_G p e below E0 TT0 (mkF m 258 #[vr a, vd b, ss, vr is, vr ds, vi (2 : Int32), vi (1 : Int32), vd y1, ss, vd (FP.dadd FP.dconst0 (FP.dmul y0 m0)), ss, vr aL6, vd vq, ss, vi (2 : Int32)] [(.int (2 : Int32)), (.ref ro), (.ref a)]) := by
  intro tQ kk
  refine kT4 tQ ?_
  refine XS.iload XT1.here hx rfl (hH p49_3_254) rfl ?_
  refine XS.iconst XT1.here hx rfl (hH p49_3_256) ?_
  refine XS.iadd XT1.here hx rfl (hH p49_3_257) rfl ?_
  exact kk
 clear kT4
 obtain ⟨_, _, ⟨TT6, LT7, kcT8, ncT9⟩, -, XTA, ⟨LcTB, hQTC, lTD, yTE, zTF⟩, stTG⟩ := Jvm.LawKit.callS XT1 hx (y := mn118) hown (mvT hZ (tw226 hw)) (mvT hZ (tw227 hw)) (mvT hZ (tw228 hw)) (mvT hZ (tw229 hw)) (by decide) (backOf (W := 1) (rmGd l Z a0 hw [] ro (2 : Int32) rv TS5.heap n0 Z0 A1 (by rw [lr]; decide)) hZ (tw229 hw) (tw228 hw) (by decide) (by decide)) (g := (mkF m 258 #[vr a, vd b, ss, vr is, vr ds, vi (2 : Int32), vi (1 : Int32), vd y1, ss, vd (FP.dadd FP.dconst0 (FP.dmul y0 m0)), ss, vr aL6, vd vq, ss, vi (2 : Int32)] [(.int (2 : Int32)), (.ref ro), (.ref a)])) rfl (by rw [hml]; rfl) (argsL := [(.ref ro), (.int (2 : Int32))]) (rest := [(.ref a)]) (lenOf pd_157 rfl) rfl (by show 2 * 0 + _ ≤ _; exact Nat.le_of_eq rfl) (hH p49_3_258) (fun _ _ => ⟨rfl, eT2, (by decide : 1 + 0 ≤ _), (by decide : 1 + 0 ≤ _)⟩)
 dsimp only [Pt.U, Pt.locs, Pt.cells, Pt.slots] at XTA lTD yTE zTF stTG hQTC
 subst yTE zTF
 obtain ⟨rfl, NTH, eTI⟩ := hQTC
 have NTK : Fr n0 LT7 := by rw [lTD]; exact Fr.app NSU NTH
 clear lTD NTH
 have kTL : own_G p e below E0 TT6 (mkF m 261 #[vr a, vd b, ss, vr is, vr ds, vi (2 : Int32), vi (1 : Int32), vd y1, ss, vd (FP.dadd FP.dconst0 (FP.dmul y0 m0)), ss, vr aL6, vd vq, ss, vi (2 : Int32)] [(.ref ro), (.ref a)]) := fun tQ kk => kT5 tQ (stTG _ kk)
 clear kT5 stTG
 obtain ⟨TTM, hTN, XTO, eTP, WTQ, stTR⟩ := putF XTA hx hZ hown (host := "") (Or.inl (tw39 hw)) Via.refl eTI S2 EX (Or.inl (tw40 hw)) (tw2 hw) (ty := (.array .double)) (by decide) rfl rfl (g := (mkF m 261 #[vr a, vd b, ss, vr is, vr ds, vi (2 : Int32), vi (1 : Int32), vd y1, ss, vd (FP.dadd FP.dconst0 (FP.dmul y0 m0)), ss, vr aL6, vd vq, ss, vi (2 : Int32)] [(.ref ro), (.ref a)])) rfl rfl (hH p49_3_261)
 have NTS := Fr.snoc XTO NTK ge_a
 have kTT : own_G p e below E0 TTM (mkF m 264 #[vr a, vd b, ss, vr is, vr ds, vi (2 : Int32), vi (1 : Int32), vd y1, ss, vd (FP.dadd FP.dconst0 (FP.dmul y0 m0)), ss, vr aL6, vd vq, ss, vi (2 : Int32)] []) := fun tQ kk => kTL tQ (stTR _ kk)
 clear kTL stTR
 replace EX := EX.wr WTQ
 replace S0 := S0.other WTQ (Or.inr (sn69 hw))
 replace S1 := S1.other WTQ (Or.inr (sn70 hw))
 replace S2 := S2.same WTQ
 replace S3 := S3.other WTQ (Or.inr (sn71 hw))
 replace S4 := S4.other WTQ (Or.inr (sn72 hw))
 replace S5 := S5.other WTQ (Or.inr (sn73 hw))
 replace S6 := S6.other WTQ (Or.inr (sn74 hw))
 replace S7 := S7.other WTQ (Or.inr (sn76 hw))
 replace E1 := E1.wr WTQ
 replace L1 := L1.other WTQ (Or.inl (fun q => q_a_al q.symm))
 replace L2 := L2.other WTQ (Or.inl (fun q => q_a_al q.symm))
 replace AE := AE.other WTQ (fun q => q_a_r q.symm)
 replace E3 := E3.wr WTQ
 replace L3 := L3.other WTQ (Or.inl (fun q => q_a_fa q.symm))
 replace Ca1 := Ca1.wr WTQ
 replace Cb1 := Cb1.wr WTQ
 replace A1 := A1.other WTQ (fun q => q_a_ro q.symm)
 replace A2 := A2.other WTQ (fun q => q_a_ba q.symm)
 replace A3 := A3.other WTQ (fun q => q_a_pA q.symm)
 replace A4 := A4.other WTQ (fun q => q_a_va q.symm)
 replace A5 := A5.other WTQ (fun q => q_a_is q.symm)
 replace A6 := A6.other WTQ (fun q => q_a_ds q.symm)
 replace FNC := FNC.other WTQ (Ne.symm nL8)
 replace gQT := gQT.other WTQ (Or.inl (fun q => q_a_x0 q.symm))
 replace gQU := gQU.other WTQ (Or.inl (fun q => q_a_x0 q.symm))
 replace gQV := gQV.other WTQ (Or.inl (fun q => q_a_x0 q.symm))
 replace gQW := gQW.other WTQ (fun q => q_a_ra q.symm)
 replace gQX := gQX.other WTQ (fun q => q_a_sa q.symm)
 replace gSP := gSP.other WTQ (Or.inl (fun q => q_a_x2 q.symm))
 replace gSQ := gSQ.other WTQ (Or.inl (fun q => q_a_x2 q.symm))
 replace gSR := gSR.other WTQ (Or.inl (fun q => q_a_x2 q.symm))
 replace gSS := gSS.other WTQ (fun q => q_a_rb q.symm)
 replace gST := gST.other WTQ (fun q => q_a_sb q.symm)
 replace Z0 := own_wrle WTQ Z0
 replace K0 := K0.wr WTQ (Or.inl (List.mem_of_getElem? (i := 0) rfl))
 have kTU : own_G p e below E0 TTM (mkF m 265 #[vr a, vd b, ss, vr is, vr ds, vi (2 : Int32), vi (1 : Int32), vd y1, ss, vd (FP.dadd FP.dconst0 (FP.dmul y0 m0)), ss, vr aL6, vd vq, ss, vi (2 : Int32)] [(.ref a)]) := by
  intro tQ kk
  refine kTT tQ ?_
  refine XS.aloadN XTO.here hx rfl (hH p49_3_264) rfl rfl ?_
  exact kk
 clear kTT
 obtain ⟨TTV, XTW, eTX, stTY⟩ := getF XTO hx hZ hown (host := "") (Or.inl (tw39 hw)) Via.refl eTP S2 (g := (mkF m 265 #[vr a, vd b, ss, vr is, vr ds, vi (2 : Int32), vi (1 : Int32), vd y1, ss, vd (FP.dadd FP.dconst0 (FP.dmul y0 m0)), ss, vr aL6, vd vq, ss, vi (2 : Int32)] [(.ref a)])) rfl rfl (hH p49_3_265)
 have kTZ : own_G p e below E0 TTV (mkF m 268 #[vr a, vd b, ss, vr is, vr ds, vi (2 : Int32), vi (1 : Int32), vd y1, ss, vd (FP.dadd FP.dconst0 (FP.dmul y0 m0)), ss, vr aL6, vd vq, ss, vi (2 : Int32)] [(.ref ro)]) := fun tQ kk => kTU tQ (stTY _ kk)
 clear kTU stTY
 have kU0 : own_G p e below E0 TTV (mkF m 271 #[vr a, vd b, ss, vr is, vr ds, vi (2 : Int32), vi (1 : Int32), vd y1, ss, vd (FP.dadd FP.dconst0 (FP.dmul y0 m0)), ss, vr aL6, vd vq, ss, vi (2 : Int32)] [(.double b), (.int (1 : Int32)), (.ref ro)]) := by
  intro tQ kk
  refine kTZ tQ ?_
  refine XS.iload XTW.here hx rfl (hH p49_3_268) rfl ?_
  refine XS.dloadN XTW.here hx rfl (hH p49_3_270) rfl ?_
  exact kk
 clear kTZ
 obtain ⟨TU1, hU2, XU3, eU4, WU5, FU6, stU7⟩ := own_A.dst XTW hx hZ eTX A1 (j := (1 : Int32)) (by decide) (List.getElem?_eq_getElem (by rw [lr]; decide)) (g := (mkF m 271 #[vr a, vd b, ss, vr is, vr ds, vi (2 : Int32), vi (1 : Int32), vd y1, ss, vd (FP.dadd FP.dconst0 (FP.dmul y0 m0)), ss, vr aL6, vd vq, ss, vi (2 : Int32)] [(.double b), (.int (1 : Int32)), (.ref ro)])) rfl rfl (hH p49_3_271)
 have NU8 := Fr.snoc XU3 NTS ge_ro
 have kU9 : own_G p e below E0 TU1 (mkF m 272 #[vr a, vd b, ss, vr is, vr ds, vi (2 : Int32), vi (1 : Int32), vd y1, ss, vd (FP.dadd FP.dconst0 (FP.dmul y0 m0)), ss, vr aL6, vd vq, ss, vi (2 : Int32)] []) := fun tQ kk => kU0 tQ (stU7 _ kk)
 clear kU0 stU7
 replace EX := EX.wr WU5
 replace S0 := S0.other WU5 (Or.inl q_a_ro)
 replace S1 := S1.other WU5 (Or.inl q_a_ro)
 replace S2 := S2.other WU5 (Or.inl q_a_ro)
 replace S3 := S3.other WU5 (Or.inl q_a_ro)
 replace S4 := S4.other WU5 (Or.inl q_a_ro)
 replace S5 := S5.other WU5 (Or.inl q_a_ro)
 replace S6 := S6.other WU5 (Or.inl q_a_ro)
 replace S7 := S7.other WU5 (Or.inl q_a_ro)
 replace E1 := E1.wr WU5
 replace L1 := L1.other WU5 (Or.inl (fun q => q_ro_al q.symm))
 replace L2 := L2.other WU5 (Or.inl (fun q => q_ro_al q.symm))
 replace AE := AE.other WU5 (fun q => q_ro_r q.symm)
 replace E3 := E3.wr WU5
 replace L3 := L3.other WU5 (Or.inl (fun q => q_ro_fa q.symm))
 replace Ca1 := Ca1.wr WU5
 replace Cb1 := Cb1.wr WU5
 replace A2 := A2.other WU5 (fun q => q_ro_ba q.symm)
 replace A3 := A3.other WU5 (fun q => q_ro_pA q.symm)
 replace A4 := A4.other WU5 (fun q => q_ro_va q.symm)
 replace A5 := A5.other WU5 (fun q => q_ro_is q.symm)
 replace A6 := A6.other WU5 (fun q => q_ro_ds q.symm)
 replace FNC := FNC.other WU5 (Ne.symm nLI)
 replace gQT := gQT.other WU5 (Or.inl (fun q => q_ro_x0 q.symm))
 replace gQU := gQU.other WU5 (Or.inl (fun q => q_ro_x0 q.symm))
 replace gQV := gQV.other WU5 (Or.inl (fun q => q_ro_x0 q.symm))
 replace gQW := gQW.other WU5 (fun q => q_ro_ra q.symm)
 replace gQX := gQX.other WU5 (fun q => q_ro_sa q.symm)
 replace gSP := gSP.other WU5 (Or.inl (fun q => q_ro_x2 q.symm))
 replace gSQ := gSQ.other WU5 (Or.inl (fun q => q_ro_x2 q.symm))
 replace gSR := gSR.other WU5 (Or.inl (fun q => q_ro_x2 q.symm))
 replace gSS := gSS.other WU5 (fun q => q_ro_rb q.symm)
 replace gST := gST.other WU5 (fun q => q_ro_sb q.symm)
 replace Z0 := own_wrle WU5 Z0
 replace K0 := K0.wr WU5 (Or.inl (List.mem_of_getElem? (i := 1) rfl))
 have FUA : own_A Z hU2 ro .double (rv.set ((1 : Int32)).toNatClampNeg (.double b)) := FU6
 have kUB : own_G p e below E0 TU1 (mkF m 274 #[vr a, vd b, ss, vr is, vr ds, vi (2 : Int32), vi (1 : Int32), vd y1, ss, vd (FP.dadd FP.dconst0 (FP.dmul y0 m0)), ss, vr aL6, vd vq, ss, vi (2 : Int32)] [(.ref a), (.ref a)]) := by
  intro tQ kk
  refine kU9 tQ ?_
  refine XS.aloadN XU3.here hx rfl (hH p49_3_272) rfl rfl ?_
  refine XS.aloadN XU3.here hx rfl (hH p49_3_273) rfl rfl ?_
  exact kk
 clear kU9
 obtain ⟨TUC, XUD, eUE, stUF⟩ := getF XU3 hx hZ hown (host := "") (Or.inl (tw42 hw)) Via.refl eU4 S3 (g := (mkF m 274 #[vr a, vd b, ss, vr is, vr ds, vi (2 : Int32), vi (1 : Int32), vd y1, ss, vd (FP.dadd FP.dconst0 (FP.dmul y0 m0)), ss, vr aL6, vd vq, ss, vi (2 : Int32)] [(.ref a), (.ref a)])) rfl rfl (hH p49_3_274)
 have kUG : own_G p e below E0 TUC (mkF m 277 #[vr a, vd b, ss, vr is, vr ds, vi (2 : Int32), vi (1 : Int32), vd y1, ss, vd (FP.dadd FP.dconst0 (FP.dmul y0 m0)), ss, vr aL6, vd vq, ss, vi (2 : Int32)] [(.ref ba), (.ref a)]) := fun tQ kk => kUB tQ (stUF _ kk)
 clear kUB stUF
 have kUH : own_G p e below E0 TUC (mkF m 281 #[vr a, vd b, ss, vr is, vr ds, vi (2 : Int32), vi (1 : Int32), vd y1, ss, vd (FP.dadd FP.dconst0 (FP.dmul y0 m0)), ss, vr aL6, vd vq, ss, vi (2 : Int32)] [(.int (2 : Int32)), (.ref ba), (.ref a)]) := by
  intro tQ kk
  refine kUG tQ ?_
  refine XS.iload XUD.here hx rfl (hH p49_3_277) rfl ?_
  refine XS.iconst XUD.here hx rfl (hH p49_3_279) ?_
  refine XS.iadd XUD.here hx rfl (hH p49_3_280) rfl ?_
  exact kk
 clear kUG
 obtain ⟨_, _, ⟨TUI, LUJ, kcUK, ncUL⟩, -, XUM, ⟨LcUN, hQUO, lUP, yUQ, zUR⟩, stUS⟩ := Jvm.LawKit.callS XUD hx (y := mn119) hown (mvT hZ (tw230 hw)) (mvT hZ (tw231 hw)) (mvT hZ (tw228 hw)) (mvT hZ (tw232 hw)) (by decide) (backOf (W := 1) (rmGi l Z a0 hw [] ba (2 : Int32) bv hU2 n0 Z0 A2 (by rw [lbv]; decide)) hZ (tw232 hw) (tw228 hw) (by decide) (by decide)) (g := (mkF m 281 #[vr a, vd b, ss, vr is, vr ds, vi (2 : Int32), vi (1 : Int32), vd y1, ss, vd (FP.dadd FP.dconst0 (FP.dmul y0 m0)), ss, vr aL6, vd vq, ss, vi (2 : Int32)] [(.int (2 : Int32)), (.ref ba), (.ref a)])) rfl (by rw [hml]; rfl) (argsL := [(.ref ba), (.int (2 : Int32))]) (rest := [(.ref a)]) (lenOf pd_158 rfl) rfl (by show 2 * 0 + _ ≤ _; exact Nat.le_of_eq rfl) (hH p49_3_281) (fun _ _ => ⟨rfl, eUE, (by decide : 1 + 0 ≤ _), (by decide : 1 + 0 ≤ _)⟩)
 dsimp only [Pt.U, Pt.locs, Pt.cells, Pt.slots] at XUM lUP yUQ zUR stUS hQUO
 subst yUQ zUR
 obtain ⟨rfl, NUT, eUU⟩ := hQUO
 have NUW : Fr n0 LUJ := by rw [lUP]; exact Fr.app NU8 NUT
 clear lUP NUT
 have kUX : own_G p e below E0 TUI (mkF m 284 #[vr a, vd b, ss, vr is, vr ds, vi (2 : Int32), vi (1 : Int32), vd y1, ss, vd (FP.dadd FP.dconst0 (FP.dmul y0 m0)), ss, vr aL6, vd vq, ss, vi (2 : Int32)] [(.ref ba), (.ref a)]) := fun tQ kk => kUH tQ (stUS _ kk)
 clear kUH stUS
 obtain ⟨TUY, hUZ, XV0, eV1, WV2, stV3⟩ := putF XUM hx hZ hown (host := "") (Or.inl (tw42 hw)) Via.refl eUU S3 EX (Or.inl (tw43 hw)) (tw2 hw) (ty := (.array .int)) (by decide) rfl rfl (g := (mkF m 284 #[vr a, vd b, ss, vr is, vr ds, vi (2 : Int32), vi (1 : Int32), vd y1, ss, vd (FP.dadd FP.dconst0 (FP.dmul y0 m0)), ss, vr aL6, vd vq, ss, vi (2 : Int32)] [(.ref ba), (.ref a)])) rfl rfl (hH p49_3_284)
 have NV4 := Fr.snoc XV0 NUW ge_a
 have kV5 : own_G p e below E0 TUY (mkF m 287 #[vr a, vd b, ss, vr is, vr ds, vi (2 : Int32), vi (1 : Int32), vd y1, ss, vd (FP.dadd FP.dconst0 (FP.dmul y0 m0)), ss, vr aL6, vd vq, ss, vi (2 : Int32)] []) := fun tQ kk => kUX tQ (stV3 _ kk)
 clear kUX stV3
 replace EX := EX.wr WV2
 replace S0 := S0.other WV2 (Or.inr (sn77 hw))
 replace S1 := S1.other WV2 (Or.inr (sn78 hw))
 replace S2 := S2.other WV2 (Or.inr (sn79 hw))
 replace S3 := S3.same WV2
 replace S4 := S4.other WV2 (Or.inr (sn80 hw))
 replace S5 := S5.other WV2 (Or.inr (sn81 hw))
 replace S6 := S6.other WV2 (Or.inr (sn82 hw))
 replace S7 := S7.other WV2 (Or.inr (sn84 hw))
 replace E1 := E1.wr WV2
 replace L1 := L1.other WV2 (Or.inl (fun q => q_a_al q.symm))
 replace L2 := L2.other WV2 (Or.inl (fun q => q_a_al q.symm))
 replace AE := AE.other WV2 (fun q => q_a_r q.symm)
 replace E3 := E3.wr WV2
 replace L3 := L3.other WV2 (Or.inl (fun q => q_a_fa q.symm))
 replace Ca1 := Ca1.wr WV2
 replace Cb1 := Cb1.wr WV2
 replace A2 := A2.other WV2 (fun q => q_a_ba q.symm)
 replace A3 := A3.other WV2 (fun q => q_a_pA q.symm)
 replace A4 := A4.other WV2 (fun q => q_a_va q.symm)
 replace A5 := A5.other WV2 (fun q => q_a_is q.symm)
 replace A6 := A6.other WV2 (fun q => q_a_ds q.symm)
 replace FNC := FNC.other WV2 (Ne.symm nL8)
 replace gQT := gQT.other WV2 (Or.inl (fun q => q_a_x0 q.symm))
 replace gQU := gQU.other WV2 (Or.inl (fun q => q_a_x0 q.symm))
 replace gQV := gQV.other WV2 (Or.inl (fun q => q_a_x0 q.symm))
 replace gQW := gQW.other WV2 (fun q => q_a_ra q.symm)
 replace gQX := gQX.other WV2 (fun q => q_a_sa q.symm)
 replace gSP := gSP.other WV2 (Or.inl (fun q => q_a_x2 q.symm))
 replace gSQ := gSQ.other WV2 (Or.inl (fun q => q_a_x2 q.symm))
 replace gSR := gSR.other WV2 (Or.inl (fun q => q_a_x2 q.symm))
 replace gSS := gSS.other WV2 (fun q => q_a_rb q.symm)
 replace gST := gST.other WV2 (fun q => q_a_sb q.symm)
 replace FUA := FUA.other WV2 (fun q => q_a_ro q.symm)
 replace Z0 := own_wrle WV2 Z0
 replace K0 := K0.wr WV2 (Or.inl (List.mem_of_getElem? (i := 0) rfl))
 have kV6 : own_G p e below E0 TUY (mkF m 288 #[vr a, vd b, ss, vr is, vr ds, vi (2 : Int32), vi (1 : Int32), vd y1, ss, vd (FP.dadd FP.dconst0 (FP.dmul y0 m0)), ss, vr aL6, vd vq, ss, vi (2 : Int32)] [(.ref a)]) := by
  intro tQ kk
  refine kV5 tQ ?_
  refine XS.aloadN XV0.here hx rfl (hH p49_3_287) rfl rfl ?_
  exact kk
 clear kV5
 obtain ⟨TV7, XV8, eV9, stVA⟩ := getF XV0 hx hZ hown (host := "") (Or.inl (tw42 hw)) Via.refl eV1 S3 (g := (mkF m 288 #[vr a, vd b, ss, vr is, vr ds, vi (2 : Int32), vi (1 : Int32), vd y1, ss, vd (FP.dadd FP.dconst0 (FP.dmul y0 m0)), ss, vr aL6, vd vq, ss, vi (2 : Int32)] [(.ref a)])) rfl rfl (hH p49_3_288)
 have kVB : own_G p e below E0 TV7 (mkF m 291 #[vr a, vd b, ss, vr is, vr ds, vi (2 : Int32), vi (1 : Int32), vd y1, ss, vd (FP.dadd FP.dconst0 (FP.dmul y0 m0)), ss, vr aL6, vd vq, ss, vi (2 : Int32)] [(.ref ba)]) := fun tQ kk => kV6 tQ (stVA _ kk)
 clear kV6 stVA
 have kVC : own_G p e below E0 TV7 (mkF m 295 #[vr a, vd b, ss, vr is, vr ds, vi (2 : Int32), vi (1 : Int32), vd y1, ss, vd (FP.dadd FP.dconst0 (FP.dmul y0 m0)), ss, vr aL6, vd vq, ss, vi (2 : Int32)] [(.int (2 : Int32)), (.int (1 : Int32)), (.ref ba)]) := by
  intro tQ kk
  refine kVB tQ ?_
  refine XS.iload XV8.here hx rfl (hH p49_3_291) rfl ?_
  refine XS.iload XV8.here hx rfl (hH p49_3_293) rfl ?_
  exact kk
 clear kVB
 obtain ⟨TVD, hVE, XVF, eVG, WVH, FVI, stVJ⟩ := own_A.ist XV8 hx hZ eV9 A2 (j := (1 : Int32)) (by decide) (List.getElem?_eq_getElem (by rw [lbv]; decide)) (g := (mkF m 295 #[vr a, vd b, ss, vr is, vr ds, vi (2 : Int32), vi (1 : Int32), vd y1, ss, vd (FP.dadd FP.dconst0 (FP.dmul y0 m0)), ss, vr aL6, vd vq, ss, vi (2 : Int32)] [(.int (2 : Int32)), (.int (1 : Int32)), (.ref ba)])) rfl rfl (hH p49_3_295)
 have NVK := Fr.snoc XVF NV4 ge_ba
 have kVL : own_G p e below E0 TVD (mkF m 296 #[vr a, vd b, ss, vr is, vr ds, vi (2 : Int32), vi (1 : Int32), vd y1, ss, vd (FP.dadd FP.dconst0 (FP.dmul y0 m0)), ss, vr aL6, vd vq, ss, vi (2 : Int32)] []) := fun tQ kk => kVC tQ (stVJ _ kk)
 clear kVC stVJ
 replace EX := EX.wr WVH
 replace S0 := S0.other WVH (Or.inl q_a_ba)
 replace S1 := S1.other WVH (Or.inl q_a_ba)
 replace S2 := S2.other WVH (Or.inl q_a_ba)
 replace S3 := S3.other WVH (Or.inl q_a_ba)
 replace S4 := S4.other WVH (Or.inl q_a_ba)
 replace S5 := S5.other WVH (Or.inl q_a_ba)
 replace S6 := S6.other WVH (Or.inl q_a_ba)
 replace S7 := S7.other WVH (Or.inl q_a_ba)
 replace E1 := E1.wr WVH
 replace L1 := L1.other WVH (Or.inl (fun q => q_ba_al q.symm))
 replace L2 := L2.other WVH (Or.inl (fun q => q_ba_al q.symm))
 replace AE := AE.other WVH (fun q => q_ba_r q.symm)
 replace E3 := E3.wr WVH
 replace L3 := L3.other WVH (Or.inl (fun q => q_ba_fa q.symm))
 replace Ca1 := Ca1.wr WVH
 replace Cb1 := Cb1.wr WVH
 replace A3 := A3.other WVH (fun q => q_ba_pA q.symm)
 replace A4 := A4.other WVH (fun q => q_ba_va q.symm)
 replace A5 := A5.other WVH (fun q => q_ba_is q.symm)
 replace A6 := A6.other WVH (fun q => q_ba_ds q.symm)
 replace FNC := FNC.other WVH (Ne.symm nLJ)
 replace gQT := gQT.other WVH (Or.inl (fun q => q_ba_x0 q.symm))
 replace gQU := gQU.other WVH (Or.inl (fun q => q_ba_x0 q.symm))
 replace gQV := gQV.other WVH (Or.inl (fun q => q_ba_x0 q.symm))
 replace gQW := gQW.other WVH (fun q => q_ba_ra q.symm)
 replace gQX := gQX.other WVH (fun q => q_ba_sa q.symm)
 replace gSP := gSP.other WVH (Or.inl (fun q => q_ba_x2 q.symm))
 replace gSQ := gSQ.other WVH (Or.inl (fun q => q_ba_x2 q.symm))
 replace gSR := gSR.other WVH (Or.inl (fun q => q_ba_x2 q.symm))
 replace gSS := gSS.other WVH (fun q => q_ba_rb q.symm)
 replace gST := gST.other WVH (fun q => q_ba_sb q.symm)
 replace FUA := FUA.other WVH q_ro_ba
 replace Z0 := own_wrle WVH Z0
 replace K0 := K0.wr WVH (Or.inl (List.mem_of_getElem? (i := 2) rfl))
 have FVM : own_A Z hVE ba .int (bv.set ((1 : Int32)).toNatClampNeg (.int (2 : Int32))) := FVI
 have kVN : own_G p e below E0 TVD (mkF m 297 #[vr a, vd b, ss, vr is, vr ds, vi (2 : Int32), vi (1 : Int32), vd y1, ss, vd (FP.dadd FP.dconst0 (FP.dmul y0 m0)), ss, vr aL6, vd vq, ss, vi (2 : Int32)] [(.ref a)]) := by
  intro tQ kk
  refine kVL tQ ?_
  refine XS.aloadN XVF.here hx rfl (hH p49_3_296) rfl rfl ?_
  exact kk
 clear kVL
 obtain ⟨TVO, XVP, eVQ, stVR⟩ := getF XVF hx hZ hown (host := "") (Or.inl (tw44 hw)) Via.refl eVG S4 (g := (mkF m 297 #[vr a, vd b, ss, vr is, vr ds, vi (2 : Int32), vi (1 : Int32), vd y1, ss, vd (FP.dadd FP.dconst0 (FP.dmul y0 m0)), ss, vr aL6, vd vq, ss, vi (2 : Int32)] [(.ref a)])) rfl rfl (hH p49_3_297)
 have kVS : own_G p e below E0 TVO (mkF m 300 #[vr a, vd b, ss, vr is, vr ds, vi (2 : Int32), vi (1 : Int32), vd y1, ss, vd (FP.dadd FP.dconst0 (FP.dmul y0 m0)), ss, vr aL6, vd vq, ss, vi (2 : Int32)] [(.ref pA)]) := fun tQ kk => kVN tQ (stVR _ kk)
 clear kVN stVR
 have kVT : own_G p e below E0 TVO (mkF m 304 #[vr a, vd b, ss, vr is, vr ds, vi (2 : Int32), vi (1 : Int32), vd y1, ss, vd (FP.dadd FP.dconst0 (FP.dmul y0 m0)), ss, vr aL6, vd vq, ss, vi (2 : Int32)] [(.int (1 : Int32)), (.int (2 : Int32)), (.ref pA)]) := by
  intro tQ kk
  refine kVS tQ ?_
  refine XS.iload XVP.here hx rfl (hH p49_3_300) rfl ?_
  refine XS.iload XVP.here hx rfl (hH p49_3_302) rfl ?_
  exact kk
 clear kVS
 obtain ⟨TVU, hVV, XVW, eVX, WVY, FVZ, stW0⟩ := own_A.ist XVP hx hZ eVQ A3 (j := (2 : Int32)) (by decide) (List.getElem?_eq_getElem (by rw [lp]; decide)) (g := (mkF m 304 #[vr a, vd b, ss, vr is, vr ds, vi (2 : Int32), vi (1 : Int32), vd y1, ss, vd (FP.dadd FP.dconst0 (FP.dmul y0 m0)), ss, vr aL6, vd vq, ss, vi (2 : Int32)] [(.int (1 : Int32)), (.int (2 : Int32)), (.ref pA)])) rfl rfl (hH p49_3_304)
 have NW1 := Fr.snoc XVW NVK ge_pA
 have kW2 : own_G p e below E0 TVU (mkF m 305 #[vr a, vd b, ss, vr is, vr ds, vi (2 : Int32), vi (1 : Int32), vd y1, ss, vd (FP.dadd FP.dconst0 (FP.dmul y0 m0)), ss, vr aL6, vd vq, ss, vi (2 : Int32)] []) := fun tQ kk => kVT tQ (stW0 _ kk)
 clear kVT stW0
 replace EX := EX.wr WVY
 replace S0 := S0.other WVY (Or.inl q_a_pA)
 replace S1 := S1.other WVY (Or.inl q_a_pA)
 replace S2 := S2.other WVY (Or.inl q_a_pA)
 replace S3 := S3.other WVY (Or.inl q_a_pA)
 replace S4 := S4.other WVY (Or.inl q_a_pA)
 replace S5 := S5.other WVY (Or.inl q_a_pA)
 replace S6 := S6.other WVY (Or.inl q_a_pA)
 replace S7 := S7.other WVY (Or.inl q_a_pA)
 replace E1 := E1.wr WVY
 replace L1 := L1.other WVY (Or.inl (fun q => q_pA_al q.symm))
 replace L2 := L2.other WVY (Or.inl (fun q => q_pA_al q.symm))
 replace AE := AE.other WVY (fun q => q_pA_r q.symm)
 replace E3 := E3.wr WVY
 replace L3 := L3.other WVY (Or.inl (fun q => q_pA_fa q.symm))
 replace Ca1 := Ca1.wr WVY
 replace Cb1 := Cb1.wr WVY
 replace A4 := A4.other WVY (fun q => q_pA_va q.symm)
 replace A5 := A5.other WVY (fun q => q_pA_is q.symm)
 replace A6 := A6.other WVY (fun q => q_pA_ds q.symm)
 replace FNC := FNC.other WVY (Ne.symm nLK)
 replace gQT := gQT.other WVY (Or.inl (fun q => q_pA_x0 q.symm))
 replace gQU := gQU.other WVY (Or.inl (fun q => q_pA_x0 q.symm))
 replace gQV := gQV.other WVY (Or.inl (fun q => q_pA_x0 q.symm))
 replace gQW := gQW.other WVY (fun q => q_pA_ra q.symm)
 replace gQX := gQX.other WVY (fun q => q_pA_sa q.symm)
 replace gSP := gSP.other WVY (Or.inl (fun q => q_pA_x2 q.symm))
 replace gSQ := gSQ.other WVY (Or.inl (fun q => q_pA_x2 q.symm))
 replace gSR := gSR.other WVY (Or.inl (fun q => q_pA_x2 q.symm))
 replace gSS := gSS.other WVY (fun q => q_pA_rb q.symm)
 replace gST := gST.other WVY (fun q => q_pA_sb q.symm)
 replace FUA := FUA.other WVY q_ro_pA
 replace FVM := FVM.other WVY q_ba_pA
 replace Z0 := own_wrle WVY Z0
 replace K0 := K0.wr WVY (Or.inl (List.mem_of_getElem? (i := 3) rfl))
 have FW3 : own_A Z hVV pA .int (pv.set ((2 : Int32)).toNatClampNeg (.int (1 : Int32))) := FVZ
 have kW4 : own_G p e below E0 TVU (mkF m 307 #[vr a, vd b, ss, vr is, vr ds, vi (2 : Int32), vi (1 : Int32), vd y1, ss, vd (FP.dadd FP.dconst0 (FP.dmul y0 m0)), ss, vr aL6, vd vq, ss, vi (2 : Int32)] [(.ref a), (.ref a)]) := by
  intro tQ kk
  refine kW2 tQ ?_
  refine XS.aloadN XVW.here hx rfl (hH p49_3_305) rfl rfl ?_
  refine XS.aloadN XVW.here hx rfl (hH p49_3_306) rfl rfl ?_
  exact kk
 clear kW2
 obtain ⟨TW5, XW6, eW7, stW8⟩ := getF XVW hx hZ hown (host := "") (Or.inl (tw163 hw)) Via.refl eVX S6 (g := (mkF m 307 #[vr a, vd b, ss, vr is, vr ds, vi (2 : Int32), vi (1 : Int32), vd y1, ss, vd (FP.dadd FP.dconst0 (FP.dmul y0 m0)), ss, vr aL6, vd vq, ss, vi (2 : Int32)] [(.ref a), (.ref a)])) rfl rfl (hH p49_3_307)
 have kW9 : own_G p e below E0 TW5 (mkF m 310 #[vr a, vd b, ss, vr is, vr ds, vi (2 : Int32), vi (1 : Int32), vd y1, ss, vd (FP.dadd FP.dconst0 (FP.dmul y0 m0)), ss, vr aL6, vd vq, ss, vi (2 : Int32)] [(.ref va), (.ref a)]) := fun tQ kk => kW4 tQ (stW8 _ kk)
 clear kW4 stW8
 have kWA : own_G p e below E0 TW5 (mkF m 314 #[vr a, vd b, ss, vr is, vr ds, vi (2 : Int32), vi (1 : Int32), vd y1, ss, vd (FP.dadd FP.dconst0 (FP.dmul y0 m0)), ss, vr aL6, vd vq, ss, vi (2 : Int32)] [(.int (2 : Int32)), (.ref va), (.ref a)]) := by
  intro tQ kk
  refine kW9 tQ ?_
  refine XS.iload XW6.here hx rfl (hH p49_3_310) rfl ?_
  refine XS.iconst XW6.here hx rfl (hH p49_3_312) ?_
  refine XS.iadd XW6.here hx rfl (hH p49_3_313) rfl ?_
  exact kk
 clear kW9
 obtain ⟨_, _, ⟨TWB, LWC, kcWD, ncWE⟩, -, XWF, ⟨LcWG, hQWH, lWI, yWJ, zWK⟩, stWL⟩ := Jvm.LawKit.callS XW6 hx (y := mn118) hown (mvT hZ (tw226 hw)) (mvT hZ (tw227 hw)) (mvT hZ (tw228 hw)) (mvT hZ (tw229 hw)) (by decide) (backOf (W := 1) (rmGd l Z a0 hw [] va (2 : Int32) vv hVV n0 Z0 A4 (by rw [lv]; decide)) hZ (tw229 hw) (tw228 hw) (by decide) (by decide)) (g := (mkF m 314 #[vr a, vd b, ss, vr is, vr ds, vi (2 : Int32), vi (1 : Int32), vd y1, ss, vd (FP.dadd FP.dconst0 (FP.dmul y0 m0)), ss, vr aL6, vd vq, ss, vi (2 : Int32)] [(.int (2 : Int32)), (.ref va), (.ref a)])) rfl (by rw [hml]; rfl) (argsL := [(.ref va), (.int (2 : Int32))]) (rest := [(.ref a)]) (lenOf pd_157 rfl) rfl (by show 2 * 0 + _ ≤ _; exact Nat.le_of_eq rfl) (hH p49_3_314) (fun _ _ => ⟨rfl, eW7, (by decide : 1 + 0 ≤ _), (by decide : 1 + 0 ≤ _)⟩)
 dsimp only [Pt.U, Pt.locs, Pt.cells, Pt.slots] at XWF lWI yWJ zWK stWL hQWH
 subst yWJ zWK
 obtain ⟨rfl, NWM, eWN⟩ := hQWH
 have NWP : Fr n0 LWC := by rw [lWI]; exact Fr.app NW1 NWM
 clear lWI NWM
 have kWQ : own_G p e below E0 TWB (mkF m 317 #[vr a, vd b, ss, vr is, vr ds, vi (2 : Int32), vi (1 : Int32), vd y1, ss, vd (FP.dadd FP.dconst0 (FP.dmul y0 m0)), ss, vr aL6, vd vq, ss, vi (2 : Int32)] [(.ref va), (.ref a)]) := fun tQ kk => kWA tQ (stWL _ kk)
 clear kWA stWL
 obtain ⟨TWR, hWS, XWT, eWU, WWV, stWW⟩ := putF XWF hx hZ hown (host := "") (Or.inl (tw163 hw)) Via.refl eWN S6 EX (Or.inl (tw164 hw)) (tw2 hw) (ty := (.array .double)) (by decide) rfl rfl (g := (mkF m 317 #[vr a, vd b, ss, vr is, vr ds, vi (2 : Int32), vi (1 : Int32), vd y1, ss, vd (FP.dadd FP.dconst0 (FP.dmul y0 m0)), ss, vr aL6, vd vq, ss, vi (2 : Int32)] [(.ref va), (.ref a)])) rfl rfl (hH p49_3_317)
 have NWX := Fr.snoc XWT NWP ge_a
 have kWY : own_G p e below E0 TWR (mkF m 320 #[vr a, vd b, ss, vr is, vr ds, vi (2 : Int32), vi (1 : Int32), vd y1, ss, vd (FP.dadd FP.dconst0 (FP.dmul y0 m0)), ss, vr aL6, vd vq, ss, vi (2 : Int32)] []) := fun tQ kk => kWQ tQ (stWW _ kk)
 clear kWQ stWW
 replace EX := EX.wr WWV
 replace S0 := S0.other WWV (Or.inr (sn101 hw))
 replace S1 := S1.other WWV (Or.inr (sn102 hw))
 replace S2 := S2.other WWV (Or.inr (sn103 hw))
 replace S3 := S3.other WWV (Or.inr (sn104 hw))
 replace S4 := S4.other WWV (Or.inr (sn105 hw))
 replace S5 := S5.other WWV (Or.inr (sn106 hw))
 replace S6 := S6.same WWV
 replace S7 := S7.other WWV (Or.inr (sn108 hw))
 replace E1 := E1.wr WWV
 replace L1 := L1.other WWV (Or.inl (fun q => q_a_al q.symm))
 replace L2 := L2.other WWV (Or.inl (fun q => q_a_al q.symm))
 replace AE := AE.other WWV (fun q => q_a_r q.symm)
 replace E3 := E3.wr WWV
 replace L3 := L3.other WWV (Or.inl (fun q => q_a_fa q.symm))
 replace Ca1 := Ca1.wr WWV
 replace Cb1 := Cb1.wr WWV
 replace A4 := A4.other WWV (fun q => q_a_va q.symm)
 replace A5 := A5.other WWV (fun q => q_a_is q.symm)
 replace A6 := A6.other WWV (fun q => q_a_ds q.symm)
 replace FNC := FNC.other WWV (Ne.symm nL8)
 replace gQT := gQT.other WWV (Or.inl (fun q => q_a_x0 q.symm))
 replace gQU := gQU.other WWV (Or.inl (fun q => q_a_x0 q.symm))
 replace gQV := gQV.other WWV (Or.inl (fun q => q_a_x0 q.symm))
 replace gQW := gQW.other WWV (fun q => q_a_ra q.symm)
 replace gQX := gQX.other WWV (fun q => q_a_sa q.symm)
 replace gSP := gSP.other WWV (Or.inl (fun q => q_a_x2 q.symm))
 replace gSQ := gSQ.other WWV (Or.inl (fun q => q_a_x2 q.symm))
 replace gSR := gSR.other WWV (Or.inl (fun q => q_a_x2 q.symm))
 replace gSS := gSS.other WWV (fun q => q_a_rb q.symm)
 replace gST := gST.other WWV (fun q => q_a_sb q.symm)
 replace FUA := FUA.other WWV (fun q => q_a_ro q.symm)
 replace FVM := FVM.other WWV (fun q => q_a_ba q.symm)
 replace FW3 := FW3.other WWV (fun q => q_a_pA q.symm)
 replace Z0 := own_wrle WWV Z0
 replace K0 := K0.wr WWV (Or.inl (List.mem_of_getElem? (i := 0) rfl))
 have kWZ : own_G p e below E0 TWR (mkF m 321 #[vr a, vd b, ss, vr is, vr ds, vi (2 : Int32), vi (1 : Int32), vd y1, ss, vd (FP.dadd FP.dconst0 (FP.dmul y0 m0)), ss, vr aL6, vd vq, ss, vi (2 : Int32)] [(.ref a)]) := by
  intro tQ kk
  refine kWY tQ ?_
  refine XS.aloadN XWT.here hx rfl (hH p49_3_320) rfl rfl ?_
  exact kk
 clear kWY
 obtain ⟨TX0, XX1, eX2, stX3⟩ := getF XWT hx hZ hown (host := "") (Or.inl (tw163 hw)) Via.refl eWU S6 (g := (mkF m 321 #[vr a, vd b, ss, vr is, vr ds, vi (2 : Int32), vi (1 : Int32), vd y1, ss, vd (FP.dadd FP.dconst0 (FP.dmul y0 m0)), ss, vr aL6, vd vq, ss, vi (2 : Int32)] [(.ref a)])) rfl rfl (hH p49_3_321)
 have kX4 : own_G p e below E0 TX0 (mkF m 324 #[vr a, vd b, ss, vr is, vr ds, vi (2 : Int32), vi (1 : Int32), vd y1, ss, vd (FP.dadd FP.dconst0 (FP.dmul y0 m0)), ss, vr aL6, vd vq, ss, vi (2 : Int32)] [(.ref va)]) := fun tQ kk => kWZ tQ (stX3 _ kk)
 clear kWZ stX3
 have kX5 : own_G p e below E0 TX0 (mkF m 329 #[vr a, vd b, ss, vr is, vr ds, vi (2 : Int32), vi (1 : Int32), vd y1, ss, vd (FP.dadd FP.dconst0 (FP.dmul y0 m0)), ss, vr aL6, vd vq, ss, vi (2 : Int32)] [(.double vq), (.double FP.dconst0), (.int (1 : Int32)), (.ref va)]) := by
  intro tQ kk
  refine kX4 tQ ?_
  refine XS.iload XX1.here hx rfl (hH p49_3_324) rfl ?_
  refine XS.dconst0 XX1.here hx rfl (hH p49_3_326) rfl ?_
  refine XS.dload XX1.here hx rfl (hH p49_3_327) rfl ?_
  exact kk
 clear kX4
 obtain ⟨TX6, XX7, eX8, stX9⟩ := natS XX1 hx hZ hown (tw273 hw) (tw274 hw) (tw221 hw) (tw275 hw) (by decide) eX2 (W := 2) (fun c4 => Jvm.Free.Fl.Abs.maxD_pays FP.dconst0 vq c4 (by decide) (by decide)) (g := (mkF m 329 #[vr a, vd b, ss, vr is, vr ds, vi (2 : Int32), vi (1 : Int32), vd y1, ss, vd (FP.dadd FP.dconst0 (FP.dmul y0 m0)), ss, vr aL6, vd vq, ss, vi (2 : Int32)] [(.double vq), (.double FP.dconst0), (.int (1 : Int32)), (.ref va)])) rfl (by rw [hml]; rfl) (argsL := [(.double FP.dconst0), (.double vq)]) (rest := [(.int (1 : Int32)), (.ref va)]) (lenOf pd_162 rfl) rfl (by show 2 * 0 + _ ≤ _; exact Nat.le_of_eq rfl) (hH p49_3_329) (by decide) (by decide) ⟨rfl, own_n0, (own_nn Dv)⟩ rfl
 have kXA : own_G p e below E0 TX6 (mkF m 332 #[vr a, vd b, ss, vr is, vr ds, vi (2 : Int32), vi (1 : Int32), vd y1, ss, vd (FP.dadd FP.dconst0 (FP.dmul y0 m0)), ss, vr aL6, vd vq, ss, vi (2 : Int32)] [(.double (Native.java_lang_Math.nans.pick64 true FP.dconst0 vq)), (.int (1 : Int32)), (.ref va)]) := fun tQ kk => kX5 tQ (stX9 _ kk)
 clear kX5 stX9
 obtain ⟨TXB, hXC, XXD, eXE, WXF, FXG, stXH⟩ := own_A.dst XX7 hx hZ eX8 A4 (j := (1 : Int32)) (by decide) (List.getElem?_eq_getElem (by rw [lv]; decide)) (g := (mkF m 332 #[vr a, vd b, ss, vr is, vr ds, vi (2 : Int32), vi (1 : Int32), vd y1, ss, vd (FP.dadd FP.dconst0 (FP.dmul y0 m0)), ss, vr aL6, vd vq, ss, vi (2 : Int32)] [(.double (Native.java_lang_Math.nans.pick64 true FP.dconst0 vq)), (.int (1 : Int32)), (.ref va)])) rfl rfl (hH p49_3_332)
 have NXI := Fr.snoc XXD NWX ge_va
 have kXJ : own_G p e below E0 TXB (mkF m 333 #[vr a, vd b, ss, vr is, vr ds, vi (2 : Int32), vi (1 : Int32), vd y1, ss, vd (FP.dadd FP.dconst0 (FP.dmul y0 m0)), ss, vr aL6, vd vq, ss, vi (2 : Int32)] []) := fun tQ kk => kXA tQ (stXH _ kk)
 clear kXA stXH
 replace EX := EX.wr WXF
 replace S0 := S0.other WXF (Or.inl q_a_va)
 replace S1 := S1.other WXF (Or.inl q_a_va)
 replace S2 := S2.other WXF (Or.inl q_a_va)
 replace S3 := S3.other WXF (Or.inl q_a_va)
 replace S4 := S4.other WXF (Or.inl q_a_va)
 replace S5 := S5.other WXF (Or.inl q_a_va)
 replace S6 := S6.other WXF (Or.inl q_a_va)
 replace S7 := S7.other WXF (Or.inl q_a_va)
 replace E1 := E1.wr WXF
 replace L1 := L1.other WXF (Or.inl (fun q => q_va_al q.symm))
 replace L2 := L2.other WXF (Or.inl (fun q => q_va_al q.symm))
 replace AE := AE.other WXF (fun q => q_va_r q.symm)
 replace E3 := E3.wr WXF
 replace L3 := L3.other WXF (Or.inl (fun q => q_va_fa q.symm))
 replace Ca1 := Ca1.wr WXF
 replace Cb1 := Cb1.wr WXF
 replace A5 := A5.other WXF (fun q => q_va_is q.symm)
 replace A6 := A6.other WXF (fun q => q_va_ds q.symm)
 replace FNC := FNC.other WXF (Ne.symm nLL)
 replace gQT := gQT.other WXF (Or.inl (fun q => q_va_x0 q.symm))
 replace gQU := gQU.other WXF (Or.inl (fun q => q_va_x0 q.symm))
 replace gQV := gQV.other WXF (Or.inl (fun q => q_va_x0 q.symm))
 replace gQW := gQW.other WXF (fun q => q_va_ra q.symm)
 replace gQX := gQX.other WXF (fun q => q_va_sa q.symm)
 replace gSP := gSP.other WXF (Or.inl (fun q => q_va_x2 q.symm))
 replace gSQ := gSQ.other WXF (Or.inl (fun q => q_va_x2 q.symm))
 replace gSR := gSR.other WXF (Or.inl (fun q => q_va_x2 q.symm))
 replace gSS := gSS.other WXF (fun q => q_va_rb q.symm)
 replace gST := gST.other WXF (fun q => q_va_sb q.symm)
 replace FUA := FUA.other WXF q_ro_va
 replace FVM := FVM.other WXF q_ba_va
 replace FW3 := FW3.other WXF q_pA_va
 replace Z0 := own_wrle WXF Z0
 replace K0 := K0.wr WXF (Or.inl (List.mem_of_getElem? (i := 4) rfl))
 have FXK : own_A Z hXC va .double (vv.set ((1 : Int32)).toNatClampNeg (.double (Native.java_lang_Math.nans.pick64 true FP.dconst0 vq))) := FXG
 have kXL : own_G p e below E0 TXB (mkF m 334 #[vr a, vd b, ss, vr is, vr ds, vi (2 : Int32), vi (1 : Int32), vd y1, ss, vd (FP.dadd FP.dconst0 (FP.dmul y0 m0)), ss, vr aL6, vd vq, ss, vi (2 : Int32)] [(.ref a)]) := by
  intro tQ kk
  refine kXJ tQ ?_
  refine XS.aloadN XXD.here hx rfl (hH p49_3_333) rfl rfl ?_
  exact kk
 clear kXJ
 obtain ⟨TXM, XXN, eXO, stXP⟩ := getF XXD hx hZ hown (host := "") (Or.inl (tw161 hw)) Via.refl eXE S5 (g := (mkF m 334 #[vr a, vd b, ss, vr is, vr ds, vi (2 : Int32), vi (1 : Int32), vd y1, ss, vd (FP.dadd FP.dconst0 (FP.dmul y0 m0)), ss, vr aL6, vd vq, ss, vi (2 : Int32)] [(.ref a)])) rfl rfl (hH p49_3_334)
 have kXQ : own_G p e below E0 TXM (mkF m 337 #[vr a, vd b, ss, vr is, vr ds, vi (2 : Int32), vi (1 : Int32), vd y1, ss, vd (FP.dadd FP.dconst0 (FP.dmul y0 m0)), ss, vr aL6, vd vq, ss, vi (2 : Int32)] [(.ref fa)]) := fun tQ kk => kXL tQ (stXP _ kk)
 clear kXL stXP
 obtain ⟨cqY2, kqY3, qaY4, qbY5, qcY6⟩ := isOf hZ eXO E3
 obtain ⟨_, _, ⟨TXR, LXS, kcXT, ncXU⟩, -, XXV, ⟨LcXW, hQXX, lXY, yXZ, zY0⟩, stY1⟩ := XXN.virtualBack hx (y := mn134) (z := mn134) hown (mvT hZ (tw281 hw)) (mvT hZ (tw282 hw)) (notFace_of_selects (args := #[]) (mvT hZ (tw284 hw))) (mvT hZ (tw284 hw)) (mvT hZ (tw283 hw)) (by decide) (backOf (W := 0) (rmBs l Z a0 hw [] fa hXC n0 Z0 L3) hZ (tw285 hw) (tw48 hw) (by decide) (by decide)) qaY4 qcY6 (g := (mkF m 337 #[vr a, vd b, ss, vr is, vr ds, vi (2 : Int32), vi (1 : Int32), vd y1, ss, vd (FP.dadd FP.dconst0 (FP.dmul y0 m0)), ss, vr aL6, vd vq, ss, vi (2 : Int32)] [(.ref fa)])) rfl (by rw [hml]; rfl) (Steps.refl _) (argsL := []) (rest := []) (lenOf pd_153 rfl) rfl (by show 2 * 0 + _ ≤ _; exact Nat.le_of_eq rfl) (hH p49_3_337) (fun _ _ => ⟨rfl, eXO, (by decide : 1 + 0 ≤ _), (by decide : 1 + 0 ≤ _)⟩)
 dsimp only [Pt.U, Pt.locs, Pt.cells, Pt.slots] at XXV lXY yXZ zY0 stY1 hQXX
 subst yXZ zY0
 obtain ⟨rfl, NY7, eY8⟩ := hQXX
 have NYA : Fr n0 LXS := by rw [lXY]; exact Fr.app NXI NY7
 clear lXY NY7
 have kYB : own_G p e below E0 TXR (mkF m 340 #[vr a, vd b, ss, vr is, vr ds, vi (2 : Int32), vi (1 : Int32), vd y1, ss, vd (FP.dadd FP.dconst0 (FP.dmul y0 m0)), ss, vr aL6, vd vq, ss, vi (2 : Int32)] [(.int (-1 : Int32))]) := fun tQ kk => kXQ tQ (stY1.trans kk)
 clear kXQ stY1
 have kYC : own_G p e below E0 TXR (mkF m 358 #[vr a, vd b, ss, vr is, vr ds, vi (2 : Int32), vi (1 : Int32), vd y1, ss, vd (FP.dadd FP.dconst0 (FP.dmul y0 m0)), ss, vr aL6, vd vq, ss, vi (2 : Int32)] [(.ref a), (.ref a)]) := by
  intro tQ kk
  refine kYB tQ ?_
  refine XS.iload XXV.here hx rfl (hH p49_3_340) rfl ?_
  refine XS.icmpYes XXV.here hx rfl (pc0 := 342) (pc' := 356) rfl (hH p49_3_342) rfl (own_ic_neY (by decide)) (by decide) (by decide) ?_
  refine XS.aloadN XXV.here hx rfl (hH p49_3_356) rfl rfl ?_
  refine XS.dup XXV.here hx rfl (hH p49_3_357) rfl rfl ?_
  exact kk
 clear kYB
 obtain ⟨TYD, XYE, eYF, stYG⟩ := getF XXV hx hZ hown (host := "") (Or.inl (tw238 hw)) Via.refl eY8 S7 (g := (mkF m 358 #[vr a, vd b, ss, vr is, vr ds, vi (2 : Int32), vi (1 : Int32), vd y1, ss, vd (FP.dadd FP.dconst0 (FP.dmul y0 m0)), ss, vr aL6, vd vq, ss, vi (2 : Int32)] [(.ref a), (.ref a)])) rfl rfl (hH p49_3_358)
 have kYH : own_G p e below E0 TYD (mkF m 361 #[vr a, vd b, ss, vr is, vr ds, vi (2 : Int32), vi (1 : Int32), vd y1, ss, vd (FP.dadd FP.dconst0 (FP.dmul y0 m0)), ss, vr aL6, vd vq, ss, vi (2 : Int32)] [(.int (1 : Int32)), (.ref a)]) := fun tQ kk => kYC tQ (stYG _ kk)
 clear kYC stYG
 have kYI : own_G p e below E0 TYD (mkF m 363 #[vr a, vd b, ss, vr is, vr ds, vi (2 : Int32), vi (1 : Int32), vd y1, ss, vd (FP.dadd FP.dconst0 (FP.dmul y0 m0)), ss, vr aL6, vd vq, ss, vi (2 : Int32)] [(.int (2 : Int32)), (.ref a)]) := by
  intro tQ kk
  refine kYH tQ ?_
  refine XS.iconst XYE.here hx rfl (hH p49_3_361) ?_
  refine XS.iadd XYE.here hx rfl (hH p49_3_362) rfl ?_
  exact kk
 clear kYH
 obtain ⟨TYJ, hYK, XYL, eYM, WYN, stYO⟩ := putF XYE hx hZ hown (host := "") (Or.inl (tw238 hw)) Via.refl eYF S7 EX (Or.inl (tw239 hw)) (tw2 hw) (ty := .int) (by decide) rfl rfl (g := (mkF m 363 #[vr a, vd b, ss, vr is, vr ds, vi (2 : Int32), vi (1 : Int32), vd y1, ss, vd (FP.dadd FP.dconst0 (FP.dmul y0 m0)), ss, vr aL6, vd vq, ss, vi (2 : Int32)] [(.int (2 : Int32)), (.ref a)])) rfl rfl (hH p49_3_363)
 have NYP := Fr.snoc XYL NYA ge_a
 have kYQ : own_G p e below E0 TYJ (mkF m 366 #[vr a, vd b, ss, vr is, vr ds, vi (2 : Int32), vi (1 : Int32), vd y1, ss, vd (FP.dadd FP.dconst0 (FP.dmul y0 m0)), ss, vr aL6, vd vq, ss, vi (2 : Int32)] []) := fun tQ kk => kYI tQ (stYO _ kk)
 clear kYI stYO
 replace EX := EX.wr WYN
 replace S0 := S0.other WYN (Or.inr (sn164 hw))
 replace S1 := S1.other WYN (Or.inr (sn165 hw))
 replace S2 := S2.other WYN (Or.inr (sn166 hw))
 replace S3 := S3.other WYN (Or.inr (sn167 hw))
 replace S4 := S4.other WYN (Or.inr (sn168 hw))
 replace S5 := S5.other WYN (Or.inr (sn169 hw))
 replace S6 := S6.other WYN (Or.inr (sn170 hw))
 replace S7 := S7.same WYN
 replace E1 := E1.wr WYN
 replace L1 := L1.other WYN (Or.inl (fun q => q_a_al q.symm))
 replace L2 := L2.other WYN (Or.inl (fun q => q_a_al q.symm))
 replace AE := AE.other WYN (fun q => q_a_r q.symm)
 replace E3 := E3.wr WYN
 replace L3 := L3.other WYN (Or.inl (fun q => q_a_fa q.symm))
 replace Ca1 := Ca1.wr WYN
 replace Cb1 := Cb1.wr WYN
 replace A5 := A5.other WYN (fun q => q_a_is q.symm)
 replace A6 := A6.other WYN (fun q => q_a_ds q.symm)
 replace FNC := FNC.other WYN (Ne.symm nL8)
 replace gQT := gQT.other WYN (Or.inl (fun q => q_a_x0 q.symm))
 replace gQU := gQU.other WYN (Or.inl (fun q => q_a_x0 q.symm))
 replace gQV := gQV.other WYN (Or.inl (fun q => q_a_x0 q.symm))
 replace gQW := gQW.other WYN (fun q => q_a_ra q.symm)
 replace gQX := gQX.other WYN (fun q => q_a_sa q.symm)
 replace gSP := gSP.other WYN (Or.inl (fun q => q_a_x2 q.symm))
 replace gSQ := gSQ.other WYN (Or.inl (fun q => q_a_x2 q.symm))
 replace gSR := gSR.other WYN (Or.inl (fun q => q_a_x2 q.symm))
 replace gSS := gSS.other WYN (fun q => q_a_rb q.symm)
 replace gST := gST.other WYN (fun q => q_a_sb q.symm)
 replace FUA := FUA.other WYN (fun q => q_a_ro q.symm)
 replace FVM := FVM.other WYN (fun q => q_a_ba q.symm)
 replace FW3 := FW3.other WYN (fun q => q_a_pA q.symm)
 replace FXK := FXK.other WYN (fun q => q_a_va q.symm)
 replace Z0 := own_wrle WYN Z0
 replace K0 := K0.wr WYN (Or.inl (List.mem_of_getElem? (i := 0) rfl))
 have kYR : own_G p e below E0 TYJ (mkF m 368 #[vr a, vd b, ss, vr is, vr ds, vi (2 : Int32), vi (1 : Int32), vd y1, ss, vd (FP.dadd FP.dconst0 (FP.dmul y0 m0)), ss, vr aL6, vd vq, ss, vi (2 : Int32)] [(.int (1 : Int32))]) := by
  intro tQ kk
  refine kYQ tQ ?_
  refine XS.iload XYL.here hx rfl (hH p49_3_366) rfl ?_
  exact kk
 clear kYQ
 obtain ⟨fs, hr, hrun, hended, hW, hsame⟩ := XYL.leave (v := some (.int (1 : Int32))) (fun h => by rw [Bd.returns] at h; cases h)
 have hrun0 := kYR _ (retOut XYL hx Bd.returns (t := .int) rfl (Or.inl ⟨rfl, Or.inl rfl, _, rfl⟩) (hH p49_3_368) hr)
 subst hE0
 refine ⟨_, _, hrun0, hrun, hended, _, _, rfl, ?_, ⟨_, rfl⟩, hW, hsame.mono (by decide) (by decide)⟩
 show QrmRo1 Z a is ds al cA ro ba pA fa va r x0 x1 x2 ra sa rb sb rv bv pv vv la ma lb mb b y0 y1 m0 aa q rr ee h0 n0 _ TYJ.heap _
 rw [eYM]
 exact ⟨(Native.java_lang_Math.nans.pick64 true FP.dconst0 vq), rfl, NYP, K0, S0, S1, S2, S3, S4, S5, S6, S7, FUA, FVM, FW3, FXK, gQT, gQU, gQV, gSP, gSQ, gSR, gQW, gQX, gSS, gST, (own_mq Dv hRr.1)⟩
def QrmVal0 (Z : State) (a : Addr) (pA : Addr) (va : Addr) (pv : List Value) (vv : List Value) (x : UInt64) (h0 : Heap) (n0 : Nat) (vQ : Option Value) (hQ : Heap) (LQ : List Loc) : Prop := vQ = some (.double x) ∧ Fr n0 LQ ∧ hQ = h0
theorem ef_rmVal0 (m : MethodId) (a : Addr) (pA : Addr) (va : Addr) (pv : List Value) (vv : List Value) (x : UInt64) : entryFrame m #[(.ref a), (.int (0 : Int32))] 3 = mkF m 0 #[vr a, vi (0 : Int32), uu] [] := by first | (simp [entryFrame, mkF, argsToLocals, Value.category]; done) | rfl
abbrev mn171 : MethodName := ⟨"com/example/netloom/netloom/embed/Simplex", "value", "(I)D"⟩
theorem p49_6_0 : decode prog_49_method_6_code 0 = .ok (.aload_n 0, 1) := by decide +kernel
theorem p49_6_1 : decode prog_49_method_6_code 1 = .ok (.getfield 27, 3) := by decide +kernel
theorem p49_6_4 : decode prog_49_method_6_code 4 = .ok (.iload_n 1, 1) := by decide +kernel
theorem p49_6_5 : decode prog_49_method_6_code 5 = .ok (.iaload, 1) := by decide +kernel
theorem p49_6_6 : decode prog_49_method_6_code 6 = .ok (.istore_n 2, 1) := by decide +kernel
theorem p49_6_7 : decode prog_49_method_6_code 7 = .ok (.iload_n 2, 1) := by decide +kernel
theorem p49_6_8 : decode prog_49_method_6_code 8 = .ok (.ifCond .ge 7, 3) := by decide +kernel
theorem p49_6_15 : decode prog_49_method_6_code 15 = .ok (.aload_n 0, 1) := by decide +kernel
theorem p49_6_16 : decode prog_49_method_6_code 16 = .ok (.getfield 37, 3) := by decide +kernel
theorem p49_6_19 : decode prog_49_method_6_code 19 = .ok (.iload_n 2, 1) := by decide +kernel
theorem p49_6_20 : decode prog_49_method_6_code 20 = .ok (.daload, 1) := by decide +kernel
theorem p49_6_21 : decode prog_49_method_6_code 21 = .ok (.dreturn, 1) := by decide +kernel
set_option maxRecDepth 65536 in
set_option maxHeartbeats 40000000 in
theorem rmVal0 (l : Launch) (Z : State) (a0 : Array Value) (hw : ∀ d ∈ tables_1, d.before a0 Z = true) (ws : List Jvm.Cond) (a : Addr) (pA : Addr) (va : Addr) (pv : List Value) (vv : List Value) (x : UInt64) (h0 : Heap) (n0 : Nat) (Z0 : n0 ≤ h0.size) (F1 : fd45 Z h0 a (.ref pA)) (F2 : fd47 Z h0 a (.ref va)) (A1 : own_A Z h0 pA .int pv) (A2 : own_A Z h0 va .double vv) (hp : pv[((0 : Int32)).toNatClampNeg]? = some (.int (0 : Int32))) (hv : vv[((0 : Int32)).toNatClampNeg]? = some (.double x)) :
  MetFree l mn171 (head1 (Jvm.Cond.code mn171 prog_49_method_6_code 3 (some .double) :: ws) ({ frames := 0, cells := 0, slots := 0, locals := 0 } : Room)) (fun aA U => aA = #[(.ref a), (.int (0 : Int32))] ∧ Z.Warmed39 U.vm ∧ U.heap = h0) (fun _ _ _ _ _ => True) (fun _ U o U' => ∃ vR LR, o = .returned vR ∧ QrmVal0 Z a pA va pv vv x h0 n0 vR U'.heap LR ∧ FrameEnd U o U' LR ({ frames := 0, cells := 0, slots := 0, locals := 0 } : Room).cells ({ frames := 0, cells := 0, slots := 0, locals := 0 } : Room).slots) := by
 refine MetFree.of_bodySF (plainFor_of_name pn_com_example_netloom_netloom_embed_Simplex) hisR ?_
 intro p e s m args below meth c s₁ Bd hml0 hPre hKk
 obtain ⟨rfl, hZ, hh⟩ := hPre
 have hx := Bd.exec
 have hby := Bd.bytes
 have hH : ∀ {pc r}, decode prog_49_method_6_code pc = r → decode c.code pc = r := fun q => hb hby q
 have hml : c.maxLocals = 3 := hml0
 have hown : s.vm.findClass "com/example/netloom/netloom/embed/Simplex" = some m.cls := findClass_of_methodNamed Bd.named
 have hnm := (name_of_methodNamed Bd.named Bd.method).1
 have X0 : Stand p l e ({ frames := 0, cells := 0, slots := 0, locals := 0 } : Room) s m #[(.ref a), (.int (0 : Int32))] below meth c s₁ [] 0 0 := Stand.of_body Bd
 have e0 : s₁.heap = h0 := by rw [← hh, Bd.state]; rfl
 have N0 := Fr.nil n0
 obtain ⟨E0, hE0⟩ : ∃ zE : State, zE = s₁.setTop (entryFrame m #[(.ref a), (.int (0 : Int32))] 3) := ⟨_, rfl⟩
 have k0 : own_G p e below E0 s₁ (mkF m 0 #[vr a, vi (0 : Int32), uu] []) := fun tz kz => hE0 ▸ castTop (ef_rmVal0 m a pA va pv vv x) kz
 have kJ0 : own_G p e below E0 s₁ (mkF m 1 #[vr a, vi (0 : Int32), uu] [(.ref a)]) := by
  intro tQ kk
  refine k0 tQ ?_
  refine XS.aloadN X0.here hx rfl (hH p49_6_0) rfl rfl ?_
  exact kk
 clear k0
 obtain ⟨TJ1, XJ2, eJ3, stJ4⟩ := getF X0 hx hZ hown (host := "") (Or.inl (tw44 hw)) Via.refl e0 F1 (g := (mkF m 1 #[vr a, vi (0 : Int32), uu] [(.ref a)])) rfl rfl (hH p49_6_1)
 have kJ5 : own_G p e below E0 TJ1 (mkF m 4 #[vr a, vi (0 : Int32), uu] [(.ref pA)]) := fun tQ kk => kJ0 tQ (stJ4 _ kk)
 clear kJ0 stJ4
 have kJ6 : own_G p e below E0 TJ1 (mkF m 5 #[vr a, vi (0 : Int32), uu] [(.int (0 : Int32)), (.ref pA)]) := by
  intro tQ kk
  refine kJ5 tQ ?_
  refine XS.iloadN XJ2.here hx rfl (hH p49_6_4) rfl ?_
  exact kk
 clear kJ5
 have stJ7 := fun tQ => own_A.ild XJ2 hx hZ eJ3 A1 (j := (0 : Int32)) (v := (.int (0 : Int32))) (by decide) hp (g := (mkF m 5 #[vr a, vi (0 : Int32), uu] [(.int (0 : Int32)), (.ref pA)])) rfl rfl (hH p49_6_5) tQ
 have kJ8 : own_G p e below E0 TJ1 (mkF m 6 #[vr a, vi (0 : Int32), uu] [(.int (0 : Int32))]) := fun tQ kk => kJ6 tQ (stJ7 _ kk)
 clear kJ6 stJ7
 have kJ9 : own_G p e below E0 TJ1 (mkF m 16 #[vr a, vi (0 : Int32), vi (0 : Int32)] [(.ref a)]) := by
  intro tQ kk
  refine kJ8 tQ ?_
  refine XS.istoreN XJ2.here hx rfl (hH p49_6_6) rfl (l' := #[vr a, vi (0 : Int32), vi (0 : Int32)]) rfl ?_
  refine XS.iloadN XJ2.here hx rfl (hH p49_6_7) rfl ?_
  refine XS.ifYes XJ2.here hx rfl (pc0 := 8) (pc' := 15) rfl (hH p49_6_8) rfl (own_if_geY (by decide)) (by decide) (by decide) ?_
  refine XS.aloadN XJ2.here hx rfl (hH p49_6_15) rfl rfl ?_
  exact kk
 clear kJ8
 obtain ⟨TJA, XJB, eJC, stJD⟩ := getF XJ2 hx hZ hown (host := "") (Or.inl (tw163 hw)) Via.refl eJ3 F2 (g := (mkF m 16 #[vr a, vi (0 : Int32), vi (0 : Int32)] [(.ref a)])) rfl rfl (hH p49_6_16)
 have kJE : own_G p e below E0 TJA (mkF m 19 #[vr a, vi (0 : Int32), vi (0 : Int32)] [(.ref va)]) := fun tQ kk => kJ9 tQ (stJD _ kk)
 clear kJ9 stJD
 have kJF : own_G p e below E0 TJA (mkF m 20 #[vr a, vi (0 : Int32), vi (0 : Int32)] [(.int (0 : Int32)), (.ref va)]) := by
  intro tQ kk
  refine kJE tQ ?_
  refine XS.iloadN XJB.here hx rfl (hH p49_6_19) rfl ?_
  exact kk
 clear kJE
 have stJG := fun tQ => own_A.dld XJB hx hZ eJC A2 (j := (0 : Int32)) (v := (.double x)) (by decide) hv (g := (mkF m 20 #[vr a, vi (0 : Int32), vi (0 : Int32)] [(.int (0 : Int32)), (.ref va)])) rfl rfl (hH p49_6_20) tQ
 have kJH : own_G p e below E0 TJA (mkF m 21 #[vr a, vi (0 : Int32), vi (0 : Int32)] [(.double x)]) := fun tQ kk => kJF tQ (stJG _ kk)
 clear kJF stJG
 obtain ⟨fs, hr, hrun, hended, hW, hsame⟩ := XJB.leave (v := some (.double x)) (fun h => by rw [Bd.returns] at h; cases h)
 have hrun0 := kJH _ (retOut XJB hx Bd.returns (t := .double) rfl (Or.inr (Or.inr (Or.inl ⟨rfl, rfl, _, rfl⟩))) (hH p49_6_21) hr)
 subst hE0
 refine ⟨_, _, hrun0, hrun, hended, _, _, rfl, ?_, ⟨_, rfl⟩, hW, hsame.mono (by decide) (by decide)⟩
 show QrmVal0 Z a pA va pv vv x h0 n0 _ TJA.heap _
 rw [eJC]
 exact ⟨rfl, N0, rfl⟩
def QrmVal1 (Z : State) (a : Addr) (pA : Addr) (va : Addr) (pv : List Value) (vv : List Value) (x : UInt64) (h0 : Heap) (n0 : Nat) (vQ : Option Value) (hQ : Heap) (LQ : List Loc) : Prop := vQ = some (.double FP.dconst0) ∧ Fr n0 LQ ∧ hQ = h0
theorem ef_rmVal1 (m : MethodId) (a : Addr) (pA : Addr) (va : Addr) (pv : List Value) (vv : List Value) (x : UInt64) : entryFrame m #[(.ref a), (.int (1 : Int32))] 3 = mkF m 0 #[vr a, vi (1 : Int32), uu] [] := by first | (simp [entryFrame, mkF, argsToLocals, Value.category]; done) | rfl
theorem p49_6_11 : decode prog_49_method_6_code 11 = .ok (.dconst 0, 1) := by decide +kernel
theorem p49_6_12 : decode prog_49_method_6_code 12 = .ok (.goto 9, 3) := by decide +kernel
set_option maxRecDepth 65536 in
set_option maxHeartbeats 40000000 in
theorem rmVal1 (l : Launch) (Z : State) (a0 : Array Value) (hw : ∀ d ∈ tables_1, d.before a0 Z = true) (ws : List Jvm.Cond) (a : Addr) (pA : Addr) (va : Addr) (pv : List Value) (vv : List Value) (x : UInt64) (h0 : Heap) (n0 : Nat) (Z0 : n0 ≤ h0.size) (F1 : fd45 Z h0 a (.ref pA)) (F2 : fd47 Z h0 a (.ref va)) (A1 : own_A Z h0 pA .int pv) (A2 : own_A Z h0 va .double vv) (hp : pv[((1 : Int32)).toNatClampNeg]? = some (.int (-1 : Int32))) :
  MetFree l mn171 (head1 (Jvm.Cond.code mn171 prog_49_method_6_code 3 (some .double) :: ws) ({ frames := 0, cells := 0, slots := 0, locals := 0 } : Room)) (fun aA U => aA = #[(.ref a), (.int (1 : Int32))] ∧ Z.Warmed39 U.vm ∧ U.heap = h0) (fun _ _ _ _ _ => True) (fun _ U o U' => ∃ vR LR, o = .returned vR ∧ QrmVal1 Z a pA va pv vv x h0 n0 vR U'.heap LR ∧ FrameEnd U o U' LR ({ frames := 0, cells := 0, slots := 0, locals := 0 } : Room).cells ({ frames := 0, cells := 0, slots := 0, locals := 0 } : Room).slots) := by
 refine MetFree.of_bodySF (plainFor_of_name pn_com_example_netloom_netloom_embed_Simplex) hisR ?_
 intro p e s m args below meth c s₁ Bd hml0 hPre hKk
 obtain ⟨rfl, hZ, hh⟩ := hPre
 have hx := Bd.exec
 have hby := Bd.bytes
 have hH : ∀ {pc r}, decode prog_49_method_6_code pc = r → decode c.code pc = r := fun q => hb hby q
 have hml : c.maxLocals = 3 := hml0
 have hown : s.vm.findClass "com/example/netloom/netloom/embed/Simplex" = some m.cls := findClass_of_methodNamed Bd.named
 have hnm := (name_of_methodNamed Bd.named Bd.method).1
 have X0 : Stand p l e ({ frames := 0, cells := 0, slots := 0, locals := 0 } : Room) s m #[(.ref a), (.int (1 : Int32))] below meth c s₁ [] 0 0 := Stand.of_body Bd
 have e0 : s₁.heap = h0 := by rw [← hh, Bd.state]; rfl
 have N0 := Fr.nil n0
 obtain ⟨E0, hE0⟩ : ∃ zE : State, zE = s₁.setTop (entryFrame m #[(.ref a), (.int (1 : Int32))] 3) := ⟨_, rfl⟩
 have k0 : own_G p e below E0 s₁ (mkF m 0 #[vr a, vi (1 : Int32), uu] []) := fun tz kz => hE0 ▸ castTop (ef_rmVal1 m a pA va pv vv x) kz
 have kJ0 : own_G p e below E0 s₁ (mkF m 1 #[vr a, vi (1 : Int32), uu] [(.ref a)]) := by
  intro tQ kk
  refine k0 tQ ?_
  refine XS.aloadN X0.here hx rfl (hH p49_6_0) rfl rfl ?_
  exact kk
 clear k0
 obtain ⟨TJ1, XJ2, eJ3, stJ4⟩ := getF X0 hx hZ hown (host := "") (Or.inl (tw44 hw)) Via.refl e0 F1 (g := (mkF m 1 #[vr a, vi (1 : Int32), uu] [(.ref a)])) rfl rfl (hH p49_6_1)
 have kJ5 : own_G p e below E0 TJ1 (mkF m 4 #[vr a, vi (1 : Int32), uu] [(.ref pA)]) := fun tQ kk => kJ0 tQ (stJ4 _ kk)
 clear kJ0 stJ4
 have kJ6 : own_G p e below E0 TJ1 (mkF m 5 #[vr a, vi (1 : Int32), uu] [(.int (1 : Int32)), (.ref pA)]) := by
  intro tQ kk
  refine kJ5 tQ ?_
  refine XS.iloadN XJ2.here hx rfl (hH p49_6_4) rfl ?_
  exact kk
 clear kJ5
 have stJ7 := fun tQ => own_A.ild XJ2 hx hZ eJ3 A1 (j := (1 : Int32)) (v := (.int (-1 : Int32))) (by decide) hp (g := (mkF m 5 #[vr a, vi (1 : Int32), uu] [(.int (1 : Int32)), (.ref pA)])) rfl rfl (hH p49_6_5) tQ
 have kJ8 : own_G p e below E0 TJ1 (mkF m 6 #[vr a, vi (1 : Int32), uu] [(.int (-1 : Int32))]) := fun tQ kk => kJ6 tQ (stJ7 _ kk)
 clear kJ6 stJ7
 have kJ9 : own_G p e below E0 TJ1 (mkF m 21 #[vr a, vi (1 : Int32), vi (-1 : Int32)] [(.double FP.dconst0)]) := by
  intro tQ kk
  refine kJ8 tQ ?_
  refine XS.istoreN XJ2.here hx rfl (hH p49_6_6) rfl (l' := #[vr a, vi (1 : Int32), vi (-1 : Int32)]) rfl ?_
  refine XS.iloadN XJ2.here hx rfl (hH p49_6_7) rfl ?_
  refine XS.ifNo XJ2.here hx rfl (hH p49_6_8) rfl (own_if_geN (by decide)) ?_
  refine XS.dconst0 XJ2.here hx rfl (hH p49_6_11) rfl ?_
  refine XS.goto XJ2.here hx rfl (pc0 := 12) (pc' := 21) rfl (hH p49_6_12) (by decide) (by decide) ?_
  exact kk
 clear kJ8
 obtain ⟨fs, hr, hrun, hended, hW, hsame⟩ := XJ2.leave (v := some (.double FP.dconst0)) (fun h => by rw [Bd.returns] at h; cases h)
 have hrun0 := kJ9 _ (retOut XJ2 hx Bd.returns (t := .double) rfl (Or.inr (Or.inr (Or.inl ⟨rfl, rfl, _, rfl⟩))) (hH p49_6_21) hr)
 subst hE0
 refine ⟨_, _, hrun0, hrun, hended, _, _, rfl, ?_, ⟨_, rfl⟩, hW, hsame.mono (by decide) (by decide)⟩
 show QrmVal1 Z a pA va pv vv x h0 n0 _ TJ1.heap _
 rw [eJ3]
 exact ⟨rfl, N0, rfl⟩
def QrmVal2 (Z : State) (a : Addr) (pA : Addr) (va : Addr) (pv : List Value) (vv : List Value) (x : UInt64) (h0 : Heap) (n0 : Nat) (vQ : Option Value) (hQ : Heap) (LQ : List Loc) : Prop := vQ = some (.double x) ∧ Fr n0 LQ ∧ hQ = h0
theorem ef_rmVal2 (m : MethodId) (a : Addr) (pA : Addr) (va : Addr) (pv : List Value) (vv : List Value) (x : UInt64) : entryFrame m #[(.ref a), (.int (2 : Int32))] 3 = mkF m 0 #[vr a, vi (2 : Int32), uu] [] := by first | (simp [entryFrame, mkF, argsToLocals, Value.category]; done) | rfl
set_option maxRecDepth 65536 in
set_option maxHeartbeats 40000000 in
theorem rmVal2 (l : Launch) (Z : State) (a0 : Array Value) (hw : ∀ d ∈ tables_1, d.before a0 Z = true) (ws : List Jvm.Cond) (a : Addr) (pA : Addr) (va : Addr) (pv : List Value) (vv : List Value) (x : UInt64) (h0 : Heap) (n0 : Nat) (Z0 : n0 ≤ h0.size) (F1 : fd45 Z h0 a (.ref pA)) (F2 : fd47 Z h0 a (.ref va)) (A1 : own_A Z h0 pA .int pv) (A2 : own_A Z h0 va .double vv) (hp : pv[((2 : Int32)).toNatClampNeg]? = some (.int (1 : Int32))) (hv : vv[((1 : Int32)).toNatClampNeg]? = some (.double x)) :
  MetFree l mn171 (head1 (Jvm.Cond.code mn171 prog_49_method_6_code 3 (some .double) :: ws) ({ frames := 0, cells := 0, slots := 0, locals := 0 } : Room)) (fun aA U => aA = #[(.ref a), (.int (2 : Int32))] ∧ Z.Warmed39 U.vm ∧ U.heap = h0) (fun _ _ _ _ _ => True) (fun _ U o U' => ∃ vR LR, o = .returned vR ∧ QrmVal2 Z a pA va pv vv x h0 n0 vR U'.heap LR ∧ FrameEnd U o U' LR ({ frames := 0, cells := 0, slots := 0, locals := 0 } : Room).cells ({ frames := 0, cells := 0, slots := 0, locals := 0 } : Room).slots) := by
 refine MetFree.of_bodySF (plainFor_of_name pn_com_example_netloom_netloom_embed_Simplex) hisR ?_
 intro p e s m args below meth c s₁ Bd hml0 hPre hKk
 obtain ⟨rfl, hZ, hh⟩ := hPre
 have hx := Bd.exec
 have hby := Bd.bytes
 have hH : ∀ {pc r}, decode prog_49_method_6_code pc = r → decode c.code pc = r := fun q => hb hby q
 have hml : c.maxLocals = 3 := hml0
 have hown : s.vm.findClass "com/example/netloom/netloom/embed/Simplex" = some m.cls := findClass_of_methodNamed Bd.named
 have hnm := (name_of_methodNamed Bd.named Bd.method).1
 have X0 : Stand p l e ({ frames := 0, cells := 0, slots := 0, locals := 0 } : Room) s m #[(.ref a), (.int (2 : Int32))] below meth c s₁ [] 0 0 := Stand.of_body Bd
 have e0 : s₁.heap = h0 := by rw [← hh, Bd.state]; rfl
 have N0 := Fr.nil n0
 obtain ⟨E0, hE0⟩ : ∃ zE : State, zE = s₁.setTop (entryFrame m #[(.ref a), (.int (2 : Int32))] 3) := ⟨_, rfl⟩
 have k0 : own_G p e below E0 s₁ (mkF m 0 #[vr a, vi (2 : Int32), uu] []) := fun tz kz => hE0 ▸ castTop (ef_rmVal2 m a pA va pv vv x) kz
 have kJ0 : own_G p e below E0 s₁ (mkF m 1 #[vr a, vi (2 : Int32), uu] [(.ref a)]) := by
  intro tQ kk
  refine k0 tQ ?_
  refine XS.aloadN X0.here hx rfl (hH p49_6_0) rfl rfl ?_
  exact kk
 clear k0
 obtain ⟨TJ1, XJ2, eJ3, stJ4⟩ := getF X0 hx hZ hown (host := "") (Or.inl (tw44 hw)) Via.refl e0 F1 (g := (mkF m 1 #[vr a, vi (2 : Int32), uu] [(.ref a)])) rfl rfl (hH p49_6_1)
 have kJ5 : own_G p e below E0 TJ1 (mkF m 4 #[vr a, vi (2 : Int32), uu] [(.ref pA)]) := fun tQ kk => kJ0 tQ (stJ4 _ kk)
 clear kJ0 stJ4
 have kJ6 : own_G p e below E0 TJ1 (mkF m 5 #[vr a, vi (2 : Int32), uu] [(.int (2 : Int32)), (.ref pA)]) := by
  intro tQ kk
  refine kJ5 tQ ?_
  refine XS.iloadN XJ2.here hx rfl (hH p49_6_4) rfl ?_
  exact kk
 clear kJ5
 have stJ7 := fun tQ => own_A.ild XJ2 hx hZ eJ3 A1 (j := (2 : Int32)) (v := (.int (1 : Int32))) (by decide) hp (g := (mkF m 5 #[vr a, vi (2 : Int32), uu] [(.int (2 : Int32)), (.ref pA)])) rfl rfl (hH p49_6_5) tQ
 have kJ8 : own_G p e below E0 TJ1 (mkF m 6 #[vr a, vi (2 : Int32), uu] [(.int (1 : Int32))]) := fun tQ kk => kJ6 tQ (stJ7 _ kk)
 clear kJ6 stJ7
 have kJ9 : own_G p e below E0 TJ1 (mkF m 16 #[vr a, vi (2 : Int32), vi (1 : Int32)] [(.ref a)]) := by
  intro tQ kk
  refine kJ8 tQ ?_
  refine XS.istoreN XJ2.here hx rfl (hH p49_6_6) rfl (l' := #[vr a, vi (2 : Int32), vi (1 : Int32)]) rfl ?_
  refine XS.iloadN XJ2.here hx rfl (hH p49_6_7) rfl ?_
  refine XS.ifYes XJ2.here hx rfl (pc0 := 8) (pc' := 15) rfl (hH p49_6_8) rfl (own_if_geY (by decide)) (by decide) (by decide) ?_
  refine XS.aloadN XJ2.here hx rfl (hH p49_6_15) rfl rfl ?_
  exact kk
 clear kJ8
 obtain ⟨TJA, XJB, eJC, stJD⟩ := getF XJ2 hx hZ hown (host := "") (Or.inl (tw163 hw)) Via.refl eJ3 F2 (g := (mkF m 16 #[vr a, vi (2 : Int32), vi (1 : Int32)] [(.ref a)])) rfl rfl (hH p49_6_16)
 have kJE : own_G p e below E0 TJA (mkF m 19 #[vr a, vi (2 : Int32), vi (1 : Int32)] [(.ref va)]) := fun tQ kk => kJ9 tQ (stJD _ kk)
 clear kJ9 stJD
 have kJF : own_G p e below E0 TJA (mkF m 20 #[vr a, vi (2 : Int32), vi (1 : Int32)] [(.int (1 : Int32)), (.ref va)]) := by
  intro tQ kk
  refine kJE tQ ?_
  refine XS.iloadN XJB.here hx rfl (hH p49_6_19) rfl ?_
  exact kk
 clear kJE
 have stJG := fun tQ => own_A.dld XJB hx hZ eJC A2 (j := (1 : Int32)) (v := (.double x)) (by decide) hv (g := (mkF m 20 #[vr a, vi (2 : Int32), vi (1 : Int32)] [(.int (1 : Int32)), (.ref va)])) rfl rfl (hH p49_6_20) tQ
 have kJH : own_G p e below E0 TJA (mkF m 21 #[vr a, vi (2 : Int32), vi (1 : Int32)] [(.double x)]) := fun tQ kk => kJF tQ (stJG _ kk)
 clear kJF stJG
 obtain ⟨fs, hr, hrun, hended, hW, hsame⟩ := XJB.leave (v := some (.double x)) (fun h => by rw [Bd.returns] at h; cases h)
 have hrun0 := kJH _ (retOut XJB hx Bd.returns (t := .double) rfl (Or.inr (Or.inr (Or.inl ⟨rfl, rfl, _, rfl⟩))) (hH p49_6_21) hr)
 subst hE0
 refine ⟨_, _, hrun0, hrun, hended, _, _, rfl, ?_, ⟨_, rfl⟩, hW, hsame.mono (by decide) (by decide)⟩
 show QrmVal2 Z a pA va pv vv x h0 n0 _ TJA.heap _
 rw [eJC]
 exact ⟨rfl, N0, rfl⟩
def Qrm0 (Z : State) (p0 : Int32) (p1 : Int32) (p2 : Int32) (p3 : Int32) (p4 : Int32) (dE : Addr) (h0 : Heap) (n0 : Nat) (vQ : Option Value) (hQ : Heap) (LQ : List Loc) : Prop := vQ = some (.int (1 : Int32)) ∧ Fr n0 LQ
theorem ef_rm0 (m : MethodId) (p0 : Int32) (p1 : Int32) (p2 : Int32) (p3 : Int32) (p4 : Int32) (dE : Addr) : entryFrame m #[(.int p0), (.int p1), (.int p2), (.int p3), (.int p4)] maxLocals = mkF m 0 #[vi p0, vi p1, vi p2, vi p3, vi p4, uu, uu, uu, uu, uu, uu, uu, uu, uu, uu, uu, uu] [] := by first | (simp [entryFrame, mkF, argsToLocals, Value.category, maxLocals]; done) | rfl
theorem pn_com_example_netloom_netloom_embed_SimplexValuePinLaw : plainName "com/example/netloom/netloom/embed/SimplexValuePinLaw" = true := by first | (simp [plainName, overriddenIn]; done) | decide +kernel
def tw0 {Z a0} (hw : HW Z a0) := hw _ (List.mem_of_getElem? (i := 0) rfl)
def tw1 {Z a0} (hw : HW Z a0) := hw _ (List.mem_of_getElem? (i := 1) rfl)
def tw3 {Z a0} (hw : HW Z a0) := hw _ (List.mem_of_getElem? (i := 3) rfl)
def tw4 {Z a0} (hw : HW Z a0) := hw _ (List.mem_of_getElem? (i := 4) rfl)
def tw6 {Z a0} (hw : HW Z a0) := hw _ (List.mem_of_getElem? (i := 6) rfl)
def tw5 {Z a0} (hw : HW Z a0) := hw _ (List.mem_of_getElem? (i := 5) rfl)
def tw167 {Z a0} (hw : HW Z a0) := hw _ (List.mem_of_getElem? (i := 167) rfl)
def tw170 {Z a0} (hw : HW Z a0) := hw _ (List.mem_of_getElem? (i := 170) rfl)
def tw171 {Z a0} (hw : HW Z a0) := hw _ (List.mem_of_getElem? (i := 171) rfl)
theorem pd_172 : parseMethodDescriptor "(D[I[D)I" = some ⟨[.double, (.array .int), (.array .double)], some .int⟩ := by decide +kernel
def tw168 {Z a0} (hw : HW Z a0) := hw _ (List.mem_of_getElem? (i := 168) rfl)
def tw169 {Z a0} (hw : HW Z a0) := hw _ (List.mem_of_getElem? (i := 169) rfl)
def tw233 {Z a0} (hw : HW Z a0) := hw _ (List.mem_of_getElem? (i := 233) rfl)
def tw236 {Z a0} (hw : HW Z a0) := hw _ (List.mem_of_getElem? (i := 236) rfl)
def tw237 {Z a0} (hw : HW Z a0) := hw _ (List.mem_of_getElem? (i := 237) rfl)
theorem pd_173 : parseMethodDescriptor "(D[I[DI)I" = some ⟨[.double, (.array .int), (.array .double), .int], some .int⟩ := by decide +kernel
def tw234 {Z a0} (hw : HW Z a0) := hw _ (List.mem_of_getElem? (i := 234) rfl)
def tw235 {Z a0} (hw : HW Z a0) := hw _ (List.mem_of_getElem? (i := 235) rfl)
def tw286 {Z a0} (hw : HW Z a0) := hw _ (List.mem_of_getElem? (i := 286) rfl)
def tw289 {Z a0} (hw : HW Z a0) := hw _ (List.mem_of_getElem? (i := 289) rfl)
def tw290 {Z a0} (hw : HW Z a0) := hw _ (List.mem_of_getElem? (i := 290) rfl)
theorem pd_174 : parseMethodDescriptor "(I)D" = some ⟨[.int], some .double⟩ := by decide +kernel
def tw287 {Z a0} (hw : HW Z a0) := hw _ (List.mem_of_getElem? (i := 287) rfl)
def tw288 {Z a0} (hw : HW Z a0) := hw _ (List.mem_of_getElem? (i := 288) rfl)
set_option maxRecDepth 65536 in
set_option maxHeartbeats 40000000 in
theorem rm0 (l : Launch) (Z : State) (a0 : Array Value) (hw : ∀ d ∈ tables_1, d.before a0 Z = true) (ws : List Jvm.Cond) (p0 : Int32) (p1 : Int32) (p2 : Int32) (p3 : Int32) (p4 : Int32) (dE : Addr) (h0 : Heap) (n0 : Nat) (Z0 : n0 ≤ h0.size) (O1 : Old Z n0 h0) (AE : own_A Z h0 dE (.object "java/lang/Object") []) (oD : Sta Z Z.heap "java/util/ArrayList" "DEFAULTCAPACITY_EMPTY_ELEMENTDATA" "[Ljava/lang/Object;" (.ref dE)) :
  MetFree l x (head1 (Jvm.Cond.code x code maxLocals ret :: ws) room_1) (fun aA U => aA = #[(.int p0), (.int p1), (.int p2), (.int p3), (.int p4)] ∧ Z.Warmed39 U.vm ∧ U.heap = h0) (fun _ _ _ _ _ => True) (fun _ U o U' => ∃ vR LR, o = .returned vR ∧ Qrm0 Z p0 p1 p2 p3 p4 dE h0 n0 vR U'.heap LR ∧ FrameEnd U o U' LR 168 1344) := by
 refine MetFree.of_bodySF (plainFor_of_name pn_com_example_netloom_netloom_embed_SimplexValuePinLaw) hisR ?_
 intro p e s m args below meth c s₁ Bd hml0 hPre hKk
 obtain ⟨rfl, hZ, hh⟩ := hPre
 have hx := Bd.exec
 have hby := Bd.bytes
 have hH : ∀ {pc r}, decode code pc = r → decode c.code pc = r := fun q => hb hby q
 have hml : c.maxLocals = 17 := hml0
 have hown : s.vm.findClass "com/example/netloom/netloom/embed/SimplexValuePinLaw" = some m.cls := findClass_of_methodNamed Bd.named
 have hnm := (name_of_methodNamed Bd.named Bd.method).1
 have X0 : Stand p l e room_1 s m #[(.int p0), (.int p1), (.int p2), (.int p3), (.int p4)] below meth c s₁ [] 0 0 := Stand.of_body Bd
 have e0 : s₁.heap = h0 := by rw [← hh, Bd.state]; rfl
 have N0 := Fr.nil n0
 obtain ⟨E0, hE0⟩ : ∃ zE : State, zE = s₁.setTop (entryFrame m #[(.int p0), (.int p1), (.int p2), (.int p3), (.int p4)] maxLocals) := ⟨_, rfl⟩
 have k0 : own_G p e below E0 s₁ (mkF m 0 #[vi p0, vi p1, vi p2, vi p3, vi p4, uu, uu, uu, uu, uu, uu, uu, uu, uu, uu, uu, uu] []) := fun tz kz => hE0 ▸ castTop (ef_rm0 m p0 p1 p2 p3 p4 dE) kz
 have kJ0 : own_G p e below E0 s₁ (mkF m 1 #[vi p0, vi p1, vi p2, vi p3, vi p4, uu, uu, uu, uu, uu, uu, uu, uu, uu, uu, uu, uu] [(.int p0)]) := by
  intro tQ kk
  refine k0 tQ ?_
  refine XS.iloadN X0.here hx rfl (hH at_0) rfl ?_
  exact kk
 clear k0
 have stJ1 := X0.ldcInt hx hown (mvT hZ (tw0 hw)) (g := (mkF m 1 #[vi p0, vi p1, vi p2, vi p3, vi p4, uu, uu, uu, uu, uu, uu, uu, uu, uu, uu, uu, uu] [(.int p0)])) rfl (hH at_1)
 have kJ2 : own_G p e below E0 s₁ (mkF m 3 #[vi p0, vi p1, vi p2, vi p3, vi p4, uu, uu, uu, uu, uu, uu, uu, uu, uu, uu, uu, uu] [(.int (65535 : Int32)), (.int p0)]) := fun tQ kk => kJ0 tQ (stJ1 _ kk)
 clear kJ0 stJ1
 have kJ3 : own_G p e below E0 s₁ (mkF m 4 #[vi p0, vi p1, vi p2, vi p3, vi p4, uu, uu, uu, uu, uu, uu, uu, uu, uu, uu, uu, uu] [(.int (p0 &&& (65535 : Int32)))]) := by
  intro tQ kk
  refine kJ2 tQ ?_
  refine XS.iand X0.here hx rfl (hH at_3) rfl ?_
  exact kk
 clear kJ2
 obtain ⟨q, hq⟩ : ∃ vA, vA = (p0 &&& (65535 : Int32)) := ⟨_, rfl⟩
 have kJ4 : own_G p e below E0 s₁ (mkF m 4 #[vi p0, vi p1, vi p2, vi p3, vi p4, uu, uu, uu, uu, uu, uu, uu, uu, uu, uu, uu, uu] [(.int q)]) := by rw [hq]; exact kJ3
 have kJ5 : own_G p e below E0 s₁ (mkF m 7 #[vi p0, vi p1, vi p2, vi p3, vi p4, vi q, uu, uu, uu, uu, uu, uu, uu, uu, uu, uu, uu] [(.int p3)]) := by
  intro tQ kk
  refine kJ4 tQ ?_
  refine XS.istore X0.here hx rfl (hH at_4) rfl (l' := #[vi p0, vi p1, vi p2, vi p3, vi p4, vi q, uu, uu, uu, uu, uu, uu, uu, uu, uu, uu, uu]) rfl ?_
  refine XS.iloadN X0.here hx rfl (hH at_6) rfl ?_
  exact kk
 clear kJ4
 have stJ6 := X0.ldcInt hx hown (mvT hZ (tw0 hw)) (g := (mkF m 7 #[vi p0, vi p1, vi p2, vi p3, vi p4, vi q, uu, uu, uu, uu, uu, uu, uu, uu, uu, uu, uu] [(.int p3)])) rfl (hH at_7)
 have kJ7 : own_G p e below E0 s₁ (mkF m 9 #[vi p0, vi p1, vi p2, vi p3, vi p4, vi q, uu, uu, uu, uu, uu, uu, uu, uu, uu, uu, uu] [(.int (65535 : Int32)), (.int p3)]) := fun tQ kk => kJ5 tQ (stJ6 _ kk)
 clear kJ5 stJ6
 have kJ8 : own_G p e below E0 s₁ (mkF m 10 #[vi p0, vi p1, vi p2, vi p3, vi p4, vi q, uu, uu, uu, uu, uu, uu, uu, uu, uu, uu, uu] [(.int (p3 &&& (65535 : Int32)))]) := by
  intro tQ kk
  refine kJ7 tQ ?_
  refine XS.iand X0.here hx rfl (hH at_9) rfl ?_
  exact kk
 clear kJ7
 obtain ⟨r, hr⟩ : ∃ vA, vA = (p3 &&& (65535 : Int32)) := ⟨_, rfl⟩
 have kJ9 : own_G p e below E0 s₁ (mkF m 10 #[vi p0, vi p1, vi p2, vi p3, vi p4, vi q, uu, uu, uu, uu, uu, uu, uu, uu, uu, uu, uu] [(.int r)]) := by rw [hr]; exact kJ8
 have kJA : own_G p e below E0 s₁ (mkF m 23 #[vi p0, vi p1, vi p2, vi p3, vi p4, vi q, vi r, uu, uu, uu, uu, uu, uu, uu, uu, uu, uu] [(.int ((p1 >>> ((3 : Int32) &&& 31)) &&& (1 : Int32))), (.int ((p1 &&& (7 : Int32)) + (1 : Int32)))]) := by
  intro tQ kk
  refine kJ9 tQ ?_
  refine XS.istore X0.here hx rfl (hH at_10) rfl (l' := #[vi p0, vi p1, vi p2, vi p3, vi p4, vi q, vi r, uu, uu, uu, uu, uu, uu, uu, uu, uu, uu]) rfl ?_
  refine XS.iloadN X0.here hx rfl (hH at_12) rfl ?_
  refine XS.bipush X0.here hx rfl (hH at_13) ?_
  refine XS.iand X0.here hx rfl (hH at_15) rfl ?_
  refine XS.iconst X0.here hx rfl (hH at_16) ?_
  refine XS.iadd X0.here hx rfl (hH at_17) rfl ?_
  refine XS.iloadN X0.here hx rfl (hH at_18) rfl ?_
  refine XS.iconst X0.here hx rfl (hH at_19) ?_
  show Steps p.tables e below (s₁.setTop (mkF m 20 #[vi p0, vi p1, vi p2, vi p3, vi p4, vi q, vi r, uu, uu, uu, uu, uu, uu, uu, uu, uu, uu] [(.int (3 : Int32)), (.int p1), (.int ((p1 &&& (7 : Int32)) + (1 : Int32)))])) tQ
  refine XT.ishr X0.here hx rfl (hH at_20) rfl ?_
  refine XS.iconst X0.here hx rfl (hH at_21) ?_
  refine XS.iand X0.here hx rfl (hH at_22) rfl ?_
  exact kk
 clear kJ9
 have jnJF : ∃ (s0 : Int32), (own_pm s0) ∧ (own_G p e below E0 s₁ (mkF m 31 #[vi p0, vi p1, vi p2, vi p3, vi p4, vi q, vi r, uu, uu, uu, uu, uu, uu, uu, uu, uu, uu] [(.int s0), (.int ((p1 &&& (7 : Int32)) + (1 : Int32)))])) := by
  by_cases cJB : ((p1 >>> ((3 : Int32) &&& 31)) &&& (1 : Int32)) = 0
  ·skip
   have kJC : own_G p e below E0 s₁ (mkF m 31 #[vi p0, vi p1, vi p2, vi p3, vi p4, vi q, vi r, uu, uu, uu, uu, uu, uu, uu, uu, uu, uu] [(.int (1 : Int32)), (.int ((p1 &&& (7 : Int32)) + (1 : Int32)))]) := by
    intro tQ kk
    refine kJA tQ ?_
    refine XS.ifYes X0.here hx rfl (pc0 := 23) (pc' := 30) rfl (hH at_23) rfl (own_if_eqY cJB) (by decide) (by decide) ?_
    refine XS.iconst X0.here hx rfl (hH at_30) ?_
    exact kk
   clear kJA
   exact ⟨(1 : Int32), ((Or.inl rfl)), kJC⟩
  ·skip
   have kJD : own_G p e below E0 s₁ (mkF m 31 #[vi p0, vi p1, vi p2, vi p3, vi p4, vi q, vi r, uu, uu, uu, uu, uu, uu, uu, uu, uu, uu] [(.int (-1 : Int32)), (.int ((p1 &&& (7 : Int32)) + (1 : Int32)))]) := by
    intro tQ kk
    refine kJA tQ ?_
    refine XS.ifNo X0.here hx rfl (hH at_23) rfl (own_if_eqN cJB) ?_
    refine XS.iconst X0.here hx rfl (hH at_26) ?_
    refine XS.goto X0.here hx rfl (pc0 := 27) (pc' := 31) rfl (hH at_27) (by decide) (by decide) ?_
    exact kk
   clear kJA
   exact ⟨(-1 : Int32), ((Or.inr rfl)), kJD⟩
 obtain ⟨s0, hDJG, kJE⟩ := jnJF
 have hs0 := hDJG
 have kJH : own_G p e below E0 s₁ (mkF m 32 #[vi p0, vi p1, vi p2, vi p3, vi p4, vi q, vi r, uu, uu, uu, uu, uu, uu, uu, uu, uu, uu] [(.int (((p1 &&& (7 : Int32)) + (1 : Int32)) * s0))]) := by
  intro tQ kk
  refine kJE tQ ?_
  refine XS.imul X0.here hx rfl (hH at_31) rfl ?_
  exact kk
 clear kJE
 obtain ⟨Ea, hEa⟩ : ∃ vA, vA = (((p1 &&& (7 : Int32)) + (1 : Int32)) * s0) := ⟨_, rfl⟩
 have kJI : own_G p e below E0 s₁ (mkF m 32 #[vi p0, vi p1, vi p2, vi p3, vi p4, vi q, vi r, uu, uu, uu, uu, uu, uu, uu, uu, uu, uu] [(.int Ea)]) := by rw [hEa]; exact kJH
 have kJJ : own_G p e below E0 s₁ (mkF m 47 #[vi p0, vi p1, vi p2, vi p3, vi p4, vi q, vi r, vi Ea, uu, uu, uu, uu, uu, uu, uu, uu, uu] [(.int ((p4 >>> ((3 : Int32) &&& 31)) &&& (1 : Int32))), (.int ((p4 &&& (7 : Int32)) + (1 : Int32)))]) := by
  intro tQ kk
  refine kJI tQ ?_
  refine XS.istore X0.here hx rfl (hH at_32) rfl (l' := #[vi p0, vi p1, vi p2, vi p3, vi p4, vi q, vi r, vi Ea, uu, uu, uu, uu, uu, uu, uu, uu, uu]) rfl ?_
  refine XS.iload X0.here hx rfl (hH at_34) rfl ?_
  refine XS.bipush X0.here hx rfl (hH at_36) ?_
  refine XS.iand X0.here hx rfl (hH at_38) rfl ?_
  refine XS.iconst X0.here hx rfl (hH at_39) ?_
  refine XS.iadd X0.here hx rfl (hH at_40) rfl ?_
  refine XS.iload X0.here hx rfl (hH at_41) rfl ?_
  refine XS.iconst X0.here hx rfl (hH at_43) ?_
  show Steps p.tables e below (s₁.setTop (mkF m 44 #[vi p0, vi p1, vi p2, vi p3, vi p4, vi q, vi r, vi Ea, uu, uu, uu, uu, uu, uu, uu, uu, uu] [(.int (3 : Int32)), (.int p4), (.int ((p4 &&& (7 : Int32)) + (1 : Int32)))])) tQ
  refine XT.ishr X0.here hx rfl (hH at_44) rfl ?_
  refine XS.iconst X0.here hx rfl (hH at_45) ?_
  refine XS.iand X0.here hx rfl (hH at_46) rfl ?_
  exact kk
 clear kJI
 have jnJO : ∃ (s2 : Int32), (own_pm s2) ∧ (own_G p e below E0 s₁ (mkF m 55 #[vi p0, vi p1, vi p2, vi p3, vi p4, vi q, vi r, vi Ea, uu, uu, uu, uu, uu, uu, uu, uu, uu] [(.int s2), (.int ((p4 &&& (7 : Int32)) + (1 : Int32)))])) := by
  by_cases cJK : ((p4 >>> ((3 : Int32) &&& 31)) &&& (1 : Int32)) = 0
  ·skip
   have kJL : own_G p e below E0 s₁ (mkF m 55 #[vi p0, vi p1, vi p2, vi p3, vi p4, vi q, vi r, vi Ea, uu, uu, uu, uu, uu, uu, uu, uu, uu] [(.int (1 : Int32)), (.int ((p4 &&& (7 : Int32)) + (1 : Int32)))]) := by
    intro tQ kk
    refine kJJ tQ ?_
    refine XS.ifYes X0.here hx rfl (pc0 := 47) (pc' := 54) rfl (hH at_47) rfl (own_if_eqY cJK) (by decide) (by decide) ?_
    refine XS.iconst X0.here hx rfl (hH at_54) ?_
    exact kk
   clear kJJ
   exact ⟨(1 : Int32), ((Or.inl rfl)), kJL⟩
  ·skip
   have kJM : own_G p e below E0 s₁ (mkF m 55 #[vi p0, vi p1, vi p2, vi p3, vi p4, vi q, vi r, vi Ea, uu, uu, uu, uu, uu, uu, uu, uu, uu] [(.int (-1 : Int32)), (.int ((p4 &&& (7 : Int32)) + (1 : Int32)))]) := by
    intro tQ kk
    refine kJJ tQ ?_
    refine XS.ifNo X0.here hx rfl (hH at_47) rfl (own_if_eqN cJK) ?_
    refine XS.iconst X0.here hx rfl (hH at_50) ?_
    refine XS.goto X0.here hx rfl (pc0 := 51) (pc' := 55) rfl (hH at_51) (by decide) (by decide) ?_
    exact kk
   clear kJJ
   exact ⟨(-1 : Int32), ((Or.inr rfl)), kJM⟩
 obtain ⟨s2, hDJP, kJN⟩ := jnJO
 have hs2 := hDJP
 have kJQ : own_G p e below E0 s₁ (mkF m 56 #[vi p0, vi p1, vi p2, vi p3, vi p4, vi q, vi r, vi Ea, uu, uu, uu, uu, uu, uu, uu, uu, uu] [(.int (((p4 &&& (7 : Int32)) + (1 : Int32)) * s2))]) := by
  intro tQ kk
  refine kJN tQ ?_
  refine XS.imul X0.here hx rfl (hH at_55) rfl ?_
  exact kk
 clear kJN
 obtain ⟨Eb, hEb⟩ : ∃ vA, vA = (((p4 &&& (7 : Int32)) + (1 : Int32)) * s2) := ⟨_, rfl⟩
 have kJR : own_G p e below E0 s₁ (mkF m 56 #[vi p0, vi p1, vi p2, vi p3, vi p4, vi q, vi r, vi Ea, uu, uu, uu, uu, uu, uu, uu, uu, uu] [(.int Eb)]) := by rw [hEb]; exact kJQ
 have kJS : own_G p e below E0 s₁ (mkF m 67 #[vi p0, vi p1, vi p2, vi p3, vi p4, vi q, vi r, vi Ea, vi Eb, uu, uu, uu, uu, uu, uu, uu, uu] [(.int ((p2 &&& (255 : Int32)) - (128 : Int32)))]) := by
  intro tQ kk
  refine kJR tQ ?_
  refine XS.istore X0.here hx rfl (hH at_56) rfl (l' := #[vi p0, vi p1, vi p2, vi p3, vi p4, vi q, vi r, vi Ea, vi Eb, uu, uu, uu, uu, uu, uu, uu, uu]) rfl ?_
  refine XS.iloadN X0.here hx rfl (hH at_58) rfl ?_
  refine XS.sipush X0.here hx rfl (hH at_59) ?_
  refine XS.iand X0.here hx rfl (hH at_62) rfl ?_
  refine XS.sipush X0.here hx rfl (hH at_63) ?_
  refine XS.isub X0.here hx rfl (hH at_66) rfl ?_
  exact kk
 clear kJR
 obtain ⟨Aa, hA⟩ : ∃ vA, vA = ((p2 &&& (255 : Int32)) - (128 : Int32)) := ⟨_, rfl⟩
 have kJT : own_G p e below E0 s₁ (mkF m 67 #[vi p0, vi p1, vi p2, vi p3, vi p4, vi q, vi r, vi Ea, vi Eb, uu, uu, uu, uu, uu, uu, uu, uu] [(.int Aa)]) := by rw [hA]; exact kJS
 have kJU : own_G p e below E0 s₁ (mkF m 81 #[vi p0, vi p1, vi p2, vi p3, vi p4, vi q, vi r, vi Ea, vi Eb, vi Aa, uu, uu, uu, uu, uu, uu, uu] [(.int (((p2 >>> ((8 : Int32) &&& 31)) &&& (255 : Int32)) - (128 : Int32)))]) := by
  intro tQ kk
  refine kJT tQ ?_
  refine XS.istore X0.here hx rfl (hH at_67) rfl (l' := #[vi p0, vi p1, vi p2, vi p3, vi p4, vi q, vi r, vi Ea, vi Eb, vi Aa, uu, uu, uu, uu, uu, uu, uu]) rfl ?_
  refine XS.iloadN X0.here hx rfl (hH at_69) rfl ?_
  refine XS.bipush X0.here hx rfl (hH at_70) ?_
  refine XT.ishr X0.here hx rfl (hH at_72) rfl ?_
  refine XS.sipush X0.here hx rfl (hH at_73) ?_
  refine XS.iand X0.here hx rfl (hH at_76) rfl ?_
  refine XS.sipush X0.here hx rfl (hH at_77) ?_
  refine XS.isub X0.here hx rfl (hH at_80) rfl ?_
  exact kk
 clear kJT
 obtain ⟨C1, hC1⟩ : ∃ vA, vA = (((p2 >>> ((8 : Int32) &&& 31)) &&& (255 : Int32)) - (128 : Int32)) := ⟨_, rfl⟩
 have kJV : own_G p e below E0 s₁ (mkF m 81 #[vi p0, vi p1, vi p2, vi p3, vi p4, vi q, vi r, vi Ea, vi Eb, vi Aa, uu, uu, uu, uu, uu, uu, uu] [(.int C1)]) := by rw [hC1]; exact kJU
 have kJW : own_G p e below E0 s₁ (mkF m 88 #[vi p0, vi p1, vi p2, vi p3, vi p4, vi q, vi r, vi Ea, vi Eb, vi Aa, vi C1, uu, uu, uu, uu, uu, uu] [(.int (q * Ea))]) := by
  intro tQ kk
  refine kJV tQ ?_
  refine XS.istore X0.here hx rfl (hH at_81) rfl (l' := #[vi p0, vi p1, vi p2, vi p3, vi p4, vi q, vi r, vi Ea, vi Eb, vi Aa, vi C1, uu, uu, uu, uu, uu, uu]) rfl ?_
  refine XS.iload X0.here hx rfl (hH at_83) rfl ?_
  refine XS.iload X0.here hx rfl (hH at_85) rfl ?_
  refine XS.imul X0.here hx rfl (hH at_87) rfl ?_
  exact kk
 clear kJV
 obtain ⟨B0, hB0⟩ : ∃ vA, vA = (q * Ea) := ⟨_, rfl⟩
 have kJX : own_G p e below E0 s₁ (mkF m 88 #[vi p0, vi p1, vi p2, vi p3, vi p4, vi q, vi r, vi Ea, vi Eb, vi Aa, vi C1, uu, uu, uu, uu, uu, uu] [(.int B0)]) := by rw [hB0]; exact kJW
 have kJY : own_G p e below E0 s₁ (mkF m 101 #[vi p0, vi p1, vi p2, vi p3, vi p4, vi q, vi r, vi Ea, vi Eb, vi Aa, vi C1, vi B0, uu, uu, uu, uu, uu] [(.int ((Aa * q) + (r * Eb)))]) := by
  intro tQ kk
  refine kJX tQ ?_
  refine XS.istore X0.here hx rfl (hH at_88) rfl (l' := #[vi p0, vi p1, vi p2, vi p3, vi p4, vi q, vi r, vi Ea, vi Eb, vi Aa, vi C1, vi B0, uu, uu, uu, uu, uu]) rfl ?_
  refine XS.iload X0.here hx rfl (hH at_90) rfl ?_
  refine XS.iload X0.here hx rfl (hH at_92) rfl ?_
  refine XS.imul X0.here hx rfl (hH at_94) rfl ?_
  refine XS.iload X0.here hx rfl (hH at_95) rfl ?_
  refine XS.iload X0.here hx rfl (hH at_97) rfl ?_
  refine XS.imul X0.here hx rfl (hH at_99) rfl ?_
  refine XS.iadd X0.here hx rfl (hH at_100) rfl ?_
  exact kk
 clear kJX
 obtain ⟨B1, hB1⟩ : ∃ vA, vA = ((Aa * q) + (r * Eb)) := ⟨_, rfl⟩
 have kJZ : own_G p e below E0 s₁ (mkF m 101 #[vi p0, vi p1, vi p2, vi p3, vi p4, vi q, vi r, vi Ea, vi Eb, vi Aa, vi C1, vi B0, uu, uu, uu, uu, uu] [(.int B1)]) := by rw [hB1]; exact kJY
 have bE0 := own_eb p1 hs0 hEa
 have bE2 := own_eb p4 hs2 hEb
 have bq := own_q16 p0 hq
 have br := own_q16 p3 hr
 have bA := own_a8 p2 hA
 have iB0 := own_b0 bq bE0 hB0
 have iB1 := own_b1 bA bq br bE2 hB1
 have kK0 : own_G p e below E0 s₁ (mkF m 103 #[vi p0, vi p1, vi p2, vi p3, vi p4, vi q, vi r, vi Ea, vi Eb, vi Aa, vi C1, vi B0, vi B1, uu, uu, uu, uu] []) := by
  intro tQ kk
  refine kJZ tQ ?_
  refine XS.istore X0.here hx rfl (hH at_101) rfl (l' := #[vi p0, vi p1, vi p2, vi p3, vi p4, vi q, vi r, vi Ea, vi Eb, vi Aa, vi C1, vi B0, vi B1, uu, uu, uu, uu]) rfl ?_
  exact kk
 clear kJZ
 obtain ⟨TK1, hK2, XK3, eK4, EK5, AK6, DK7, UnKB, stK8⟩ := newO X0 hx hZ hown (tw1 hw) (tw2 hw) (tw3 hw) e0 (g := (mkF m 103 #[vi p0, vi p1, vi p2, vi p3, vi p4, vi q, vi r, vi Ea, vi Eb, vi Aa, vi C1, vi B0, vi B1, uu, uu, uu, uu] [])) rfl (hH at_103) (by decide) (by decide)
 obtain ⟨aK9, gKA⟩ : ∃ zA : Nat, zA = h0.size := ⟨_, rfl⟩
 rw [← gKA] at AK6 DK7 stK8 UnKB
 have nKC := own_lt_ne AE.lt gKA
 have geKD : n0 ≤ aK9 := own_ge_of Z0 gKA
 replace Z0 := Nat.le_trans Z0 EK5.1
 replace O1 := O1.ext EK5
 replace AE := AE.ext EK5
 have UnKE : Unt hK2 aK9 := UnKB
 have FKF : Fld Z hK2 aK9 "com/example/netloom/netloom/embed/Simplex" "columns" "Ljava/util/List;" .null := (DK7 (Or.inr (tw35 hw)) (ty := (.object "java/util/List")) (by decide))
 have FKG : Fld Z hK2 aK9 "com/example/netloom/netloom/embed/Simplex" "cost" "[D" .null := (DK7 (Or.inl (tw38 hw)) (ty := (.array .double)) (by decide))
 have FKH : Fld Z hK2 aK9 "com/example/netloom/netloom/embed/Simplex" "rhs" "[D" .null := (DK7 (Or.inl (tw40 hw)) (ty := (.array .double)) (by decide))
 have FKI : Fld Z hK2 aK9 "com/example/netloom/netloom/embed/Simplex" "basic" "[I" .null := (DK7 (Or.inl (tw43 hw)) (ty := (.array .int)) (by decide))
 have FKJ : Fld Z hK2 aK9 "com/example/netloom/netloom/embed/Simplex" "positionOf" "[I" .null := (DK7 (Or.inl (tw45 hw)) (ty := (.array .int)) (by decide))
 have FKK : Fld Z hK2 aK9 "com/example/netloom/netloom/embed/Simplex" "factor" "Lcom/example/netloom/netloom/embed/BasisFactor;" .null := (DK7 (Or.inr (tw162 hw)) (ty := (.object "com/example/netloom/netloom/embed/BasisFactor")) (by decide))
 have FKL : Fld Z hK2 aK9 "com/example/netloom/netloom/embed/Simplex" "value" "[D" .null := (DK7 (Or.inl (tw164 hw)) (ty := (.array .double)) (by decide))
 have FKM : Fld Z hK2 aK9 "com/example/netloom/netloom/embed/Simplex" "dual" "[D" .null := (DK7 (Or.inl (tw166 hw)) (ty := (.array .double)) (by decide))
 have FKN : Fld Z hK2 aK9 "com/example/netloom/netloom/embed/Simplex" "rowCount" "I" (.int (0 : Int32)) := (DK7 (Or.inl (tw239 hw)) (ty := .int) (by decide))
 have kKO : own_G p e below E0 TK1 (mkF m 106 #[vi p0, vi p1, vi p2, vi p3, vi p4, vi q, vi r, vi Ea, vi Eb, vi Aa, vi C1, vi B0, vi B1, uu, uu, uu, uu] [(.ref aK9)]) := fun tQ kk => kK0 tQ (stK8 _ kk)
 clear kK0 stK8
 have kKP : own_G p e below E0 TK1 (mkF m 107 #[vi p0, vi p1, vi p2, vi p3, vi p4, vi q, vi r, vi Ea, vi Eb, vi Aa, vi C1, vi B0, vi B1, uu, uu, uu, uu] [(.ref aK9), (.ref aK9)]) := by
  intro tQ kk
  refine kKO tQ ?_
  refine XS.dup XK3.here hx rfl (hH at_106) rfl rfl ?_
  exact kk
 clear kKO
 obtain ⟨_, _, ⟨TKQ, LKR, kcKS, ncKT⟩, -, XKU, ⟨LcKV, hQKW, lKX, yKY, zKZ⟩, stL0⟩ := XK3.specialBack hx (y := mn51) rfl hown (mvT hZ (tw4 hw)) (mvT hZ (tw5 hw)) (mvT hZ (tw6 hw)) (by decide) (backOf (W := 1) (rmSx l Z a0 hw [] aK9 dE hK2 n0 Z0 O1 AK6 FKF FKG FKH FKI FKJ FKK FKL FKM FKN geKD oD) hZ (tw6 hw) (tw3 hw) (by decide) (by decide)) (g := (mkF m 107 #[vi p0, vi p1, vi p2, vi p3, vi p4, vi q, vi r, vi Ea, vi Eb, vi Aa, vi C1, vi B0, vi B1, uu, uu, uu, uu] [(.ref aK9), (.ref aK9)])) rfl (by rw [hml]; rfl) (Steps.refl _) (a := aK9) (argsL := []) (rest := [(.ref aK9)]) (lenOf pd_8 rfl) rfl (by show 2 * 0 + _ ≤ _; exact Nat.le_of_eq rfl) (hH at_107) (fun _ _ => ⟨rfl, eK4, (by decide : 1 + 55 ≤ _), (by decide : 12 + 576 ≤ _)⟩)
 dsimp only [Pt.U, Pt.locs, Pt.cells, Pt.slots] at XKU lKX yKY zKZ stL0 hQKW
 subst yKY zKZ
 obtain ⟨alL4, cAL5, roL6, baL7, pAL8, faL9, vaLA, rfl, NL1, KLB, gLC, gLD, gLE, gLF, gLG, gLH, gLI, gLJ, gLK, gLL, gLM, gLN, gLO, gLP, gLQ, gLR, gLS, gLT, gLU, nwLV, nwLW, nwLX, nwLY, nwLZ, nwM0, nwM1, nM2, nM3, nM4, nM5, nM6, nM7, nM8, nM9, nMA, nMB, nMC, nMD, nME, nMF, nMG, nMH, nMI, nMJ, nMK, nML, nMM⟩ := hQKW
 have NMN : Fr n0 LKR := by rw [lKX]; exact Fr.app N0 NL1
 clear lKX NL1
 have geMO : n0 ≤ alL4 := Nat.le_trans Z0 nwLV
 have nMP : dE ≠ alL4 := own_lt_ne2 AE.lt nwLV
 have nMQ : aK9 ≠ alL4 := own_lt_ne2 AK6.lt nwLV
 have geMR : n0 ≤ cAL5 := Nat.le_trans Z0 nwLW
 have nMS : dE ≠ cAL5 := own_lt_ne2 AE.lt nwLW
 have nMT : aK9 ≠ cAL5 := own_lt_ne2 AK6.lt nwLW
 have geMU : n0 ≤ roL6 := Nat.le_trans Z0 nwLX
 have nMV : dE ≠ roL6 := own_lt_ne2 AE.lt nwLX
 have nMW : aK9 ≠ roL6 := own_lt_ne2 AK6.lt nwLX
 have geMX : n0 ≤ baL7 := Nat.le_trans Z0 nwLY
 have nMY : dE ≠ baL7 := own_lt_ne2 AE.lt nwLY
 have nMZ : aK9 ≠ baL7 := own_lt_ne2 AK6.lt nwLY
 have geN0 : n0 ≤ pAL8 := Nat.le_trans Z0 nwLZ
 have nN1 : dE ≠ pAL8 := own_lt_ne2 AE.lt nwLZ
 have nN2 : aK9 ≠ pAL8 := own_lt_ne2 AK6.lt nwLZ
 have geN3 : n0 ≤ faL9 := Nat.le_trans Z0 nwM0
 have nN4 : dE ≠ faL9 := own_lt_ne2 AE.lt nwM0
 have nN5 : aK9 ≠ faL9 := own_lt_ne2 AK6.lt nwM0
 have geN6 : n0 ≤ vaLA := Nat.le_trans Z0 nwM1
 have nN7 : dE ≠ vaLA := own_lt_ne2 AE.lt nwM1
 have nN8 : aK9 ≠ vaLA := own_lt_ne2 AK6.lt nwM1
 replace Z0 := Nat.le_trans Z0 KLB.1
 replace O1 := O1.keep KLB (allS geKD all0)
 replace AE := AE.keep KLB (ninS nKC nin0)
 replace AK6 := AK6.keep KLB
 clear UnKE
 clear FKF
 clear FKG
 clear FKH
 clear FKI
 clear FKJ
 clear FKK
 clear FKL
 clear FKM
 clear FKN
 have kN9 : own_G p e below E0 TKQ (mkF m 110 #[vi p0, vi p1, vi p2, vi p3, vi p4, vi q, vi r, vi Ea, vi Eb, vi Aa, vi C1, vi B0, vi B1, uu, uu, uu, uu] [(.ref aK9)]) := fun tQ kk => kKP tQ (stL0.trans kk)
 clear kKP stL0
 have kNA : own_G p e below E0 TKQ (mkF m 116 #[vi p0, vi p1, vi p2, vi p3, vi p4, vi q, vi r, vi Ea, vi Eb, vi Aa, vi C1, vi B0, vi B1, vr aK9, uu, uu, uu] [(.int (0 : Int32)), (.double FP.dconst1), (.ref aK9)]) := by
  intro tQ kk
  refine kN9 tQ ?_
  refine XS.astore XKU.here hx rfl (hH at_110) rfl rfl (l' := #[vi p0, vi p1, vi p2, vi p3, vi p4, vi q, vi r, vi Ea, vi Eb, vi Aa, vi C1, vi B0, vi B1, vr aK9, uu, uu, uu]) rfl ?_
  refine XS.aload XKU.here hx rfl (hH at_112) rfl rfl ?_
  refine XS.dconst1 XKU.here hx rfl (hH at_114) rfl ?_
  refine XS.iconst XKU.here hx rfl (hH at_115) ?_
  exact kk
 clear kN9
 obtain ⟨TNB, hNC, cAND, XNE, eNF, ENG, ANH, stNI⟩ := newP (aty := .int) XKU hx hZ (tw41 hw) rfl (g := (mkF m 116 #[vi p0, vi p1, vi p2, vi p3, vi p4, vi q, vi r, vi Ea, vi Eb, vi Aa, vi C1, vi B0, vi B1, vr aK9, uu, uu, uu] [(.int (0 : Int32)), (.double FP.dconst1), (.ref aK9)])) rfl (hH at_116) rfl (by decide) (cap := 0) (by decide) (by decide) (by decide) (by decide)
 obtain ⟨aNJ, gNK⟩ : ∃ zA : Nat, zA = TKQ.heap.size := ⟨_, rfl⟩
 rw [← gNK] at ANH stNI
 have nNL := own_lt_ne AE.lt gNK
 have nNM := own_lt_ne AK6.lt gNK
 have nNN := own_lt_ne gLK.lt gNK
 have nNO := own_lt_ne gLO.lt gNK
 have nNP := own_lt_ne gLQ.lt gNK
 have nNQ := own_lt_ne gLR.lt gNK
 have nNR := own_lt_ne gLS.lt gNK
 have nNS := own_lt_ne gLT.lt gNK
 have nNT := own_lt_ne gLU.lt gNK
 have geNU : n0 ≤ aNJ := own_ge_of Z0 gNK
 replace Z0 := Nat.le_trans Z0 ENG.1
 replace O1 := O1.ext ENG
 replace AE := AE.ext ENG
 replace AK6 := AK6.ext ENG
 replace gLC := gLC.ext ENG
 replace gLD := gLD.ext ENG
 replace gLE := gLE.ext ENG
 replace gLF := gLF.ext ENG
 replace gLG := gLG.ext ENG
 replace gLH := gLH.ext ENG
 replace gLI := gLI.ext ENG
 replace gLJ := gLJ.ext ENG
 replace gLK := gLK.ext ENG
 replace gLL := gLL.ext ENG
 replace gLM := gLM.ext ENG
 replace gLN := gLN.ext ENG
 replace gLO := gLO.ext ENG
 replace gLP := gLP.ext ENG
 replace gLQ := gLQ.ext ENG
 replace gLR := gLR.ext ENG
 replace gLS := gLS.ext ENG
 replace gLT := gLT.ext ENG
 replace gLU := gLU.ext ENG
 have FNV : own_A Z hNC aNJ .int [] := own_A.new ANH
 have kNW : own_G p e below E0 TNB (mkF m 118 #[vi p0, vi p1, vi p2, vi p3, vi p4, vi q, vi r, vi Ea, vi Eb, vi Aa, vi C1, vi B0, vi B1, vr aK9, uu, uu, uu] [(.ref aNJ), (.double FP.dconst1), (.ref aK9)]) := fun tQ kk => kNA tQ (stNI _ kk)
 clear kNA stNI
 have kNX : own_G p e below E0 TNB (mkF m 119 #[vi p0, vi p1, vi p2, vi p3, vi p4, vi q, vi r, vi Ea, vi Eb, vi Aa, vi C1, vi B0, vi B1, vr aK9, uu, uu, uu] [(.int (0 : Int32)), (.ref aNJ), (.double FP.dconst1), (.ref aK9)]) := by
  intro tQ kk
  refine kNW tQ ?_
  refine XS.iconst XNE.here hx rfl (hH at_118) ?_
  exact kk
 clear kNW
 obtain ⟨TNY, hNZ, cAP0, XP1, eP2, EP3, AP4, stP5⟩ := newP (aty := .double) XNE hx hZ (tw36 hw) eNF (g := (mkF m 119 #[vi p0, vi p1, vi p2, vi p3, vi p4, vi q, vi r, vi Ea, vi Eb, vi Aa, vi C1, vi B0, vi B1, vr aK9, uu, uu, uu] [(.int (0 : Int32)), (.ref aNJ), (.double FP.dconst1), (.ref aK9)])) rfl (hH at_119) rfl (by decide) (cap := 0) (by decide) (by decide) (by decide) (by decide)
 obtain ⟨aP6, gP7⟩ : ∃ zA : Nat, zA = hNC.size := ⟨_, rfl⟩
 rw [← gP7] at AP4 stP5
 have nP8 := own_lt_ne AE.lt gP7
 have nP9 := own_lt_ne AK6.lt gP7
 have nPA := own_lt_ne gLK.lt gP7
 have nPB := own_lt_ne gLO.lt gP7
 have nPC := own_lt_ne gLQ.lt gP7
 have nPD := own_lt_ne gLR.lt gP7
 have nPE := own_lt_ne gLS.lt gP7
 have nPF := own_lt_ne gLT.lt gP7
 have nPG := own_lt_ne gLU.lt gP7
 have nPH := own_lt_ne FNV.lt gP7
 have gePI : n0 ≤ aP6 := own_ge_of Z0 gP7
 replace Z0 := Nat.le_trans Z0 EP3.1
 replace O1 := O1.ext EP3
 replace AE := AE.ext EP3
 replace AK6 := AK6.ext EP3
 replace gLC := gLC.ext EP3
 replace gLD := gLD.ext EP3
 replace gLE := gLE.ext EP3
 replace gLF := gLF.ext EP3
 replace gLG := gLG.ext EP3
 replace gLH := gLH.ext EP3
 replace gLI := gLI.ext EP3
 replace gLJ := gLJ.ext EP3
 replace gLK := gLK.ext EP3
 replace gLL := gLL.ext EP3
 replace gLM := gLM.ext EP3
 replace gLN := gLN.ext EP3
 replace gLO := gLO.ext EP3
 replace gLP := gLP.ext EP3
 replace gLQ := gLQ.ext EP3
 replace gLR := gLR.ext EP3
 replace gLS := gLS.ext EP3
 replace gLT := gLT.ext EP3
 replace gLU := gLU.ext EP3
 replace FNV := FNV.ext EP3
 have FPJ : own_A Z hNZ aP6 .double [] := own_A.new AP4
 have kPK : own_G p e below E0 TNY (mkF m 121 #[vi p0, vi p1, vi p2, vi p3, vi p4, vi q, vi r, vi Ea, vi Eb, vi Aa, vi C1, vi B0, vi B1, vr aK9, uu, uu, uu] [(.ref aP6), (.ref aNJ), (.double FP.dconst1), (.ref aK9)]) := fun tQ kk => kNX tQ (stP5 _ kk)
 clear kNX stP5
 obtain ⟨cqPW, kqPX, qaPY, qbPZ, qcQ0⟩ := isOf hZ eP2 AK6
 obtain ⟨_, _, ⟨TPL, LPM, kcPN, ncPO⟩, -, XPP, ⟨LcPQ, hQPR, lPS, yPT, zPU⟩, stPV⟩ := XP1.virtualBack hx (y := mn152) (z := mn152) hown (mvT hZ (tw167 hw)) (mvT hZ (tw168 hw)) (notFace_of_selects (args := #[]) (mvT hZ (tw170 hw))) (mvT hZ (tw170 hw)) (mvT hZ (tw169 hw)) (by decide) (backOf (W := 0) (rmCo0 l Z a0 hw [] aK9 aNJ aP6 alL4 cAL5 roL6 baL7 pAL8 faL9 vaLA dE own_d16 own_i16 FP.dconst1 hNZ n0 Z0 AK6 gLC gLD gLE gLF gLG gLH gLI gLJ gLK gLM gLN gLL O1 AE gLQ gLT FNV FPJ nMQ nMT nN2 nNM nP9 (Ne.symm nKC) nM2 nM5 nNN nPA (Ne.symm nMP) nMA nNP nPC (Ne.symm nMS) nNS nPF (Ne.symm nN1) geKD geMO geMR geN0 rfl rfl oD) hZ (tw171 hw) (tw3 hw) (by decide) (by decide)) qaPY qcQ0 (g := (mkF m 121 #[vi p0, vi p1, vi p2, vi p3, vi p4, vi q, vi r, vi Ea, vi Eb, vi Aa, vi C1, vi B0, vi B1, vr aK9, uu, uu, uu] [(.ref aP6), (.ref aNJ), (.double FP.dconst1), (.ref aK9)])) rfl (by rw [hml]; rfl) (Steps.refl _) (argsL := [(.double FP.dconst1), (.ref aNJ), (.ref aP6)]) (rest := []) (lenOf pd_172 rfl) rfl (by show 2 * 0 + _ ≤ _; exact Nat.le_of_eq rfl) (hH at_121) (fun _ _ => ⟨rfl, eP2, (by decide : 58 + 4 ≤ _), (by decide : 588 + 21 ≤ _)⟩)
 dsimp only [Pt.U, Pt.locs, Pt.cells, Pt.slots] at XPP lPS yPT zPU stPV hQPR
 subst yPT zPU
 obtain ⟨rQ4, scQ5, r1Q6, r2Q7, rfl, NQ1, KQ8, gQ9, gQA, gQB, gQC, gQD, gQE, gQF, gQG, gQH, gQI, gQJ, gQK, gQL, gQM, gQN, gQO, gQP, gQQ, gQR, gQS, nwQT, nwQU, nwQV, nwQW, nQX, nQY, nQZ, nR0, nR1, nR2⟩ := hQPR
 have NR3 : Fr n0 LPM := by rw [lPS]; exact Fr.app NMN NQ1
 clear lPS NQ1
 have geR4 : n0 ≤ rQ4 := Nat.le_trans Z0 nwQT
 have nR5 : dE ≠ rQ4 := own_lt_ne2 AE.lt nwQT
 have nR6 : aK9 ≠ rQ4 := own_lt_ne2 AK6.lt nwQT
 have nR7 : alL4 ≠ rQ4 := own_lt_ne2 gLK.lt nwQT
 have nR8 : faL9 ≠ rQ4 := own_lt_ne2 gLO.lt nwQT
 have nR9 : cAL5 ≠ rQ4 := own_lt_ne2 gLQ.lt nwQT
 have nRA : roL6 ≠ rQ4 := own_lt_ne2 gLR.lt nwQT
 have nRB : baL7 ≠ rQ4 := own_lt_ne2 gLS.lt nwQT
 have nRC : pAL8 ≠ rQ4 := own_lt_ne2 gLT.lt nwQT
 have nRD : vaLA ≠ rQ4 := own_lt_ne2 gLU.lt nwQT
 have nRE : aNJ ≠ rQ4 := own_lt_ne2 FNV.lt nwQT
 have nRF : aP6 ≠ rQ4 := own_lt_ne2 FPJ.lt nwQT
 have geRG : n0 ≤ scQ5 := Nat.le_trans Z0 nwQU
 have nRH : dE ≠ scQ5 := own_lt_ne2 AE.lt nwQU
 have nRI : aK9 ≠ scQ5 := own_lt_ne2 AK6.lt nwQU
 have nRJ : alL4 ≠ scQ5 := own_lt_ne2 gLK.lt nwQU
 have nRK : faL9 ≠ scQ5 := own_lt_ne2 gLO.lt nwQU
 have nRL : cAL5 ≠ scQ5 := own_lt_ne2 gLQ.lt nwQU
 have nRM : roL6 ≠ scQ5 := own_lt_ne2 gLR.lt nwQU
 have nRN : baL7 ≠ scQ5 := own_lt_ne2 gLS.lt nwQU
 have nRO : pAL8 ≠ scQ5 := own_lt_ne2 gLT.lt nwQU
 have nRP : vaLA ≠ scQ5 := own_lt_ne2 gLU.lt nwQU
 have nRQ : aNJ ≠ scQ5 := own_lt_ne2 FNV.lt nwQU
 have nRR : aP6 ≠ scQ5 := own_lt_ne2 FPJ.lt nwQU
 have geRS : n0 ≤ r1Q6 := Nat.le_trans Z0 nwQV
 have nRT : dE ≠ r1Q6 := own_lt_ne2 AE.lt nwQV
 have nRU : aK9 ≠ r1Q6 := own_lt_ne2 AK6.lt nwQV
 have nRV : alL4 ≠ r1Q6 := own_lt_ne2 gLK.lt nwQV
 have nRW : faL9 ≠ r1Q6 := own_lt_ne2 gLO.lt nwQV
 have nRX : cAL5 ≠ r1Q6 := own_lt_ne2 gLQ.lt nwQV
 have nRY : roL6 ≠ r1Q6 := own_lt_ne2 gLR.lt nwQV
 have nRZ : baL7 ≠ r1Q6 := own_lt_ne2 gLS.lt nwQV
 have nS0 : pAL8 ≠ r1Q6 := own_lt_ne2 gLT.lt nwQV
 have nS1 : vaLA ≠ r1Q6 := own_lt_ne2 gLU.lt nwQV
 have nS2 : aNJ ≠ r1Q6 := own_lt_ne2 FNV.lt nwQV
 have nS3 : aP6 ≠ r1Q6 := own_lt_ne2 FPJ.lt nwQV
 have geS4 : n0 ≤ r2Q7 := Nat.le_trans Z0 nwQW
 have nS5 : dE ≠ r2Q7 := own_lt_ne2 AE.lt nwQW
 have nS6 : aK9 ≠ r2Q7 := own_lt_ne2 AK6.lt nwQW
 have nS7 : alL4 ≠ r2Q7 := own_lt_ne2 gLK.lt nwQW
 have nS8 : faL9 ≠ r2Q7 := own_lt_ne2 gLO.lt nwQW
 have nS9 : cAL5 ≠ r2Q7 := own_lt_ne2 gLQ.lt nwQW
 have nSA : roL6 ≠ r2Q7 := own_lt_ne2 gLR.lt nwQW
 have nSB : baL7 ≠ r2Q7 := own_lt_ne2 gLS.lt nwQW
 have nSC : pAL8 ≠ r2Q7 := own_lt_ne2 gLT.lt nwQW
 have nSD : vaLA ≠ r2Q7 := own_lt_ne2 gLU.lt nwQW
 have nSE : aNJ ≠ r2Q7 := own_lt_ne2 FNV.lt nwQW
 have nSF : aP6 ≠ r2Q7 := own_lt_ne2 FPJ.lt nwQW
 replace Z0 := Nat.le_trans Z0 KQ8.1
 replace O1 := O1.keep KQ8 (allS geKD (allS geMO (allS geMR (allS geN0 all0))))
 replace AE := AE.keep KQ8 (ninS nKC (ninS nMP (ninS nMS (ninS nN1 nin0))))
 replace AK6 := AK6.keep KQ8
 clear gLC
 clear gLD
 clear gLE
 clear gLF
 clear gLG
 clear gLH
 clear gLI
 clear gLJ
 replace gLK := gLK.keep KQ8
 clear gLL
 clear gLM
 clear gLN
 replace gLO := gLO.keep KQ8
 replace gLP := gLP.keep KQ8 (ninS (Ne.symm nN5) (ninS (Ne.symm nM6) (ninS (Ne.symm nMB) (ninS (Ne.symm nMK) nin0))))
 clear gLQ
 replace gLR := gLR.keep KQ8 (ninS (Ne.symm nMW) (ninS (Ne.symm nM3) (ninS (Ne.symm nM8) (ninS nME nin0))))
 replace gLS := gLS.keep KQ8 (ninS (Ne.symm nMZ) (ninS (Ne.symm nM4) (ninS (Ne.symm nM9) (ninS nMH nin0))))
 clear gLT
 replace gLU := gLU.keep KQ8 (ninS (Ne.symm nN8) (ninS (Ne.symm nM7) (ninS (Ne.symm nMC) (ninS (Ne.symm nML) nin0))))
 replace FNV := FNV.keep KQ8 (ninS (Ne.symm nNM) (ninS (Ne.symm nNN) (ninS (Ne.symm nNP) (ninS (Ne.symm nNS) nin0))))
 replace FPJ := FPJ.keep KQ8 (ninS (Ne.symm nP9) (ninS (Ne.symm nPA) (ninS (Ne.symm nPC) (ninS (Ne.symm nPF) nin0))))
 have kSG : own_G p e below E0 TPL (mkF m 124 #[vi p0, vi p1, vi p2, vi p3, vi p4, vi q, vi r, vi Ea, vi Eb, vi Aa, vi C1, vi B0, vi B1, vr aK9, uu, uu, uu] [(.int (0 : Int32))]) := fun tQ kk => kPK tQ (stPV.trans kk)
 clear kPK stPV
 have kSH : own_G p e below E0 TPL (mkF m 130 #[vi p0, vi p1, vi p2, vi p3, vi p4, vi q, vi r, vi Ea, vi Eb, vi Aa, vi C1, vi B0, vi B1, vr aK9, vi (0 : Int32), uu, uu] [(.int (0 : Int32)), (.double FP.dconst1), (.ref aK9)]) := by
  intro tQ kk
  refine kSG tQ ?_
  refine XS.istore XPP.here hx rfl (hH at_124) rfl (l' := #[vi p0, vi p1, vi p2, vi p3, vi p4, vi q, vi r, vi Ea, vi Eb, vi Aa, vi C1, vi B0, vi B1, vr aK9, vi (0 : Int32), uu, uu]) rfl ?_
  refine XS.aload XPP.here hx rfl (hH at_126) rfl rfl ?_
  refine XS.dconst1 XPP.here hx rfl (hH at_128) rfl ?_
  refine XS.iconst XPP.here hx rfl (hH at_129) ?_
  exact kk
 clear kSG
 obtain ⟨TSI, hSJ, cASK, XSL, eSM, ESN, ASO, stSP⟩ := newP (aty := .int) XPP hx hZ (tw41 hw) rfl (g := (mkF m 130 #[vi p0, vi p1, vi p2, vi p3, vi p4, vi q, vi r, vi Ea, vi Eb, vi Aa, vi C1, vi B0, vi B1, vr aK9, vi (0 : Int32), uu, uu] [(.int (0 : Int32)), (.double FP.dconst1), (.ref aK9)])) rfl (hH at_130) rfl (by decide) (cap := 0) (by decide) (by decide) (by decide) (by decide)
 obtain ⟨aSQ, gSR⟩ : ∃ zA : Nat, zA = TPL.heap.size := ⟨_, rfl⟩
 rw [← gSR] at ASO stSP
 have nSS := own_lt_ne AK6.lt gSR
 have nST := own_lt_ne gLK.lt gSR
 have nSU := own_lt_ne gLO.lt gSR
 have nSV := own_lt_ne gLR.lt gSR
 have nSW := own_lt_ne gLS.lt gSR
 have nSX := own_lt_ne gLU.lt gSR
 have nSY := own_lt_ne gQK.lt gSR
 have nSZ := own_lt_ne gQL.lt gSR
 have nT0 := own_lt_ne gQM.lt gSR
 have nT1 := own_lt_ne gQN.lt gSR
 have nT2 := own_lt_ne gQR.lt gSR
 have nT3 := own_lt_ne gQS.lt gSR
 have geT4 : n0 ≤ aSQ := own_ge_of Z0 gSR
 replace Z0 := Nat.le_trans Z0 ESN.1
 replace AK6 := AK6.ext ESN
 replace gLK := gLK.ext ESN
 replace gLO := gLO.ext ESN
 replace gLP := gLP.ext ESN
 replace gLR := gLR.ext ESN
 replace gLS := gLS.ext ESN
 replace gLU := gLU.ext ESN
 replace gQ9 := gQ9.ext ESN
 replace gQA := gQA.ext ESN
 replace gQB := gQB.ext ESN
 replace gQC := gQC.ext ESN
 replace gQD := gQD.ext ESN
 replace gQE := gQE.ext ESN
 replace gQF := gQF.ext ESN
 replace gQG := gQG.ext ESN
 replace gQH := gQH.ext ESN
 replace gQI := gQI.ext ESN
 replace gQJ := gQJ.ext ESN
 replace gQK := gQK.ext ESN
 replace gQL := gQL.ext ESN
 replace gQM := gQM.ext ESN
 replace gQN := gQN.ext ESN
 replace gQO := gQO.ext ESN
 replace gQP := gQP.ext ESN
 replace gQQ := gQQ.ext ESN
 replace gQR := gQR.ext ESN
 replace gQS := gQS.ext ESN
 have FT5 : own_A Z hSJ aSQ .int [] := own_A.new ASO
 have kT6 : own_G p e below E0 TSI (mkF m 132 #[vi p0, vi p1, vi p2, vi p3, vi p4, vi q, vi r, vi Ea, vi Eb, vi Aa, vi C1, vi B0, vi B1, vr aK9, vi (0 : Int32), uu, uu] [(.ref aSQ), (.double FP.dconst1), (.ref aK9)]) := fun tQ kk => kSH tQ (stSP _ kk)
 clear kSH stSP
 have kT7 : own_G p e below E0 TSI (mkF m 133 #[vi p0, vi p1, vi p2, vi p3, vi p4, vi q, vi r, vi Ea, vi Eb, vi Aa, vi C1, vi B0, vi B1, vr aK9, vi (0 : Int32), uu, uu] [(.int (0 : Int32)), (.ref aSQ), (.double FP.dconst1), (.ref aK9)]) := by
  intro tQ kk
  refine kT6 tQ ?_
  refine XS.iconst XSL.here hx rfl (hH at_132) ?_
  exact kk
 clear kT6
 obtain ⟨TT8, hT9, cATA, XTB, eTC, ETD, ATE, stTF⟩ := newP (aty := .double) XSL hx hZ (tw36 hw) eSM (g := (mkF m 133 #[vi p0, vi p1, vi p2, vi p3, vi p4, vi q, vi r, vi Ea, vi Eb, vi Aa, vi C1, vi B0, vi B1, vr aK9, vi (0 : Int32), uu, uu] [(.int (0 : Int32)), (.ref aSQ), (.double FP.dconst1), (.ref aK9)])) rfl (hH at_133) rfl (by decide) (cap := 0) (by decide) (by decide) (by decide) (by decide)
 obtain ⟨aTG, gTH⟩ : ∃ zA : Nat, zA = hSJ.size := ⟨_, rfl⟩
 rw [← gTH] at ATE stTF
 have nTI := own_lt_ne AK6.lt gTH
 have nTJ := own_lt_ne gLK.lt gTH
 have nTK := own_lt_ne gLO.lt gTH
 have nTL := own_lt_ne gLR.lt gTH
 have nTM := own_lt_ne gLS.lt gTH
 have nTN := own_lt_ne gLU.lt gTH
 have nTO := own_lt_ne gQK.lt gTH
 have nTP := own_lt_ne gQL.lt gTH
 have nTQ := own_lt_ne gQM.lt gTH
 have nTR := own_lt_ne gQN.lt gTH
 have nTS := own_lt_ne gQR.lt gTH
 have nTT := own_lt_ne gQS.lt gTH
 have nTU := own_lt_ne FT5.lt gTH
 have geTV : n0 ≤ aTG := own_ge_of Z0 gTH
 replace Z0 := Nat.le_trans Z0 ETD.1
 replace AK6 := AK6.ext ETD
 replace gLK := gLK.ext ETD
 replace gLO := gLO.ext ETD
 replace gLP := gLP.ext ETD
 replace gLR := gLR.ext ETD
 replace gLS := gLS.ext ETD
 replace gLU := gLU.ext ETD
 replace gQ9 := gQ9.ext ETD
 replace gQA := gQA.ext ETD
 replace gQB := gQB.ext ETD
 replace gQC := gQC.ext ETD
 replace gQD := gQD.ext ETD
 replace gQE := gQE.ext ETD
 replace gQF := gQF.ext ETD
 replace gQG := gQG.ext ETD
 replace gQH := gQH.ext ETD
 replace gQI := gQI.ext ETD
 replace gQJ := gQJ.ext ETD
 replace gQK := gQK.ext ETD
 replace gQL := gQL.ext ETD
 replace gQM := gQM.ext ETD
 replace gQN := gQN.ext ETD
 replace gQO := gQO.ext ETD
 replace gQP := gQP.ext ETD
 replace gQQ := gQQ.ext ETD
 replace gQR := gQR.ext ETD
 replace gQS := gQS.ext ETD
 replace FT5 := FT5.ext ETD
 have FTW : own_A Z hT9 aTG .double [] := own_A.new ATE
 have kTX : own_G p e below E0 TT8 (mkF m 135 #[vi p0, vi p1, vi p2, vi p3, vi p4, vi q, vi r, vi Ea, vi Eb, vi Aa, vi C1, vi B0, vi B1, vr aK9, vi (0 : Int32), uu, uu] [(.ref aTG), (.ref aSQ), (.double FP.dconst1), (.ref aK9)]) := fun tQ kk => kT7 tQ (stTF _ kk)
 clear kT7 stTF
 obtain ⟨cqU9, kqUA, qaUB, qbUC, qcUD⟩ := isOf hZ eTC AK6
 obtain ⟨_, _, ⟨TTY, LTZ, kcU0, ncU1⟩, -, XU2, ⟨LcU3, hQU4, lU5, yU6, zU7⟩, stU8⟩ := XTB.virtualBack hx (y := mn152) (z := mn152) hown (mvT hZ (tw167 hw)) (mvT hZ (tw168 hw)) (notFace_of_selects (args := #[]) (mvT hZ (tw170 hw))) (mvT hZ (tw170 hw)) (mvT hZ (tw169 hw)) (by decide) (backOf (W := 0) (rmCo1 l Z a0 hw [] aK9 aSQ aTG alL4 cAL5 roL6 baL7 pAL8 faL9 vaLA rQ4 scQ5 (own_d16.set ((0 : Int32)).toNatClampNeg (.double FP.dconst1)) (own_i16.set ((0 : Int32)).toNatClampNeg (.int (-1 : Int32))) FP.dconst1 hT9 n0 Z0 AK6 gQ9 gQA gQB gQC gQD gQE gQF gQG gLK gQH gQI gQJ gQK gQL gQM FT5 FTW nMQ nMT nN2 nR6 nSS nTI nM2 nM5 nR7 nST nTJ nMA nR9 nSZ nTP nRC nT0 nTQ nSY nTO geKD geMO geMR geN0 geR4 rfl rfl) hZ (tw171 hw) (tw3 hw) (by decide) (by decide)) qaUB qcUD (g := (mkF m 135 #[vi p0, vi p1, vi p2, vi p3, vi p4, vi q, vi r, vi Ea, vi Eb, vi Aa, vi C1, vi B0, vi B1, vr aK9, vi (0 : Int32), uu, uu] [(.ref aTG), (.ref aSQ), (.double FP.dconst1), (.ref aK9)])) rfl (by rw [hml]; rfl) (Steps.refl _) (argsL := [(.double FP.dconst1), (.ref aSQ), (.ref aTG)]) (rest := []) (lenOf pd_172 rfl) rfl (by show 2 * 0 + _ ≤ _; exact Nat.le_of_eq rfl) (hH at_135) (fun _ _ => ⟨rfl, eTC, (by decide : 64 + 3 ≤ _), (by decide : 609 + 11 ≤ _)⟩)
 dsimp only [Pt.U, Pt.locs, Pt.cells, Pt.slots] at XU2 lU5 yU6 zU7 stU8 hQU4
 subst yU6 zU7
 obtain ⟨scUH, r1UI, r2UJ, rfl, NUE, KUK, gUL, gUM, gUN, gUO, gUP, gUQ, gUR, gUS, gUT, gUU, gUV, gUW, gUX, gUY, gUZ, gV0, gV1, gV2, gV3, gV4, nwV5, nwV6, nwV7, nV8, nV9, nVA⟩ := hQU4
 have NVB : Fr n0 LTZ := by rw [lU5]; exact Fr.app NR3 NUE
 clear lU5 NUE
 have geVC : n0 ≤ scUH := Nat.le_trans Z0 nwV5
 have nVD : aK9 ≠ scUH := own_lt_ne2 AK6.lt nwV5
 have nVE : alL4 ≠ scUH := own_lt_ne2 gLK.lt nwV5
 have nVF : faL9 ≠ scUH := own_lt_ne2 gLO.lt nwV5
 have nVG : roL6 ≠ scUH := own_lt_ne2 gLR.lt nwV5
 have nVH : baL7 ≠ scUH := own_lt_ne2 gLS.lt nwV5
 have nVI : vaLA ≠ scUH := own_lt_ne2 gLU.lt nwV5
 have nVJ : rQ4 ≠ scUH := own_lt_ne2 gQK.lt nwV5
 have nVK : cAL5 ≠ scUH := own_lt_ne2 gQL.lt nwV5
 have nVL : pAL8 ≠ scUH := own_lt_ne2 gQM.lt nwV5
 have nVM : scQ5 ≠ scUH := own_lt_ne2 gQN.lt nwV5
 have nVN : r1Q6 ≠ scUH := own_lt_ne2 gQR.lt nwV5
 have nVO : r2Q7 ≠ scUH := own_lt_ne2 gQS.lt nwV5
 have nVP : aSQ ≠ scUH := own_lt_ne2 FT5.lt nwV5
 have nVQ : aTG ≠ scUH := own_lt_ne2 FTW.lt nwV5
 have geVR : n0 ≤ r1UI := Nat.le_trans Z0 nwV6
 have nVS : aK9 ≠ r1UI := own_lt_ne2 AK6.lt nwV6
 have nVT : alL4 ≠ r1UI := own_lt_ne2 gLK.lt nwV6
 have nVU : faL9 ≠ r1UI := own_lt_ne2 gLO.lt nwV6
 have nVV : roL6 ≠ r1UI := own_lt_ne2 gLR.lt nwV6
 have nVW : baL7 ≠ r1UI := own_lt_ne2 gLS.lt nwV6
 have nVX : vaLA ≠ r1UI := own_lt_ne2 gLU.lt nwV6
 have nVY : rQ4 ≠ r1UI := own_lt_ne2 gQK.lt nwV6
 have nVZ : cAL5 ≠ r1UI := own_lt_ne2 gQL.lt nwV6
 have nW0 : pAL8 ≠ r1UI := own_lt_ne2 gQM.lt nwV6
 have nW1 : scQ5 ≠ r1UI := own_lt_ne2 gQN.lt nwV6
 have nW2 : r1Q6 ≠ r1UI := own_lt_ne2 gQR.lt nwV6
 have nW3 : r2Q7 ≠ r1UI := own_lt_ne2 gQS.lt nwV6
 have nW4 : aSQ ≠ r1UI := own_lt_ne2 FT5.lt nwV6
 have nW5 : aTG ≠ r1UI := own_lt_ne2 FTW.lt nwV6
 have geW6 : n0 ≤ r2UJ := Nat.le_trans Z0 nwV7
 have nW7 : aK9 ≠ r2UJ := own_lt_ne2 AK6.lt nwV7
 have nW8 : alL4 ≠ r2UJ := own_lt_ne2 gLK.lt nwV7
 have nW9 : faL9 ≠ r2UJ := own_lt_ne2 gLO.lt nwV7
 have nWA : roL6 ≠ r2UJ := own_lt_ne2 gLR.lt nwV7
 have nWB : baL7 ≠ r2UJ := own_lt_ne2 gLS.lt nwV7
 have nWC : vaLA ≠ r2UJ := own_lt_ne2 gLU.lt nwV7
 have nWD : rQ4 ≠ r2UJ := own_lt_ne2 gQK.lt nwV7
 have nWE : cAL5 ≠ r2UJ := own_lt_ne2 gQL.lt nwV7
 have nWF : pAL8 ≠ r2UJ := own_lt_ne2 gQM.lt nwV7
 have nWG : scQ5 ≠ r2UJ := own_lt_ne2 gQN.lt nwV7
 have nWH : r1Q6 ≠ r2UJ := own_lt_ne2 gQR.lt nwV7
 have nWI : r2Q7 ≠ r2UJ := own_lt_ne2 gQS.lt nwV7
 have nWJ : aSQ ≠ r2UJ := own_lt_ne2 FT5.lt nwV7
 have nWK : aTG ≠ r2UJ := own_lt_ne2 FTW.lt nwV7
 replace Z0 := Nat.le_trans Z0 KUK.1
 replace AK6 := AK6.keep KUK
 replace gLK := gLK.keep KUK
 replace gLO := gLO.keep KUK
 replace gLP := gLP.keep KUK (ninS (Ne.symm nN5) (ninS (Ne.symm nM6) (ninS (Ne.symm nMB) (ninS (Ne.symm nMK) (ninS nR8 nin0)))))
 replace gLR := gLR.keep KUK (ninS (Ne.symm nMW) (ninS (Ne.symm nM3) (ninS (Ne.symm nM8) (ninS nME (ninS nRA nin0)))))
 replace gLS := gLS.keep KUK (ninS (Ne.symm nMZ) (ninS (Ne.symm nM4) (ninS (Ne.symm nM9) (ninS nMH (ninS nRB nin0)))))
 replace gLU := gLU.keep KUK (ninS (Ne.symm nN8) (ninS (Ne.symm nM7) (ninS (Ne.symm nMC) (ninS (Ne.symm nML) (ninS nRD nin0)))))
 clear gQ9
 clear gQA
 clear gQB
 clear gQC
 clear gQD
 clear gQE
 clear gQF
 clear gQG
 clear gQH
 clear gQI
 clear gQJ
 clear gQK
 clear gQL
 clear gQM
 replace gQN := gQN.keep KUK
 replace gQO := gQO.keep KUK (ninS (Ne.symm nRI) (ninS (Ne.symm nRJ) (ninS (Ne.symm nRL) (ninS (Ne.symm nRO) (ninS (Ne.symm nQX) nin0)))))
 replace gQP := gQP.keep KUK (ninS (Ne.symm nRI) (ninS (Ne.symm nRJ) (ninS (Ne.symm nRL) (ninS (Ne.symm nRO) (ninS (Ne.symm nQX) nin0)))))
 replace gQQ := gQQ.keep KUK (ninS (Ne.symm nRI) (ninS (Ne.symm nRJ) (ninS (Ne.symm nRL) (ninS (Ne.symm nRO) (ninS (Ne.symm nQX) nin0)))))
 replace gQR := gQR.keep KUK (ninS (Ne.symm nRU) (ninS (Ne.symm nRV) (ninS (Ne.symm nRX) (ninS (Ne.symm nS0) (ninS (Ne.symm nQY) nin0)))))
 replace gQS := gQS.keep KUK (ninS (Ne.symm nS6) (ninS (Ne.symm nS7) (ninS (Ne.symm nS9) (ninS (Ne.symm nSC) (ninS (Ne.symm nQZ) nin0)))))
 replace FT5 := FT5.keep KUK (ninS (Ne.symm nSS) (ninS (Ne.symm nST) (ninS (Ne.symm nSZ) (ninS (Ne.symm nT0) (ninS (Ne.symm nSY) nin0)))))
 replace FTW := FTW.keep KUK (ninS (Ne.symm nTI) (ninS (Ne.symm nTJ) (ninS (Ne.symm nTP) (ninS (Ne.symm nTQ) (ninS (Ne.symm nTO) nin0)))))
 have kWL : own_G p e below E0 TTY (mkF m 138 #[vi p0, vi p1, vi p2, vi p3, vi p4, vi q, vi r, vi Ea, vi Eb, vi Aa, vi C1, vi B0, vi B1, vr aK9, vi (0 : Int32), uu, uu] [(.int (1 : Int32))]) := fun tQ kk => kTX tQ (stU8.trans kk)
 clear kTX stU8
 have kWM : own_G p e below E0 TTY (mkF m 144 #[vi p0, vi p1, vi p2, vi p3, vi p4, vi q, vi r, vi Ea, vi Eb, vi Aa, vi C1, vi B0, vi B1, vr aK9, vi (0 : Int32), vi (1 : Int32), uu] [(.int (0 : Int32)), (.double FP.dconst1), (.ref aK9)]) := by
  intro tQ kk
  refine kWL tQ ?_
  refine XS.istore XU2.here hx rfl (hH at_138) rfl (l' := #[vi p0, vi p1, vi p2, vi p3, vi p4, vi q, vi r, vi Ea, vi Eb, vi Aa, vi C1, vi B0, vi B1, vr aK9, vi (0 : Int32), vi (1 : Int32), uu]) rfl ?_
  refine XS.aload XU2.here hx rfl (hH at_140) rfl rfl ?_
  refine XS.dconst1 XU2.here hx rfl (hH at_142) rfl ?_
  refine XS.iconst XU2.here hx rfl (hH at_143) ?_
  exact kk
 clear kWL
 obtain ⟨TWN, hWO, cAWP, XWQ, eWR, EWS, AWT, stWU⟩ := newP (aty := .int) XU2 hx hZ (tw41 hw) rfl (g := (mkF m 144 #[vi p0, vi p1, vi p2, vi p3, vi p4, vi q, vi r, vi Ea, vi Eb, vi Aa, vi C1, vi B0, vi B1, vr aK9, vi (0 : Int32), vi (1 : Int32), uu] [(.int (0 : Int32)), (.double FP.dconst1), (.ref aK9)])) rfl (hH at_144) rfl (by decide) (cap := 0) (by decide) (by decide) (by decide) (by decide)
 obtain ⟨aWV, gWW⟩ : ∃ zA : Nat, zA = TTY.heap.size := ⟨_, rfl⟩
 rw [← gWW] at AWT stWU
 have nWX := own_lt_ne AK6.lt gWW
 have nWY := own_lt_ne gLK.lt gWW
 have nWZ := own_lt_ne gLO.lt gWW
 have nX0 := own_lt_ne gLR.lt gWW
 have nX1 := own_lt_ne gLS.lt gWW
 have nX2 := own_lt_ne gLU.lt gWW
 have nX3 := own_lt_ne gQN.lt gWW
 have nX4 := own_lt_ne gQR.lt gWW
 have nX5 := own_lt_ne gQS.lt gWW
 have nX6 := own_lt_ne gUW.lt gWW
 have nX7 := own_lt_ne gUX.lt gWW
 have nX8 := own_lt_ne gUY.lt gWW
 have nX9 := own_lt_ne gUZ.lt gWW
 have nXA := own_lt_ne gV3.lt gWW
 have nXB := own_lt_ne gV4.lt gWW
 have geXC : n0 ≤ aWV := own_ge_of Z0 gWW
 replace Z0 := Nat.le_trans Z0 EWS.1
 replace AK6 := AK6.ext EWS
 replace gLK := gLK.ext EWS
 replace gLO := gLO.ext EWS
 replace gLP := gLP.ext EWS
 replace gLR := gLR.ext EWS
 replace gLS := gLS.ext EWS
 replace gLU := gLU.ext EWS
 replace gQN := gQN.ext EWS
 replace gQO := gQO.ext EWS
 replace gQP := gQP.ext EWS
 replace gQQ := gQQ.ext EWS
 replace gQR := gQR.ext EWS
 replace gQS := gQS.ext EWS
 replace gUL := gUL.ext EWS
 replace gUM := gUM.ext EWS
 replace gUN := gUN.ext EWS
 replace gUO := gUO.ext EWS
 replace gUP := gUP.ext EWS
 replace gUQ := gUQ.ext EWS
 replace gUR := gUR.ext EWS
 replace gUS := gUS.ext EWS
 replace gUT := gUT.ext EWS
 replace gUU := gUU.ext EWS
 replace gUV := gUV.ext EWS
 replace gUW := gUW.ext EWS
 replace gUX := gUX.ext EWS
 replace gUY := gUY.ext EWS
 replace gUZ := gUZ.ext EWS
 replace gV0 := gV0.ext EWS
 replace gV1 := gV1.ext EWS
 replace gV2 := gV2.ext EWS
 replace gV3 := gV3.ext EWS
 replace gV4 := gV4.ext EWS
 have FXD : own_A Z hWO aWV .int [] := own_A.new AWT
 have kXE : own_G p e below E0 TWN (mkF m 146 #[vi p0, vi p1, vi p2, vi p3, vi p4, vi q, vi r, vi Ea, vi Eb, vi Aa, vi C1, vi B0, vi B1, vr aK9, vi (0 : Int32), vi (1 : Int32), uu] [(.ref aWV), (.double FP.dconst1), (.ref aK9)]) := fun tQ kk => kWM tQ (stWU _ kk)
 clear kWM stWU
 have kXF : own_G p e below E0 TWN (mkF m 147 #[vi p0, vi p1, vi p2, vi p3, vi p4, vi q, vi r, vi Ea, vi Eb, vi Aa, vi C1, vi B0, vi B1, vr aK9, vi (0 : Int32), vi (1 : Int32), uu] [(.int (0 : Int32)), (.ref aWV), (.double FP.dconst1), (.ref aK9)]) := by
  intro tQ kk
  refine kXE tQ ?_
  refine XS.iconst XWQ.here hx rfl (hH at_146) ?_
  exact kk
 clear kXE
 obtain ⟨TXG, hXH, cAXI, XXJ, eXK, EXL, AXM, stXN⟩ := newP (aty := .double) XWQ hx hZ (tw36 hw) eWR (g := (mkF m 147 #[vi p0, vi p1, vi p2, vi p3, vi p4, vi q, vi r, vi Ea, vi Eb, vi Aa, vi C1, vi B0, vi B1, vr aK9, vi (0 : Int32), vi (1 : Int32), uu] [(.int (0 : Int32)), (.ref aWV), (.double FP.dconst1), (.ref aK9)])) rfl (hH at_147) rfl (by decide) (cap := 0) (by decide) (by decide) (by decide) (by decide)
 obtain ⟨aXO, gXP⟩ : ∃ zA : Nat, zA = hWO.size := ⟨_, rfl⟩
 rw [← gXP] at AXM stXN
 have nXQ := own_lt_ne AK6.lt gXP
 have nXR := own_lt_ne gLK.lt gXP
 have nXS := own_lt_ne gLO.lt gXP
 have nXT := own_lt_ne gLR.lt gXP
 have nXU := own_lt_ne gLS.lt gXP
 have nXV := own_lt_ne gLU.lt gXP
 have nXW := own_lt_ne gQN.lt gXP
 have nXX := own_lt_ne gQR.lt gXP
 have nXY := own_lt_ne gQS.lt gXP
 have nXZ := own_lt_ne gUW.lt gXP
 have nY0 := own_lt_ne gUX.lt gXP
 have nY1 := own_lt_ne gUY.lt gXP
 have nY2 := own_lt_ne gUZ.lt gXP
 have nY3 := own_lt_ne gV3.lt gXP
 have nY4 := own_lt_ne gV4.lt gXP
 have nY5 := own_lt_ne FXD.lt gXP
 have geY6 : n0 ≤ aXO := own_ge_of Z0 gXP
 replace Z0 := Nat.le_trans Z0 EXL.1
 replace AK6 := AK6.ext EXL
 replace gLK := gLK.ext EXL
 replace gLO := gLO.ext EXL
 replace gLP := gLP.ext EXL
 replace gLR := gLR.ext EXL
 replace gLS := gLS.ext EXL
 replace gLU := gLU.ext EXL
 replace gQN := gQN.ext EXL
 replace gQO := gQO.ext EXL
 replace gQP := gQP.ext EXL
 replace gQQ := gQQ.ext EXL
 replace gQR := gQR.ext EXL
 replace gQS := gQS.ext EXL
 replace gUL := gUL.ext EXL
 replace gUM := gUM.ext EXL
 replace gUN := gUN.ext EXL
 replace gUO := gUO.ext EXL
 replace gUP := gUP.ext EXL
 replace gUQ := gUQ.ext EXL
 replace gUR := gUR.ext EXL
 replace gUS := gUS.ext EXL
 replace gUT := gUT.ext EXL
 replace gUU := gUU.ext EXL
 replace gUV := gUV.ext EXL
 replace gUW := gUW.ext EXL
 replace gUX := gUX.ext EXL
 replace gUY := gUY.ext EXL
 replace gUZ := gUZ.ext EXL
 replace gV0 := gV0.ext EXL
 replace gV1 := gV1.ext EXL
 replace gV2 := gV2.ext EXL
 replace gV3 := gV3.ext EXL
 replace gV4 := gV4.ext EXL
 replace FXD := FXD.ext EXL
 have FY7 : own_A Z hXH aXO .double [] := own_A.new AXM
 have kY8 : own_G p e below E0 TXG (mkF m 149 #[vi p0, vi p1, vi p2, vi p3, vi p4, vi q, vi r, vi Ea, vi Eb, vi Aa, vi C1, vi B0, vi B1, vr aK9, vi (0 : Int32), vi (1 : Int32), uu] [(.ref aXO), (.ref aWV), (.double FP.dconst1), (.ref aK9)]) := fun tQ kk => kXF tQ (stXN _ kk)
 clear kXF stXN
 obtain ⟨cqYK, kqYL, qaYM, qbYN, qcYO⟩ := isOf hZ eXK AK6
 obtain ⟨_, _, ⟨TY9, LYA, kcYB, ncYC⟩, -, XYD, ⟨LcYE, hQYF, lYG, yYH, zYI⟩, stYJ⟩ := XXJ.virtualBack hx (y := mn152) (z := mn152) hown (mvT hZ (tw167 hw)) (mvT hZ (tw168 hw)) (notFace_of_selects (args := #[]) (mvT hZ (tw170 hw))) (mvT hZ (tw170 hw)) (mvT hZ (tw169 hw)) (by decide) (backOf (W := 0) (rmCo2 l Z a0 hw [] aK9 aWV aXO alL4 cAL5 roL6 baL7 pAL8 faL9 vaLA rQ4 scQ5 scUH ((own_d16.set ((0 : Int32)).toNatClampNeg (.double FP.dconst1)).set ((1 : Int32)).toNatClampNeg (.double FP.dconst1)) ((own_i16.set ((0 : Int32)).toNatClampNeg (.int (-1 : Int32))).set ((1 : Int32)).toNatClampNeg (.int (-1 : Int32))) FP.dconst1 hXH n0 Z0 AK6 gUL gUM gUN gUO gUP gUQ gUR gUS gLK gUT gUU gUV gUW gUX gUY FXD FY7 nMQ nMT nN2 nR6 nWX nXQ nM2 nM5 nR7 nWY nXR nMA nR9 nX7 nY0 nRC nX8 nY1 nX6 nXZ geKD geMO geMR geN0 geR4 rfl rfl) hZ (tw171 hw) (tw3 hw) (by decide) (by decide)) qaYM qcYO (g := (mkF m 149 #[vi p0, vi p1, vi p2, vi p3, vi p4, vi q, vi r, vi Ea, vi Eb, vi Aa, vi C1, vi B0, vi B1, vr aK9, vi (0 : Int32), vi (1 : Int32), uu] [(.ref aXO), (.ref aWV), (.double FP.dconst1), (.ref aK9)])) rfl (by rw [hml]; rfl) (Steps.refl _) (argsL := [(.double FP.dconst1), (.ref aWV), (.ref aXO)]) (rest := []) (lenOf pd_172 rfl) rfl (by show 2 * 0 + _ ≤ _; exact Nat.le_of_eq rfl) (hH at_149) (fun _ _ => ⟨rfl, eXK, (by decide : 69 + 3 ≤ _), (by decide : 620 + 11 ≤ _)⟩)
 dsimp only [Pt.U, Pt.locs, Pt.cells, Pt.slots] at XYD lYG yYH zYI stYJ hQYF
 subst yYH zYI
 obtain ⟨scYS, r1YT, r2YU, rfl, NYP, KYV, gYW, gYX, gYY, gYZ, gZ0, gZ1, gZ2, gZ3, gZ4, gZ5, gZ6, gZ7, gZ8, gZ9, gZA, gZB, gZC, gZD, gZE, gZF, nwZG, nwZH, nwZI, nZJ, nZK, nZL⟩ := hQYF
 have NZM : Fr n0 LYA := by rw [lYG]; exact Fr.app NVB NYP
 clear lYG NYP
 have geZN : n0 ≤ scYS := Nat.le_trans Z0 nwZG
 have nZO : aK9 ≠ scYS := own_lt_ne2 AK6.lt nwZG
 have nZP : alL4 ≠ scYS := own_lt_ne2 gLK.lt nwZG
 have nZQ : faL9 ≠ scYS := own_lt_ne2 gLO.lt nwZG
 have nZR : roL6 ≠ scYS := own_lt_ne2 gLR.lt nwZG
 have nZS : baL7 ≠ scYS := own_lt_ne2 gLS.lt nwZG
 have nZT : vaLA ≠ scYS := own_lt_ne2 gLU.lt nwZG
 have nZU : scQ5 ≠ scYS := own_lt_ne2 gQN.lt nwZG
 have nZV : r1Q6 ≠ scYS := own_lt_ne2 gQR.lt nwZG
 have nZW : r2Q7 ≠ scYS := own_lt_ne2 gQS.lt nwZG
 have nZX : rQ4 ≠ scYS := own_lt_ne2 gUW.lt nwZG
 have nZY : cAL5 ≠ scYS := own_lt_ne2 gUX.lt nwZG
 have nZZ : pAL8 ≠ scYS := own_lt_ne2 gUY.lt nwZG
 have nJ00 : scUH ≠ scYS := own_lt_ne2 gUZ.lt nwZG
 have nJ01 : r1UI ≠ scYS := own_lt_ne2 gV3.lt nwZG
 have nJ02 : r2UJ ≠ scYS := own_lt_ne2 gV4.lt nwZG
 have nJ03 : aWV ≠ scYS := own_lt_ne2 FXD.lt nwZG
 have nJ04 : aXO ≠ scYS := own_lt_ne2 FY7.lt nwZG
 have geJ05 : n0 ≤ r1YT := Nat.le_trans Z0 nwZH
 have nJ06 : aK9 ≠ r1YT := own_lt_ne2 AK6.lt nwZH
 have nJ07 : alL4 ≠ r1YT := own_lt_ne2 gLK.lt nwZH
 have nJ08 : faL9 ≠ r1YT := own_lt_ne2 gLO.lt nwZH
 have nJ09 : roL6 ≠ r1YT := own_lt_ne2 gLR.lt nwZH
 have nJ0A : baL7 ≠ r1YT := own_lt_ne2 gLS.lt nwZH
 have nJ0B : vaLA ≠ r1YT := own_lt_ne2 gLU.lt nwZH
 have nJ0C : scQ5 ≠ r1YT := own_lt_ne2 gQN.lt nwZH
 have nJ0D : r1Q6 ≠ r1YT := own_lt_ne2 gQR.lt nwZH
 have nJ0E : r2Q7 ≠ r1YT := own_lt_ne2 gQS.lt nwZH
 have nJ0F : rQ4 ≠ r1YT := own_lt_ne2 gUW.lt nwZH
 have nJ0G : cAL5 ≠ r1YT := own_lt_ne2 gUX.lt nwZH
 have nJ0H : pAL8 ≠ r1YT := own_lt_ne2 gUY.lt nwZH
 have nJ0I : scUH ≠ r1YT := own_lt_ne2 gUZ.lt nwZH
 have nJ0J : r1UI ≠ r1YT := own_lt_ne2 gV3.lt nwZH
 have nJ0K : r2UJ ≠ r1YT := own_lt_ne2 gV4.lt nwZH
 have nJ0L : aWV ≠ r1YT := own_lt_ne2 FXD.lt nwZH
 have nJ0M : aXO ≠ r1YT := own_lt_ne2 FY7.lt nwZH
 have geJ0N : n0 ≤ r2YU := Nat.le_trans Z0 nwZI
 have nJ0O : aK9 ≠ r2YU := own_lt_ne2 AK6.lt nwZI
 have nJ0P : alL4 ≠ r2YU := own_lt_ne2 gLK.lt nwZI
 have nJ0Q : faL9 ≠ r2YU := own_lt_ne2 gLO.lt nwZI
 have nJ0R : roL6 ≠ r2YU := own_lt_ne2 gLR.lt nwZI
 have nJ0S : baL7 ≠ r2YU := own_lt_ne2 gLS.lt nwZI
 have nJ0T : vaLA ≠ r2YU := own_lt_ne2 gLU.lt nwZI
 have nJ0U : scQ5 ≠ r2YU := own_lt_ne2 gQN.lt nwZI
 have nJ0V : r1Q6 ≠ r2YU := own_lt_ne2 gQR.lt nwZI
 have nJ0W : r2Q7 ≠ r2YU := own_lt_ne2 gQS.lt nwZI
 have nJ0X : rQ4 ≠ r2YU := own_lt_ne2 gUW.lt nwZI
 have nJ0Y : cAL5 ≠ r2YU := own_lt_ne2 gUX.lt nwZI
 have nJ0Z : pAL8 ≠ r2YU := own_lt_ne2 gUY.lt nwZI
 have nJ10 : scUH ≠ r2YU := own_lt_ne2 gUZ.lt nwZI
 have nJ11 : r1UI ≠ r2YU := own_lt_ne2 gV3.lt nwZI
 have nJ12 : r2UJ ≠ r2YU := own_lt_ne2 gV4.lt nwZI
 have nJ13 : aWV ≠ r2YU := own_lt_ne2 FXD.lt nwZI
 have nJ14 : aXO ≠ r2YU := own_lt_ne2 FY7.lt nwZI
 replace Z0 := Nat.le_trans Z0 KYV.1
 replace AK6 := AK6.keep KYV
 replace gLK := gLK.keep KYV
 replace gLO := gLO.keep KYV
 replace gLP := gLP.keep KYV (ninS (Ne.symm nN5) (ninS (Ne.symm nM6) (ninS (Ne.symm nMB) (ninS (Ne.symm nMK) (ninS nR8 nin0)))))
 replace gLR := gLR.keep KYV (ninS (Ne.symm nMW) (ninS (Ne.symm nM3) (ninS (Ne.symm nM8) (ninS nME (ninS nRA nin0)))))
 replace gLS := gLS.keep KYV (ninS (Ne.symm nMZ) (ninS (Ne.symm nM4) (ninS (Ne.symm nM9) (ninS nMH (ninS nRB nin0)))))
 replace gLU := gLU.keep KYV (ninS (Ne.symm nN8) (ninS (Ne.symm nM7) (ninS (Ne.symm nMC) (ninS (Ne.symm nML) (ninS nRD nin0)))))
 replace gQN := gQN.keep KYV
 replace gQO := gQO.keep KYV (ninS (Ne.symm nRI) (ninS (Ne.symm nRJ) (ninS (Ne.symm nRL) (ninS (Ne.symm nRO) (ninS (Ne.symm nQX) nin0)))))
 replace gQP := gQP.keep KYV (ninS (Ne.symm nRI) (ninS (Ne.symm nRJ) (ninS (Ne.symm nRL) (ninS (Ne.symm nRO) (ninS (Ne.symm nQX) nin0)))))
 replace gQQ := gQQ.keep KYV (ninS (Ne.symm nRI) (ninS (Ne.symm nRJ) (ninS (Ne.symm nRL) (ninS (Ne.symm nRO) (ninS (Ne.symm nQX) nin0)))))
 replace gQR := gQR.keep KYV (ninS (Ne.symm nRU) (ninS (Ne.symm nRV) (ninS (Ne.symm nRX) (ninS (Ne.symm nS0) (ninS (Ne.symm nQY) nin0)))))
 replace gQS := gQS.keep KYV (ninS (Ne.symm nS6) (ninS (Ne.symm nS7) (ninS (Ne.symm nS9) (ninS (Ne.symm nSC) (ninS (Ne.symm nQZ) nin0)))))
 clear gUL
 clear gUM
 clear gUN
 clear gUO
 clear gUP
 clear gUQ
 clear gUR
 clear gUS
 clear gUT
 clear gUU
 clear gUV
 clear gUW
 clear gUX
 clear gUY
 replace gUZ := gUZ.keep KYV
 replace gV0 := gV0.keep KYV (ninS (Ne.symm nVD) (ninS (Ne.symm nVE) (ninS (Ne.symm nVK) (ninS (Ne.symm nVL) (ninS (Ne.symm nVJ) nin0)))))
 replace gV1 := gV1.keep KYV (ninS (Ne.symm nVD) (ninS (Ne.symm nVE) (ninS (Ne.symm nVK) (ninS (Ne.symm nVL) (ninS (Ne.symm nVJ) nin0)))))
 replace gV2 := gV2.keep KYV (ninS (Ne.symm nVD) (ninS (Ne.symm nVE) (ninS (Ne.symm nVK) (ninS (Ne.symm nVL) (ninS (Ne.symm nVJ) nin0)))))
 replace gV3 := gV3.keep KYV (ninS (Ne.symm nVS) (ninS (Ne.symm nVT) (ninS (Ne.symm nVZ) (ninS (Ne.symm nW0) (ninS (Ne.symm nVY) nin0)))))
 replace gV4 := gV4.keep KYV (ninS (Ne.symm nW7) (ninS (Ne.symm nW8) (ninS (Ne.symm nWE) (ninS (Ne.symm nWF) (ninS (Ne.symm nWD) nin0)))))
 replace FXD := FXD.keep KYV (ninS (Ne.symm nWX) (ninS (Ne.symm nWY) (ninS (Ne.symm nX7) (ninS (Ne.symm nX8) (ninS (Ne.symm nX6) nin0)))))
 replace FY7 := FY7.keep KYV (ninS (Ne.symm nXQ) (ninS (Ne.symm nXR) (ninS (Ne.symm nY0) (ninS (Ne.symm nY1) (ninS (Ne.symm nXZ) nin0)))))
 have kJ15 : own_G p e below E0 TY9 (mkF m 152 #[vi p0, vi p1, vi p2, vi p3, vi p4, vi q, vi r, vi Ea, vi Eb, vi Aa, vi C1, vi B0, vi B1, vr aK9, vi (0 : Int32), vi (1 : Int32), uu] [(.int (2 : Int32))]) := fun tQ kk => kY8 tQ (stYJ.trans kk)
 clear kY8 stYJ
 have kJ16 : own_G p e below E0 TY9 (mkF m 160 #[vi p0, vi p1, vi p2, vi p3, vi p4, vi q, vi r, vi Ea, vi Eb, vi Aa, vi C1, vi B0, vi B1, vr aK9, vi (0 : Int32), vi (1 : Int32), vi (2 : Int32)] [(.int (2 : Int32)), (.double (FP.i2d B0)), (.ref aK9)]) := by
  intro tQ kk
  refine kJ15 tQ ?_
  refine XS.istore XYD.here hx rfl (hH at_152) rfl (l' := #[vi p0, vi p1, vi p2, vi p3, vi p4, vi q, vi r, vi Ea, vi Eb, vi Aa, vi C1, vi B0, vi B1, vr aK9, vi (0 : Int32), vi (1 : Int32), vi (2 : Int32)]) rfl ?_
  refine XS.aload XYD.here hx rfl (hH at_154) rfl rfl ?_
  refine XS.iload XYD.here hx rfl (hH at_156) rfl ?_
  refine XS.i2dS XYD.here hx rfl (hH at_158) rfl rfl ?_
  refine XS.iconst XYD.here hx rfl (hH at_159) ?_
  exact kk
 clear kJ15
 obtain ⟨TJ17, hJ18, cAJ19, XJ1A, eJ1B, EJ1C, AJ1D, stJ1E⟩ := newP (aty := .int) XYD hx hZ (tw41 hw) rfl (g := (mkF m 160 #[vi p0, vi p1, vi p2, vi p3, vi p4, vi q, vi r, vi Ea, vi Eb, vi Aa, vi C1, vi B0, vi B1, vr aK9, vi (0 : Int32), vi (1 : Int32), vi (2 : Int32)] [(.int (2 : Int32)), (.double (FP.i2d B0)), (.ref aK9)])) rfl (hH at_160) rfl (by decide) (cap := 2) (by decide) (by decide) (by decide) (by decide)
 obtain ⟨aJ1F, gJ1G⟩ : ∃ zA : Nat, zA = TY9.heap.size := ⟨_, rfl⟩
 rw [← gJ1G] at AJ1D stJ1E
 have nJ1H := own_lt_ne AK6.lt gJ1G
 have nJ1I := own_lt_ne gLK.lt gJ1G
 have nJ1J := own_lt_ne gLO.lt gJ1G
 have nJ1K := own_lt_ne gLR.lt gJ1G
 have nJ1L := own_lt_ne gLS.lt gJ1G
 have nJ1M := own_lt_ne gLU.lt gJ1G
 have nJ1N := own_lt_ne gQN.lt gJ1G
 have nJ1O := own_lt_ne gQR.lt gJ1G
 have nJ1P := own_lt_ne gQS.lt gJ1G
 have nJ1Q := own_lt_ne gUZ.lt gJ1G
 have nJ1R := own_lt_ne gV3.lt gJ1G
 have nJ1S := own_lt_ne gV4.lt gJ1G
 have nJ1T := own_lt_ne gZ7.lt gJ1G
 have nJ1U := own_lt_ne gZ9.lt gJ1G
 have nJ1V := own_lt_ne gZA.lt gJ1G
 have nJ1W := own_lt_ne gZE.lt gJ1G
 have nJ1X := own_lt_ne gZF.lt gJ1G
 have geJ1Y : n0 ≤ aJ1F := own_ge_of Z0 gJ1G
 replace Z0 := Nat.le_trans Z0 EJ1C.1
 replace AK6 := AK6.ext EJ1C
 replace gLK := gLK.ext EJ1C
 replace gLO := gLO.ext EJ1C
 replace gLP := gLP.ext EJ1C
 replace gLR := gLR.ext EJ1C
 replace gLS := gLS.ext EJ1C
 replace gLU := gLU.ext EJ1C
 replace gQN := gQN.ext EJ1C
 replace gQO := gQO.ext EJ1C
 replace gQP := gQP.ext EJ1C
 replace gQQ := gQQ.ext EJ1C
 replace gQR := gQR.ext EJ1C
 replace gQS := gQS.ext EJ1C
 replace gUZ := gUZ.ext EJ1C
 replace gV0 := gV0.ext EJ1C
 replace gV1 := gV1.ext EJ1C
 replace gV2 := gV2.ext EJ1C
 replace gV3 := gV3.ext EJ1C
 replace gV4 := gV4.ext EJ1C
 replace gYW := gYW.ext EJ1C
 replace gYX := gYX.ext EJ1C
 replace gYY := gYY.ext EJ1C
 replace gYZ := gYZ.ext EJ1C
 replace gZ0 := gZ0.ext EJ1C
 replace gZ1 := gZ1.ext EJ1C
 replace gZ2 := gZ2.ext EJ1C
 replace gZ3 := gZ3.ext EJ1C
 replace gZ4 := gZ4.ext EJ1C
 replace gZ5 := gZ5.ext EJ1C
 replace gZ7 := gZ7.ext EJ1C
 replace gZ9 := gZ9.ext EJ1C
 replace gZA := gZA.ext EJ1C
 replace gZB := gZB.ext EJ1C
 replace gZC := gZC.ext EJ1C
 replace gZD := gZD.ext EJ1C
 replace gZE := gZE.ext EJ1C
 replace gZF := gZF.ext EJ1C
 have FJ1Z : own_A Z hJ18 aJ1F .int [(.int (0 : Int32)), (.int (0 : Int32))] := own_A.new AJ1D
 have kJ20 : own_G p e below E0 TJ17 (mkF m 162 #[vi p0, vi p1, vi p2, vi p3, vi p4, vi q, vi r, vi Ea, vi Eb, vi Aa, vi C1, vi B0, vi B1, vr aK9, vi (0 : Int32), vi (1 : Int32), vi (2 : Int32)] [(.ref aJ1F), (.double (FP.i2d B0)), (.ref aK9)]) := fun tQ kk => kJ16 tQ (stJ1E _ kk)
 clear kJ16 stJ1E
 have kJ21 : own_G p e below E0 TJ17 (mkF m 166 #[vi p0, vi p1, vi p2, vi p3, vi p4, vi q, vi r, vi Ea, vi Eb, vi Aa, vi C1, vi B0, vi B1, vr aK9, vi (0 : Int32), vi (1 : Int32), vi (2 : Int32)] [(.int (0 : Int32)), (.int (0 : Int32)), (.ref aJ1F), (.ref aJ1F), (.double (FP.i2d B0)), (.ref aK9)]) := by
  intro tQ kk
  refine kJ20 tQ ?_
  refine XS.dup XJ1A.here hx rfl (hH at_162) rfl rfl ?_
  refine XS.iconst XJ1A.here hx rfl (hH at_163) ?_
  refine XS.iload XJ1A.here hx rfl (hH at_164) rfl ?_
  exact kk
 clear kJ20
 obtain ⟨TJ22, hJ23, XJ24, eJ25, WJ26, FJ27, stJ28⟩ := own_A.ist XJ1A hx hZ eJ1B FJ1Z (j := (0 : Int32)) (by decide) rfl (g := (mkF m 166 #[vi p0, vi p1, vi p2, vi p3, vi p4, vi q, vi r, vi Ea, vi Eb, vi Aa, vi C1, vi B0, vi B1, vr aK9, vi (0 : Int32), vi (1 : Int32), vi (2 : Int32)] [(.int (0 : Int32)), (.int (0 : Int32)), (.ref aJ1F), (.ref aJ1F), (.double (FP.i2d B0)), (.ref aK9)])) rfl rfl (hH at_166)
 have NJ29 := Fr.snoc XJ24 NZM geJ1Y
 have kJ2A : own_G p e below E0 TJ22 (mkF m 167 #[vi p0, vi p1, vi p2, vi p3, vi p4, vi q, vi r, vi Ea, vi Eb, vi Aa, vi C1, vi B0, vi B1, vr aK9, vi (0 : Int32), vi (1 : Int32), vi (2 : Int32)] [(.ref aJ1F), (.double (FP.i2d B0)), (.ref aK9)]) := fun tQ kk => kJ21 tQ (stJ28 _ kk)
 clear kJ21 stJ28
 replace AK6 := AK6.wr WJ26
 replace gLK := gLK.wr WJ26
 replace gLO := gLO.wr WJ26
 replace gLP := gLP.other WJ26 (Or.inl nJ1J)
 replace gLR := gLR.other WJ26 nJ1K
 replace gLS := gLS.other WJ26 nJ1L
 replace gLU := gLU.other WJ26 nJ1M
 replace gQN := gQN.wr WJ26
 replace gQO := gQO.other WJ26 (Or.inl nJ1N)
 replace gQP := gQP.other WJ26 (Or.inl nJ1N)
 replace gQQ := gQQ.other WJ26 (Or.inl nJ1N)
 replace gQR := gQR.other WJ26 nJ1O
 replace gQS := gQS.other WJ26 nJ1P
 replace gUZ := gUZ.wr WJ26
 replace gV0 := gV0.other WJ26 (Or.inl nJ1Q)
 replace gV1 := gV1.other WJ26 (Or.inl nJ1Q)
 replace gV2 := gV2.other WJ26 (Or.inl nJ1Q)
 replace gV3 := gV3.other WJ26 nJ1R
 replace gV4 := gV4.other WJ26 nJ1S
 replace gYW := gYW.other WJ26 (Or.inl nJ1H)
 replace gYX := gYX.other WJ26 (Or.inl nJ1H)
 replace gYY := gYY.other WJ26 (Or.inl nJ1H)
 replace gYZ := gYZ.other WJ26 (Or.inl nJ1H)
 replace gZ0 := gZ0.other WJ26 (Or.inl nJ1H)
 replace gZ1 := gZ1.other WJ26 (Or.inl nJ1H)
 replace gZ2 := gZ2.other WJ26 (Or.inl nJ1H)
 replace gZ3 := gZ3.other WJ26 (Or.inl nJ1H)
 replace gZ4 := gZ4.other WJ26 (Or.inl nJ1I)
 replace gZ5 := gZ5.other WJ26 (Or.inl nJ1I)
 replace gZ7 := gZ7.other WJ26 nJ1T
 replace gZ9 := gZ9.other WJ26 nJ1U
 replace gZA := gZA.wr WJ26
 replace gZB := gZB.other WJ26 (Or.inl nJ1V)
 replace gZC := gZC.other WJ26 (Or.inl nJ1V)
 replace gZD := gZD.other WJ26 (Or.inl nJ1V)
 replace gZE := gZE.other WJ26 nJ1W
 replace gZF := gZF.other WJ26 nJ1X
 replace Z0 := own_wrle WJ26 Z0
 have FJ2B : own_A Z hJ23 aJ1F .int [(.int (0 : Int32)), (.int (0 : Int32))] := FJ27
 have kJ2C : own_G p e below E0 TJ22 (mkF m 171 #[vi p0, vi p1, vi p2, vi p3, vi p4, vi q, vi r, vi Ea, vi Eb, vi Aa, vi C1, vi B0, vi B1, vr aK9, vi (0 : Int32), vi (1 : Int32), vi (2 : Int32)] [(.int (1 : Int32)), (.int (1 : Int32)), (.ref aJ1F), (.ref aJ1F), (.double (FP.i2d B0)), (.ref aK9)]) := by
  intro tQ kk
  refine kJ2A tQ ?_
  refine XS.dup XJ24.here hx rfl (hH at_167) rfl rfl ?_
  refine XS.iconst XJ24.here hx rfl (hH at_168) ?_
  refine XS.iload XJ24.here hx rfl (hH at_169) rfl ?_
  exact kk
 clear kJ2A
 obtain ⟨TJ2D, hJ2E, XJ2F, eJ2G, WJ2H, FJ2I, stJ2J⟩ := own_A.ist XJ24 hx hZ eJ25 FJ2B (j := (1 : Int32)) (by decide) rfl (g := (mkF m 171 #[vi p0, vi p1, vi p2, vi p3, vi p4, vi q, vi r, vi Ea, vi Eb, vi Aa, vi C1, vi B0, vi B1, vr aK9, vi (0 : Int32), vi (1 : Int32), vi (2 : Int32)] [(.int (1 : Int32)), (.int (1 : Int32)), (.ref aJ1F), (.ref aJ1F), (.double (FP.i2d B0)), (.ref aK9)])) rfl rfl (hH at_171)
 have NJ2K := Fr.snoc XJ2F NJ29 geJ1Y
 have kJ2L : own_G p e below E0 TJ2D (mkF m 172 #[vi p0, vi p1, vi p2, vi p3, vi p4, vi q, vi r, vi Ea, vi Eb, vi Aa, vi C1, vi B0, vi B1, vr aK9, vi (0 : Int32), vi (1 : Int32), vi (2 : Int32)] [(.ref aJ1F), (.double (FP.i2d B0)), (.ref aK9)]) := fun tQ kk => kJ2C tQ (stJ2J _ kk)
 clear kJ2C stJ2J
 replace AK6 := AK6.wr WJ2H
 replace gLK := gLK.wr WJ2H
 replace gLO := gLO.wr WJ2H
 replace gLP := gLP.other WJ2H (Or.inl nJ1J)
 replace gLR := gLR.other WJ2H nJ1K
 replace gLS := gLS.other WJ2H nJ1L
 replace gLU := gLU.other WJ2H nJ1M
 replace gQN := gQN.wr WJ2H
 replace gQO := gQO.other WJ2H (Or.inl nJ1N)
 replace gQP := gQP.other WJ2H (Or.inl nJ1N)
 replace gQQ := gQQ.other WJ2H (Or.inl nJ1N)
 replace gQR := gQR.other WJ2H nJ1O
 replace gQS := gQS.other WJ2H nJ1P
 replace gUZ := gUZ.wr WJ2H
 replace gV0 := gV0.other WJ2H (Or.inl nJ1Q)
 replace gV1 := gV1.other WJ2H (Or.inl nJ1Q)
 replace gV2 := gV2.other WJ2H (Or.inl nJ1Q)
 replace gV3 := gV3.other WJ2H nJ1R
 replace gV4 := gV4.other WJ2H nJ1S
 replace gYW := gYW.other WJ2H (Or.inl nJ1H)
 replace gYX := gYX.other WJ2H (Or.inl nJ1H)
 replace gYY := gYY.other WJ2H (Or.inl nJ1H)
 replace gYZ := gYZ.other WJ2H (Or.inl nJ1H)
 replace gZ0 := gZ0.other WJ2H (Or.inl nJ1H)
 replace gZ1 := gZ1.other WJ2H (Or.inl nJ1H)
 replace gZ2 := gZ2.other WJ2H (Or.inl nJ1H)
 replace gZ3 := gZ3.other WJ2H (Or.inl nJ1H)
 replace gZ4 := gZ4.other WJ2H (Or.inl nJ1I)
 replace gZ5 := gZ5.other WJ2H (Or.inl nJ1I)
 replace gZ7 := gZ7.other WJ2H nJ1T
 replace gZ9 := gZ9.other WJ2H nJ1U
 replace gZA := gZA.wr WJ2H
 replace gZB := gZB.other WJ2H (Or.inl nJ1V)
 replace gZC := gZC.other WJ2H (Or.inl nJ1V)
 replace gZD := gZD.other WJ2H (Or.inl nJ1V)
 replace gZE := gZE.other WJ2H nJ1W
 replace gZF := gZF.other WJ2H nJ1X
 replace Z0 := own_wrle WJ2H Z0
 have FJ2M : own_A Z hJ2E aJ1F .int [(.int (0 : Int32)), (.int (1 : Int32))] := FJ2I
 have kJ2N : own_G p e below E0 TJ2D (mkF m 173 #[vi p0, vi p1, vi p2, vi p3, vi p4, vi q, vi r, vi Ea, vi Eb, vi Aa, vi C1, vi B0, vi B1, vr aK9, vi (0 : Int32), vi (1 : Int32), vi (2 : Int32)] [(.int (2 : Int32)), (.ref aJ1F), (.double (FP.i2d B0)), (.ref aK9)]) := by
  intro tQ kk
  refine kJ2L tQ ?_
  refine XS.iconst XJ2F.here hx rfl (hH at_172) ?_
  exact kk
 clear kJ2L
 obtain ⟨TJ2O, hJ2P, cAJ2Q, XJ2R, eJ2S, EJ2T, AJ2U, stJ2V⟩ := newP (aty := .double) XJ2F hx hZ (tw36 hw) eJ2G (g := (mkF m 173 #[vi p0, vi p1, vi p2, vi p3, vi p4, vi q, vi r, vi Ea, vi Eb, vi Aa, vi C1, vi B0, vi B1, vr aK9, vi (0 : Int32), vi (1 : Int32), vi (2 : Int32)] [(.int (2 : Int32)), (.ref aJ1F), (.double (FP.i2d B0)), (.ref aK9)])) rfl (hH at_173) rfl (by decide) (cap := 2) (by decide) (by decide) (by decide) (by decide)
 obtain ⟨aJ2W, gJ2X⟩ : ∃ zA : Nat, zA = hJ2E.size := ⟨_, rfl⟩
 rw [← gJ2X] at AJ2U stJ2V
 have nJ2Y := own_lt_ne AK6.lt gJ2X
 have nJ2Z := own_lt_ne gLK.lt gJ2X
 have nJ30 := own_lt_ne gLO.lt gJ2X
 have nJ31 := own_lt_ne gLR.lt gJ2X
 have nJ32 := own_lt_ne gLS.lt gJ2X
 have nJ33 := own_lt_ne gLU.lt gJ2X
 have nJ34 := own_lt_ne gQN.lt gJ2X
 have nJ35 := own_lt_ne gQR.lt gJ2X
 have nJ36 := own_lt_ne gQS.lt gJ2X
 have nJ37 := own_lt_ne gUZ.lt gJ2X
 have nJ38 := own_lt_ne gV3.lt gJ2X
 have nJ39 := own_lt_ne gV4.lt gJ2X
 have nJ3A := own_lt_ne gZ7.lt gJ2X
 have nJ3B := own_lt_ne gZ9.lt gJ2X
 have nJ3C := own_lt_ne gZA.lt gJ2X
 have nJ3D := own_lt_ne gZE.lt gJ2X
 have nJ3E := own_lt_ne gZF.lt gJ2X
 have nJ3F := own_lt_ne FJ2M.lt gJ2X
 have geJ3G : n0 ≤ aJ2W := own_ge_of Z0 gJ2X
 replace Z0 := Nat.le_trans Z0 EJ2T.1
 replace AK6 := AK6.ext EJ2T
 replace gLK := gLK.ext EJ2T
 replace gLO := gLO.ext EJ2T
 replace gLP := gLP.ext EJ2T
 replace gLR := gLR.ext EJ2T
 replace gLS := gLS.ext EJ2T
 replace gLU := gLU.ext EJ2T
 replace gQN := gQN.ext EJ2T
 replace gQO := gQO.ext EJ2T
 replace gQP := gQP.ext EJ2T
 replace gQQ := gQQ.ext EJ2T
 replace gQR := gQR.ext EJ2T
 replace gQS := gQS.ext EJ2T
 replace gUZ := gUZ.ext EJ2T
 replace gV0 := gV0.ext EJ2T
 replace gV1 := gV1.ext EJ2T
 replace gV2 := gV2.ext EJ2T
 replace gV3 := gV3.ext EJ2T
 replace gV4 := gV4.ext EJ2T
 replace gYW := gYW.ext EJ2T
 replace gYX := gYX.ext EJ2T
 replace gYY := gYY.ext EJ2T
 replace gYZ := gYZ.ext EJ2T
 replace gZ0 := gZ0.ext EJ2T
 replace gZ1 := gZ1.ext EJ2T
 replace gZ2 := gZ2.ext EJ2T
 replace gZ3 := gZ3.ext EJ2T
 replace gZ4 := gZ4.ext EJ2T
 replace gZ5 := gZ5.ext EJ2T
 replace gZ7 := gZ7.ext EJ2T
 replace gZ9 := gZ9.ext EJ2T
 replace gZA := gZA.ext EJ2T
 replace gZB := gZB.ext EJ2T
 replace gZC := gZC.ext EJ2T
 replace gZD := gZD.ext EJ2T
 replace gZE := gZE.ext EJ2T
 replace gZF := gZF.ext EJ2T
 replace FJ2M := FJ2M.ext EJ2T
 have FJ3H : own_A Z hJ2P aJ2W .double [(.double (0 : UInt64)), (.double (0 : UInt64))] := own_A.new AJ2U
 have kJ3I : own_G p e below E0 TJ2O (mkF m 175 #[vi p0, vi p1, vi p2, vi p3, vi p4, vi q, vi r, vi Ea, vi Eb, vi Aa, vi C1, vi B0, vi B1, vr aK9, vi (0 : Int32), vi (1 : Int32), vi (2 : Int32)] [(.ref aJ2W), (.ref aJ1F), (.double (FP.i2d B0)), (.ref aK9)]) := fun tQ kk => kJ2N tQ (stJ2V _ kk)
 clear kJ2N stJ2V
 have kJ3J : own_G p e below E0 TJ2O (mkF m 180 #[vi p0, vi p1, vi p2, vi p3, vi p4, vi q, vi r, vi Ea, vi Eb, vi Aa, vi C1, vi B0, vi B1, vr aK9, vi (0 : Int32), vi (1 : Int32), vi (2 : Int32)] [(.double (FP.i2d Ea)), (.int (0 : Int32)), (.ref aJ2W), (.ref aJ2W), (.ref aJ1F), (.double (FP.i2d B0)), (.ref aK9)]) := by
  intro tQ kk
  refine kJ3I tQ ?_
  refine XS.dup XJ2R.here hx rfl (hH at_175) rfl rfl ?_
  refine XS.iconst XJ2R.here hx rfl (hH at_176) ?_
  refine XS.iload XJ2R.here hx rfl (hH at_177) rfl ?_
  refine XS.i2dS XJ2R.here hx rfl (hH at_179) rfl rfl ?_
  exact kk
 clear kJ3I
 obtain ⟨TJ3K, hJ3L, XJ3M, eJ3N, WJ3O, FJ3P, stJ3Q⟩ := own_A.dst XJ2R hx hZ eJ2S FJ3H (j := (0 : Int32)) (by decide) rfl (g := (mkF m 180 #[vi p0, vi p1, vi p2, vi p3, vi p4, vi q, vi r, vi Ea, vi Eb, vi Aa, vi C1, vi B0, vi B1, vr aK9, vi (0 : Int32), vi (1 : Int32), vi (2 : Int32)] [(.double (FP.i2d Ea)), (.int (0 : Int32)), (.ref aJ2W), (.ref aJ2W), (.ref aJ1F), (.double (FP.i2d B0)), (.ref aK9)])) rfl rfl (hH at_180)
 have NJ3R := Fr.snoc XJ3M NJ2K geJ3G
 have kJ3S : own_G p e below E0 TJ3K (mkF m 181 #[vi p0, vi p1, vi p2, vi p3, vi p4, vi q, vi r, vi Ea, vi Eb, vi Aa, vi C1, vi B0, vi B1, vr aK9, vi (0 : Int32), vi (1 : Int32), vi (2 : Int32)] [(.ref aJ2W), (.ref aJ1F), (.double (FP.i2d B0)), (.ref aK9)]) := fun tQ kk => kJ3J tQ (stJ3Q _ kk)
 clear kJ3J stJ3Q
 replace AK6 := AK6.wr WJ3O
 replace gLK := gLK.wr WJ3O
 replace gLO := gLO.wr WJ3O
 replace gLP := gLP.other WJ3O (Or.inl nJ30)
 replace gLR := gLR.other WJ3O nJ31
 replace gLS := gLS.other WJ3O nJ32
 replace gLU := gLU.other WJ3O nJ33
 replace gQN := gQN.wr WJ3O
 replace gQO := gQO.other WJ3O (Or.inl nJ34)
 replace gQP := gQP.other WJ3O (Or.inl nJ34)
 replace gQQ := gQQ.other WJ3O (Or.inl nJ34)
 replace gQR := gQR.other WJ3O nJ35
 replace gQS := gQS.other WJ3O nJ36
 replace gUZ := gUZ.wr WJ3O
 replace gV0 := gV0.other WJ3O (Or.inl nJ37)
 replace gV1 := gV1.other WJ3O (Or.inl nJ37)
 replace gV2 := gV2.other WJ3O (Or.inl nJ37)
 replace gV3 := gV3.other WJ3O nJ38
 replace gV4 := gV4.other WJ3O nJ39
 replace gYW := gYW.other WJ3O (Or.inl nJ2Y)
 replace gYX := gYX.other WJ3O (Or.inl nJ2Y)
 replace gYY := gYY.other WJ3O (Or.inl nJ2Y)
 replace gYZ := gYZ.other WJ3O (Or.inl nJ2Y)
 replace gZ0 := gZ0.other WJ3O (Or.inl nJ2Y)
 replace gZ1 := gZ1.other WJ3O (Or.inl nJ2Y)
 replace gZ2 := gZ2.other WJ3O (Or.inl nJ2Y)
 replace gZ3 := gZ3.other WJ3O (Or.inl nJ2Y)
 replace gZ4 := gZ4.other WJ3O (Or.inl nJ2Z)
 replace gZ5 := gZ5.other WJ3O (Or.inl nJ2Z)
 replace gZ7 := gZ7.other WJ3O nJ3A
 replace gZ9 := gZ9.other WJ3O nJ3B
 replace gZA := gZA.wr WJ3O
 replace gZB := gZB.other WJ3O (Or.inl nJ3C)
 replace gZC := gZC.other WJ3O (Or.inl nJ3C)
 replace gZD := gZD.other WJ3O (Or.inl nJ3C)
 replace gZE := gZE.other WJ3O nJ3D
 replace gZF := gZF.other WJ3O nJ3E
 replace FJ2M := FJ2M.other WJ3O nJ3F
 replace Z0 := own_wrle WJ3O Z0
 have FJ3T : own_A Z hJ3L aJ2W .double [(.double (FP.i2d Ea)), (.double (0 : UInt64))] := FJ3P
 have kJ3U : own_G p e below E0 TJ3K (mkF m 186 #[vi p0, vi p1, vi p2, vi p3, vi p4, vi q, vi r, vi Ea, vi Eb, vi Aa, vi C1, vi B0, vi B1, vr aK9, vi (0 : Int32), vi (1 : Int32), vi (2 : Int32)] [(.double (FP.i2d C1)), (.int (1 : Int32)), (.ref aJ2W), (.ref aJ2W), (.ref aJ1F), (.double (FP.i2d B0)), (.ref aK9)]) := by
  intro tQ kk
  refine kJ3S tQ ?_
  refine XS.dup XJ3M.here hx rfl (hH at_181) rfl rfl ?_
  refine XS.iconst XJ3M.here hx rfl (hH at_182) ?_
  refine XS.iload XJ3M.here hx rfl (hH at_183) rfl ?_
  refine XS.i2dS XJ3M.here hx rfl (hH at_185) rfl rfl ?_
  exact kk
 clear kJ3S
 obtain ⟨TJ3V, hJ3W, XJ3X, eJ3Y, WJ3Z, FJ40, stJ41⟩ := own_A.dst XJ3M hx hZ eJ3N FJ3T (j := (1 : Int32)) (by decide) rfl (g := (mkF m 186 #[vi p0, vi p1, vi p2, vi p3, vi p4, vi q, vi r, vi Ea, vi Eb, vi Aa, vi C1, vi B0, vi B1, vr aK9, vi (0 : Int32), vi (1 : Int32), vi (2 : Int32)] [(.double (FP.i2d C1)), (.int (1 : Int32)), (.ref aJ2W), (.ref aJ2W), (.ref aJ1F), (.double (FP.i2d B0)), (.ref aK9)])) rfl rfl (hH at_186)
 have NJ42 := Fr.snoc XJ3X NJ3R geJ3G
 have kJ43 : own_G p e below E0 TJ3V (mkF m 187 #[vi p0, vi p1, vi p2, vi p3, vi p4, vi q, vi r, vi Ea, vi Eb, vi Aa, vi C1, vi B0, vi B1, vr aK9, vi (0 : Int32), vi (1 : Int32), vi (2 : Int32)] [(.ref aJ2W), (.ref aJ1F), (.double (FP.i2d B0)), (.ref aK9)]) := fun tQ kk => kJ3U tQ (stJ41 _ kk)
 clear kJ3U stJ41
 replace AK6 := AK6.wr WJ3Z
 replace gLK := gLK.wr WJ3Z
 replace gLO := gLO.wr WJ3Z
 replace gLP := gLP.other WJ3Z (Or.inl nJ30)
 replace gLR := gLR.other WJ3Z nJ31
 replace gLS := gLS.other WJ3Z nJ32
 replace gLU := gLU.other WJ3Z nJ33
 replace gQN := gQN.wr WJ3Z
 replace gQO := gQO.other WJ3Z (Or.inl nJ34)
 replace gQP := gQP.other WJ3Z (Or.inl nJ34)
 replace gQQ := gQQ.other WJ3Z (Or.inl nJ34)
 replace gQR := gQR.other WJ3Z nJ35
 replace gQS := gQS.other WJ3Z nJ36
 replace gUZ := gUZ.wr WJ3Z
 replace gV0 := gV0.other WJ3Z (Or.inl nJ37)
 replace gV1 := gV1.other WJ3Z (Or.inl nJ37)
 replace gV2 := gV2.other WJ3Z (Or.inl nJ37)
 replace gV3 := gV3.other WJ3Z nJ38
 replace gV4 := gV4.other WJ3Z nJ39
 replace gYW := gYW.other WJ3Z (Or.inl nJ2Y)
 replace gYX := gYX.other WJ3Z (Or.inl nJ2Y)
 replace gYY := gYY.other WJ3Z (Or.inl nJ2Y)
 replace gYZ := gYZ.other WJ3Z (Or.inl nJ2Y)
 replace gZ0 := gZ0.other WJ3Z (Or.inl nJ2Y)
 replace gZ1 := gZ1.other WJ3Z (Or.inl nJ2Y)
 replace gZ2 := gZ2.other WJ3Z (Or.inl nJ2Y)
 replace gZ3 := gZ3.other WJ3Z (Or.inl nJ2Y)
 replace gZ4 := gZ4.other WJ3Z (Or.inl nJ2Z)
 replace gZ5 := gZ5.other WJ3Z (Or.inl nJ2Z)
 replace gZ7 := gZ7.other WJ3Z nJ3A
 replace gZ9 := gZ9.other WJ3Z nJ3B
 replace gZA := gZA.wr WJ3Z
 replace gZB := gZB.other WJ3Z (Or.inl nJ3C)
 replace gZC := gZC.other WJ3Z (Or.inl nJ3C)
 replace gZD := gZD.other WJ3Z (Or.inl nJ3C)
 replace gZE := gZE.other WJ3Z nJ3D
 replace gZF := gZF.other WJ3Z nJ3E
 replace FJ2M := FJ2M.other WJ3Z nJ3F
 replace Z0 := own_wrle WJ3Z Z0
 have FJ44 : own_A Z hJ3W aJ2W .double [(.double (FP.i2d Ea)), (.double (FP.i2d C1))] := FJ40
 have kJ45 : own_G p e below E0 TJ3V (mkF m 189 #[vi p0, vi p1, vi p2, vi p3, vi p4, vi q, vi r, vi Ea, vi Eb, vi Aa, vi C1, vi B0, vi B1, vr aK9, vi (0 : Int32), vi (1 : Int32), vi (2 : Int32)] [(.int (0 : Int32)), (.ref aJ2W), (.ref aJ1F), (.double (FP.i2d B0)), (.ref aK9)]) := by
  intro tQ kk
  refine kJ43 tQ ?_
  refine XS.iload XJ3X.here hx rfl (hH at_187) rfl ?_
  exact kk
 clear kJ43
 obtain ⟨cqJ4H, kqJ4I, qaJ4J, qbJ4K, qcJ4L⟩ := isOf hZ eJ3Y AK6
 obtain ⟨_, _, ⟨TJ46, LJ47, kcJ48, ncJ49⟩, -, XJ4A, ⟨LcJ4B, hQJ4C, lJ4D, yJ4E, zJ4F⟩, stJ4G⟩ := XJ3X.virtualBack hx (y := mn159) (z := mn159) hown (mvT hZ (tw233 hw)) (mvT hZ (tw234 hw)) (notFace_of_selects (args := #[]) (mvT hZ (tw236 hw))) (mvT hZ (tw236 hw)) (mvT hZ (tw235 hw)) (by decide) (backOf (W := 0) (rmRo0 l Z a0 hw [] aK9 aJ1F aJ2W alL4 cAL5 roL6 baL7 pAL8 faL9 vaLA rQ4 scQ5 scUH scYS r1Q6 r2Q7 r1UI r2UJ own_d16 own_i16 (((own_i16.set ((0 : Int32)).toNatClampNeg (.int (-1 : Int32))).set ((1 : Int32)).toNatClampNeg (.int (-1 : Int32))).set ((2 : Int32)).toNatClampNeg (.int (-1 : Int32))) own_d16 own_i4 own_d4 own_i4 own_d4 (FP.i2d B0) (FP.i2d Ea) (FP.i2d C1) q.toInt Ea.toInt hJ3W n0 Z0 AK6 gYW gYX gYY gYZ gZ0 gZ1 gZ2 gZ3 gLK gZ4 gZ5 gZ7 gLO gLP gQN gQO gQP gQQ gQR gQS gUZ gV0 gV1 gV2 gV3 gV4 gLR gLS gZ9 gLU FJ2M FJ44 nMW nMZ nN2 nN8 nRI nRU nS6 nVD nVS nW7 nJ1H nJ2Y nMQ nR6 nN5 nMD nME nMG nRM nRY nSA nVG nVV nWA nJ1K nJ31 (Ne.symm nM3) nRA nMF nMH nMJ nRN nRZ nSB nVH nVW nWB nJ1L nJ32 (Ne.symm nM4) nRB nMI nML nRO nS0 nSC nVL nW0 nWF nJ1U nJ3B (Ne.symm nM5) nRC nMK nRP nS1 nSD nVI nVX nWC nJ1M nJ33 (Ne.symm nM7) nRD (Ne.symm nMM) nR0 nR1 nVM nW1 nWG nJ1N nJ34 (Ne.symm nRJ) (Ne.symm nQX) (Ne.symm nRK) nR2 nVN nW2 nWH nJ1O nJ35 (Ne.symm nRV) (Ne.symm nQY) (Ne.symm nRW) nVO nW3 nWI nJ1P nJ36 (Ne.symm nS7) (Ne.symm nQZ) (Ne.symm nS8) nV8 nV9 nJ1Q nJ37 (Ne.symm nVE) (Ne.symm nVJ) (Ne.symm nVF) nVA nJ1R nJ38 (Ne.symm nVT) (Ne.symm nVY) (Ne.symm nVU) nJ1S nJ39 (Ne.symm nW8) (Ne.symm nWD) (Ne.symm nW9) geKD geMU geMX geN0 geN6 geRG geRS geS4 geVC geVR geW6 rfl rfl rfl rfl rfl rfl rfl rfl rfl rfl iB0 (FP.Core.i2d_int Ea) bE0 bq) hZ (tw237 hw) (tw3 hw) (by decide) (by decide)) qaJ4J qcJ4L (g := (mkF m 189 #[vi p0, vi p1, vi p2, vi p3, vi p4, vi q, vi r, vi Ea, vi Eb, vi Aa, vi C1, vi B0, vi B1, vr aK9, vi (0 : Int32), vi (1 : Int32), vi (2 : Int32)] [(.int (0 : Int32)), (.ref aJ2W), (.ref aJ1F), (.double (FP.i2d B0)), (.ref aK9)])) rfl (by rw [hml]; rfl) (Steps.refl _) (argsL := [(.double (FP.i2d B0)), (.ref aJ1F), (.ref aJ2W), (.int (0 : Int32))]) (rest := []) (lenOf pd_173 rfl) rfl (by show 2 * 0 + _ ≤ _; exact Nat.le_of_eq rfl) (hH at_189) (fun _ _ => ⟨rfl, eJ3Y, (by decide : 74 + 1 ≤ _), (by decide : 635 + 0 ≤ _)⟩)
 dsimp only [Pt.U, Pt.locs, Pt.cells, Pt.slots] at XJ4A lJ4D yJ4E zJ4F stJ4G hQJ4C
 subst yJ4E zJ4F
 obtain ⟨mqJ4P, rfl, NJ4M, KJ4Q, gJ4R, gJ4S, gJ4T, gJ4U, gJ4V, gJ4W, gJ4X, gJ4Y, gJ4Z, gJ50, gJ51, gJ52, gJ53, gJ54, gJ55, gJ56, gJ57, gJ58, gJ59, gJ5A, gJ5B, gJ5C, gJ5D⟩ := hQJ4C
 have NJ5E : Fr n0 LJ47 := by rw [lJ4D]; exact Fr.app NJ42 NJ4M
 clear lJ4D NJ4M
 replace Z0 := Nat.le_trans Z0 KJ4Q.1
 replace AK6 := AK6.keep KJ4Q
 replace gLK := gLK.keep KJ4Q
 replace gLO := gLO.keep KJ4Q
 replace gLP := gLP.keep KJ4Q (ninS (Ne.symm nN5) (ninS (Ne.symm nMF) (ninS (Ne.symm nMI) (ninS (Ne.symm nMK) (ninS nMM (ninS nRK (ninS nRW (ninS nS8 (ninS nVF (ninS nVU (ninS nW9 nin0)))))))))))
 clear gLR
 clear gLS
 clear gLU
 replace gQN := gQN.keep KJ4Q
 clear gQO
 clear gQP
 clear gQQ
 clear gQR
 clear gQS
 replace gUZ := gUZ.keep KJ4Q
 clear gV0
 clear gV1
 clear gV2
 clear gV3
 clear gV4
 clear gYW
 clear gYX
 clear gYY
 clear gYZ
 clear gZ0
 clear gZ1
 clear gZ2
 clear gZ3
 replace gZ4 := gZ4.keep KJ4Q (ninS (Ne.symm nMQ) (ninS nM3 (ninS nM4 (ninS nM5 (ninS nM7 (ninS nRJ (ninS nRV (ninS nS7 (ninS nVE (ninS nVT (ninS nW8 nin0)))))))))))
 replace gZ5 := gZ5.keep KJ4Q (ninS (Ne.symm nMQ) (ninS nM3 (ninS nM4 (ninS nM5 (ninS nM7 (ninS nRJ (ninS nRV (ninS nS7 (ninS nVE (ninS nVT (ninS nW8 nin0)))))))))))
 replace gZ7 := gZ7.keep KJ4Q (ninS (Ne.symm nR6) (ninS (Ne.symm nRA) (ninS (Ne.symm nRB) (ninS (Ne.symm nRC) (ninS (Ne.symm nRD) (ninS nQX (ninS nQY (ninS nQZ (ninS nVJ (ninS nVY (ninS nWD nin0)))))))))))
 clear gZ9
 replace gZA := gZA.keep KJ4Q
 replace gZB := gZB.keep KJ4Q (ninS (Ne.symm nZO) (ninS (Ne.symm nZR) (ninS (Ne.symm nZS) (ninS (Ne.symm nZZ) (ninS (Ne.symm nZT) (ninS (Ne.symm nZU) (ninS (Ne.symm nZV) (ninS (Ne.symm nZW) (ninS (Ne.symm nJ00) (ninS (Ne.symm nJ01) (ninS (Ne.symm nJ02) nin0)))))))))))
 replace gZC := gZC.keep KJ4Q (ninS (Ne.symm nZO) (ninS (Ne.symm nZR) (ninS (Ne.symm nZS) (ninS (Ne.symm nZZ) (ninS (Ne.symm nZT) (ninS (Ne.symm nZU) (ninS (Ne.symm nZV) (ninS (Ne.symm nZW) (ninS (Ne.symm nJ00) (ninS (Ne.symm nJ01) (ninS (Ne.symm nJ02) nin0)))))))))))
 replace gZD := gZD.keep KJ4Q (ninS (Ne.symm nZO) (ninS (Ne.symm nZR) (ninS (Ne.symm nZS) (ninS (Ne.symm nZZ) (ninS (Ne.symm nZT) (ninS (Ne.symm nZU) (ninS (Ne.symm nZV) (ninS (Ne.symm nZW) (ninS (Ne.symm nJ00) (ninS (Ne.symm nJ01) (ninS (Ne.symm nJ02) nin0)))))))))))
 replace gZE := gZE.keep KJ4Q (ninS (Ne.symm nJ06) (ninS (Ne.symm nJ09) (ninS (Ne.symm nJ0A) (ninS (Ne.symm nJ0H) (ninS (Ne.symm nJ0B) (ninS (Ne.symm nJ0C) (ninS (Ne.symm nJ0D) (ninS (Ne.symm nJ0E) (ninS (Ne.symm nJ0I) (ninS (Ne.symm nJ0J) (ninS (Ne.symm nJ0K) nin0)))))))))))
 replace gZF := gZF.keep KJ4Q (ninS (Ne.symm nJ0O) (ninS (Ne.symm nJ0R) (ninS (Ne.symm nJ0S) (ninS (Ne.symm nJ0Z) (ninS (Ne.symm nJ0T) (ninS (Ne.symm nJ0U) (ninS (Ne.symm nJ0V) (ninS (Ne.symm nJ0W) (ninS (Ne.symm nJ10) (ninS (Ne.symm nJ11) (ninS (Ne.symm nJ12) nin0)))))))))))
 replace FJ2M := FJ2M.keep KJ4Q (ninS (Ne.symm nJ1H) (ninS (Ne.symm nJ1K) (ninS (Ne.symm nJ1L) (ninS (Ne.symm nJ1U) (ninS (Ne.symm nJ1M) (ninS (Ne.symm nJ1N) (ninS (Ne.symm nJ1O) (ninS (Ne.symm nJ1P) (ninS (Ne.symm nJ1Q) (ninS (Ne.symm nJ1R) (ninS (Ne.symm nJ1S) nin0)))))))))))
 replace FJ44 := FJ44.keep KJ4Q (ninS (Ne.symm nJ2Y) (ninS (Ne.symm nJ31) (ninS (Ne.symm nJ32) (ninS (Ne.symm nJ3B) (ninS (Ne.symm nJ33) (ninS (Ne.symm nJ34) (ninS (Ne.symm nJ35) (ninS (Ne.symm nJ36) (ninS (Ne.symm nJ37) (ninS (Ne.symm nJ38) (ninS (Ne.symm nJ39) nin0)))))))))))
 have kJ5F : own_G p e below E0 TJ46 (mkF m 192 #[vi p0, vi p1, vi p2, vi p3, vi p4, vi q, vi r, vi Ea, vi Eb, vi Aa, vi C1, vi B0, vi B1, vr aK9, vi (0 : Int32), vi (1 : Int32), vi (2 : Int32)] [(.int (0 : Int32))]) := fun tQ kk => kJ45 tQ (stJ4G.trans kk)
 clear kJ45 stJ4G
 have kJ5G : own_G p e below E0 TJ46 (mkF m 199 #[vi p0, vi p1, vi p2, vi p3, vi p4, vi q, vi r, vi Ea, vi Eb, vi Aa, vi C1, vi B0, vi B1, vr aK9, vi (0 : Int32), vi (1 : Int32), vi (2 : Int32)] [(.int (2 : Int32)), (.double (FP.i2d B1)), (.ref aK9)]) := by
  intro tQ kk
  refine kJ5F tQ ?_
  refine XT.pop XJ4A.here hx rfl (hH at_192) rfl rfl ?_
  refine XS.aload XJ4A.here hx rfl (hH at_193) rfl rfl ?_
  refine XS.iload XJ4A.here hx rfl (hH at_195) rfl ?_
  refine XS.i2dS XJ4A.here hx rfl (hH at_197) rfl rfl ?_
  refine XS.iconst XJ4A.here hx rfl (hH at_198) ?_
  exact kk
 clear kJ5F
 obtain ⟨TJ5H, hJ5I, cAJ5J, XJ5K, eJ5L, EJ5M, AJ5N, stJ5O⟩ := newP (aty := .int) XJ4A hx hZ (tw41 hw) rfl (g := (mkF m 199 #[vi p0, vi p1, vi p2, vi p3, vi p4, vi q, vi r, vi Ea, vi Eb, vi Aa, vi C1, vi B0, vi B1, vr aK9, vi (0 : Int32), vi (1 : Int32), vi (2 : Int32)] [(.int (2 : Int32)), (.double (FP.i2d B1)), (.ref aK9)])) rfl (hH at_199) rfl (by decide) (cap := 2) (by decide) (by decide) (by decide) (by decide)
 obtain ⟨aJ5P, gJ5Q⟩ : ∃ zA : Nat, zA = TJ46.heap.size := ⟨_, rfl⟩
 rw [← gJ5Q] at AJ5N stJ5O
 have nJ5R := own_lt_ne AK6.lt gJ5Q
 have nJ5S := own_lt_ne gLK.lt gJ5Q
 have nJ5T := own_lt_ne gLO.lt gJ5Q
 have nJ5U := own_lt_ne gQN.lt gJ5Q
 have nJ5V := own_lt_ne gUZ.lt gJ5Q
 have nJ5W := own_lt_ne gZ7.lt gJ5Q
 have nJ5X := own_lt_ne gZA.lt gJ5Q
 have nJ5Y := own_lt_ne gZE.lt gJ5Q
 have nJ5Z := own_lt_ne gZF.lt gJ5Q
 have nJ60 := own_lt_ne gJ4Z.lt gJ5Q
 have nJ61 := own_lt_ne gJ50.lt gJ5Q
 have nJ62 := own_lt_ne gJ51.lt gJ5Q
 have nJ63 := own_lt_ne gJ52.lt gJ5Q
 have nJ64 := own_lt_ne gJ59.lt gJ5Q
 have nJ65 := own_lt_ne gJ5A.lt gJ5Q
 have nJ66 := own_lt_ne gJ5B.lt gJ5Q
 have nJ67 := own_lt_ne gJ5C.lt gJ5Q
 have geJ68 : n0 ≤ aJ5P := own_ge_of Z0 gJ5Q
 replace Z0 := Nat.le_trans Z0 EJ5M.1
 replace AK6 := AK6.ext EJ5M
 replace gLK := gLK.ext EJ5M
 replace gLO := gLO.ext EJ5M
 replace gLP := gLP.ext EJ5M
 replace gQN := gQN.ext EJ5M
 replace gUZ := gUZ.ext EJ5M
 replace gZ4 := gZ4.ext EJ5M
 replace gZ5 := gZ5.ext EJ5M
 replace gZ7 := gZ7.ext EJ5M
 replace gZA := gZA.ext EJ5M
 replace gZB := gZB.ext EJ5M
 replace gZC := gZC.ext EJ5M
 replace gZD := gZD.ext EJ5M
 replace gZE := gZE.ext EJ5M
 replace gZF := gZF.ext EJ5M
 replace gJ4R := gJ4R.ext EJ5M
 replace gJ4S := gJ4S.ext EJ5M
 replace gJ4T := gJ4T.ext EJ5M
 replace gJ4U := gJ4U.ext EJ5M
 replace gJ4V := gJ4V.ext EJ5M
 replace gJ4W := gJ4W.ext EJ5M
 replace gJ4X := gJ4X.ext EJ5M
 replace gJ4Y := gJ4Y.ext EJ5M
 replace gJ4Z := gJ4Z.ext EJ5M
 replace gJ50 := gJ50.ext EJ5M
 replace gJ51 := gJ51.ext EJ5M
 replace gJ52 := gJ52.ext EJ5M
 replace gJ53 := gJ53.ext EJ5M
 replace gJ54 := gJ54.ext EJ5M
 replace gJ55 := gJ55.ext EJ5M
 replace gJ56 := gJ56.ext EJ5M
 replace gJ57 := gJ57.ext EJ5M
 replace gJ58 := gJ58.ext EJ5M
 replace gJ59 := gJ59.ext EJ5M
 replace gJ5A := gJ5A.ext EJ5M
 replace gJ5B := gJ5B.ext EJ5M
 replace gJ5C := gJ5C.ext EJ5M
 have FJ69 : own_A Z hJ5I aJ5P .int [(.int (0 : Int32)), (.int (0 : Int32))] := own_A.new AJ5N
 have kJ6A : own_G p e below E0 TJ5H (mkF m 201 #[vi p0, vi p1, vi p2, vi p3, vi p4, vi q, vi r, vi Ea, vi Eb, vi Aa, vi C1, vi B0, vi B1, vr aK9, vi (0 : Int32), vi (1 : Int32), vi (2 : Int32)] [(.ref aJ5P), (.double (FP.i2d B1)), (.ref aK9)]) := fun tQ kk => kJ5G tQ (stJ5O _ kk)
 clear kJ5G stJ5O
 have kJ6B : own_G p e below E0 TJ5H (mkF m 205 #[vi p0, vi p1, vi p2, vi p3, vi p4, vi q, vi r, vi Ea, vi Eb, vi Aa, vi C1, vi B0, vi B1, vr aK9, vi (0 : Int32), vi (1 : Int32), vi (2 : Int32)] [(.int (0 : Int32)), (.int (0 : Int32)), (.ref aJ5P), (.ref aJ5P), (.double (FP.i2d B1)), (.ref aK9)]) := by
  intro tQ kk
  refine kJ6A tQ ?_
  refine XS.dup XJ5K.here hx rfl (hH at_201) rfl rfl ?_
  refine XS.iconst XJ5K.here hx rfl (hH at_202) ?_
  refine XS.iload XJ5K.here hx rfl (hH at_203) rfl ?_
  exact kk
 clear kJ6A
 obtain ⟨TJ6C, hJ6D, XJ6E, eJ6F, WJ6G, FJ6H, stJ6I⟩ := own_A.ist XJ5K hx hZ eJ5L FJ69 (j := (0 : Int32)) (by decide) rfl (g := (mkF m 205 #[vi p0, vi p1, vi p2, vi p3, vi p4, vi q, vi r, vi Ea, vi Eb, vi Aa, vi C1, vi B0, vi B1, vr aK9, vi (0 : Int32), vi (1 : Int32), vi (2 : Int32)] [(.int (0 : Int32)), (.int (0 : Int32)), (.ref aJ5P), (.ref aJ5P), (.double (FP.i2d B1)), (.ref aK9)])) rfl rfl (hH at_205)
 have NJ6J := Fr.snoc XJ6E NJ5E geJ68
 have kJ6K : own_G p e below E0 TJ6C (mkF m 206 #[vi p0, vi p1, vi p2, vi p3, vi p4, vi q, vi r, vi Ea, vi Eb, vi Aa, vi C1, vi B0, vi B1, vr aK9, vi (0 : Int32), vi (1 : Int32), vi (2 : Int32)] [(.ref aJ5P), (.double (FP.i2d B1)), (.ref aK9)]) := fun tQ kk => kJ6B tQ (stJ6I _ kk)
 clear kJ6B stJ6I
 replace AK6 := AK6.wr WJ6G
 replace gLK := gLK.wr WJ6G
 replace gLO := gLO.wr WJ6G
 replace gLP := gLP.other WJ6G (Or.inl nJ5T)
 replace gQN := gQN.wr WJ6G
 replace gUZ := gUZ.wr WJ6G
 replace gZ4 := gZ4.other WJ6G (Or.inl nJ5S)
 replace gZ5 := gZ5.other WJ6G (Or.inl nJ5S)
 replace gZ7 := gZ7.other WJ6G nJ5W
 replace gZA := gZA.wr WJ6G
 replace gZB := gZB.other WJ6G (Or.inl nJ5X)
 replace gZC := gZC.other WJ6G (Or.inl nJ5X)
 replace gZD := gZD.other WJ6G (Or.inl nJ5X)
 replace gZE := gZE.other WJ6G nJ5Y
 replace gZF := gZF.other WJ6G nJ5Z
 replace gJ4R := gJ4R.other WJ6G (Or.inl nJ5R)
 replace gJ4S := gJ4S.other WJ6G (Or.inl nJ5R)
 replace gJ4T := gJ4T.other WJ6G (Or.inl nJ5R)
 replace gJ4U := gJ4U.other WJ6G (Or.inl nJ5R)
 replace gJ4V := gJ4V.other WJ6G (Or.inl nJ5R)
 replace gJ4W := gJ4W.other WJ6G (Or.inl nJ5R)
 replace gJ4X := gJ4X.other WJ6G (Or.inl nJ5R)
 replace gJ4Y := gJ4Y.other WJ6G (Or.inl nJ5R)
 replace gJ4Z := gJ4Z.other WJ6G nJ60
 replace gJ50 := gJ50.other WJ6G nJ61
 replace gJ51 := gJ51.other WJ6G nJ62
 replace gJ52 := gJ52.other WJ6G nJ63
 replace gJ53 := gJ53.other WJ6G (Or.inl nJ5U)
 replace gJ54 := gJ54.other WJ6G (Or.inl nJ5U)
 replace gJ55 := gJ55.other WJ6G (Or.inl nJ5U)
 replace gJ56 := gJ56.other WJ6G (Or.inl nJ5V)
 replace gJ57 := gJ57.other WJ6G (Or.inl nJ5V)
 replace gJ58 := gJ58.other WJ6G (Or.inl nJ5V)
 replace gJ59 := gJ59.other WJ6G nJ64
 replace gJ5A := gJ5A.other WJ6G nJ65
 replace gJ5B := gJ5B.other WJ6G nJ66
 replace gJ5C := gJ5C.other WJ6G nJ67
 replace Z0 := own_wrle WJ6G Z0
 have FJ6L : own_A Z hJ6D aJ5P .int [(.int (0 : Int32)), (.int (0 : Int32))] := FJ6H
 have kJ6M : own_G p e below E0 TJ6C (mkF m 210 #[vi p0, vi p1, vi p2, vi p3, vi p4, vi q, vi r, vi Ea, vi Eb, vi Aa, vi C1, vi B0, vi B1, vr aK9, vi (0 : Int32), vi (1 : Int32), vi (2 : Int32)] [(.int (2 : Int32)), (.int (1 : Int32)), (.ref aJ5P), (.ref aJ5P), (.double (FP.i2d B1)), (.ref aK9)]) := by
  intro tQ kk
  refine kJ6K tQ ?_
  refine XS.dup XJ6E.here hx rfl (hH at_206) rfl rfl ?_
  refine XS.iconst XJ6E.here hx rfl (hH at_207) ?_
  refine XS.iload XJ6E.here hx rfl (hH at_208) rfl ?_
  exact kk
 clear kJ6K
 obtain ⟨TJ6N, hJ6O, XJ6P, eJ6Q, WJ6R, FJ6S, stJ6T⟩ := own_A.ist XJ6E hx hZ eJ6F FJ6L (j := (1 : Int32)) (by decide) rfl (g := (mkF m 210 #[vi p0, vi p1, vi p2, vi p3, vi p4, vi q, vi r, vi Ea, vi Eb, vi Aa, vi C1, vi B0, vi B1, vr aK9, vi (0 : Int32), vi (1 : Int32), vi (2 : Int32)] [(.int (2 : Int32)), (.int (1 : Int32)), (.ref aJ5P), (.ref aJ5P), (.double (FP.i2d B1)), (.ref aK9)])) rfl rfl (hH at_210)
 have NJ6U := Fr.snoc XJ6P NJ6J geJ68
 have kJ6V : own_G p e below E0 TJ6N (mkF m 211 #[vi p0, vi p1, vi p2, vi p3, vi p4, vi q, vi r, vi Ea, vi Eb, vi Aa, vi C1, vi B0, vi B1, vr aK9, vi (0 : Int32), vi (1 : Int32), vi (2 : Int32)] [(.ref aJ5P), (.double (FP.i2d B1)), (.ref aK9)]) := fun tQ kk => kJ6M tQ (stJ6T _ kk)
 clear kJ6M stJ6T
 replace AK6 := AK6.wr WJ6R
 replace gLK := gLK.wr WJ6R
 replace gLO := gLO.wr WJ6R
 replace gLP := gLP.other WJ6R (Or.inl nJ5T)
 replace gQN := gQN.wr WJ6R
 replace gUZ := gUZ.wr WJ6R
 replace gZ4 := gZ4.other WJ6R (Or.inl nJ5S)
 replace gZ5 := gZ5.other WJ6R (Or.inl nJ5S)
 replace gZ7 := gZ7.other WJ6R nJ5W
 replace gZA := gZA.wr WJ6R
 replace gZB := gZB.other WJ6R (Or.inl nJ5X)
 replace gZC := gZC.other WJ6R (Or.inl nJ5X)
 replace gZD := gZD.other WJ6R (Or.inl nJ5X)
 replace gZE := gZE.other WJ6R nJ5Y
 replace gZF := gZF.other WJ6R nJ5Z
 replace gJ4R := gJ4R.other WJ6R (Or.inl nJ5R)
 replace gJ4S := gJ4S.other WJ6R (Or.inl nJ5R)
 replace gJ4T := gJ4T.other WJ6R (Or.inl nJ5R)
 replace gJ4U := gJ4U.other WJ6R (Or.inl nJ5R)
 replace gJ4V := gJ4V.other WJ6R (Or.inl nJ5R)
 replace gJ4W := gJ4W.other WJ6R (Or.inl nJ5R)
 replace gJ4X := gJ4X.other WJ6R (Or.inl nJ5R)
 replace gJ4Y := gJ4Y.other WJ6R (Or.inl nJ5R)
 replace gJ4Z := gJ4Z.other WJ6R nJ60
 replace gJ50 := gJ50.other WJ6R nJ61
 replace gJ51 := gJ51.other WJ6R nJ62
 replace gJ52 := gJ52.other WJ6R nJ63
 replace gJ53 := gJ53.other WJ6R (Or.inl nJ5U)
 replace gJ54 := gJ54.other WJ6R (Or.inl nJ5U)
 replace gJ55 := gJ55.other WJ6R (Or.inl nJ5U)
 replace gJ56 := gJ56.other WJ6R (Or.inl nJ5V)
 replace gJ57 := gJ57.other WJ6R (Or.inl nJ5V)
 replace gJ58 := gJ58.other WJ6R (Or.inl nJ5V)
 replace gJ59 := gJ59.other WJ6R nJ64
 replace gJ5A := gJ5A.other WJ6R nJ65
 replace gJ5B := gJ5B.other WJ6R nJ66
 replace gJ5C := gJ5C.other WJ6R nJ67
 replace Z0 := own_wrle WJ6R Z0
 have FJ6W : own_A Z hJ6O aJ5P .int [(.int (0 : Int32)), (.int (2 : Int32))] := FJ6S
 have kJ6X : own_G p e below E0 TJ6N (mkF m 212 #[vi p0, vi p1, vi p2, vi p3, vi p4, vi q, vi r, vi Ea, vi Eb, vi Aa, vi C1, vi B0, vi B1, vr aK9, vi (0 : Int32), vi (1 : Int32), vi (2 : Int32)] [(.int (2 : Int32)), (.ref aJ5P), (.double (FP.i2d B1)), (.ref aK9)]) := by
  intro tQ kk
  refine kJ6V tQ ?_
  refine XS.iconst XJ6P.here hx rfl (hH at_211) ?_
  exact kk
 clear kJ6V
 obtain ⟨TJ6Y, hJ6Z, cAJ70, XJ71, eJ72, EJ73, AJ74, stJ75⟩ := newP (aty := .double) XJ6P hx hZ (tw36 hw) eJ6Q (g := (mkF m 212 #[vi p0, vi p1, vi p2, vi p3, vi p4, vi q, vi r, vi Ea, vi Eb, vi Aa, vi C1, vi B0, vi B1, vr aK9, vi (0 : Int32), vi (1 : Int32), vi (2 : Int32)] [(.int (2 : Int32)), (.ref aJ5P), (.double (FP.i2d B1)), (.ref aK9)])) rfl (hH at_212) rfl (by decide) (cap := 2) (by decide) (by decide) (by decide) (by decide)
 obtain ⟨aJ76, gJ77⟩ : ∃ zA : Nat, zA = hJ6O.size := ⟨_, rfl⟩
 rw [← gJ77] at AJ74 stJ75
 have nJ78 := own_lt_ne AK6.lt gJ77
 have nJ79 := own_lt_ne gLK.lt gJ77
 have nJ7A := own_lt_ne gLO.lt gJ77
 have nJ7B := own_lt_ne gQN.lt gJ77
 have nJ7C := own_lt_ne gUZ.lt gJ77
 have nJ7D := own_lt_ne gZ7.lt gJ77
 have nJ7E := own_lt_ne gZA.lt gJ77
 have nJ7F := own_lt_ne gZE.lt gJ77
 have nJ7G := own_lt_ne gZF.lt gJ77
 have nJ7H := own_lt_ne gJ4Z.lt gJ77
 have nJ7I := own_lt_ne gJ50.lt gJ77
 have nJ7J := own_lt_ne gJ51.lt gJ77
 have nJ7K := own_lt_ne gJ52.lt gJ77
 have nJ7L := own_lt_ne gJ59.lt gJ77
 have nJ7M := own_lt_ne gJ5A.lt gJ77
 have nJ7N := own_lt_ne gJ5B.lt gJ77
 have nJ7O := own_lt_ne gJ5C.lt gJ77
 have nJ7P := own_lt_ne FJ6W.lt gJ77
 have geJ7Q : n0 ≤ aJ76 := own_ge_of Z0 gJ77
 replace Z0 := Nat.le_trans Z0 EJ73.1
 replace AK6 := AK6.ext EJ73
 replace gLK := gLK.ext EJ73
 replace gLO := gLO.ext EJ73
 replace gLP := gLP.ext EJ73
 replace gQN := gQN.ext EJ73
 replace gUZ := gUZ.ext EJ73
 replace gZ4 := gZ4.ext EJ73
 replace gZ5 := gZ5.ext EJ73
 replace gZ7 := gZ7.ext EJ73
 replace gZA := gZA.ext EJ73
 replace gZB := gZB.ext EJ73
 replace gZC := gZC.ext EJ73
 replace gZD := gZD.ext EJ73
 replace gZE := gZE.ext EJ73
 replace gZF := gZF.ext EJ73
 replace gJ4R := gJ4R.ext EJ73
 replace gJ4S := gJ4S.ext EJ73
 replace gJ4T := gJ4T.ext EJ73
 replace gJ4U := gJ4U.ext EJ73
 replace gJ4V := gJ4V.ext EJ73
 replace gJ4W := gJ4W.ext EJ73
 replace gJ4X := gJ4X.ext EJ73
 replace gJ4Y := gJ4Y.ext EJ73
 replace gJ4Z := gJ4Z.ext EJ73
 replace gJ50 := gJ50.ext EJ73
 replace gJ51 := gJ51.ext EJ73
 replace gJ52 := gJ52.ext EJ73
 replace gJ53 := gJ53.ext EJ73
 replace gJ54 := gJ54.ext EJ73
 replace gJ55 := gJ55.ext EJ73
 replace gJ56 := gJ56.ext EJ73
 replace gJ57 := gJ57.ext EJ73
 replace gJ58 := gJ58.ext EJ73
 replace gJ59 := gJ59.ext EJ73
 replace gJ5A := gJ5A.ext EJ73
 replace gJ5B := gJ5B.ext EJ73
 replace gJ5C := gJ5C.ext EJ73
 replace FJ6W := FJ6W.ext EJ73
 have FJ7R : own_A Z hJ6Z aJ76 .double [(.double (0 : UInt64)), (.double (0 : UInt64))] := own_A.new AJ74
 have kJ7S : own_G p e below E0 TJ6Y (mkF m 214 #[vi p0, vi p1, vi p2, vi p3, vi p4, vi q, vi r, vi Ea, vi Eb, vi Aa, vi C1, vi B0, vi B1, vr aK9, vi (0 : Int32), vi (1 : Int32), vi (2 : Int32)] [(.ref aJ76), (.ref aJ5P), (.double (FP.i2d B1)), (.ref aK9)]) := fun tQ kk => kJ6X tQ (stJ75 _ kk)
 clear kJ6X stJ75
 have kJ7T : own_G p e below E0 TJ6Y (mkF m 219 #[vi p0, vi p1, vi p2, vi p3, vi p4, vi q, vi r, vi Ea, vi Eb, vi Aa, vi C1, vi B0, vi B1, vr aK9, vi (0 : Int32), vi (1 : Int32), vi (2 : Int32)] [(.double (FP.i2d Aa)), (.int (0 : Int32)), (.ref aJ76), (.ref aJ76), (.ref aJ5P), (.double (FP.i2d B1)), (.ref aK9)]) := by
  intro tQ kk
  refine kJ7S tQ ?_
  refine XS.dup XJ71.here hx rfl (hH at_214) rfl rfl ?_
  refine XS.iconst XJ71.here hx rfl (hH at_215) ?_
  refine XS.iload XJ71.here hx rfl (hH at_216) rfl ?_
  refine XS.i2dS XJ71.here hx rfl (hH at_218) rfl rfl ?_
  exact kk
 clear kJ7S
 obtain ⟨TJ7U, hJ7V, XJ7W, eJ7X, WJ7Y, FJ7Z, stJ80⟩ := own_A.dst XJ71 hx hZ eJ72 FJ7R (j := (0 : Int32)) (by decide) rfl (g := (mkF m 219 #[vi p0, vi p1, vi p2, vi p3, vi p4, vi q, vi r, vi Ea, vi Eb, vi Aa, vi C1, vi B0, vi B1, vr aK9, vi (0 : Int32), vi (1 : Int32), vi (2 : Int32)] [(.double (FP.i2d Aa)), (.int (0 : Int32)), (.ref aJ76), (.ref aJ76), (.ref aJ5P), (.double (FP.i2d B1)), (.ref aK9)])) rfl rfl (hH at_219)
 have NJ81 := Fr.snoc XJ7W NJ6U geJ7Q
 have kJ82 : own_G p e below E0 TJ7U (mkF m 220 #[vi p0, vi p1, vi p2, vi p3, vi p4, vi q, vi r, vi Ea, vi Eb, vi Aa, vi C1, vi B0, vi B1, vr aK9, vi (0 : Int32), vi (1 : Int32), vi (2 : Int32)] [(.ref aJ76), (.ref aJ5P), (.double (FP.i2d B1)), (.ref aK9)]) := fun tQ kk => kJ7T tQ (stJ80 _ kk)
 clear kJ7T stJ80
 replace AK6 := AK6.wr WJ7Y
 replace gLK := gLK.wr WJ7Y
 replace gLO := gLO.wr WJ7Y
 replace gLP := gLP.other WJ7Y (Or.inl nJ7A)
 replace gQN := gQN.wr WJ7Y
 replace gUZ := gUZ.wr WJ7Y
 replace gZ4 := gZ4.other WJ7Y (Or.inl nJ79)
 replace gZ5 := gZ5.other WJ7Y (Or.inl nJ79)
 replace gZ7 := gZ7.other WJ7Y nJ7D
 replace gZA := gZA.wr WJ7Y
 replace gZB := gZB.other WJ7Y (Or.inl nJ7E)
 replace gZC := gZC.other WJ7Y (Or.inl nJ7E)
 replace gZD := gZD.other WJ7Y (Or.inl nJ7E)
 replace gZE := gZE.other WJ7Y nJ7F
 replace gZF := gZF.other WJ7Y nJ7G
 replace gJ4R := gJ4R.other WJ7Y (Or.inl nJ78)
 replace gJ4S := gJ4S.other WJ7Y (Or.inl nJ78)
 replace gJ4T := gJ4T.other WJ7Y (Or.inl nJ78)
 replace gJ4U := gJ4U.other WJ7Y (Or.inl nJ78)
 replace gJ4V := gJ4V.other WJ7Y (Or.inl nJ78)
 replace gJ4W := gJ4W.other WJ7Y (Or.inl nJ78)
 replace gJ4X := gJ4X.other WJ7Y (Or.inl nJ78)
 replace gJ4Y := gJ4Y.other WJ7Y (Or.inl nJ78)
 replace gJ4Z := gJ4Z.other WJ7Y nJ7H
 replace gJ50 := gJ50.other WJ7Y nJ7I
 replace gJ51 := gJ51.other WJ7Y nJ7J
 replace gJ52 := gJ52.other WJ7Y nJ7K
 replace gJ53 := gJ53.other WJ7Y (Or.inl nJ7B)
 replace gJ54 := gJ54.other WJ7Y (Or.inl nJ7B)
 replace gJ55 := gJ55.other WJ7Y (Or.inl nJ7B)
 replace gJ56 := gJ56.other WJ7Y (Or.inl nJ7C)
 replace gJ57 := gJ57.other WJ7Y (Or.inl nJ7C)
 replace gJ58 := gJ58.other WJ7Y (Or.inl nJ7C)
 replace gJ59 := gJ59.other WJ7Y nJ7L
 replace gJ5A := gJ5A.other WJ7Y nJ7M
 replace gJ5B := gJ5B.other WJ7Y nJ7N
 replace gJ5C := gJ5C.other WJ7Y nJ7O
 replace FJ6W := FJ6W.other WJ7Y nJ7P
 replace Z0 := own_wrle WJ7Y Z0
 have FJ83 : own_A Z hJ7V aJ76 .double [(.double (FP.i2d Aa)), (.double (0 : UInt64))] := FJ7Z
 have kJ84 : own_G p e below E0 TJ7U (mkF m 225 #[vi p0, vi p1, vi p2, vi p3, vi p4, vi q, vi r, vi Ea, vi Eb, vi Aa, vi C1, vi B0, vi B1, vr aK9, vi (0 : Int32), vi (1 : Int32), vi (2 : Int32)] [(.double (FP.i2d Eb)), (.int (1 : Int32)), (.ref aJ76), (.ref aJ76), (.ref aJ5P), (.double (FP.i2d B1)), (.ref aK9)]) := by
  intro tQ kk
  refine kJ82 tQ ?_
  refine XS.dup XJ7W.here hx rfl (hH at_220) rfl rfl ?_
  refine XS.iconst XJ7W.here hx rfl (hH at_221) ?_
  refine XS.iload XJ7W.here hx rfl (hH at_222) rfl ?_
  refine XS.i2dS XJ7W.here hx rfl (hH at_224) rfl rfl ?_
  exact kk
 clear kJ82
 obtain ⟨TJ85, hJ86, XJ87, eJ88, WJ89, FJ8A, stJ8B⟩ := own_A.dst XJ7W hx hZ eJ7X FJ83 (j := (1 : Int32)) (by decide) rfl (g := (mkF m 225 #[vi p0, vi p1, vi p2, vi p3, vi p4, vi q, vi r, vi Ea, vi Eb, vi Aa, vi C1, vi B0, vi B1, vr aK9, vi (0 : Int32), vi (1 : Int32), vi (2 : Int32)] [(.double (FP.i2d Eb)), (.int (1 : Int32)), (.ref aJ76), (.ref aJ76), (.ref aJ5P), (.double (FP.i2d B1)), (.ref aK9)])) rfl rfl (hH at_225)
 have NJ8C := Fr.snoc XJ87 NJ81 geJ7Q
 have kJ8D : own_G p e below E0 TJ85 (mkF m 226 #[vi p0, vi p1, vi p2, vi p3, vi p4, vi q, vi r, vi Ea, vi Eb, vi Aa, vi C1, vi B0, vi B1, vr aK9, vi (0 : Int32), vi (1 : Int32), vi (2 : Int32)] [(.ref aJ76), (.ref aJ5P), (.double (FP.i2d B1)), (.ref aK9)]) := fun tQ kk => kJ84 tQ (stJ8B _ kk)
 clear kJ84 stJ8B
 replace AK6 := AK6.wr WJ89
 replace gLK := gLK.wr WJ89
 replace gLO := gLO.wr WJ89
 replace gLP := gLP.other WJ89 (Or.inl nJ7A)
 replace gQN := gQN.wr WJ89
 replace gUZ := gUZ.wr WJ89
 replace gZ4 := gZ4.other WJ89 (Or.inl nJ79)
 replace gZ5 := gZ5.other WJ89 (Or.inl nJ79)
 replace gZ7 := gZ7.other WJ89 nJ7D
 replace gZA := gZA.wr WJ89
 replace gZB := gZB.other WJ89 (Or.inl nJ7E)
 replace gZC := gZC.other WJ89 (Or.inl nJ7E)
 replace gZD := gZD.other WJ89 (Or.inl nJ7E)
 replace gZE := gZE.other WJ89 nJ7F
 replace gZF := gZF.other WJ89 nJ7G
 replace gJ4R := gJ4R.other WJ89 (Or.inl nJ78)
 replace gJ4S := gJ4S.other WJ89 (Or.inl nJ78)
 replace gJ4T := gJ4T.other WJ89 (Or.inl nJ78)
 replace gJ4U := gJ4U.other WJ89 (Or.inl nJ78)
 replace gJ4V := gJ4V.other WJ89 (Or.inl nJ78)
 replace gJ4W := gJ4W.other WJ89 (Or.inl nJ78)
 replace gJ4X := gJ4X.other WJ89 (Or.inl nJ78)
 replace gJ4Y := gJ4Y.other WJ89 (Or.inl nJ78)
 replace gJ4Z := gJ4Z.other WJ89 nJ7H
 replace gJ50 := gJ50.other WJ89 nJ7I
 replace gJ51 := gJ51.other WJ89 nJ7J
 replace gJ52 := gJ52.other WJ89 nJ7K
 replace gJ53 := gJ53.other WJ89 (Or.inl nJ7B)
 replace gJ54 := gJ54.other WJ89 (Or.inl nJ7B)
 replace gJ55 := gJ55.other WJ89 (Or.inl nJ7B)
 replace gJ56 := gJ56.other WJ89 (Or.inl nJ7C)
 replace gJ57 := gJ57.other WJ89 (Or.inl nJ7C)
 replace gJ58 := gJ58.other WJ89 (Or.inl nJ7C)
 replace gJ59 := gJ59.other WJ89 nJ7L
 replace gJ5A := gJ5A.other WJ89 nJ7M
 replace gJ5B := gJ5B.other WJ89 nJ7N
 replace gJ5C := gJ5C.other WJ89 nJ7O
 replace FJ6W := FJ6W.other WJ89 nJ7P
 replace Z0 := own_wrle WJ89 Z0
 have FJ8E : own_A Z hJ86 aJ76 .double [(.double (FP.i2d Aa)), (.double (FP.i2d Eb))] := FJ8A
 have kJ8F : own_G p e below E0 TJ85 (mkF m 228 #[vi p0, vi p1, vi p2, vi p3, vi p4, vi q, vi r, vi Ea, vi Eb, vi Aa, vi C1, vi B0, vi B1, vr aK9, vi (0 : Int32), vi (1 : Int32), vi (2 : Int32)] [(.int (2 : Int32)), (.ref aJ76), (.ref aJ5P), (.double (FP.i2d B1)), (.ref aK9)]) := by
  intro tQ kk
  refine kJ8D tQ ?_
  refine XS.iload XJ87.here hx rfl (hH at_226) rfl ?_
  exact kk
 clear kJ8D
 obtain ⟨cqJ8R, kqJ8S, qaJ8T, qbJ8U, qcJ8V⟩ := isOf hZ eJ88 AK6
 obtain ⟨_, _, ⟨TJ8G, LJ8H, kcJ8I, ncJ8J⟩, -, XJ8K, ⟨LcJ8L, hQJ8M, lJ8N, yJ8O, zJ8P⟩, stJ8Q⟩ := XJ87.virtualBack hx (y := mn159) (z := mn159) hown (mvT hZ (tw233 hw)) (mvT hZ (tw234 hw)) (notFace_of_selects (args := #[]) (mvT hZ (tw236 hw))) (mvT hZ (tw236 hw)) (mvT hZ (tw235 hw)) (by decide) (backOf (W := 0) (rmRo1 l Z a0 hw [] aK9 aJ5P aJ76 alL4 cAL5 roL6 baL7 pAL8 faL9 vaLA rQ4 scQ5 scUH scYS r1Q6 r2Q7 r1YT r2YU (own_d16.set ((0 : Int32)).toNatClampNeg (.double (FP.i2d B0))) (own_i16.set ((0 : Int32)).toNatClampNeg (.int (0 : Int32))) ((((own_i16.set ((0 : Int32)).toNatClampNeg (.int (-1 : Int32))).set ((1 : Int32)).toNatClampNeg (.int (-1 : Int32))).set ((2 : Int32)).toNatClampNeg (.int (-1 : Int32))).set ((0 : Int32)).toNatClampNeg (.int (0 : Int32))) (own_d16.set ((0 : Int32)).toNatClampNeg (.double mqJ4P)) (own_i4.set ((0 : Int32)).toNatClampNeg (.int (0 : Int32))) (own_d4.set ((0 : Int32)).toNatClampNeg (.double (FP.i2d Ea))) own_i4 own_d4 (FP.i2d B1) (FP.i2d Aa) (FP.i2d Eb) mqJ4P Aa.toInt q.toInt r.toInt Eb.toInt hJ86 n0 Z0 AK6 gJ4R gJ4S gJ4T gJ4U gJ4V gJ4W gJ4X gJ4Y gLK gZ4 gZ5 gZ7 gLO gLP gQN gJ53 gJ54 gJ55 gJ59 gJ5A gZA gZB gZC gZD gZE gZF gJ4Z gJ50 gJ51 gJ52 FJ6W FJ8E nMW nMZ nN2 nN8 nRI nRU nS6 nZO nJ06 nJ0O nJ5R nJ78 nMQ nR6 nN5 nMD nME nMG nRM nRY nSA nZR nJ09 nJ0R nJ60 nJ7H (Ne.symm nM3) nRA nMF nMH nMJ nRN nRZ nSB nZS nJ0A nJ0S nJ61 nJ7I (Ne.symm nM4) nRB nMI nML nRO nS0 nSC nZZ nJ0H nJ0Z nJ62 nJ7J (Ne.symm nM5) nRC nMK nRP nS1 nSD nZT nJ0B nJ0T nJ63 nJ7K (Ne.symm nM7) nRD (Ne.symm nMM) nR0 nR1 nZU nJ0C nJ0U nJ5U nJ7B (Ne.symm nRJ) (Ne.symm nQX) (Ne.symm nRK) nR2 nZV nJ0D nJ0V nJ64 nJ7L (Ne.symm nRV) (Ne.symm nQY) (Ne.symm nRW) nZW nJ0E nJ0W nJ65 nJ7M (Ne.symm nS7) (Ne.symm nQZ) (Ne.symm nS8) nZJ nZK nJ5X nJ7E (Ne.symm nZP) (Ne.symm nZX) (Ne.symm nZQ) nZL nJ5Y nJ7F (Ne.symm nJ07) (Ne.symm nJ0F) (Ne.symm nJ08) nJ5Z nJ7G (Ne.symm nJ0P) (Ne.symm nJ0X) (Ne.symm nJ0Q) geKD geMU geMX geN0 geN6 geRG geRS geS4 geZN geJ05 geJ0N rfl rfl rfl rfl rfl rfl rfl rfl rfl rfl rfl gJ5D (FP.Core.i2d_int Aa) iB1 (FP.Core.i2d_int Eb) bE2 bA bq br) hZ (tw237 hw) (tw3 hw) (by decide) (by decide)) qaJ8T qcJ8V (g := (mkF m 228 #[vi p0, vi p1, vi p2, vi p3, vi p4, vi q, vi r, vi Ea, vi Eb, vi Aa, vi C1, vi B0, vi B1, vr aK9, vi (0 : Int32), vi (1 : Int32), vi (2 : Int32)] [(.int (2 : Int32)), (.ref aJ76), (.ref aJ5P), (.double (FP.i2d B1)), (.ref aK9)])) rfl (by rw [hml]; rfl) (Steps.refl _) (argsL := [(.double (FP.i2d B1)), (.ref aJ5P), (.ref aJ76), (.int (2 : Int32))]) (rest := []) (lenOf pd_173 rfl) rfl (by show 2 * 0 + _ ≤ _; exact Nat.le_of_eq rfl) (hH at_228) (fun _ _ => ⟨rfl, eJ88, (by decide : 77 + 1 ≤ _), (by decide : 639 + 1 ≤ _)⟩)
 dsimp only [Pt.U, Pt.locs, Pt.cells, Pt.slots] at XJ8K lJ8N yJ8O zJ8P stJ8Q hQJ8M
 subst yJ8O zJ8P
 obtain ⟨mqJ8Z, rfl, NJ8W, KJ90, gJ91, gJ92, gJ93, gJ94, gJ95, gJ96, gJ97, gJ98, gJ99, gJ9A, gJ9B, gJ9C, gJ9D, gJ9E, gJ9F, gJ9G, gJ9H, gJ9I, gJ9J, gJ9K, gJ9L, gJ9M, gJ9N⟩ := hQJ8M
 have NJ9O : Fr n0 LJ8H := by rw [lJ8N]; exact Fr.app NJ8C NJ8W
 clear lJ8N NJ8W
 replace Z0 := Nat.le_trans Z0 KJ90.1
 replace AK6 := AK6.keep KJ90
 replace gLK := gLK.keep KJ90
 replace gLO := gLO.keep KJ90
 replace gLP := gLP.keep KJ90 (ninS (Ne.symm nN5) (ninS (Ne.symm nMF) (ninS (Ne.symm nMI) (ninS (Ne.symm nMK) (ninS nMM (ninS nRK (ninS nRW (ninS nS8 (ninS nZQ (ninS nJ08 (ninS nJ0Q nin0)))))))))))
 replace gQN := gQN.keep KJ90
 replace gUZ := gUZ.keep KJ90
 replace gZ4 := gZ4.keep KJ90 (ninS (Ne.symm nMQ) (ninS nM3 (ninS nM4 (ninS nM5 (ninS nM7 (ninS nRJ (ninS nRV (ninS nS7 (ninS nZP (ninS nJ07 (ninS nJ0P nin0)))))))))))
 replace gZ5 := gZ5.keep KJ90 (ninS (Ne.symm nMQ) (ninS nM3 (ninS nM4 (ninS nM5 (ninS nM7 (ninS nRJ (ninS nRV (ninS nS7 (ninS nZP (ninS nJ07 (ninS nJ0P nin0)))))))))))
 replace gZ7 := gZ7.keep KJ90 (ninS (Ne.symm nR6) (ninS (Ne.symm nRA) (ninS (Ne.symm nRB) (ninS (Ne.symm nRC) (ninS (Ne.symm nRD) (ninS nQX (ninS nQY (ninS nQZ (ninS nZX (ninS nJ0F (ninS nJ0X nin0)))))))))))
 replace gZA := gZA.keep KJ90
 clear gZB
 clear gZC
 clear gZD
 clear gZE
 clear gZF
 clear gJ4R
 clear gJ4S
 clear gJ4T
 clear gJ4U
 clear gJ4V
 clear gJ4W
 clear gJ4X
 clear gJ4Y
 clear gJ4Z
 clear gJ50
 clear gJ51
 clear gJ52
 clear gJ53
 clear gJ54
 clear gJ55
 replace gJ56 := gJ56.keep KJ90 (ninS (Ne.symm nVD) (ninS (Ne.symm nVG) (ninS (Ne.symm nVH) (ninS (Ne.symm nVL) (ninS (Ne.symm nVI) (ninS (Ne.symm nVM) (ninS (Ne.symm nVN) (ninS (Ne.symm nVO) (ninS nJ00 (ninS nJ0I (ninS nJ10 nin0)))))))))))
 replace gJ57 := gJ57.keep KJ90 (ninS (Ne.symm nVD) (ninS (Ne.symm nVG) (ninS (Ne.symm nVH) (ninS (Ne.symm nVL) (ninS (Ne.symm nVI) (ninS (Ne.symm nVM) (ninS (Ne.symm nVN) (ninS (Ne.symm nVO) (ninS nJ00 (ninS nJ0I (ninS nJ10 nin0)))))))))))
 replace gJ58 := gJ58.keep KJ90 (ninS (Ne.symm nVD) (ninS (Ne.symm nVG) (ninS (Ne.symm nVH) (ninS (Ne.symm nVL) (ninS (Ne.symm nVI) (ninS (Ne.symm nVM) (ninS (Ne.symm nVN) (ninS (Ne.symm nVO) (ninS nJ00 (ninS nJ0I (ninS nJ10 nin0)))))))))))
 clear gJ59
 clear gJ5A
 replace gJ5B := gJ5B.keep KJ90 (ninS (Ne.symm nVS) (ninS (Ne.symm nVV) (ninS (Ne.symm nVW) (ninS (Ne.symm nW0) (ninS (Ne.symm nVX) (ninS (Ne.symm nW1) (ninS (Ne.symm nW2) (ninS (Ne.symm nW3) (ninS nJ01 (ninS nJ0J (ninS nJ11 nin0)))))))))))
 replace gJ5C := gJ5C.keep KJ90 (ninS (Ne.symm nW7) (ninS (Ne.symm nWA) (ninS (Ne.symm nWB) (ninS (Ne.symm nWF) (ninS (Ne.symm nWC) (ninS (Ne.symm nWG) (ninS (Ne.symm nWH) (ninS (Ne.symm nWI) (ninS nJ02 (ninS nJ0K (ninS nJ12 nin0)))))))))))
 replace FJ6W := FJ6W.keep KJ90 (ninS (Ne.symm nJ5R) (ninS (Ne.symm nJ60) (ninS (Ne.symm nJ61) (ninS (Ne.symm nJ62) (ninS (Ne.symm nJ63) (ninS (Ne.symm nJ5U) (ninS (Ne.symm nJ64) (ninS (Ne.symm nJ65) (ninS (Ne.symm nJ5X) (ninS (Ne.symm nJ5Y) (ninS (Ne.symm nJ5Z) nin0)))))))))))
 replace FJ8E := FJ8E.keep KJ90 (ninS (Ne.symm nJ78) (ninS (Ne.symm nJ7H) (ninS (Ne.symm nJ7I) (ninS (Ne.symm nJ7J) (ninS (Ne.symm nJ7K) (ninS (Ne.symm nJ7B) (ninS (Ne.symm nJ7L) (ninS (Ne.symm nJ7M) (ninS (Ne.symm nJ7E) (ninS (Ne.symm nJ7F) (ninS (Ne.symm nJ7G) nin0)))))))))))
 have kJ9P : own_G p e below E0 TJ8G (mkF m 231 #[vi p0, vi p1, vi p2, vi p3, vi p4, vi q, vi r, vi Ea, vi Eb, vi Aa, vi C1, vi B0, vi B1, vr aK9, vi (0 : Int32), vi (1 : Int32), vi (2 : Int32)] [(.int (1 : Int32))]) := fun tQ kk => kJ8F tQ (stJ8Q.trans kk)
 clear kJ8F stJ8Q
 have kJ9Q : own_G p e below E0 TJ8G (mkF m 236 #[vi p0, vi p1, vi p2, vi p3, vi p4, vi q, vi r, vi Ea, vi Eb, vi Aa, vi C1, vi B0, vi B1, vr aK9, vi (0 : Int32), vi (1 : Int32), vi (2 : Int32)] [(.int (0 : Int32)), (.ref aK9)]) := by
  intro tQ kk
  refine kJ9P tQ ?_
  refine XT.pop XJ8K.here hx rfl (hH at_231) rfl rfl ?_
  refine XS.aload XJ8K.here hx rfl (hH at_232) rfl rfl ?_
  refine XS.iload XJ8K.here hx rfl (hH at_234) rfl ?_
  exact kk
 clear kJ9P
 obtain ⟨cqJA2, kqJA3, qaJA4, qbJA5, qcJA6⟩ := isOf hZ rfl AK6
 obtain ⟨_, _, ⟨TJ9R, LJ9S, kcJ9T, ncJ9U⟩, -, XJ9V, ⟨LcJ9W, hQJ9X, lJ9Y, yJ9Z, zJA0⟩, stJA1⟩ := XJ8K.virtualBack hx (y := mn171) (z := mn171) hown (mvT hZ (tw286 hw)) (mvT hZ (tw287 hw)) (notFace_of_selects (args := #[]) (mvT hZ (tw289 hw))) (mvT hZ (tw289 hw)) (mvT hZ (tw288 hw)) (by decide) (backOf (W := 0) (rmVal0 l Z a0 hw [] aK9 pAL8 vaLA (((((own_i16.set ((0 : Int32)).toNatClampNeg (.int (-1 : Int32))).set ((1 : Int32)).toNatClampNeg (.int (-1 : Int32))).set ((2 : Int32)).toNatClampNeg (.int (-1 : Int32))).set ((0 : Int32)).toNatClampNeg (.int (0 : Int32))).set ((2 : Int32)).toNatClampNeg (.int (1 : Int32))) ((own_d16.set ((0 : Int32)).toNatClampNeg (.double mqJ4P)).set ((1 : Int32)).toNatClampNeg (.double mqJ8Z)) mqJ4P TJ8G.heap n0 Z0 gJ95 gJ97 gJ9B gJ9C rfl rfl) hZ (tw290 hw) (tw3 hw) (by decide) (by decide)) qaJA4 qcJA6 (g := (mkF m 236 #[vi p0, vi p1, vi p2, vi p3, vi p4, vi q, vi r, vi Ea, vi Eb, vi Aa, vi C1, vi B0, vi B1, vr aK9, vi (0 : Int32), vi (1 : Int32), vi (2 : Int32)] [(.int (0 : Int32)), (.ref aK9)])) rfl (by rw [hml]; rfl) (Steps.refl _) (argsL := [(.int (0 : Int32))]) (rest := []) (lenOf pd_174 rfl) rfl (by show 2 * 0 + _ ≤ _; exact Nat.le_of_eq rfl) (hH at_236) (fun _ _ => ⟨rfl, rfl, (by decide : 78 + 0 ≤ _), (by decide : 640 + 0 ≤ _)⟩)
 dsimp only [Pt.U, Pt.locs, Pt.cells, Pt.slots] at XJ9V lJ9Y yJ9Z zJA0 stJA1 hQJ9X
 subst yJ9Z zJA0
 obtain ⟨rfl, NJA7, eJA8⟩ := hQJ9X
 have NJAA : Fr n0 LJ9S := by rw [lJ9Y]; exact Fr.app NJ9O NJA7
 clear lJ9Y NJA7
 have kJAB : own_G p e below E0 TJ9R (mkF m 239 #[vi p0, vi p1, vi p2, vi p3, vi p4, vi q, vi r, vi Ea, vi Eb, vi Aa, vi C1, vi B0, vi B1, vr aK9, vi (0 : Int32), vi (1 : Int32), vi (2 : Int32)] [(.double mqJ4P)]) := fun tQ kk => kJ9Q tQ (stJA1.trans kk)
 clear kJ9Q stJA1
 have kJAC : own_G p e below E0 TJ9R (mkF m 250 #[vi p0, vi p1, vi p2, vi p3, vi p4, vi q, vi r, vi Ea, vi Eb, vi Aa, vi C1, vi B0, vi B1, vr aK9, vi (0 : Int32), vi (1 : Int32), vi (2 : Int32)] [(.int (1 : Int32)), (.ref aK9)]) := by
  intro tQ kk
  refine kJAB tQ ?_
  refine XS.iload XJ9V.here hx rfl (hH at_239) rfl ?_
  refine XS.i2dS XJ9V.here hx rfl (hH at_241) rfl rfl ?_
  refine XS.dcmpS (v := (0 : Int32)) XJ9V.here hx rfl (hH at_242) rfl (own_eq0 .l gJ5D (FP.Core.i2d_int q)) ?_
  refine XS.ifNo XJ9V.here hx rfl (hH at_243) rfl (own_if_neN (by decide)) ?_
  refine XS.aload XJ9V.here hx rfl (hH at_246) rfl rfl ?_
  refine XS.iload XJ9V.here hx rfl (hH at_248) rfl ?_
  exact kk
 clear kJAB
 obtain ⟨cqJAO, kqJAP, qaJAQ, qbJAR, qcJAS⟩ := isOf hZ eJA8 AK6
 obtain ⟨_, _, ⟨TJAD, LJAE, kcJAF, ncJAG⟩, -, XJAH, ⟨LcJAI, hQJAJ, lJAK, yJAL, zJAM⟩, stJAN⟩ := XJ9V.virtualBack hx (y := mn171) (z := mn171) hown (mvT hZ (tw286 hw)) (mvT hZ (tw287 hw)) (notFace_of_selects (args := #[]) (mvT hZ (tw289 hw))) (mvT hZ (tw289 hw)) (mvT hZ (tw288 hw)) (by decide) (backOf (W := 0) (rmVal1 l Z a0 hw [] aK9 pAL8 vaLA (((((own_i16.set ((0 : Int32)).toNatClampNeg (.int (-1 : Int32))).set ((1 : Int32)).toNatClampNeg (.int (-1 : Int32))).set ((2 : Int32)).toNatClampNeg (.int (-1 : Int32))).set ((0 : Int32)).toNatClampNeg (.int (0 : Int32))).set ((2 : Int32)).toNatClampNeg (.int (1 : Int32))) ((own_d16.set ((0 : Int32)).toNatClampNeg (.double mqJ4P)).set ((1 : Int32)).toNatClampNeg (.double mqJ8Z)) 0 TJ8G.heap n0 Z0 gJ95 gJ97 gJ9B gJ9C rfl) hZ (tw290 hw) (tw3 hw) (by decide) (by decide)) qaJAQ qcJAS (g := (mkF m 250 #[vi p0, vi p1, vi p2, vi p3, vi p4, vi q, vi r, vi Ea, vi Eb, vi Aa, vi C1, vi B0, vi B1, vr aK9, vi (0 : Int32), vi (1 : Int32), vi (2 : Int32)] [(.int (1 : Int32)), (.ref aK9)])) rfl (by rw [hml]; rfl) (Steps.refl _) (argsL := [(.int (1 : Int32))]) (rest := []) (lenOf pd_174 rfl) rfl (by show 2 * 0 + _ ≤ _; exact Nat.le_of_eq rfl) (hH at_250) (fun _ _ => ⟨rfl, eJA8, (by decide : 78 + 0 ≤ _), (by decide : 640 + 0 ≤ _)⟩)
 dsimp only [Pt.U, Pt.locs, Pt.cells, Pt.slots] at XJAH lJAK yJAL zJAM stJAN hQJAJ
 subst yJAL zJAM
 obtain ⟨rfl, NJAT, eJAU⟩ := hQJAJ
 have NJAW : Fr n0 LJAE := by rw [lJAK]; exact Fr.app NJAA NJAT
 clear lJAK NJAT
 have kJAX : own_G p e below E0 TJAD (mkF m 253 #[vi p0, vi p1, vi p2, vi p3, vi p4, vi q, vi r, vi Ea, vi Eb, vi Aa, vi C1, vi B0, vi B1, vr aK9, vi (0 : Int32), vi (1 : Int32), vi (2 : Int32)] [(.double FP.dconst0)]) := fun tQ kk => kJAC tQ (stJAN.trans kk)
 clear kJAC stJAN
 have kJAY : own_G p e below E0 TJAD (mkF m 262 #[vi p0, vi p1, vi p2, vi p3, vi p4, vi q, vi r, vi Ea, vi Eb, vi Aa, vi C1, vi B0, vi B1, vr aK9, vi (0 : Int32), vi (1 : Int32), vi (2 : Int32)] [(.int (2 : Int32)), (.ref aK9)]) := by
  intro tQ kk
  refine kJAX tQ ?_
  refine XS.dconst0 XJAH.here hx rfl (hH at_253) rfl ?_
  refine XS.dcmpS (v := (0 : Int32)) XJAH.here hx rfl (hH at_254) rfl (own_eqz .l own_n0 own_n0 rfl) ?_
  refine XS.ifNo XJAH.here hx rfl (hH at_255) rfl (own_if_neN (by decide)) ?_
  refine XS.aload XJAH.here hx rfl (hH at_258) rfl rfl ?_
  refine XS.iload XJAH.here hx rfl (hH at_260) rfl ?_
  exact kk
 clear kJAX
 obtain ⟨cqJBA, kqJBB, qaJBC, qbJBD, qcJBE⟩ := isOf hZ eJAU AK6
 obtain ⟨_, _, ⟨TJAZ, LJB0, kcJB1, ncJB2⟩, -, XJB3, ⟨LcJB4, hQJB5, lJB6, yJB7, zJB8⟩, stJB9⟩ := XJAH.virtualBack hx (y := mn171) (z := mn171) hown (mvT hZ (tw286 hw)) (mvT hZ (tw287 hw)) (notFace_of_selects (args := #[]) (mvT hZ (tw289 hw))) (mvT hZ (tw289 hw)) (mvT hZ (tw288 hw)) (by decide) (backOf (W := 0) (rmVal2 l Z a0 hw [] aK9 pAL8 vaLA (((((own_i16.set ((0 : Int32)).toNatClampNeg (.int (-1 : Int32))).set ((1 : Int32)).toNatClampNeg (.int (-1 : Int32))).set ((2 : Int32)).toNatClampNeg (.int (-1 : Int32))).set ((0 : Int32)).toNatClampNeg (.int (0 : Int32))).set ((2 : Int32)).toNatClampNeg (.int (1 : Int32))) ((own_d16.set ((0 : Int32)).toNatClampNeg (.double mqJ4P)).set ((1 : Int32)).toNatClampNeg (.double mqJ8Z)) mqJ8Z TJ8G.heap n0 Z0 gJ95 gJ97 gJ9B gJ9C rfl rfl) hZ (tw290 hw) (tw3 hw) (by decide) (by decide)) qaJBC qcJBE (g := (mkF m 262 #[vi p0, vi p1, vi p2, vi p3, vi p4, vi q, vi r, vi Ea, vi Eb, vi Aa, vi C1, vi B0, vi B1, vr aK9, vi (0 : Int32), vi (1 : Int32), vi (2 : Int32)] [(.int (2 : Int32)), (.ref aK9)])) rfl (by rw [hml]; rfl) (Steps.refl _) (argsL := [(.int (2 : Int32))]) (rest := []) (lenOf pd_174 rfl) rfl (by show 2 * 0 + _ ≤ _; exact Nat.le_of_eq rfl) (hH at_262) (fun _ _ => ⟨rfl, eJAU, (by decide : 78 + 0 ≤ _), (by decide : 640 + 0 ≤ _)⟩)
 dsimp only [Pt.U, Pt.locs, Pt.cells, Pt.slots] at XJB3 lJB6 yJB7 zJB8 stJB9 hQJB5
 subst yJB7 zJB8
 obtain ⟨rfl, NJBF, eJBG⟩ := hQJB5
 have NJBI : Fr n0 LJB0 := by rw [lJB6]; exact Fr.app NJAW NJBF
 clear lJB6 NJBF
 have kJBJ : own_G p e below E0 TJAZ (mkF m 265 #[vi p0, vi p1, vi p2, vi p3, vi p4, vi q, vi r, vi Ea, vi Eb, vi Aa, vi C1, vi B0, vi B1, vr aK9, vi (0 : Int32), vi (1 : Int32), vi (2 : Int32)] [(.double mqJ8Z)]) := fun tQ kk => kJAY tQ (stJB9.trans kk)
 clear kJAY stJB9
 have kJBK : own_G p e below E0 TJAZ (mkF m 277 #[vi p0, vi p1, vi p2, vi p3, vi p4, vi q, vi r, vi Ea, vi Eb, vi Aa, vi C1, vi B0, vi B1, vr aK9, vi (0 : Int32), vi (1 : Int32), vi (2 : Int32)] [(.int (1 : Int32))]) := by
  intro tQ kk
  refine kJBJ tQ ?_
  refine XS.iload XJB3.here hx rfl (hH at_265) rfl ?_
  refine XS.i2dS XJB3.here hx rfl (hH at_267) rfl rfl ?_
  refine XS.dcmpS (v := (0 : Int32)) XJB3.here hx rfl (hH at_268) rfl (own_eq0 .l gJ9N (FP.Core.i2d_int r)) ?_
  refine XS.ifNo XJB3.here hx rfl (hH at_269) rfl (own_if_neN (by decide)) ?_
  refine XS.iconst XJB3.here hx rfl (hH at_272) ?_
  refine XS.goto XJB3.here hx rfl (pc0 := 273) (pc' := 277) rfl (hH at_273) (by decide) (by decide) ?_
  exact kk
 clear kJBJ
 obtain ⟨fs, hr, hrun, hended, hW, hsame⟩ := XJB3.leave (v := some (.int (1 : Int32))) (fun h => by rw [Bd.returns] at h; cases h)
 have hrun0 := kJBK _ (retOut XJB3 hx Bd.returns (t := .boolean) rfl (Or.inl ⟨rfl, Or.inr (Or.inl rfl), _, rfl⟩) (hH at_277) hr)
 subst hE0
 refine ⟨_, _, hrun0, hrun, hended, _, _, rfl, ?_, ⟨_, rfl⟩, hW, hsame.mono (by decide) (by decide)⟩
 show Qrm0 Z p0 p1 p2 p3 p4 dE h0 n0 _ TJAZ.heap _
 rw [eJBG]
 exact ⟨rfl, NJBI⟩
set_option maxRecDepth 65536 in
set_option maxHeartbeats 40000000 in
theorem comes_1 {Post : Tables → Env → Array Value → State → Outcome → State → Prop} (hpost : ∀ tb e args s v u, (limb_1_1.after args s (.returned v) u = true ∧ limb_1_2.after args s (.returned v) u = true ∧ True) → FrameEnd s (.returned v) u (Jvm.fieldLocs frame_1_writes args s ++ Jvm.arrayLocs frame_1_arrays args s ++ Jvm.staticLocs frame_1_statics s) 168 1344 → Post tb e args s (.returned v) u) :
    ArmFor flags0 classFile x code maxLocals ret World_1 tables_1 room_1 Calls_1 rest_1 Pre_1 Post := by
  intro l hfl _ _ p e ha hc hk s m args below hf hA hF happ hP
  obtain ⟨hcalls, hrest, hpre⟩ := hP
  obtain ⟨-, -, -, hnamed, -, -, -, hat⟩ := (Spec.applies_iff hf).mp happ
  obtain ⟨hg, hn⟩ := and_e (Cond.before_iff.mp (show (Jvm.Cond.and given_1 narrow_1).before args s = true from hpre))
  obtain ⟨hct, hr0⟩ := and_e hg
  obtain ⟨ha0, hr1⟩ := and_e hr0
  obtain ⟨ha1, hr2⟩ := and_e hr1
  obtain ⟨ha2, hr3⟩ := and_e hr2
  obtain ⟨ha3, hr4⟩ := and_e hr3
  obtain ⟨w0, w1, w2, w3, w4, rfl⟩ : ∃ w0 w1 w2 w3 w4 : Value, args = #[w0, w1, w2, w3, w4] := by
    have hs : args.size = 5 := by simpa [Cond.value, given_1] using hct
    obtain ⟨L⟩ := args
    match L, hs with
    | [w0, w1, w2, w3, w4], _ => exact ⟨w0, w1, w2, w3, w4, rfl⟩
  have hw := fun d (hd : d ∈ tables_1) => atoms_spec (ws := Jvm.Cond.code x code maxLocals ret :: tables_1) hat d (List.mem_cons_of_mem _ hd)
  obtain ⟨hsets, hown0⟩ := atoms_of _ (rest_1_c_eq ▸ (show rest_1_c.before _ s = true from hrest))
  have hfit : Fit s := fun {y c} hc i hi => by
    obtain ⟨ha, rfl⟩ := Array.getElem?_eq_some_iff.mp hc
    have q := List.all_eq_true.mp ((Array.all_eq_true_iff_forall_mem.mp hF) _ (Array.getElem_mem ha)) i (List.mem_range.mpr hi)
    simpa [Array.getElem?_eq_getElem hi] using q
  obtain ⟨i0, ev0⟩ := is_v ha0
  obtain rfl : w0 = (.int i0) := Option.some.inj ev0
  obtain ⟨i1, ev1⟩ := is_v ha1
  obtain rfl : w1 = (.int i1) := Option.some.inj ev1
  obtain ⟨i2, ev2⟩ := is_v ha2
  obtain rfl : w2 = (.int i2) := Option.some.inj ev2
  obtain ⟨i3, ev3⟩ := is_v ha3
  obtain rfl : w3 = (.int i3) := Option.some.inj ev3
  obtain ⟨i4, ev4⟩ := is_v hr4
  obtain rfl : w4 = (.int i4) := Option.some.inj ev4
  obtain ⟨dE, eD⟩ := arr_v (Cond.before_iff.mp (hsets _ (List.mem_of_getElem? (i := 6) rfl)))
  have SD : Sta s s.heap "java/util/ArrayList" "DEFAULTCAPACITY_EMPTY_ELEMENTDATA" "[Ljava/lang/Object;" (.ref dE) := Sta.start eD (Or.inr ⟨hw _ (List.mem_of_getElem? (i := 12) rfl), (hsets _ (List.mem_of_getElem? (i := 2) rfl))⟩)
  have AD : own_A s s.heap dE (.object "java/lang/Object") [] := own_empty eD (Cond.before_iff.mp (hsets _ (List.mem_of_getElem? (i := 6) rfl))) (Cond.before_iff.mp (hsets _ (List.mem_of_getElem? (i := 8) rfl)))
  obtain ⟨n, o, h1, h2, h3, _, L, rfl, ⟨rfl, N⟩, hq⟩ := rm0 l s _ hw tables_1 i0 i1 i2 i3 i4 dE s.heap s.heap.size (Nat.le_refl _) (Old.start s) AD SD p e ha hc hk s m _ below hf ((Spec.applies_iff_loose hf).mp happ).1 ⟨rfl, State.Warmed39.refl s, rfl⟩ trivial
  refine ⟨n, _, h1, h2, h3, hpost _ _ _ _ _ _ ⟨Cond.after_iff.mpr rfl, Cond.after_iff.mpr (eq_i res_at (Term.int_eval (1)) rfl), trivial⟩ ⟨hq.1, hq.2.1, (hq.2.2.sift fun y hy => Or.inr (N y hy)).mono (by decide) (by decide)⟩⟩
theorem main_1_1 : Claimed_1_1 := comes_1 fun _ _ _ _ _ _ h hF => ⟨h.1, hF⟩
theorem main_1_2 : Claimed_1_2 := comes_1 fun _ _ _ _ _ _ h hF => ⟨h.2.1, hF⟩
end Jvm.Pilot.@@N@@
namespace Jvm.Pilot.@@N@@
open Jvm Jvm.ClassFile Sem Op Lib Jvm.Free Jvm.Stand Jvm.Pilot.@@N@@.Jvm.D
/-! MADE BY PROGRAM (witnessworld.py) out of the Statement's table words and the real class files: 32 classes; the members and pool entries that the words name. The judged class is class 1, her method 1. -/
namespace start1
open Jvm.ClassFile
def u (s : String) : CpInfo := .utf8 (stringToUtf16 s)
/-- a pool by its gaps: so many unusable entries, then the entry; so many at the end -/
def gap : Nat → List CpInfo → List CpInfo
  | 0, r => r
  | n + 1, r => .unusable :: gap n r
def poolList (es : List (Nat × CpInfo)) (last : Nat) : List CpInfo := es.foldr (fun e r => gap e.1 (e.2 :: r)) (gap last [])
def pool (es : List (Nat × CpInfo)) (last : Nat) : Array CpInfo := ⟨poolList es last⟩
def fileOf (pool : Array CpInfo) (this : Nat) (attrs : Array Attribute := #[]) (ms : Array MethodInfo := #[]) (fl : Nat := 33) (sup : Nat := 0) (ifs : Array Nat := #[]) (fds : Array FieldInfo := #[]) : ClassFile where
  minorVersion := 0
  majorVersion := 65
  constantPool := pool
  accessFlags := fl
  thisClass := this
  superClass := sup
  interfaces := ifs
  fields := fds
  methods := ms
  attributes := attrs
def plain (name : String) (sup : Option ClassId) : Class where
  name := name
  kind := .ordinary
  loader := none
  accessFlags := 33
  super := sup
  interfaces := #[]
  cf := none
  fields := #[]
  methods := #[]
  instanceTypes := #[]
  staticTypes := #[]
  resolved := #[]
  callSites := []
  init := .initialized
  statics := none
  mirror := none

def pool0 : Array CpInfo := pool [(5, u "<init>"), (0, u "()V"), (1, .class_ 10), (1, u "java/lang/Object")] 113

def k0c0 : Code := { maxStack := 0, maxLocals := 1, code := object_method_1_code, exceptionTable := #[], attributes := #[] }
def k0m0 : Method := { name := "<init>", desc := "()V", sig := { parameters := [], returnType := none }, accessFlags := 1, code := some k0c0 }
/-- java/lang/Object -/
def k0 : Class := { plain "java/lang/Object" none with
  accessFlags := 33
  interfaces := #[]
  cf := some (fileOf pool0 8 #[] #[{ accessFlags := 1, nameIndex := 5, descriptorIndex := 6, attributes := #[] }] 33 0 #[] #[])
  fields := #[]
  methods := #[k0m0]
  instanceTypes := #[]
  staticTypes := #[]
  resolved := Array.replicate 124 none
  statics := none }

def pool1 : Array CpInfo := pool [(2, .class_ 4), (0, .nameAndType 5 6), (0, u "java/lang/Object"), (0, u "<init>"), (0, u "()V"), (0, .integer 65535), (0, .class_ 9), (0, u "com/example/netloom/netloom/embed/Simplex"), (0, .methodref 8 3), (0, .methodref 8 12), (0, .nameAndType 13 14), (0, u "addColumn"), (0, u "(D[I[D)I"), (0, .methodref 8 16), (0, .nameAndType 17 18), (0, u "addRow"), (0, u "(D[I[DI)I"), (0, .methodref 8 20), (0, .nameAndType 21 22), (0, u "value"), (0, u "(I)D"), (0, .class_ 24), (0, u "com/example/netloom/netloom/embed/SimplexValuePinLaw"), (2, u "law"), (0, u "(IIIII)Z")] 3

def k1m0 : Method := { name := "<init>", desc := "()V", sig := { parameters := [], returnType := none }, accessFlags := 1, code := none }
def k1c1 : Code := { maxStack := 9, maxLocals := 17, code := code, exceptionTable := #[], attributes := #[] }
def k1m1 : Method := { name := "law", desc := "(IIIII)Z", sig := { parameters := [.int, .int, .int, .int, .int], returnType := some .boolean }, accessFlags := 9, code := some k1c1 }
/-- com/example/netloom/netloom/embed/SimplexValuePinLaw -/
def k1 : Class := { plain "com/example/netloom/netloom/embed/SimplexValuePinLaw" (some 0) with
  accessFlags := 49
  interfaces := #[]
  cf := some (fileOf pool1 23 #[] #[{ accessFlags := 1, nameIndex := 5, descriptorIndex := 6, attributes := #[] }, { accessFlags := 9, nameIndex := 27, descriptorIndex := 28, attributes := #[] }] 49 2 #[] #[])
  fields := #[]
  methods := #[k1m0, k1m1]
  instanceTypes := #[]
  staticTypes := #[]
  resolved := Array.replicate 32 none
  statics := none }

def pool2 : Array CpInfo := pool [(1, .methodref 2 3), (0, .class_ 4), (0, .nameAndType 5 6), (0, u "java/lang/Object"), (0, u "<init>"), (0, u "()V"), (0, .class_ 8), (0, u "java/util/ArrayList"), (0, .methodref 7 3), (0, .fieldref 11 12), (0, .class_ 13), (0, .nameAndType 14 15), (0, u "com/example/netloom/netloom/embed/Simplex"), (0, u "columns"), (0, u "Ljava/util/List;"), (0, .fieldref 11 17), (0, .nameAndType 18 19), (0, u "cost"), (0, u "[D"), (0, .fieldref 11 21), (0, .nameAndType 22 19), (0, u "rhs"), (0, .fieldref 11 24), (0, .nameAndType 25 26), (0, u "basic"), (0, u "[I"), (0, .fieldref 11 28), (0, .nameAndType 29 26), (0, u "positionOf"), (0, .class_ 31), (0, u "com/example/netloom/netloom/embed/BasisFactor"), (0, .methodref 30 3), (0, .fieldref 11 34), (0, .nameAndType 35 36), (0, u "factor"), (0, u "Lcom/example/netloom/netloom/embed/BasisFactor;"), (0, .fieldref 11 38), (0, .nameAndType 39 19), (0, u "value"), (0, .fieldref 11 41), (0, .nameAndType 42 19), (0, u "dual"), (0, .interfaceMethodref 44 45), (0, .class_ 46), (0, .nameAndType 47 48), (0, u "java/util/List"), (0, u "size"), (0, u "()I"), (0, .class_ 50), (0, u "com/example/netloom/netloom/embed/SparseColumn"), (0, .methodref 49 3), (0, .methodref 49 53), (0, .nameAndType 54 55), (0, u "add"), (0, u "(ID)V"), (0, .interfaceMethodref 44 57), (0, .nameAndType 54 58), (0, u "(Ljava/lang/Object;)Z"), (0, .methodref 60 61), (0, .class_ 62), (0, .nameAndType 63 64), (0, u "com/example/netloom/netloom/embed/GrowingArrays"), (0, u "grown"), (0, u "([DI)[D"), (0, .methodref 60 66), (0, .nameAndType 63 67), (0, u "([II)[I"), (0, .fieldref 11 69), (0, .nameAndType 70 71), (0, u "rowCount"), (0, u "I"), (0, .interfaceMethodref 44 73), (0, .nameAndType 74 75), (0, u "get"), (0, u "(I)Ljava/lang/Object;"), (0, .methodref 49 45), (11, .double 9221120237041090560), (1, .double 13695778570484766357), (1, .methodref 93 94), (0, .class_ 95), (0, .nameAndType 96 97), (0, u "java/lang/Math"), (0, u "abs"), (0, u "(D)D"), (0, .methodref 93 99), (0, .nameAndType 100 101), (0, u "max"), (0, u "(DD)D"), (3, .methodref 30 45), (2, u "addRow"), (41, u "priceFrom"), (9, u "enteringReduced"), (0, u "D"), (6, u "(I)D"), (16, u "pivotsSinceCheck"), (14, u "OPTIMAL"), (1, u "PIVOT"), (0, u "FEASIBLE"), (0, u "REFACTOR_EVERY"), (1, u "CHECK_EVERY"), (1, u "DRIFT"), (0, u "STALL"), (1, u "PRICE_BLOCK"), (5, u "addColumn"), (0, u "(D[I[D)I"), (1, u "(D[I[DI)I")] 28

def k2c0 : Code := { maxStack := 3, maxLocals := 1, code := prog_49_method_1_code, exceptionTable := #[], attributes := #[] }
def k2m0 : Method := { name := "<init>", desc := "()V", sig := { parameters := [], returnType := none }, accessFlags := 0, code := some k2c0 }
def k2c1 : Code := { maxStack := 4, maxLocals := 8, code := prog_49_method_2_code, exceptionTable := #[], attributes := #[] }
def k2m1 : Method := { name := "addColumn", desc := "(D[I[D)I", sig := { parameters := [.double, (.array .int), (.array .double)], returnType := some .int }, accessFlags := 0, code := some k2c1 }
def k2c2 : Code := { maxStack := 8, maxLocals := 15, code := prog_49_method_3_code, exceptionTable := #[], attributes := #[] }
def k2m2 : Method := { name := "addRow", desc := "(D[I[DI)I", sig := { parameters := [.double, (.array .int), (.array .double), .int], returnType := some .int }, accessFlags := 0, code := some k2c2 }
def k2c3 : Code := { maxStack := 2, maxLocals := 3, code := prog_49_method_6_code, exceptionTable := #[], attributes := #[] }
def k2m3 : Method := { name := "value", desc := "(I)D", sig := { parameters := [.int], returnType := some .double }, accessFlags := 0, code := some k2c3 }
/-- com/example/netloom/netloom/embed/Simplex -/
def k2 : Class := { plain "com/example/netloom/netloom/embed/Simplex" (some 0) with
  accessFlags := 48
  interfaces := #[]
  cf := some (fileOf pool2 11 #[] #[{ accessFlags := 0, nameIndex := 5, descriptorIndex := 6, attributes := #[] }, { accessFlags := 0, nameIndex := 217, descriptorIndex := 218, attributes := #[] }, { accessFlags := 0, nameIndex := 108, descriptorIndex := 220, attributes := #[] }, { accessFlags := 0, nameIndex := 39, descriptorIndex := 168, attributes := #[] }] 48 2 #[] #[{ accessFlags := 26, nameIndex := 200, descriptorIndex := 161, attributes := #[] }, { accessFlags := 26, nameIndex := 202, descriptorIndex := 161, attributes := #[] }, { accessFlags := 26, nameIndex := 203, descriptorIndex := 161, attributes := #[] }, { accessFlags := 26, nameIndex := 204, descriptorIndex := 71, attributes := #[] }, { accessFlags := 26, nameIndex := 206, descriptorIndex := 71, attributes := #[] }, { accessFlags := 26, nameIndex := 208, descriptorIndex := 161, attributes := #[] }, { accessFlags := 26, nameIndex := 209, descriptorIndex := 71, attributes := #[] }, { accessFlags := 26, nameIndex := 211, descriptorIndex := 71, attributes := #[] }, { accessFlags := 18, nameIndex := 14, descriptorIndex := 15, attributes := #[] }, { accessFlags := 2, nameIndex := 18, descriptorIndex := 19, attributes := #[] }, { accessFlags := 2, nameIndex := 22, descriptorIndex := 19, attributes := #[] }, { accessFlags := 2, nameIndex := 70, descriptorIndex := 71, attributes := #[] }, { accessFlags := 2, nameIndex := 25, descriptorIndex := 26, attributes := #[] }, { accessFlags := 2, nameIndex := 29, descriptorIndex := 26, attributes := #[] }, { accessFlags := 18, nameIndex := 35, descriptorIndex := 36, attributes := #[] }, { accessFlags := 2, nameIndex := 39, descriptorIndex := 19, attributes := #[] }, { accessFlags := 2, nameIndex := 42, descriptorIndex := 19, attributes := #[] }, { accessFlags := 2, nameIndex := 185, descriptorIndex := 71, attributes := #[] }, { accessFlags := 2, nameIndex := 150, descriptorIndex := 71, attributes := #[] }, { accessFlags := 2, nameIndex := 160, descriptorIndex := 161, attributes := #[] }])
  fields := #[{ name := "OPTIMAL", type := .double, accessFlags := 26, slot := 0, constantValue := 0 }, { name := "PIVOT", type := .double, accessFlags := 26, slot := 1, constantValue := 0 }, { name := "FEASIBLE", type := .double, accessFlags := 26, slot := 2, constantValue := 0 }, { name := "REFACTOR_EVERY", type := .int, accessFlags := 26, slot := 3, constantValue := 0 }, { name := "CHECK_EVERY", type := .int, accessFlags := 26, slot := 4, constantValue := 0 }, { name := "DRIFT", type := .double, accessFlags := 26, slot := 5, constantValue := 0 }, { name := "STALL", type := .int, accessFlags := 26, slot := 6, constantValue := 0 }, { name := "PRICE_BLOCK", type := .int, accessFlags := 26, slot := 7, constantValue := 0 }, { name := "columns", type := (.object "java/util/List"), accessFlags := 18, slot := 0, constantValue := 0 }, { name := "cost", type := (.array .double), accessFlags := 2, slot := 1, constantValue := 0 }, { name := "rhs", type := (.array .double), accessFlags := 2, slot := 2, constantValue := 0 }, { name := "rowCount", type := .int, accessFlags := 2, slot := 3, constantValue := 0 }, { name := "basic", type := (.array .int), accessFlags := 2, slot := 4, constantValue := 0 }, { name := "positionOf", type := (.array .int), accessFlags := 2, slot := 5, constantValue := 0 }, { name := "factor", type := (.object "com/example/netloom/netloom/embed/BasisFactor"), accessFlags := 18, slot := 6, constantValue := 0 }, { name := "value", type := (.array .double), accessFlags := 2, slot := 7, constantValue := 0 }, { name := "dual", type := (.array .double), accessFlags := 2, slot := 8, constantValue := 0 }, { name := "pivotsSinceCheck", type := .int, accessFlags := 2, slot := 9, constantValue := 0 }, { name := "priceFrom", type := .int, accessFlags := 2, slot := 10, constantValue := 0 }, { name := "enteringReduced", type := .double, accessFlags := 2, slot := 11, constantValue := 0 }]
  methods := #[k2m0, k2m1, k2m2, k2m3]
  instanceTypes := #[(.object "java/util/List"), (.array .double), (.array .double), .int, (.array .int), (.array .int), (.object "com/example/netloom/netloom/embed/BasisFactor"), (.array .double), (.array .double), .int, .int, .double]
  staticTypes := #[.double, .double, .double, .int, .int, .double, .int, .int]
  resolved := Array.replicate 249 none
  statics := none }

def pool3 : Array CpInfo := pool [(8, .class_ 10), (1, u "java/lang/Iterable"), (24, .class_ 36), (0, u "java/lang/Object")] 25

/-- java/lang/Iterable -/
def k3 : Class := { plain "java/lang/Iterable" (some 0) with
  accessFlags := 1537
  interfaces := #[]
  cf := some (fileOf pool3 8 #[] #[] 1537 35 #[] #[])
  fields := #[]
  methods := #[]
  instanceTypes := #[]
  staticTypes := #[]
  resolved := Array.replicate 62 none
  statics := none }

def pool4 : Array CpInfo := pool [(10, .class_ 12), (1, u "java/util/Collection"), (47, .class_ 61), (0, u "java/lang/Object"), (0, .class_ 63), (0, u "java/lang/Iterable")] 51

/-- java/util/Collection -/
def k4 : Class := { plain "java/util/Collection" (some 0) with
  accessFlags := 1537
  interfaces := #[3]
  cf := some (fileOf pool4 10 #[] #[] 1537 60 #[62] #[])
  fields := #[]
  methods := #[]
  instanceTypes := #[]
  staticTypes := #[]
  resolved := Array.replicate 115 none
  statics := none }

def pool5 : Array CpInfo := pool [(1, .methodref 2 3), (0, .class_ 4), (0, .nameAndType 5 6), (0, u "java/lang/Object"), (0, u "<init>"), (0, u "()V"), (1, .class_ 10), (1, u "java/util/AbstractCollection"), (66, .class_ 78), (0, u "java/util/Collection")] 81

def k5c0 : Code := { maxStack := 1, maxLocals := 1, code := jdk_22_method_1_code, exceptionTable := #[], attributes := #[] }
def k5m0 : Method := { name := "<init>", desc := "()V", sig := { parameters := [], returnType := none }, accessFlags := 4, code := some k5c0 }
/-- java/util/AbstractCollection -/
def k5 : Class := { plain "java/util/AbstractCollection" (some 0) with
  accessFlags := 1057
  interfaces := #[4]
  cf := some (fileOf pool5 8 #[] #[{ accessFlags := 4, nameIndex := 5, descriptorIndex := 6, attributes := #[] }] 1057 2 #[77] #[])
  fields := #[]
  methods := #[k5m0]
  instanceTypes := #[]
  staticTypes := #[]
  resolved := Array.replicate 160 none
  statics := none }

def pool6 : Array CpInfo := pool [(8, .class_ 10), (1, u "java/util/SequencedCollection"), (15, .class_ 27), (0, u "java/lang/Object"), (0, .class_ 29), (0, u "java/util/Collection")] 27

/-- java/util/SequencedCollection -/
def k6 : Class := { plain "java/util/SequencedCollection" (some 0) with
  accessFlags := 1537
  interfaces := #[4]
  cf := some (fileOf pool6 8 #[] #[] 1537 26 #[28] #[])
  fields := #[]
  methods := #[]
  instanceTypes := #[]
  staticTypes := #[]
  resolved := Array.replicate 57 none
  statics := none }

def pool7 : Array CpInfo := pool [(8, .class_ 10), (1, u "java/util/List"), (49, u "add"), (3, u "(Ljava/lang/Object;)Z"), (10, u "get"), (0, u "(I)Ljava/lang/Object;"), (2, u "size"), (0, u "()I"), (22, .class_ 104), (0, u "java/lang/Object"), (15, .class_ 121), (0, u "java/util/SequencedCollection")] 129

def k7m0 : Method := { name := "size", desc := "()I", sig := { parameters := [], returnType := some .int }, accessFlags := 1025, code := none }
def k7m1 : Method := { name := "add", desc := "(Ljava/lang/Object;)Z", sig := { parameters := [(.object "java/lang/Object")], returnType := some .boolean }, accessFlags := 1025, code := none }
def k7m2 : Method := { name := "get", desc := "(I)Ljava/lang/Object;", sig := { parameters := [.int], returnType := some (.object "java/lang/Object") }, accessFlags := 1025, code := none }
/-- java/util/List -/
def k7 : Class := { plain "java/util/List" (some 0) with
  accessFlags := 1537
  interfaces := #[6]
  cf := some (fileOf pool7 8 #[] #[{ accessFlags := 1025, nameIndex := 79, descriptorIndex := 80, attributes := #[] }, { accessFlags := 1025, nameIndex := 60, descriptorIndex := 64, attributes := #[] }, { accessFlags := 1025, nameIndex := 75, descriptorIndex := 76, attributes := #[] }] 1537 103 #[120] #[])
  fields := #[]
  methods := #[k7m0, k7m1, k7m2]
  instanceTypes := #[]
  staticTypes := #[]
  resolved := Array.replicate 251 none
  statics := none }

def pool8 : Array CpInfo := pool [(1, .methodref 2 3), (0, .class_ 4), (0, .nameAndType 5 6), (0, u "java/util/AbstractCollection"), (0, u "<init>"), (0, u "()V"), (0, .fieldref 8 9), (0, .class_ 10), (0, .nameAndType 11 12), (0, u "java/util/AbstractList"), (0, u "modCount"), (0, u "I"), (64, .class_ 78), (0, u "java/util/AbstractList$Itr"), (3, .class_ 83), (0, u "java/util/AbstractList$ListItr"), (9, .class_ 94), (0, u "java/util/AbstractList$RandomAccessSubList"), (3, .class_ 99), (0, u "java/util/AbstractList$SubList"), (33, .class_ 134), (0, u "java/util/List"), (73, .class_ 209), (0, u "java/util/AbstractList$SubList$1"), (0, .class_ 211), (0, u "java/util/AbstractList$RandomAccessSpliterator")] 6

def k8c0 : Code := { maxStack := 2, maxLocals := 1, code := jdk_39_method_1_code, exceptionTable := #[], attributes := #[] }
def k8m0 : Method := { name := "<init>", desc := "()V", sig := { parameters := [], returnType := none }, accessFlags := 4, code := some k8c0 }
/-- java/util/AbstractList -/
def k8 : Class := { plain "java/util/AbstractList" (some 5) with
  accessFlags := 1057
  interfaces := #[7]
  cf := some (fileOf pool8 8 #[.nestMembers #[93, 98, 208, 210, 82, 77]] #[{ accessFlags := 4, nameIndex := 5, descriptorIndex := 6, attributes := #[] }] 1057 2 #[133] #[{ accessFlags := 132, nameIndex := 11, descriptorIndex := 12, attributes := #[] }])
  fields := #[{ name := "modCount", type := .int, accessFlags := 132, slot := 0, constantValue := 0 }]
  methods := #[k8m0]
  instanceTypes := #[.int]
  staticTypes := #[]
  resolved := Array.replicate 218 none
  statics := none }

def pool9 : Array CpInfo := pool [(1, .class_ 2), (0, u "java/util/RandomAccess"), (0, .class_ 4), (0, u "java/lang/Object")] 2

/-- java/util/RandomAccess -/
def k9 : Class := { plain "java/util/RandomAccess" (some 0) with
  accessFlags := 1537
  interfaces := #[]
  cf := some (fileOf pool9 1 #[] #[] 1537 3 #[] #[])
  fields := #[]
  methods := #[]
  instanceTypes := #[]
  staticTypes := #[]
  resolved := Array.replicate 7 none
  statics := none }

def pool10 : Array CpInfo := pool [(1, .class_ 2), (0, u "java/lang/Cloneable"), (0, .class_ 4), (0, u "java/lang/Object")] 2

/-- java/lang/Cloneable -/
def k10 : Class := { plain "java/lang/Cloneable" (some 0) with
  accessFlags := 1537
  interfaces := #[]
  cf := some (fileOf pool10 1 #[] #[] 1537 3 #[] #[])
  fields := #[]
  methods := #[]
  instanceTypes := #[]
  staticTypes := #[]
  resolved := Array.replicate 7 none
  statics := none }

def pool11 : Array CpInfo := pool [(1, .class_ 2), (0, u "java/io/Serializable"), (0, .class_ 4), (0, u "java/lang/Object")] 2

/-- java/io/Serializable -/
def k11 : Class := { plain "java/io/Serializable" (some 0) with
  accessFlags := 1537
  interfaces := #[]
  cf := some (fileOf pool11 1 #[] #[] 1537 3 #[] #[])
  fields := #[]
  methods := #[]
  instanceTypes := #[]
  staticTypes := #[]
  resolved := Array.replicate 7 none
  statics := none }

def pool12 : Array CpInfo := pool [(1, .methodref 2 3), (0, .class_ 4), (0, .nameAndType 5 6), (0, u "java/util/AbstractList"), (0, u "<init>"), (0, u "()V"), (0, .class_ 8), (0, u "java/lang/Object"), (0, .fieldref 10 11), (0, .class_ 12), (0, .nameAndType 13 14), (0, u "java/util/ArrayList"), (0, u "elementData"), (0, u "[Ljava/lang/Object;"), (2, u "EMPTY_ELEMENTDATA"), (21, .fieldref 10 40), (0, .nameAndType 41 14), (0, u "DEFAULTCAPACITY_EMPTY_ELEMENTDATA"), (5, u "()[Ljava/lang/Object;"), (0, .fieldref 10 49), (0, .nameAndType 50 51), (0, u "size"), (0, u "I"), (11, .fieldref 10 64), (0, .nameAndType 65 51), (0, u "modCount"), (3, .methodref 10 70), (0, .nameAndType 71 72), (0, u "grow"), (0, u "(I)[Ljava/lang/Object;"), (6, .methodref 80 81), (0, .class_ 82), (0, .nameAndType 83 84), (0, u "java/lang/Math"), (0, u "max"), (0, u "(II)I"), (11, u "(Ljava/lang/Object;)Z"), (21, .methodref 119 120), (0, .class_ 121), (0, .nameAndType 122 84), (0, u "java/util/Objects"), (0, u "checkIndex"), (0, .methodref 10 124), (0, .nameAndType 13 125), (0, u "(I)Ljava/lang/Object;"), (3, .methodref 10 130), (0, .nameAndType 71 47), (0, .methodref 10 132), (0, .nameAndType 133 134), (0, u "add"), (0, u "(Ljava/lang/Object;[Ljava/lang/Object;I)V"), (13, .class_ 149), (0, u "java/util/List"), (36, u "()I"), (75, .class_ 263), (0, u "java/util/ArrayList$ListItr"), (3, .class_ 268), (0, u "java/util/ArrayList$Itr"), (7, .class_ 277), (0, u "java/util/ArrayList$SubList"), (12, .class_ 291), (0, u "java/util/ArrayList$ArrayListSpliterator"), (37, .class_ 330), (0, u "java/util/RandomAccess"), (0, .class_ 332), (0, u "java/lang/Cloneable"), (0, .class_ 334), (0, u "java/io/Serializable"), (0, u "serialVersionUID"), (0, u "J"), (3, u "DEFAULT_CAPACITY"), (40, u "get"), (118, .class_ 501), (0, u "java/util/ArrayList$SubList$2"), (0, .class_ 503), (0, u "java/util/ArrayList$SubList$1")] 5

def k12c0 : Code := { maxStack := 2, maxLocals := 1, code := jdk_38_method_2_code, exceptionTable := #[], attributes := #[] }
def k12m0 : Method := { name := "<init>", desc := "()V", sig := { parameters := [], returnType := none }, accessFlags := 1, code := some k12c0 }
def k12c1 : Code := { maxStack := 4, maxLocals := 4, code := jdk_38_method_6_code, exceptionTable := #[], attributes := #[] }
def k12m1 : Method := { name := "grow", desc := "(I)[Ljava/lang/Object;", sig := { parameters := [.int], returnType := some (.array (.object "java/lang/Object")) }, accessFlags := 2, code := some k12c1 }
def k12c2 : Code := { maxStack := 3, maxLocals := 1, code := jdk_38_method_7_code, exceptionTable := #[], attributes := #[] }
def k12m2 : Method := { name := "grow", desc := "()[Ljava/lang/Object;", sig := { parameters := [], returnType := some (.array (.object "java/lang/Object")) }, accessFlags := 2, code := some k12c2 }
def k12c3 : Code := { maxStack := 1, maxLocals := 1, code := jdk_38_method_8_code, exceptionTable := #[], attributes := #[] }
def k12m3 : Method := { name := "size", desc := "()I", sig := { parameters := [], returnType := some .int }, accessFlags := 1, code := some k12c3 }
def k12c4 : Code := { maxStack := 2, maxLocals := 2, code := jdk_38_method_18_code, exceptionTable := #[], attributes := #[] }
def k12m4 : Method := { name := "elementData", desc := "(I)Ljava/lang/Object;", sig := { parameters := [.int], returnType := some (.object "java/lang/Object") }, accessFlags := 0, code := some k12c4 }
def k12c5 : Code := { maxStack := 2, maxLocals := 2, code := jdk_38_method_20_code, exceptionTable := #[], attributes := #[] }
def k12m5 : Method := { name := "get", desc := "(I)Ljava/lang/Object;", sig := { parameters := [.int], returnType := some (.object "java/lang/Object") }, accessFlags := 1, code := some k12c5 }
def k12c6 : Code := { maxStack := 3, maxLocals := 4, code := jdk_38_method_24_code, exceptionTable := #[], attributes := #[] }
def k12m6 : Method := { name := "add", desc := "(Ljava/lang/Object;[Ljava/lang/Object;I)V", sig := { parameters := [(.object "java/lang/Object"), (.array (.object "java/lang/Object")), .int], returnType := none }, accessFlags := 2, code := some k12c6 }
def k12c7 : Code := { maxStack := 4, maxLocals := 2, code := jdk_38_method_25_code, exceptionTable := #[], attributes := #[] }
def k12m7 : Method := { name := "add", desc := "(Ljava/lang/Object;)Z", sig := { parameters := [(.object "java/lang/Object")], returnType := some .boolean }, accessFlags := 1, code := some k12c7 }
/-- java/util/ArrayList -/
def k12 : Class := { plain "java/util/ArrayList" (some 8) with
  accessFlags := 33
  interfaces := #[7, 9, 10, 11]
  cf := some (fileOf pool12 10 #[.nestMembers #[290, 276, 500, 502, 262, 267]] #[{ accessFlags := 1, nameIndex := 5, descriptorIndex := 6, attributes := #[] }, { accessFlags := 2, nameIndex := 71, descriptorIndex := 72, attributes := #[] }, { accessFlags := 2, nameIndex := 71, descriptorIndex := 47, attributes := #[] }, { accessFlags := 1, nameIndex := 50, descriptorIndex := 186, attributes := #[] }, { accessFlags := 0, nameIndex := 13, descriptorIndex := 125, attributes := #[] }, { accessFlags := 1, nameIndex := 381, descriptorIndex := 125, attributes := #[] }, { accessFlags := 2, nameIndex := 133, descriptorIndex := 134, attributes := #[] }, { accessFlags := 1, nameIndex := 133, descriptorIndex := 96, attributes := #[] }] 33 2 #[148, 329, 331, 333] #[{ accessFlags := 26, nameIndex := 335, descriptorIndex := 336, attributes := #[] }, { accessFlags := 26, nameIndex := 340, descriptorIndex := 51, attributes := #[] }, { accessFlags := 26, nameIndex := 17, descriptorIndex := 14, attributes := #[] }, { accessFlags := 26, nameIndex := 41, descriptorIndex := 14, attributes := #[] }, { accessFlags := 128, nameIndex := 13, descriptorIndex := 14, attributes := #[] }, { accessFlags := 2, nameIndex := 50, descriptorIndex := 51, attributes := #[] }])
  fields := #[{ name := "serialVersionUID", type := .long, accessFlags := 26, slot := 0, constantValue := 0 }, { name := "DEFAULT_CAPACITY", type := .int, accessFlags := 26, slot := 1, constantValue := 0 }, { name := "EMPTY_ELEMENTDATA", type := (.array (.object "java/lang/Object")), accessFlags := 26, slot := 2, constantValue := 0 }, { name := "DEFAULTCAPACITY_EMPTY_ELEMENTDATA", type := (.array (.object "java/lang/Object")), accessFlags := 26, slot := 3, constantValue := 0 }, { name := "elementData", type := (.array (.object "java/lang/Object")), accessFlags := 128, slot := 1, constantValue := 0 }, { name := "size", type := .int, accessFlags := 2, slot := 2, constantValue := 0 }]
  methods := #[k12m0, k12m1, k12m2, k12m3, k12m4, k12m5, k12m6, k12m7]
  instanceTypes := #[.int, (.array (.object "java/lang/Object")), .int]
  staticTypes := #[.long, .int, (.array (.object "java/lang/Object")), (.array (.object "java/lang/Object"))]
  resolved := Array.replicate 509 none
  statics := some 0 }

def pool13 : Array CpInfo := pool [(1, .methodref 2 3), (0, .class_ 4), (0, .nameAndType 5 6), (0, u "java/lang/Object"), (0, u "<init>"), (0, u "()V"), (0, .fieldref 8 9), (0, .class_ 10), (0, .nameAndType 11 12), (0, u "com/example/netloom/netloom/embed/BasisFactor"), (0, u "size"), (0, u "I"), (0, .class_ 14), (0, u "com/example/netloom/netloom/embed/BasisFactor$Lines"), (0, .methodref 13 3), (0, .fieldref 8 17), (0, .nameAndType 18 19), (0, u "lower"), (0, u "Lcom/example/netloom/netloom/embed/BasisFactor$Lines;"), (0, .fieldref 8 21), (0, .nameAndType 22 23), (0, u "stepRow"), (0, u "[I"), (0, .fieldref 8 25), (0, .nameAndType 26 19), (0, u "etas"), (0, .fieldref 8 28), (0, .nameAndType 29 23), (0, u "etaRow"), (0, .class_ 31), (0, u "com/example/netloom/netloom/embed/BasisFactor$Entries"), (0, .methodref 30 3), (0, .fieldref 8 34), (0, .nameAndType 35 36), (0, u "upperRows"), (0, u "Lcom/example/netloom/netloom/embed/BasisFactor$Entries;"), (0, .fieldref 8 38), (0, .nameAndType 39 36), (0, u "upperColumns"), (0, .fieldref 8 41), (0, .nameAndType 42 43), (0, u "diagonal"), (0, u "[D"), (0, .fieldref 8 45), (0, .nameAndType 46 23), (0, u "positionOf"), (0, .fieldref 8 48), (0, .nameAndType 49 23), (0, u "rowOf"), (0, .fieldref 8 51), (0, .nameAndType 52 23), (0, u "after"), (0, .fieldref 8 54), (0, .nameAndType 55 23), (0, u "before"), (0, .fieldref 8 57), (0, .nameAndType 58 43), (0, u "spike"), (0, .fieldref 8 60), (0, .nameAndType 61 43), (0, u "along"), (0, .class_ 63), (0, u "com/example/netloom/netloom/embed/BasisFactor$Elimination"), (0, .methodref 62 65), (0, .nameAndType 5 66), (0, u "(Lcom/example/netloom/netloom/embed/BasisFactor;)V"), (0, .fieldref 8 68), (0, .nameAndType 69 70), (0, u "elimination"), (0, u "Lcom/example/netloom/netloom/embed/BasisFactor$Elimination;"), (3, u "()I"), (18, u "first"), (2, u "last"), (93, u "SINGULAR"), (0, u "Ljava/lang/String;"), (1, u "THRESHOLD"), (0, u "D"), (2, u "SMALLEST_PIVOT"), (0, u "AGREEMENT"), (0, u "LARGEST_MULTIPLIER"), (0, u "SEARCH"), (18, .class_ 220), (0, u "com/example/netloom/netloom/embed/BasisFactor$CountLists")] 5

def k13c0 : Code := { maxStack := 4, maxLocals := 1, code := prog_17_method_1_code, exceptionTable := #[], attributes := #[] }
def k13m0 : Method := { name := "<init>", desc := "()V", sig := { parameters := [], returnType := none }, accessFlags := 0, code := some k13c0 }
def k13c1 : Code := { maxStack := 1, maxLocals := 1, code := prog_17_method_2_code, exceptionTable := #[], attributes := #[] }
def k13m1 : Method := { name := "size", desc := "()I", sig := { parameters := [], returnType := some .int }, accessFlags := 0, code := some k13c1 }
/-- com/example/netloom/netloom/embed/BasisFactor -/
def k13 : Class := { plain "com/example/netloom/netloom/embed/BasisFactor" (some 0) with
  accessFlags := 48
  interfaces := #[]
  cf := some (fileOf pool13 8 #[.nestMembers #[13, 30, 219, 62]] #[{ accessFlags := 0, nameIndex := 5, descriptorIndex := 6, attributes := #[] }, { accessFlags := 0, nameIndex := 11, descriptorIndex := 74, attributes := #[] }] 48 2 #[] #[{ accessFlags := 24, nameIndex := 190, descriptorIndex := 191, attributes := #[] }, { accessFlags := 26, nameIndex := 193, descriptorIndex := 194, attributes := #[] }, { accessFlags := 26, nameIndex := 197, descriptorIndex := 194, attributes := #[] }, { accessFlags := 26, nameIndex := 198, descriptorIndex := 194, attributes := #[] }, { accessFlags := 26, nameIndex := 199, descriptorIndex := 194, attributes := #[] }, { accessFlags := 26, nameIndex := 200, descriptorIndex := 12, attributes := #[] }, { accessFlags := 2, nameIndex := 11, descriptorIndex := 12, attributes := #[] }, { accessFlags := 18, nameIndex := 18, descriptorIndex := 19, attributes := #[] }, { accessFlags := 2, nameIndex := 22, descriptorIndex := 23, attributes := #[] }, { accessFlags := 18, nameIndex := 26, descriptorIndex := 19, attributes := #[] }, { accessFlags := 2, nameIndex := 29, descriptorIndex := 23, attributes := #[] }, { accessFlags := 18, nameIndex := 35, descriptorIndex := 36, attributes := #[] }, { accessFlags := 18, nameIndex := 39, descriptorIndex := 36, attributes := #[] }, { accessFlags := 2, nameIndex := 42, descriptorIndex := 43, attributes := #[] }, { accessFlags := 2, nameIndex := 46, descriptorIndex := 23, attributes := #[] }, { accessFlags := 2, nameIndex := 49, descriptorIndex := 23, attributes := #[] }, { accessFlags := 2, nameIndex := 93, descriptorIndex := 12, attributes := #[] }, { accessFlags := 2, nameIndex := 96, descriptorIndex := 12, attributes := #[] }, { accessFlags := 2, nameIndex := 52, descriptorIndex := 23, attributes := #[] }, { accessFlags := 2, nameIndex := 55, descriptorIndex := 23, attributes := #[] }, { accessFlags := 2, nameIndex := 58, descriptorIndex := 43, attributes := #[] }, { accessFlags := 2, nameIndex := 61, descriptorIndex := 43, attributes := #[] }, { accessFlags := 18, nameIndex := 69, descriptorIndex := 70, attributes := #[] }])
  fields := #[{ name := "SINGULAR", type := (.object "java/lang/String"), accessFlags := 24, slot := 0, constantValue := 0 }, { name := "THRESHOLD", type := .double, accessFlags := 26, slot := 1, constantValue := 0 }, { name := "SMALLEST_PIVOT", type := .double, accessFlags := 26, slot := 2, constantValue := 0 }, { name := "AGREEMENT", type := .double, accessFlags := 26, slot := 3, constantValue := 0 }, { name := "LARGEST_MULTIPLIER", type := .double, accessFlags := 26, slot := 4, constantValue := 0 }, { name := "SEARCH", type := .int, accessFlags := 26, slot := 5, constantValue := 0 }, { name := "size", type := .int, accessFlags := 2, slot := 0, constantValue := 0 }, { name := "lower", type := (.object "com/example/netloom/netloom/embed/BasisFactor$Lines"), accessFlags := 18, slot := 1, constantValue := 0 }, { name := "stepRow", type := (.array .int), accessFlags := 2, slot := 2, constantValue := 0 }, { name := "etas", type := (.object "com/example/netloom/netloom/embed/BasisFactor$Lines"), accessFlags := 18, slot := 3, constantValue := 0 }, { name := "etaRow", type := (.array .int), accessFlags := 2, slot := 4, constantValue := 0 }, { name := "upperRows", type := (.object "com/example/netloom/netloom/embed/BasisFactor$Entries"), accessFlags := 18, slot := 5, constantValue := 0 }, { name := "upperColumns", type := (.object "com/example/netloom/netloom/embed/BasisFactor$Entries"), accessFlags := 18, slot := 6, constantValue := 0 }, { name := "diagonal", type := (.array .double), accessFlags := 2, slot := 7, constantValue := 0 }, { name := "positionOf", type := (.array .int), accessFlags := 2, slot := 8, constantValue := 0 }, { name := "rowOf", type := (.array .int), accessFlags := 2, slot := 9, constantValue := 0 }, { name := "first", type := .int, accessFlags := 2, slot := 10, constantValue := 0 }, { name := "last", type := .int, accessFlags := 2, slot := 11, constantValue := 0 }, { name := "after", type := (.array .int), accessFlags := 2, slot := 12, constantValue := 0 }, { name := "before", type := (.array .int), accessFlags := 2, slot := 13, constantValue := 0 }, { name := "spike", type := (.array .double), accessFlags := 2, slot := 14, constantValue := 0 }, { name := "along", type := (.array .double), accessFlags := 2, slot := 15, constantValue := 0 }, { name := "elimination", type := (.object "com/example/netloom/netloom/embed/BasisFactor$Elimination"), accessFlags := 18, slot := 16, constantValue := 0 }]
  methods := #[k13m0, k13m1]
  instanceTypes := #[.int, (.object "com/example/netloom/netloom/embed/BasisFactor$Lines"), (.array .int), (.object "com/example/netloom/netloom/embed/BasisFactor$Lines"), (.array .int), (.object "com/example/netloom/netloom/embed/BasisFactor$Entries"), (.object "com/example/netloom/netloom/embed/BasisFactor$Entries"), (.array .double), (.array .int), (.array .int), .int, .int, (.array .int), (.array .int), (.array .double), (.array .double), (.object "com/example/netloom/netloom/embed/BasisFactor$Elimination")]
  staticTypes := #[(.object "java/lang/String"), .double, .double, .double, .double, .int]
  resolved := ((((((Array.replicate 226 none).setIfInBounds 13 (some (.cls 14))).setIfInBounds 15 (some (.method ⟨14, 0⟩))).setIfInBounds 30 (some (.cls 15))).setIfInBounds 32 (some (.method ⟨15, 0⟩))).setIfInBounds 62 (some (.cls 16))).setIfInBounds 64 (some (.method ⟨16, 0⟩))
  statics := none }

def pool14 : Array CpInfo := pool [(1, .methodref 2 3), (0, .class_ 4), (0, .nameAndType 5 6), (0, u "java/lang/Object"), (0, u "<init>"), (0, u "()V"), (0, .fieldref 8 9), (0, .class_ 10), (0, .nameAndType 11 12), (0, u "com/example/netloom/netloom/embed/BasisFactor$Lines"), (0, u "start"), (0, u "[I"), (0, .fieldref 8 14), (0, .nameAndType 15 12), (0, u "index"), (0, .fieldref 8 17), (0, .nameAndType 18 19), (0, u "value"), (0, u "[D"), (2, u "count"), (0, u "I"), (2, u "filled"), (23, .class_ 51), (0, u "com/example/netloom/netloom/embed/BasisFactor")] 2

def k14c0 : Code := { maxStack := 2, maxLocals := 1, code := prog_21_method_1_code, exceptionTable := #[], attributes := #[] }
def k14m0 : Method := { name := "<init>", desc := "()V", sig := { parameters := [], returnType := none }, accessFlags := 2, code := some k14c0 }
/-- com/example/netloom/netloom/embed/BasisFactor$Lines -/
def k14 : Class := { plain "com/example/netloom/netloom/embed/BasisFactor$Lines" (some 0) with
  accessFlags := 48
  interfaces := #[]
  cf := some (fileOf pool14 8 #[.nestHost 50] #[{ accessFlags := 2, nameIndex := 5, descriptorIndex := 6, attributes := #[] }] 48 2 #[] #[{ accessFlags := 2, nameIndex := 11, descriptorIndex := 12, attributes := #[] }, { accessFlags := 2, nameIndex := 15, descriptorIndex := 12, attributes := #[] }, { accessFlags := 2, nameIndex := 18, descriptorIndex := 19, attributes := #[] }, { accessFlags := 2, nameIndex := 22, descriptorIndex := 23, attributes := #[] }, { accessFlags := 2, nameIndex := 26, descriptorIndex := 23, attributes := #[] }])
  fields := #[{ name := "start", type := (.array .int), accessFlags := 2, slot := 0, constantValue := 0 }, { name := "index", type := (.array .int), accessFlags := 2, slot := 1, constantValue := 0 }, { name := "value", type := (.array .double), accessFlags := 2, slot := 2, constantValue := 0 }, { name := "count", type := .int, accessFlags := 2, slot := 3, constantValue := 0 }, { name := "filled", type := .int, accessFlags := 2, slot := 4, constantValue := 0 }]
  methods := #[k14m0]
  instanceTypes := #[(.array .int), (.array .int), (.array .double), .int, .int]
  staticTypes := #[]
  resolved := Array.replicate 54 none
  statics := none }

def pool15 : Array CpInfo := pool [(1, .methodref 2 3), (0, .class_ 4), (0, .nameAndType 5 6), (0, u "java/lang/Object"), (0, u "<init>"), (0, u "()V"), (0, .class_ 8), (0, u "[I"), (0, .fieldref 10 11), (0, .class_ 12), (0, .nameAndType 13 14), (0, u "com/example/netloom/netloom/embed/BasisFactor$Entries"), (0, u "index"), (0, u "[[I"), (0, .class_ 16), (0, u "[D"), (0, .fieldref 10 18), (0, .nameAndType 19 20), (0, u "value"), (0, u "[[D"), (0, .fieldref 10 22), (0, .nameAndType 23 8), (0, u "length"), (44, .class_ 69), (0, u "com/example/netloom/netloom/embed/BasisFactor")] 2

def k15c0 : Code := { maxStack := 2, maxLocals := 1, code := prog_20_method_1_code, exceptionTable := #[], attributes := #[] }
def k15m0 : Method := { name := "<init>", desc := "()V", sig := { parameters := [], returnType := none }, accessFlags := 2, code := some k15c0 }
/-- com/example/netloom/netloom/embed/BasisFactor$Entries -/
def k15 : Class := { plain "com/example/netloom/netloom/embed/BasisFactor$Entries" (some 0) with
  accessFlags := 48
  interfaces := #[]
  cf := some (fileOf pool15 10 #[.nestHost 68] #[{ accessFlags := 2, nameIndex := 5, descriptorIndex := 6, attributes := #[] }] 48 2 #[] #[{ accessFlags := 2, nameIndex := 13, descriptorIndex := 14, attributes := #[] }, { accessFlags := 2, nameIndex := 19, descriptorIndex := 20, attributes := #[] }, { accessFlags := 2, nameIndex := 23, descriptorIndex := 8, attributes := #[] }])
  fields := #[{ name := "index", type := (.array (.array .int)), accessFlags := 2, slot := 0, constantValue := 0 }, { name := "value", type := (.array (.array .double)), accessFlags := 2, slot := 1, constantValue := 0 }, { name := "length", type := (.array .int), accessFlags := 2, slot := 2, constantValue := 0 }]
  methods := #[k15m0]
  instanceTypes := #[(.array (.array .int)), (.array (.array .double)), (.array .int)]
  staticTypes := #[]
  resolved := Array.replicate 72 none
  statics := none }

def pool16 : Array CpInfo := pool [(1, .class_ 2), (0, u "com/example/netloom/netloom/embed/BasisFactor"), (0, .fieldref 4 5), (0, .class_ 6), (0, .nameAndType 7 8), (0, u "com/example/netloom/netloom/embed/BasisFactor$Elimination"), (0, u "this$0"), (0, u "Lcom/example/netloom/netloom/embed/BasisFactor;"), (0, .methodref 10 11), (0, .class_ 12), (0, .nameAndType 13 14), (0, u "java/lang/Object"), (0, u "<init>"), (0, u "()V"), (0, .class_ 16), (0, u "com/example/netloom/netloom/embed/BasisFactor$Entries"), (0, .methodref 15 11), (0, .fieldref 4 19), (0, .nameAndType 20 21), (0, u "active"), (0, u "Lcom/example/netloom/netloom/embed/BasisFactor$Entries;"), (0, .class_ 23), (0, u "[I"), (0, .fieldref 4 25), (0, .nameAndType 26 27), (0, u "rowPositions"), (0, u "[[I"), (0, .fieldref 4 29), (0, .nameAndType 30 23), (0, u "rowLength"), (0, .fieldref 4 32), (0, .nameAndType 33 23), (0, u "rowCount"), (0, .fieldref 4 35), (0, .nameAndType 36 37), (0, u "eliminated"), (0, u "[Z"), (0, .class_ 39), (0, u "com/example/netloom/netloom/embed/BasisFactor$CountLists"), (0, .methodref 38 11), (0, .fieldref 4 42), (0, .nameAndType 43 44), (0, u "rows"), (0, u "Lcom/example/netloom/netloom/embed/BasisFactor$CountLists;"), (0, .fieldref 4 46), (0, .nameAndType 47 44), (0, u "columns"), (0, .fieldref 4 49), (0, .nameAndType 50 51), (0, u "multiplier"), (0, u "[D"), (0, .fieldref 4 53), (0, .nameAndType 54 23), (0, u "slot"), (0, .fieldref 4 56), (0, .nameAndType 57 23), (0, u "seen"), (26, u "mark"), (0, u "I"), (30, u "left"), (6, u "pickedRow"), (20, u "pickedPosition"), (75, u "(Lcom/example/netloom/netloom/embed/BasisFactor;)V")] 17

def k16c0 : Code := { maxStack := 3, maxLocals := 2, code := prog_19_method_1_code, exceptionTable := #[], attributes := #[] }
def k16m0 : Method := { name := "<init>", desc := "(Lcom/example/netloom/netloom/embed/BasisFactor;)V", sig := { parameters := [(.object "com/example/netloom/netloom/embed/BasisFactor")], returnType := none }, accessFlags := 2, code := some k16c0 }
/-- com/example/netloom/netloom/embed/BasisFactor$Elimination -/
def k16 : Class := { plain "com/example/netloom/netloom/embed/BasisFactor$Elimination" (some 0) with
  accessFlags := 48
  interfaces := #[]
  cf := some (fileOf pool16 4 #[.nestHost 1] #[{ accessFlags := 2, nameIndex := 13, descriptorIndex := 220, attributes := #[] }] 48 10 #[] #[{ accessFlags := 18, nameIndex := 20, descriptorIndex := 21, attributes := #[] }, { accessFlags := 2, nameIndex := 26, descriptorIndex := 27, attributes := #[] }, { accessFlags := 2, nameIndex := 30, descriptorIndex := 23, attributes := #[] }, { accessFlags := 2, nameIndex := 33, descriptorIndex := 23, attributes := #[] }, { accessFlags := 2, nameIndex := 36, descriptorIndex := 37, attributes := #[] }, { accessFlags := 18, nameIndex := 43, descriptorIndex := 44, attributes := #[] }, { accessFlags := 18, nameIndex := 47, descriptorIndex := 44, attributes := #[] }, { accessFlags := 2, nameIndex := 50, descriptorIndex := 51, attributes := #[] }, { accessFlags := 2, nameIndex := 54, descriptorIndex := 23, attributes := #[] }, { accessFlags := 2, nameIndex := 57, descriptorIndex := 23, attributes := #[] }, { accessFlags := 2, nameIndex := 84, descriptorIndex := 85, attributes := #[] }, { accessFlags := 2, nameIndex := 116, descriptorIndex := 85, attributes := #[] }, { accessFlags := 2, nameIndex := 123, descriptorIndex := 85, attributes := #[] }, { accessFlags := 2, nameIndex := 144, descriptorIndex := 85, attributes := #[] }, { accessFlags := 4112, nameIndex := 7, descriptorIndex := 8, attributes := #[] }])
  fields := #[{ name := "active", type := (.object "com/example/netloom/netloom/embed/BasisFactor$Entries"), accessFlags := 18, slot := 0, constantValue := 0 }, { name := "rowPositions", type := (.array (.array .int)), accessFlags := 2, slot := 1, constantValue := 0 }, { name := "rowLength", type := (.array .int), accessFlags := 2, slot := 2, constantValue := 0 }, { name := "rowCount", type := (.array .int), accessFlags := 2, slot := 3, constantValue := 0 }, { name := "eliminated", type := (.array .boolean), accessFlags := 2, slot := 4, constantValue := 0 }, { name := "rows", type := (.object "com/example/netloom/netloom/embed/BasisFactor$CountLists"), accessFlags := 18, slot := 5, constantValue := 0 }, { name := "columns", type := (.object "com/example/netloom/netloom/embed/BasisFactor$CountLists"), accessFlags := 18, slot := 6, constantValue := 0 }, { name := "multiplier", type := (.array .double), accessFlags := 2, slot := 7, constantValue := 0 }, { name := "slot", type := (.array .int), accessFlags := 2, slot := 8, constantValue := 0 }, { name := "seen", type := (.array .int), accessFlags := 2, slot := 9, constantValue := 0 }, { name := "mark", type := .int, accessFlags := 2, slot := 10, constantValue := 0 }, { name := "left", type := .int, accessFlags := 2, slot := 11, constantValue := 0 }, { name := "pickedRow", type := .int, accessFlags := 2, slot := 12, constantValue := 0 }, { name := "pickedPosition", type := .int, accessFlags := 2, slot := 13, constantValue := 0 }, { name := "this$0", type := (.object "com/example/netloom/netloom/embed/BasisFactor"), accessFlags := 4112, slot := 14, constantValue := 0 }]
  methods := #[k16m0]
  instanceTypes := #[(.object "com/example/netloom/netloom/embed/BasisFactor$Entries"), (.array (.array .int)), (.array .int), (.array .int), (.array .boolean), (.object "com/example/netloom/netloom/embed/BasisFactor$CountLists"), (.object "com/example/netloom/netloom/embed/BasisFactor$CountLists"), (.array .double), (.array .int), (.array .int), .int, .int, .int, .int, (.object "com/example/netloom/netloom/embed/BasisFactor")]
  staticTypes := #[]
  resolved := Array.replicate 238 none
  statics := none }

def pool17 : Array CpInfo := pool [(1, .methodref 2 3), (0, .class_ 4), (0, .nameAndType 5 6), (0, u "java/lang/Object"), (0, u "<init>"), (0, u "()V"), (0, .fieldref 8 9), (0, .class_ 10), (0, .nameAndType 11 12), (0, u "com/example/netloom/netloom/embed/BasisFactor$CountLists"), (0, u "first"), (0, u "[I"), (0, .fieldref 8 14), (0, .nameAndType 15 12), (0, u "next"), (0, .fieldref 8 17), (0, .nameAndType 18 12), (0, u "previous"), (0, .fieldref 8 20), (0, .nameAndType 21 12), (0, u "countOf"), (29, .class_ 52), (0, u "com/example/netloom/netloom/embed/BasisFactor")] 2

def k17c0 : Code := { maxStack := 2, maxLocals := 1, code := prog_18_method_1_code, exceptionTable := #[], attributes := #[] }
def k17m0 : Method := { name := "<init>", desc := "()V", sig := { parameters := [], returnType := none }, accessFlags := 2, code := some k17c0 }
/-- com/example/netloom/netloom/embed/BasisFactor$CountLists -/
def k17 : Class := { plain "com/example/netloom/netloom/embed/BasisFactor$CountLists" (some 0) with
  accessFlags := 48
  interfaces := #[]
  cf := some (fileOf pool17 8 #[.nestHost 51] #[{ accessFlags := 2, nameIndex := 5, descriptorIndex := 6, attributes := #[] }] 48 2 #[] #[{ accessFlags := 2, nameIndex := 11, descriptorIndex := 12, attributes := #[] }, { accessFlags := 2, nameIndex := 15, descriptorIndex := 12, attributes := #[] }, { accessFlags := 2, nameIndex := 18, descriptorIndex := 12, attributes := #[] }, { accessFlags := 2, nameIndex := 21, descriptorIndex := 12, attributes := #[] }])
  fields := #[{ name := "first", type := (.array .int), accessFlags := 2, slot := 0, constantValue := 0 }, { name := "next", type := (.array .int), accessFlags := 2, slot := 1, constantValue := 0 }, { name := "previous", type := (.array .int), accessFlags := 2, slot := 2, constantValue := 0 }, { name := "countOf", type := (.array .int), accessFlags := 2, slot := 3, constantValue := 0 }]
  methods := #[k17m0]
  instanceTypes := #[(.array .int), (.array .int), (.array .int), (.array .int)]
  staticTypes := #[]
  resolved := Array.replicate 55 none
  statics := none }

def pool18 : Array CpInfo := pool [(1, .methodref 2 3), (0, .class_ 4), (0, .nameAndType 5 6), (0, u "java/lang/Object"), (0, u "<init>"), (0, u "()V"), (0, .fieldref 8 9), (0, .class_ 10), (0, .nameAndType 11 12), (0, u "com/example/netloom/netloom/embed/SparseColumn"), (0, u "rows"), (0, u "[I"), (0, .fieldref 8 14), (0, .nameAndType 15 16), (0, u "values"), (0, u "[D"), (0, .fieldref 8 18), (0, .nameAndType 19 20), (0, u "size"), (0, u "I"), (11, u "add"), (0, u "(ID)V"), (1, u "()I")] 8

def k18c0 : Code := { maxStack := 2, maxLocals := 1, code := prog_51_method_1_code, exceptionTable := #[], attributes := #[] }
def k18m0 : Method := { name := "<init>", desc := "()V", sig := { parameters := [], returnType := none }, accessFlags := 0, code := some k18c0 }
def k18c1 : Code := { maxStack := 4, maxLocals := 4, code := prog_51_method_2_code, exceptionTable := #[], attributes := #[] }
def k18m1 : Method := { name := "add", desc := "(ID)V", sig := { parameters := [.int, .double], returnType := none }, accessFlags := 0, code := some k18c1 }
def k18c2 : Code := { maxStack := 1, maxLocals := 1, code := prog_51_method_3_code, exceptionTable := #[], attributes := #[] }
def k18m2 : Method := { name := "size", desc := "()I", sig := { parameters := [], returnType := some .int }, accessFlags := 0, code := some k18c2 }
/-- com/example/netloom/netloom/embed/SparseColumn -/
def k18 : Class := { plain "com/example/netloom/netloom/embed/SparseColumn" (some 0) with
  accessFlags := 48
  interfaces := #[]
  cf := some (fileOf pool18 8 #[] #[{ accessFlags := 0, nameIndex := 5, descriptorIndex := 6, attributes := #[] }, { accessFlags := 0, nameIndex := 32, descriptorIndex := 33, attributes := #[] }, { accessFlags := 0, nameIndex := 19, descriptorIndex := 35, attributes := #[] }] 48 2 #[] #[{ accessFlags := 2, nameIndex := 11, descriptorIndex := 12, attributes := #[] }, { accessFlags := 2, nameIndex := 15, descriptorIndex := 16, attributes := #[] }, { accessFlags := 2, nameIndex := 19, descriptorIndex := 20, attributes := #[] }])
  fields := #[{ name := "rows", type := (.array .int), accessFlags := 2, slot := 0, constantValue := 0 }, { name := "values", type := (.array .double), accessFlags := 2, slot := 1, constantValue := 0 }, { name := "size", type := .int, accessFlags := 2, slot := 2, constantValue := 0 }]
  methods := #[k18m0, k18m1, k18m2]
  instanceTypes := #[(.array .int), (.array .double), .int]
  staticTypes := #[]
  resolved := Array.replicate 44 none
  statics := none }

def pool19 : Array CpInfo := pool [(1, .class_ 2), (0, u "java/lang/Math"), (1, .class_ 6), (1, u "java/lang/Object"), (0, u "<init>"), (0, u "()V"), (5, u "(D)D"), (37, u "(DD)D"), (45, .class_ 100), (1, u "java/lang/Math$RandomNumberGeneratorHolder"), (23, u "abs"), (47, u "negativeZeroFloatBits"), (0, u "J"), (2, u "negativeZeroDoubleBits"), (21, u "max"), (46, u "$assertionsDisabled"), (0, u "Z"), (88, u "(II)I"), (2, u "twoToTheDoubleScaleDown"), (0, u "D"), (4, u "twoToTheDoubleScaleUp"), (9, u "E"), (3, u "PI"), (2, u "TAU"), (2, u "DEGREES_TO_RADIANS"), (0, u "RADIANS_TO_DEGREES")] 94

def k19m0 : Method := { name := "<init>", desc := "()V", sig := { parameters := [], returnType := none }, accessFlags := 2, code := none }
def k19c1 : Code := { maxStack := 4, maxLocals := 2, code := jdk_29_method_64_code, exceptionTable := #[], attributes := #[] }
def k19m1 : Method := { name := "abs", desc := "(D)D", sig := { parameters := [.double], returnType := some .double }, accessFlags := 9, code := some k19c1 }
def k19c2 : Code := { maxStack := 2, maxLocals := 2, code := jdk_29_method_65_code, exceptionTable := #[], attributes := #[] }
def k19m2 : Method := { name := "max", desc := "(II)I", sig := { parameters := [.int, .int], returnType := some .int }, accessFlags := 9, code := some k19c2 }
def k19c3 : Code := { maxStack := 4, maxLocals := 4, code := jdk_29_method_68_code, exceptionTable := #[], attributes := #[] }
def k19m3 : Method := { name := "max", desc := "(DD)D", sig := { parameters := [.double, .double], returnType := some .double }, accessFlags := 9, code := some k19c3 }
/-- java/lang/Math -/
def k19 : Class := { plain "java/lang/Math" (some 0) with
  accessFlags := 49
  interfaces := #[]
  cf := some (fileOf pool19 1 #[.nestMembers #[98]] #[{ accessFlags := 2, nameIndex := 7, descriptorIndex := 8, attributes := #[] }, { accessFlags := 9, nameIndex := 124, descriptorIndex := 14, attributes := #[] }, { accessFlags := 9, nameIndex := 198, descriptorIndex := 335, attributes := #[] }, { accessFlags := 9, nameIndex := 198, descriptorIndex := 52, attributes := #[] }] 49 4 #[] #[{ accessFlags := 25, nameIndex := 354, descriptorIndex := 339, attributes := #[] }, { accessFlags := 25, nameIndex := 358, descriptorIndex := 339, attributes := #[] }, { accessFlags := 25, nameIndex := 361, descriptorIndex := 339, attributes := #[] }, { accessFlags := 26, nameIndex := 364, descriptorIndex := 339, attributes := #[] }, { accessFlags := 26, nameIndex := 365, descriptorIndex := 339, attributes := #[] }, { accessFlags := 26, nameIndex := 172, descriptorIndex := 173, attributes := #[] }, { accessFlags := 26, nameIndex := 176, descriptorIndex := 173, attributes := #[] }, { accessFlags := 8, nameIndex := 344, descriptorIndex := 339, attributes := #[] }, { accessFlags := 8, nameIndex := 338, descriptorIndex := 339, attributes := #[] }, { accessFlags := 4120, nameIndex := 245, descriptorIndex := 246, attributes := #[] }])
  fields := #[{ name := "E", type := .double, accessFlags := 25, slot := 0, constantValue := 0 }, { name := "PI", type := .double, accessFlags := 25, slot := 1, constantValue := 0 }, { name := "TAU", type := .double, accessFlags := 25, slot := 2, constantValue := 0 }, { name := "DEGREES_TO_RADIANS", type := .double, accessFlags := 26, slot := 3, constantValue := 0 }, { name := "RADIANS_TO_DEGREES", type := .double, accessFlags := 26, slot := 4, constantValue := 0 }, { name := "negativeZeroFloatBits", type := .long, accessFlags := 26, slot := 5, constantValue := 0 }, { name := "negativeZeroDoubleBits", type := .long, accessFlags := 26, slot := 6, constantValue := 0 }, { name := "twoToTheDoubleScaleUp", type := .double, accessFlags := 8, slot := 7, constantValue := 0 }, { name := "twoToTheDoubleScaleDown", type := .double, accessFlags := 8, slot := 8, constantValue := 0 }, { name := "$assertionsDisabled", type := .boolean, accessFlags := 4120, slot := 9, constantValue := 0 }]
  methods := #[k19m0, k19m1, k19m2, k19m3]
  instanceTypes := #[]
  staticTypes := #[.double, .double, .double, .double, .double, .long, .long, .double, .double, .boolean]
  resolved := Array.replicate 460 none
  statics := none }

def pool20 : Array CpInfo := pool [(2, .class_ 4), (1, u "java/lang/Object"), (0, u "<init>"), (0, u "()V"), (0, .methodref 8 9), (0, .class_ 10), (0, .nameAndType 11 12), (0, u "java/lang/Math"), (0, u "max"), (0, u "(II)I"), (5, u "([II)[I"), (2, u "([DI)[D"), (0, .class_ 23), (0, u "com/example/netloom/netloom/embed/GrowingArrays"), (2, u "grown")] 7

def k20m0 : Method := { name := "<init>", desc := "()V", sig := { parameters := [], returnType := none }, accessFlags := 2, code := none }
def k20c1 : Code := { maxStack := 4, maxLocals := 2, code := prog_37_method_2_code, exceptionTable := #[], attributes := #[] }
def k20m1 : Method := { name := "grown", desc := "([II)[I", sig := { parameters := [(.array .int), .int], returnType := some (.array .int) }, accessFlags := 8, code := some k20c1 }
def k20c2 : Code := { maxStack := 4, maxLocals := 2, code := prog_37_method_3_code, exceptionTable := #[], attributes := #[] }
def k20m2 : Method := { name := "grown", desc := "([DI)[D", sig := { parameters := [(.array .double), .int], returnType := some (.array .double) }, accessFlags := 8, code := some k20c2 }
/-- com/example/netloom/netloom/embed/GrowingArrays -/
def k20 : Class := { plain "com/example/netloom/netloom/embed/GrowingArrays" (some 0) with
  accessFlags := 48
  interfaces := #[]
  cf := some (fileOf pool20 22 #[] #[{ accessFlags := 2, nameIndex := 5, descriptorIndex := 6, attributes := #[] }, { accessFlags := 8, nameIndex := 26, descriptorIndex := 18, attributes := #[] }, { accessFlags := 8, nameIndex := 26, descriptorIndex := 21, attributes := #[] }] 48 2 #[] #[])
  fields := #[]
  methods := #[k20m0, k20m1, k20m2]
  instanceTypes := #[]
  staticTypes := #[]
  resolved := Array.replicate 34 none
  statics := none }

def pool21 : Array CpInfo := pool [(2, .class_ 4), (1, u "java/lang/Object"), (0, u "<init>"), (0, u "()V"), (35, .class_ 44), (1, u "java/util/Objects"), (60, .methodref 106 107), (0, .class_ 108), (0, .nameAndType 109 110), (0, u "jdk/internal/util/Preconditions"), (0, u "checkIndex"), (0, u "(IILjava/util/function/BiFunction;)I"), (60, u "(II)I")] 12

def k21m0 : Method := { name := "<init>", desc := "()V", sig := { parameters := [], returnType := none }, accessFlags := 2, code := none }
def k21c1 : Code := { maxStack := 3, maxLocals := 2, code := jdk_31_method_17_code, exceptionTable := #[], attributes := #[] }
def k21m1 : Method := { name := "checkIndex", desc := "(II)I", sig := { parameters := [.int, .int], returnType := some .int }, accessFlags := 9, code := some k21c1 }
/-- java/util/Objects -/
def k21 : Class := { plain "java/util/Objects" (some 0) with
  accessFlags := 49
  interfaces := #[]
  cf := some (fileOf pool21 42 #[] #[{ accessFlags := 2, nameIndex := 5, descriptorIndex := 6, attributes := #[] }, { accessFlags := 9, nameIndex := 109, descriptorIndex := 171, attributes := #[] }] 49 2 #[] #[])
  fields := #[]
  methods := #[k21m0, k21m1]
  instanceTypes := #[]
  staticTypes := #[]
  resolved := Array.replicate 184 none
  statics := none }

def pool22 : Array CpInfo := pool [(2, .class_ 4), (1, u "java/lang/Object"), (0, u "<init>"), (0, u "()V"), (17, .class_ 26), (1, u "jdk/internal/util/Preconditions"), (6, u "checkIndex"), (21, .class_ 56), (0, u "jdk/internal/util/Preconditions$4"), (57, .class_ 115), (0, u "jdk/internal/util/Preconditions$1"), (7, u "SIOOBE_FORMATTER"), (0, u "Ljava/util/function/BiFunction;"), (0, .class_ 126), (0, u "jdk/internal/util/Preconditions$2"), (3, u "AIOOBE_FORMATTER"), (0, .class_ 132), (0, u "jdk/internal/util/Preconditions$3"), (3, u "IOOBE_FORMATTER"), (41, u "(IILjava/util/function/BiFunction;)I")] 15

def k22m0 : Method := { name := "<init>", desc := "()V", sig := { parameters := [], returnType := none }, accessFlags := 1, code := none }
def k22c1 : Code := { maxStack := 3, maxLocals := 3, code := jdk_41_method_11_code, exceptionTable := #[], attributes := #[] }
def k22m1 : Method := { name := "checkIndex", desc := "(IILjava/util/function/BiFunction;)I", sig := { parameters := [.int, .int, (.object "java/util/function/BiFunction")], returnType := some .int }, accessFlags := 9, code := some k22c1 }
/-- jdk/internal/util/Preconditions -/
def k22 : Class := { plain "jdk/internal/util/Preconditions" (some 0) with
  accessFlags := 33
  interfaces := #[]
  cf := some (fileOf pool22 24 #[.nestMembers #[55, 131, 125, 114]] #[{ accessFlags := 1, nameIndex := 5, descriptorIndex := 6, attributes := #[] }, { accessFlags := 9, nameIndex := 33, descriptorIndex := 178, attributes := #[] }] 33 2 #[] #[{ accessFlags := 25, nameIndex := 123, descriptorIndex := 124, attributes := #[] }, { accessFlags := 25, nameIndex := 130, descriptorIndex := 124, attributes := #[] }, { accessFlags := 25, nameIndex := 136, descriptorIndex := 124, attributes := #[] }])
  fields := #[{ name := "SIOOBE_FORMATTER", type := (.object "java/util/function/BiFunction"), accessFlags := 25, slot := 0, constantValue := 0 }, { name := "AIOOBE_FORMATTER", type := (.object "java/util/function/BiFunction"), accessFlags := 25, slot := 1, constantValue := 0 }, { name := "IOOBE_FORMATTER", type := (.object "java/util/function/BiFunction"), accessFlags := 25, slot := 2, constantValue := 0 }]
  methods := #[k22m0, k22m1]
  instanceTypes := #[]
  staticTypes := #[(.object "java/util/function/BiFunction"), (.object "java/util/function/BiFunction"), (.object "java/util/function/BiFunction")]
  resolved := Array.replicate 194 none
  statics := none }

/-- the primitive boolean -/
def k23 : Class := { plain "boolean" none with kind := .primitive 'Z', accessFlags := 0x411 }
/-- [Z -/
def k24 : Class := { plain "[Z" (some 0) with kind := .array 23 .boolean, interfaces := #[10, 11], accessFlags := 1041 }

/-- the primitive byte -/
def k25 : Class := { plain "byte" none with kind := .primitive 'B', accessFlags := 0x411 }
/-- [B -/
def k26 : Class := { plain "[B" (some 0) with kind := .array 25 .byte, interfaces := #[10, 11], accessFlags := 1041 }

/-- the primitive double -/
def k27 : Class := { plain "double" none with kind := .primitive 'D', accessFlags := 0x411 }
/-- [D -/
def k28 : Class := { plain "[D" (some 0) with kind := .array 27 .double, interfaces := #[10, 11], accessFlags := 1041 }

/-- the primitive int -/
def k29 : Class := { plain "int" none with kind := .primitive 'I', accessFlags := 0x411 }
/-- [I -/
def k30 : Class := { plain "[I" (some 0) with kind := .array 29 .int, interfaces := #[10, 11], accessFlags := 1041 }

/-- [Ljava/lang/Object; -/
def k31 : Class := { plain "[Ljava/lang/Object;" (some 0) with kind := .array 0 (.object "java/lang/Object"), interfaces := #[10, 11], accessFlags := 1041 }

def heap : Heap := #[{ cls := 12, slots := #[.long 0, .int 0, .ref 1, .ref 2], vm := .statics 12 },
  { cls := 31, slots := #[], vm := .none },
  { cls := 31, slots := #[], vm := .none }]
/-- [[I -/
def k32 : Class := { plain "[[I" (some 0) with kind := .array 30 (.array .int), interfaces := #[10, 11], accessFlags := 1041 }
/-- [[D -/
def k33 : Class := { plain "[[D" (some 0) with kind := .array 28 (.array .double), interfaces := #[10, 11], accessFlags := 1041 }
def classes : Array Class := #[k0, k1, k2, k3, k4, k5, k6, k7, k8, k9, k10, k11, k12, k13, k14, k15, k16, k17, k18, k19, k20, k21, k22, k23, k24, k25, k26, k27, k28, k29, k30, k31, k32, k33]
def interned : List (Array UInt16 × Addr) := []
def slotsUsed : Nat := 4
def theMethod : MethodId := ⟨1, 1⟩
def args0 : Array Value := #[.int 3, .int 4, .int 5, .int 6, .int 7]
def aboutOver (below : List Frame) : State where
  vm := { classes := classes, interned := interned.toArray }
  heap := heap
  slotsUsed := slotsUsed
  threads := #[{ frames := .invoking theMethod args0 :: below }]
def below0 : List Frame := [.native { method := ⟨0, 0⟩, args := #[] }]
def about1 : State := aboutOver below0
def p0 : Program := .bare "" "" ""
def e0 : Env := launch0.env 0 0 0
theorem w_frames : about1.frames = Frame.invoking theMethod args0 :: below0 := rfl
set_option maxRecDepth 65536 in
theorem w_args : argsFit about1.vm theMethod args0 = true := by decide +kernel
set_option maxRecDepth 65536 in
theorem w_heap : heapFits about1 = true := by decide +kernel
set_option maxRecDepth 65536 in
theorem w_runnable : about1.curStatus? = some .runnable := by decide +kernel
set_option maxRecDepth 65536 in
theorem w_alone : about1.alone = true := by decide +kernel
set_option maxRecDepth 65536 in
theorem w_named : about1.methodNamed? x = some theMethod := by decide +kernel
set_option maxRecDepth 65536 in
theorem w_hears : about1.hears theMethod below0 = true := by decide +kernel
set_option maxRecDepth 65536 in
theorem w_ripe : about1.ripe theMethod args0 below0 = true := by decide +kernel
theorem w_running : about1.status = .running := rfl
set_option maxRecDepth 65536 in
theorem w_room : about1.hasRoom e0.platform room_1 = true :=
  launch0.hasRoom_least _ room_1 (by decide +kernel) (by decide +kernel) (by decide +kernel) (by decide +kernel) (by decide +kernel) (by decide +kernel)
theorem allAtoms_all (ts : List Jvm.Cond) (a : Array Jvm.Value) (st : Jvm.State) : (allAtoms ts).before a st = ts.all (fun c => c.before a st) := by
  induction ts with
  | nil => rfl
  | cons c t ih =>
    show (Jvm.Cond.and c (allAtoms t)).before a st = _
    rw [Jvm.Cond.before_and, ih, List.all_cons]
def words1 : List Jvm.Cond := Jvm.Cond.code x code maxLocals ret :: tables_1
/-- a 'code' word, met by the world's own term for the bytes: nothing is compared byte by byte -/
theorem code_word {y : MethodName} {bytes : ByteArray} {mx : Nat} {rt : Option FieldType} {a : Array Value} {s : State} {m : MethodId} {meth : Method} {c : Code} (h1 : s.methodNamed? y = some m) (h2 : s.vm.method? m = some meth) (h3 : meth.code = some c) (h4 : c.code = bytes)
    (h5 : (c.maxLocals == mx && c.exceptionTable.isEmpty && decide (c.maxStack ≤ mostOperands) && decide (meth.sig.returnType = rt) && !meth.locks && decide (parseMethodDescriptor y.desc = some meth.sig)) = true) : (Jvm.Cond.code y bytes mx rt).before a s = true := by
  simp only [Bool.and_eq_true, beq_iff_eq, Bool.not_eq_true', decide_eq_true_eq] at h5
  obtain ⟨⟨⟨⟨⟨g1, g2⟩, g3⟩, g4⟩, g5⟩, g6⟩ := h5
  simp [Cond.before, Cond.holds, Cond.value, h1, h2, h3, h4, g1, g2, g3, g4, g5, g6]
def isCode : Jvm.Cond → Bool
  | .code _ _ _ _ => true
  | _ => false
theorem all_split {L : List Jvm.Cond} {P : Jvm.Cond → Bool} (h1 : L.all (fun c => isCode c || P c) = true) (h2 : ∀ c ∈ L.filter isCode, P c = true) : L.all P = true := by
  refine List.all_eq_true.mpr fun c hc => ?_
  have h := List.all_eq_true.mp h1 c hc
  rcases Bool.eq_false_or_eq_true (isCode c) with hi | hi
  · exact h2 c (List.mem_filter.mpr ⟨hc, hi⟩)
  · simpa [hi] using h
set_option maxRecDepth 65536 in
theorem w_c0 : (Jvm.Cond.code x code maxLocals ret).before args0 about1 = true := code_word (m := ⟨1, 1⟩) (meth := k1m1) (c := k1c1) (by decide +kernel) rfl rfl rfl (by decide +kernel)
set_option maxRecDepth 65536 in
theorem w_c1 : (Jvm.Cond.code ({ cls := "com/example/netloom/netloom/embed/Simplex", name := "<init>", desc := "()V" } : Jvm.MethodName) prog_49_method_1_code (1 : Nat) (Option.none : Option Jvm.ClassFile.FieldType)).before args0 about1 = true := code_word (m := ⟨2, 0⟩) (meth := k2m0) (c := k2c0) (by decide +kernel) rfl rfl rfl (by decide +kernel)
set_option maxRecDepth 65536 in
theorem w_c2 : (Jvm.Cond.code ({ cls := "java/lang/Object", name := "<init>", desc := "()V" } : Jvm.MethodName) object_method_1_code (1 : Nat) (Option.none : Option Jvm.ClassFile.FieldType)).before args0 about1 = true := code_word (m := ⟨0, 0⟩) (meth := k0m0) (c := k0c0) (by decide +kernel) rfl rfl rfl (by decide +kernel)
set_option maxRecDepth 65536 in
theorem w_c3 : (Jvm.Cond.code ({ cls := "java/util/ArrayList", name := "<init>", desc := "()V" } : Jvm.MethodName) jdk_38_method_2_code (1 : Nat) (Option.none : Option Jvm.ClassFile.FieldType)).before args0 about1 = true := code_word (m := ⟨12, 0⟩) (meth := k12m0) (c := k12c0) (by decide +kernel) rfl rfl rfl (by decide +kernel)
set_option maxRecDepth 65536 in
theorem w_c4 : (Jvm.Cond.code ({ cls := "java/util/AbstractList", name := "<init>", desc := "()V" } : Jvm.MethodName) jdk_39_method_1_code (1 : Nat) (Option.none : Option Jvm.ClassFile.FieldType)).before args0 about1 = true := code_word (m := ⟨8, 0⟩) (meth := k8m0) (c := k8c0) (by decide +kernel) rfl rfl rfl (by decide +kernel)
set_option maxRecDepth 65536 in
theorem w_c5 : (Jvm.Cond.code ({ cls := "java/util/AbstractCollection", name := "<init>", desc := "()V" } : Jvm.MethodName) jdk_22_method_1_code (1 : Nat) (Option.none : Option Jvm.ClassFile.FieldType)).before args0 about1 = true := code_word (m := ⟨5, 0⟩) (meth := k5m0) (c := k5c0) (by decide +kernel) rfl rfl rfl (by decide +kernel)
set_option maxRecDepth 65536 in
theorem w_c6 : (Jvm.Cond.code ({ cls := "com/example/netloom/netloom/embed/BasisFactor", name := "<init>", desc := "()V" } : Jvm.MethodName) prog_17_method_1_code (1 : Nat) (Option.none : Option Jvm.ClassFile.FieldType)).before args0 about1 = true := code_word (m := ⟨13, 0⟩) (meth := k13m0) (c := k13c0) (by decide +kernel) rfl rfl rfl (by decide +kernel)
set_option maxRecDepth 65536 in
theorem w_c7 : (Jvm.Cond.code ({ cls := "com/example/netloom/netloom/embed/BasisFactor$Lines", name := "<init>", desc := "()V" } : Jvm.MethodName) prog_21_method_1_code (1 : Nat) (Option.none : Option Jvm.ClassFile.FieldType)).before args0 about1 = true := code_word (m := ⟨14, 0⟩) (meth := k14m0) (c := k14c0) (by decide +kernel) rfl rfl rfl (by decide +kernel)
set_option maxRecDepth 65536 in
theorem w_c8 : (Jvm.Cond.code ({ cls := "com/example/netloom/netloom/embed/BasisFactor$Entries", name := "<init>", desc := "()V" } : Jvm.MethodName) prog_20_method_1_code (1 : Nat) (Option.none : Option Jvm.ClassFile.FieldType)).before args0 about1 = true := code_word (m := ⟨15, 0⟩) (meth := k15m0) (c := k15c0) (by decide +kernel) rfl rfl rfl (by decide +kernel)
set_option maxRecDepth 65536 in
theorem w_c9 : (Jvm.Cond.code ({ cls := "com/example/netloom/netloom/embed/BasisFactor$Elimination", name := "<init>", desc := "(Lcom/example/netloom/netloom/embed/BasisFactor;)V" } : Jvm.MethodName) prog_19_method_1_code (2 : Nat) (Option.none : Option Jvm.ClassFile.FieldType)).before args0 about1 = true := code_word (m := ⟨16, 0⟩) (meth := k16m0) (c := k16c0) (by decide +kernel) rfl rfl rfl (by decide +kernel)
set_option maxRecDepth 65536 in
theorem w_c10 : (Jvm.Cond.code ({ cls := "com/example/netloom/netloom/embed/BasisFactor$CountLists", name := "<init>", desc := "()V" } : Jvm.MethodName) prog_18_method_1_code (1 : Nat) (Option.none : Option Jvm.ClassFile.FieldType)).before args0 about1 = true := code_word (m := ⟨17, 0⟩) (meth := k17m0) (c := k17c0) (by decide +kernel) rfl rfl rfl (by decide +kernel)
set_option maxRecDepth 65536 in
theorem w_c11 : (Jvm.Cond.code ({ cls := "com/example/netloom/netloom/embed/Simplex", name := "addColumn", desc := "(D[I[D)I" } : Jvm.MethodName) prog_49_method_2_code (8 : Nat) (Option.some Jvm.ClassFile.FieldType.int)).before args0 about1 = true := code_word (m := ⟨2, 1⟩) (meth := k2m1) (c := k2c1) (by decide +kernel) rfl rfl rfl (by decide +kernel)
set_option maxRecDepth 65536 in
theorem w_c12 : (Jvm.Cond.code ({ cls := "java/util/ArrayList", name := "size", desc := "()I" } : Jvm.MethodName) jdk_38_method_8_code (1 : Nat) (Option.some Jvm.ClassFile.FieldType.int)).before args0 about1 = true := code_word (m := ⟨12, 3⟩) (meth := k12m3) (c := k12c3) (by decide +kernel) rfl rfl rfl (by decide +kernel)
set_option maxRecDepth 65536 in
theorem w_c13 : (Jvm.Cond.code ({ cls := "com/example/netloom/netloom/embed/SparseColumn", name := "<init>", desc := "()V" } : Jvm.MethodName) prog_51_method_1_code (1 : Nat) (Option.none : Option Jvm.ClassFile.FieldType)).before args0 about1 = true := code_word (m := ⟨18, 0⟩) (meth := k18m0) (c := k18c0) (by decide +kernel) rfl rfl rfl (by decide +kernel)
set_option maxRecDepth 65536 in
theorem w_c14 : (Jvm.Cond.code ({ cls := "java/util/ArrayList", name := "add", desc := "(Ljava/lang/Object;)Z" } : Jvm.MethodName) jdk_38_method_25_code (2 : Nat) (Option.some Jvm.ClassFile.FieldType.boolean)).before args0 about1 = true := code_word (m := ⟨12, 7⟩) (meth := k12m7) (c := k12c7) (by decide +kernel) rfl rfl rfl (by decide +kernel)
set_option maxRecDepth 65536 in
theorem w_c15 : (Jvm.Cond.code ({ cls := "java/util/ArrayList", name := "add", desc := "(Ljava/lang/Object;[Ljava/lang/Object;I)V" } : Jvm.MethodName) jdk_38_method_24_code (4 : Nat) (Option.none : Option Jvm.ClassFile.FieldType)).before args0 about1 = true := code_word (m := ⟨12, 6⟩) (meth := k12m6) (c := k12c6) (by decide +kernel) rfl rfl rfl (by decide +kernel)
set_option maxRecDepth 65536 in
theorem w_c16 : (Jvm.Cond.code ({ cls := "java/util/ArrayList", name := "grow", desc := "()[Ljava/lang/Object;" } : Jvm.MethodName) jdk_38_method_7_code (1 : Nat) (Option.some (Jvm.ClassFile.FieldType.array (Jvm.ClassFile.FieldType.object "java/lang/Object")))).before args0 about1 = true := code_word (m := ⟨12, 2⟩) (meth := k12m2) (c := k12c2) (by decide +kernel) rfl rfl rfl (by decide +kernel)
set_option maxRecDepth 65536 in
theorem w_c17 : (Jvm.Cond.code ({ cls := "java/util/ArrayList", name := "grow", desc := "(I)[Ljava/lang/Object;" } : Jvm.MethodName) jdk_38_method_6_code (4 : Nat) (Option.some (Jvm.ClassFile.FieldType.array (Jvm.ClassFile.FieldType.object "java/lang/Object")))).before args0 about1 = true := code_word (m := ⟨12, 1⟩) (meth := k12m1) (c := k12c1) (by decide +kernel) rfl rfl rfl (by decide +kernel)
set_option maxRecDepth 65536 in
theorem w_c18 : (Jvm.Cond.code ({ cls := "java/lang/Math", name := "max", desc := "(II)I" } : Jvm.MethodName) jdk_29_method_65_code (2 : Nat) (Option.some Jvm.ClassFile.FieldType.int)).before args0 about1 = true := code_word (m := ⟨19, 2⟩) (meth := k19m2) (c := k19c2) (by decide +kernel) rfl rfl rfl (by decide +kernel)
set_option maxRecDepth 65536 in
theorem w_c19 : (Jvm.Cond.code ({ cls := "com/example/netloom/netloom/embed/GrowingArrays", name := "grown", desc := "([DI)[D" } : Jvm.MethodName) prog_37_method_3_code (2 : Nat) (Option.some (Jvm.ClassFile.FieldType.array Jvm.ClassFile.FieldType.double))).before args0 about1 = true := code_word (m := ⟨20, 2⟩) (meth := k20m2) (c := k20c2) (by decide +kernel) rfl rfl rfl (by decide +kernel)
set_option maxRecDepth 65536 in
theorem w_c20 : (Jvm.Cond.code ({ cls := "com/example/netloom/netloom/embed/GrowingArrays", name := "grown", desc := "([II)[I" } : Jvm.MethodName) prog_37_method_2_code (2 : Nat) (Option.some (Jvm.ClassFile.FieldType.array Jvm.ClassFile.FieldType.int))).before args0 about1 = true := code_word (m := ⟨20, 1⟩) (meth := k20m1) (c := k20c1) (by decide +kernel) rfl rfl rfl (by decide +kernel)
set_option maxRecDepth 65536 in
theorem w_c21 : (Jvm.Cond.code ({ cls := "com/example/netloom/netloom/embed/Simplex", name := "addRow", desc := "(D[I[DI)I" } : Jvm.MethodName) prog_49_method_3_code (15 : Nat) (Option.some Jvm.ClassFile.FieldType.int)).before args0 about1 = true := code_word (m := ⟨2, 2⟩) (meth := k2m2) (c := k2c2) (by decide +kernel) rfl rfl rfl (by decide +kernel)
set_option maxRecDepth 65536 in
theorem w_c22 : (Jvm.Cond.code ({ cls := "java/util/ArrayList", name := "get", desc := "(I)Ljava/lang/Object;" } : Jvm.MethodName) jdk_38_method_20_code (2 : Nat) (Option.some (Jvm.ClassFile.FieldType.object "java/lang/Object"))).before args0 about1 = true := code_word (m := ⟨12, 5⟩) (meth := k12m5) (c := k12c5) (by decide +kernel) rfl rfl rfl (by decide +kernel)
set_option maxRecDepth 65536 in
theorem w_c23 : (Jvm.Cond.code ({ cls := "java/util/Objects", name := "checkIndex", desc := "(II)I" } : Jvm.MethodName) jdk_31_method_17_code (2 : Nat) (Option.some Jvm.ClassFile.FieldType.int)).before args0 about1 = true := code_word (m := ⟨21, 1⟩) (meth := k21m1) (c := k21c1) (by decide +kernel) rfl rfl rfl (by decide +kernel)
set_option maxRecDepth 65536 in
theorem w_c24 : (Jvm.Cond.code ({ cls := "jdk/internal/util/Preconditions", name := "checkIndex", desc := "(IILjava/util/function/BiFunction;)I" } : Jvm.MethodName) jdk_41_method_11_code (3 : Nat) (Option.some Jvm.ClassFile.FieldType.int)).before args0 about1 = true := code_word (m := ⟨22, 1⟩) (meth := k22m1) (c := k22c1) (by decide +kernel) rfl rfl rfl (by decide +kernel)
set_option maxRecDepth 65536 in
theorem w_c25 : (Jvm.Cond.code ({ cls := "java/util/ArrayList", name := "elementData", desc := "(I)Ljava/lang/Object;" } : Jvm.MethodName) jdk_38_method_18_code (2 : Nat) (Option.some (Jvm.ClassFile.FieldType.object "java/lang/Object"))).before args0 about1 = true := code_word (m := ⟨12, 4⟩) (meth := k12m4) (c := k12c4) (by decide +kernel) rfl rfl rfl (by decide +kernel)
set_option maxRecDepth 65536 in
theorem w_c26 : (Jvm.Cond.code ({ cls := "com/example/netloom/netloom/embed/SparseColumn", name := "size", desc := "()I" } : Jvm.MethodName) prog_51_method_3_code (1 : Nat) (Option.some Jvm.ClassFile.FieldType.int)).before args0 about1 = true := code_word (m := ⟨18, 2⟩) (meth := k18m2) (c := k18c2) (by decide +kernel) rfl rfl rfl (by decide +kernel)
set_option maxRecDepth 65536 in
theorem w_c27 : (Jvm.Cond.code ({ cls := "java/lang/Math", name := "abs", desc := "(D)D" } : Jvm.MethodName) jdk_29_method_64_code (2 : Nat) (Option.some Jvm.ClassFile.FieldType.double)).before args0 about1 = true := code_word (m := ⟨19, 1⟩) (meth := k19m1) (c := k19c1) (by decide +kernel) rfl rfl rfl (by decide +kernel)
set_option maxRecDepth 65536 in
theorem w_c28 : (Jvm.Cond.code ({ cls := "java/lang/Math", name := "max", desc := "(DD)D" } : Jvm.MethodName) jdk_29_method_68_code (4 : Nat) (Option.some Jvm.ClassFile.FieldType.double)).before args0 about1 = true := code_word (m := ⟨19, 3⟩) (meth := k19m3) (c := k19c3) (by decide +kernel) rfl rfl rfl (by decide +kernel)
set_option maxRecDepth 65536 in
theorem w_c29 : (Jvm.Cond.code ({ cls := "com/example/netloom/netloom/embed/SparseColumn", name := "add", desc := "(ID)V" } : Jvm.MethodName) prog_51_method_2_code (4 : Nat) (Option.none : Option Jvm.ClassFile.FieldType)).before args0 about1 = true := code_word (m := ⟨18, 1⟩) (meth := k18m1) (c := k18c1) (by decide +kernel) rfl rfl rfl (by decide +kernel)
set_option maxRecDepth 65536 in
theorem w_c30 : (Jvm.Cond.code ({ cls := "com/example/netloom/netloom/embed/BasisFactor", name := "size", desc := "()I" } : Jvm.MethodName) prog_17_method_2_code (1 : Nat) (Option.some Jvm.ClassFile.FieldType.int)).before args0 about1 = true := code_word (m := ⟨13, 1⟩) (meth := k13m1) (c := k13c1) (by decide +kernel) rfl rfl rfl (by decide +kernel)
set_option maxRecDepth 65536 in
theorem w_c31 : (Jvm.Cond.code ({ cls := "com/example/netloom/netloom/embed/Simplex", name := "value", desc := "(I)D" } : Jvm.MethodName) prog_49_method_6_code (3 : Nat) (Option.some Jvm.ClassFile.FieldType.double)).before args0 about1 = true := code_word (m := ⟨2, 3⟩) (meth := k2m3) (c := k2c3) (by decide +kernel) rfl rfl rfl (by decide +kernel)
def codes1 : List Jvm.Cond := [Jvm.Cond.code x code maxLocals ret, Jvm.Cond.code ({ cls := "com/example/netloom/netloom/embed/Simplex", name := "<init>", desc := "()V" } : Jvm.MethodName) prog_49_method_1_code (1 : Nat) (Option.none : Option Jvm.ClassFile.FieldType), Jvm.Cond.code ({ cls := "java/lang/Object", name := "<init>", desc := "()V" } : Jvm.MethodName) object_method_1_code (1 : Nat) (Option.none : Option Jvm.ClassFile.FieldType), Jvm.Cond.code ({ cls := "java/util/ArrayList", name := "<init>", desc := "()V" } : Jvm.MethodName) jdk_38_method_2_code (1 : Nat) (Option.none : Option Jvm.ClassFile.FieldType), Jvm.Cond.code ({ cls := "java/util/AbstractList", name := "<init>", desc := "()V" } : Jvm.MethodName) jdk_39_method_1_code (1 : Nat) (Option.none : Option Jvm.ClassFile.FieldType), Jvm.Cond.code ({ cls := "java/util/AbstractCollection", name := "<init>", desc := "()V" } : Jvm.MethodName) jdk_22_method_1_code (1 : Nat) (Option.none : Option Jvm.ClassFile.FieldType), Jvm.Cond.code ({ cls := "com/example/netloom/netloom/embed/BasisFactor", name := "<init>", desc := "()V" } : Jvm.MethodName) prog_17_method_1_code (1 : Nat) (Option.none : Option Jvm.ClassFile.FieldType), Jvm.Cond.code ({ cls := "com/example/netloom/netloom/embed/BasisFactor$Lines", name := "<init>", desc := "()V" } : Jvm.MethodName) prog_21_method_1_code (1 : Nat) (Option.none : Option Jvm.ClassFile.FieldType), Jvm.Cond.code ({ cls := "com/example/netloom/netloom/embed/BasisFactor$Entries", name := "<init>", desc := "()V" } : Jvm.MethodName) prog_20_method_1_code (1 : Nat) (Option.none : Option Jvm.ClassFile.FieldType), Jvm.Cond.code ({ cls := "com/example/netloom/netloom/embed/BasisFactor$Elimination", name := "<init>", desc := "(Lcom/example/netloom/netloom/embed/BasisFactor;)V" } : Jvm.MethodName) prog_19_method_1_code (2 : Nat) (Option.none : Option Jvm.ClassFile.FieldType), Jvm.Cond.code ({ cls := "com/example/netloom/netloom/embed/BasisFactor$CountLists", name := "<init>", desc := "()V" } : Jvm.MethodName) prog_18_method_1_code (1 : Nat) (Option.none : Option Jvm.ClassFile.FieldType), Jvm.Cond.code ({ cls := "com/example/netloom/netloom/embed/Simplex", name := "addColumn", desc := "(D[I[D)I" } : Jvm.MethodName) prog_49_method_2_code (8 : Nat) (Option.some Jvm.ClassFile.FieldType.int), Jvm.Cond.code ({ cls := "java/util/ArrayList", name := "size", desc := "()I" } : Jvm.MethodName) jdk_38_method_8_code (1 : Nat) (Option.some Jvm.ClassFile.FieldType.int), Jvm.Cond.code ({ cls := "com/example/netloom/netloom/embed/SparseColumn", name := "<init>", desc := "()V" } : Jvm.MethodName) prog_51_method_1_code (1 : Nat) (Option.none : Option Jvm.ClassFile.FieldType), Jvm.Cond.code ({ cls := "java/util/ArrayList", name := "add", desc := "(Ljava/lang/Object;)Z" } : Jvm.MethodName) jdk_38_method_25_code (2 : Nat) (Option.some Jvm.ClassFile.FieldType.boolean), Jvm.Cond.code ({ cls := "java/util/ArrayList", name := "add", desc := "(Ljava/lang/Object;[Ljava/lang/Object;I)V" } : Jvm.MethodName) jdk_38_method_24_code (4 : Nat) (Option.none : Option Jvm.ClassFile.FieldType), Jvm.Cond.code ({ cls := "java/util/ArrayList", name := "grow", desc := "()[Ljava/lang/Object;" } : Jvm.MethodName) jdk_38_method_7_code (1 : Nat) (Option.some (Jvm.ClassFile.FieldType.array (Jvm.ClassFile.FieldType.object "java/lang/Object"))), Jvm.Cond.code ({ cls := "java/util/ArrayList", name := "grow", desc := "(I)[Ljava/lang/Object;" } : Jvm.MethodName) jdk_38_method_6_code (4 : Nat) (Option.some (Jvm.ClassFile.FieldType.array (Jvm.ClassFile.FieldType.object "java/lang/Object"))), Jvm.Cond.code ({ cls := "java/lang/Math", name := "max", desc := "(II)I" } : Jvm.MethodName) jdk_29_method_65_code (2 : Nat) (Option.some Jvm.ClassFile.FieldType.int), Jvm.Cond.code ({ cls := "com/example/netloom/netloom/embed/GrowingArrays", name := "grown", desc := "([DI)[D" } : Jvm.MethodName) prog_37_method_3_code (2 : Nat) (Option.some (Jvm.ClassFile.FieldType.array Jvm.ClassFile.FieldType.double)), Jvm.Cond.code ({ cls := "com/example/netloom/netloom/embed/GrowingArrays", name := "grown", desc := "([II)[I" } : Jvm.MethodName) prog_37_method_2_code (2 : Nat) (Option.some (Jvm.ClassFile.FieldType.array Jvm.ClassFile.FieldType.int)), Jvm.Cond.code ({ cls := "com/example/netloom/netloom/embed/Simplex", name := "addRow", desc := "(D[I[DI)I" } : Jvm.MethodName) prog_49_method_3_code (15 : Nat) (Option.some Jvm.ClassFile.FieldType.int), Jvm.Cond.code ({ cls := "java/util/ArrayList", name := "get", desc := "(I)Ljava/lang/Object;" } : Jvm.MethodName) jdk_38_method_20_code (2 : Nat) (Option.some (Jvm.ClassFile.FieldType.object "java/lang/Object")), Jvm.Cond.code ({ cls := "java/util/Objects", name := "checkIndex", desc := "(II)I" } : Jvm.MethodName) jdk_31_method_17_code (2 : Nat) (Option.some Jvm.ClassFile.FieldType.int), Jvm.Cond.code ({ cls := "jdk/internal/util/Preconditions", name := "checkIndex", desc := "(IILjava/util/function/BiFunction;)I" } : Jvm.MethodName) jdk_41_method_11_code (3 : Nat) (Option.some Jvm.ClassFile.FieldType.int), Jvm.Cond.code ({ cls := "java/util/ArrayList", name := "elementData", desc := "(I)Ljava/lang/Object;" } : Jvm.MethodName) jdk_38_method_18_code (2 : Nat) (Option.some (Jvm.ClassFile.FieldType.object "java/lang/Object")), Jvm.Cond.code ({ cls := "com/example/netloom/netloom/embed/SparseColumn", name := "size", desc := "()I" } : Jvm.MethodName) prog_51_method_3_code (1 : Nat) (Option.some Jvm.ClassFile.FieldType.int), Jvm.Cond.code ({ cls := "java/lang/Math", name := "abs", desc := "(D)D" } : Jvm.MethodName) jdk_29_method_64_code (2 : Nat) (Option.some Jvm.ClassFile.FieldType.double), Jvm.Cond.code ({ cls := "java/lang/Math", name := "max", desc := "(DD)D" } : Jvm.MethodName) jdk_29_method_68_code (4 : Nat) (Option.some Jvm.ClassFile.FieldType.double), Jvm.Cond.code ({ cls := "com/example/netloom/netloom/embed/SparseColumn", name := "add", desc := "(ID)V" } : Jvm.MethodName) prog_51_method_2_code (4 : Nat) (Option.none : Option Jvm.ClassFile.FieldType), Jvm.Cond.code ({ cls := "com/example/netloom/netloom/embed/BasisFactor", name := "size", desc := "()I" } : Jvm.MethodName) prog_17_method_2_code (1 : Nat) (Option.some Jvm.ClassFile.FieldType.int), Jvm.Cond.code ({ cls := "com/example/netloom/netloom/embed/Simplex", name := "value", desc := "(I)D" } : Jvm.MethodName) prog_49_method_6_code (3 : Nat) (Option.some Jvm.ClassFile.FieldType.double)]
set_option maxRecDepth 65536 in
theorem codes_eq : words1.filter isCode = codes1 := rfl
theorem w_codes : ∀ c ∈ words1.filter isCode, c.before args0 about1 = true := by
  rw [codes_eq]
  intro c hc
  simp only [codes1, List.mem_cons, List.not_mem_nil, or_false] at hc
  rcases hc with rfl | rfl | rfl | rfl | rfl | rfl | rfl | rfl | rfl | rfl | rfl | rfl | rfl | rfl | rfl | rfl | rfl | rfl | rfl | rfl | rfl | rfl | rfl | rfl | rfl | rfl | rfl | rfl | rfl | rfl | rfl | rfl
  · exact w_c0
  · exact w_c1
  · exact w_c2
  · exact w_c3
  · exact w_c4
  · exact w_c5
  · exact w_c6
  · exact w_c7
  · exact w_c8
  · exact w_c9
  · exact w_c10
  · exact w_c11
  · exact w_c12
  · exact w_c13
  · exact w_c14
  · exact w_c15
  · exact w_c16
  · exact w_c17
  · exact w_c18
  · exact w_c19
  · exact w_c20
  · exact w_c21
  · exact w_c22
  · exact w_c23
  · exact w_c24
  · exact w_c25
  · exact w_c26
  · exact w_c27
  · exact w_c28
  · exact w_c29
  · exact w_c30
  · exact w_c31
set_option maxRecDepth 65536 in
theorem w_t1 : (words1.take 24).all (fun c => isCode c || c.before args0 about1) = true := by decide +kernel
set_option maxRecDepth 65536 in
theorem w_t2 : ((words1.drop 24).take 24).all (fun c => isCode c || c.before args0 about1) = true := by decide +kernel
set_option maxRecDepth 65536 in
theorem w_t3 : (((words1.drop 24).drop 24).take 24).all (fun c => isCode c || c.before args0 about1) = true := by decide +kernel
set_option maxRecDepth 65536 in
theorem w_t4 : ((((words1.drop 24).drop 24).drop 24).take 24).all (fun c => isCode c || c.before args0 about1) = true := by decide +kernel
set_option maxRecDepth 65536 in
theorem w_t5 : (((((words1.drop 24).drop 24).drop 24).drop 24).take 24).all (fun c => isCode c || c.before args0 about1) = true := by decide +kernel
set_option maxRecDepth 65536 in
theorem w_t6 : ((((((words1.drop 24).drop 24).drop 24).drop 24).drop 24).take 24).all (fun c => isCode c || c.before args0 about1) = true := by decide +kernel
set_option maxRecDepth 65536 in
theorem w_t7 : (((((((words1.drop 24).drop 24).drop 24).drop 24).drop 24).drop 24).take 24).all (fun c => isCode c || c.before args0 about1) = true := by decide +kernel
set_option maxRecDepth 65536 in
theorem w_t8 : ((((((((words1.drop 24).drop 24).drop 24).drop 24).drop 24).drop 24).drop 24).take 24).all (fun c => isCode c || c.before args0 about1) = true := by decide +kernel
set_option maxRecDepth 65536 in
theorem w_t9 : (((((((((words1.drop 24).drop 24).drop 24).drop 24).drop 24).drop 24).drop 24).drop 24).take 24).all (fun c => isCode c || c.before args0 about1) = true := by decide +kernel
set_option maxRecDepth 65536 in
theorem w_t10 : ((((((((((words1.drop 24).drop 24).drop 24).drop 24).drop 24).drop 24).drop 24).drop 24).drop 24).take 24).all (fun c => isCode c || c.before args0 about1) = true := by decide +kernel
set_option maxRecDepth 65536 in
theorem w_t11 : (((((((((((words1.drop 24).drop 24).drop 24).drop 24).drop 24).drop 24).drop 24).drop 24).drop 24).drop 24).take 24).all (fun c => isCode c || c.before args0 about1) = true := by decide +kernel
set_option maxRecDepth 65536 in
theorem w_t12 : ((((((((((((words1.drop 24).drop 24).drop 24).drop 24).drop 24).drop 24).drop 24).drop 24).drop 24).drop 24).drop 24).take 24).all (fun c => isCode c || c.before args0 about1) = true := by decide +kernel
set_option maxRecDepth 65536 in
theorem w_t13 : ((((((((((((words1.drop 24).drop 24).drop 24).drop 24).drop 24).drop 24).drop 24).drop 24).drop 24).drop 24).drop 24).drop 24).all (fun c => isCode c || c.before args0 about1) = true := by decide +kernel
theorem w_tables : (allAtoms (Jvm.Cond.code x code maxLocals ret :: tables_1)).before args0 about1 = true := by
  rw [allAtoms_all]
  show words1.all (fun c => c.before args0 about1) = true
  refine all_split ?_ w_codes
  rw [← List.take_append_drop 24 words1, List.all_append, w_t1, ← List.take_append_drop 24 (words1.drop 24), List.all_append, w_t2, ← List.take_append_drop 24 ((words1.drop 24).drop 24), List.all_append, w_t3, ← List.take_append_drop 24 (((words1.drop 24).drop 24).drop 24), List.all_append, w_t4, ← List.take_append_drop 24 ((((words1.drop 24).drop 24).drop 24).drop 24), List.all_append, w_t5, ← List.take_append_drop 24 (((((words1.drop 24).drop 24).drop 24).drop 24).drop 24), List.all_append, w_t6, ← List.take_append_drop 24 ((((((words1.drop 24).drop 24).drop 24).drop 24).drop 24).drop 24), List.all_append, w_t7, ← List.take_append_drop 24 (((((((words1.drop 24).drop 24).drop 24).drop 24).drop 24).drop 24).drop 24), List.all_append, w_t8, ← List.take_append_drop 24 ((((((((words1.drop 24).drop 24).drop 24).drop 24).drop 24).drop 24).drop 24).drop 24), List.all_append, w_t9, ← List.take_append_drop 24 (((((((((words1.drop 24).drop 24).drop 24).drop 24).drop 24).drop 24).drop 24).drop 24).drop 24), List.all_append, w_t10, ← List.take_append_drop 24 ((((((((((words1.drop 24).drop 24).drop 24).drop 24).drop 24).drop 24).drop 24).drop 24).drop 24).drop 24), List.all_append, w_t11, ← List.take_append_drop 24 (((((((((((words1.drop 24).drop 24).drop 24).drop 24).drop 24).drop 24).drop 24).drop 24).drop 24).drop 24).drop 24), List.all_append, w_t12, w_t13]
  rfl
set_option maxRecDepth 65536 in
theorem w_rest : rest_1_c.before args0 about1 = true := by decide +kernel
set_option maxRecDepth 65536 in
theorem w_case : (Jvm.Cond.and given_1 narrow_1).before args0 about1 = true := by decide +kernel
theorem w_applies : (headSpec (Jvm.Cond.code x code maxLocals ret :: tables_1) room_1).applies x e0.platform about1 = true :=
  (Spec.applies_iff w_frames).mpr ⟨w_running, w_runnable, w_alone, w_named, w_hears, w_ripe, w_room, w_tables⟩
theorem atStart : AtStart classFile x code maxLocals ret World_1 tables_1 room_1 Calls_1 rest_1 Pre_1 launch0 p0 e0 about1 theMethod args0 below0 :=
  ⟨lists_1, trivial, launch0.admits_env _ _ _, launch0.least_env, fairChoices_fair.cas, fairChoices_fair.clock, w_frames, w_args, w_heap, w_applies, trivial, w_rest, w_case⟩
end start1
theorem witness_1 : WitnessClaimed_1 := ⟨start1.p0, start1.e0, start1.about1, start1.theMethod, start1.args0, start1.below0, start1.atStart⟩
end Jvm.Pilot.@@N@@
