import JvmDerived
import JvmDerived.Pilot.@@N@@Statement
import JvmDerived.Pilot.@@N@@Code
set_option linter.unusedVariables false
set_option linter.unusedSimpArgs false
@@BLOCK:NumsL.lean.txt@@
namespace Jvm.Pilot.@@N@@
open Jvm Jvm.ClassFile Sem Op Lib Jvm.Free Jvm.Stand Jvm.LawKit Jvm.RoadKit Bundle Jvm.Pilot.@@N@@.Jvm.D
open Jvm.Free.Fl (NoNaN64 Fin64 Nz64)
theorem own_lt_ne {a b n : Nat} (h : a < n) (g : b = n) : a ≠ b := by omega
theorem own_lt_ne2 {a b n : Nat} (h : a < n) (g : n ≤ b) : a ≠ b := by omega
theorem own_ge_of {k b n : Nat} (h : k ≤ n) (g : b = n) : k ≤ b := by omega
abbrev uu : Slot := .unset
abbrev ss : Slot := .second
abbrev vi (x : Int32) : Slot := .val (.int x)
abbrev vj (x : Int64) : Slot := .val (.long x)
abbrev vd (x : UInt64) : Slot := .val (.double x)
abbrev vr (x : Addr) : Slot := .val (.ref x)
/-- whatever is reached from here is reached from E -/
abbrev own_G (p : Program) (e : Env) (below : List Frame) (E T : State) (g : JFrame) : Prop := ∀ t, Steps p.tables e below (T.setTop g) t → Steps p.tables e below E t
theorem own_if_eqY {x : Int32} (h : x = 0) : ifCond.holds .eq x = true := by subst h; rfl
theorem own_if_eqN {x : Int32} (h : ¬ x = 0) : ifCond.holds .eq x = false := beq_false_of_ne h
theorem own_if_neY {x : Int32} (h : ¬ x = 0) : ifCond.holds .ne x = true := bne_iff_ne.mpr h
theorem own_if_neN {x : Int32} (h : x = 0) : ifCond.holds .ne x = false := by subst h; rfl
theorem own_if_ltY {x : Int32} (h : x < 0) : ifCond.holds .lt x = true := decide_eq_true h
theorem own_if_ltN {x : Int32} (h : ¬ x < 0) : ifCond.holds .lt x = false := decide_eq_false h
theorem own_if_geY {x : Int32} (h : ¬ x < 0) : ifCond.holds .ge x = true := decide_eq_true (Int32.not_lt.mp h)
theorem own_if_geN {x : Int32} (h : x < 0) : ifCond.holds .ge x = false := decide_eq_false (fun q => Int32.not_le.mpr h q)
theorem own_if_gtY {x : Int32} (h : 0 < x) : ifCond.holds .gt x = true := decide_eq_true h
theorem own_if_gtN {x : Int32} (h : ¬ 0 < x) : ifCond.holds .gt x = false := decide_eq_false h
theorem own_if_leY {x : Int32} (h : ¬ 0 < x) : ifCond.holds .le x = true := decide_eq_true (Int32.not_lt.mp h)
theorem own_if_leN {x : Int32} (h : 0 < x) : ifCond.holds .le x = false := decide_eq_false (fun q => Int32.not_le.mpr h q)
theorem own_ic_eqY {x y : Int32} (h : x = y) : if_icmp.holds .eq x y = true := beq_iff_eq.mpr h
theorem own_ic_eqN {x y : Int32} (h : ¬ x = y) : if_icmp.holds .eq x y = false := beq_false_of_ne h
theorem own_ic_neY {x y : Int32} (h : ¬ x = y) : if_icmp.holds .ne x y = true := bne_iff_ne.mpr h
theorem own_ic_neN {x y : Int32} (h : x = y) : if_icmp.holds .ne x y = false := by subst h; exact bne_self_eq_false x
theorem own_ic_ltY {x y : Int32} (h : x < y) : if_icmp.holds .lt x y = true := decide_eq_true h
theorem own_ic_ltN {x y : Int32} (h : ¬ x < y) : if_icmp.holds .lt x y = false := decide_eq_false h
theorem own_ic_geY {x y : Int32} (h : ¬ x < y) : if_icmp.holds .ge x y = true := decide_eq_true (Int32.not_lt.mp h)
theorem own_ic_geN {x y : Int32} (h : x < y) : if_icmp.holds .ge x y = false := decide_eq_false (fun q => Int32.not_le.mpr h q)
theorem own_ic_gtY {x y : Int32} (h : y < x) : if_icmp.holds .gt x y = true := decide_eq_true h
theorem own_ic_gtN {x y : Int32} (h : ¬ y < x) : if_icmp.holds .gt x y = false := decide_eq_false h
theorem own_ic_leY {x y : Int32} (h : ¬ y < x) : if_icmp.holds .le x y = true := decide_eq_true (Int32.not_lt.mp h)
theorem own_ic_leN {x y : Int32} (h : y < x) : if_icmp.holds .le x y = false := decide_eq_false (fun q => Int32.not_le.mpr h q)
/-- what a comparison of two whole or scaled values pushes -/
def own_c (i j : Int) : Int32 := if i < j then -1 else if i = j then 0 else 1
theorem own_cE (o : CmpOp) {x y : UInt64} {i j : Int} (h : FP.dcmp x y = some (compare i j)) : cmpValue (FP.dcmp x y) o = own_c i j := by
  rw [h, FP.Core.compare_ite, own_c]
  by_cases h1 : i < j
  · rw [if_pos h1, if_pos h1]; cases o <;> rfl
  · rw [if_neg h1, if_neg h1]
    by_cases h2 : i = j
    · rw [if_pos h2, if_pos h2]; cases o <;> rfl
    · rw [if_neg h2, if_neg h2]; cases o <;> rfl
theorem own_c_lt {i j : Int} (h : i < j) : own_c i j = -1 := by rw [own_c, if_pos h]
theorem own_c_eq {i j : Int} (h : i = j) : own_c i j = 0 := by rw [own_c, if_neg (by omega), if_pos h]
theorem own_c_gt {i j : Int} (h : j < i) : own_c i j = 1 := by rw [own_c, if_neg (by omega), if_neg (by omega)]
theorem own_c_cases (i j : Int) : (i < j ∧ own_c i j = -1) ∨ (i = j ∧ own_c i j = 0) ∨ (j < i ∧ own_c i j = 1) := by
  rcases Int.lt_trichotomy i j with h | h | h
  · exact Or.inl ⟨h, own_c_lt h⟩
  · exact Or.inr (Or.inl ⟨h, own_c_eq h⟩)
  · exact Or.inr (Or.inr ⟨h, own_c_gt h⟩)
theorem own_c_ltY {i j : Int} (h : i < j) : ifCond.holds .lt (own_c i j) = true := by rw [own_c_lt h]; rfl
theorem own_c_ltN {i j : Int} (h : ¬ i < j) : ifCond.holds .lt (own_c i j) = false := by rcases own_c_cases i j with q | q | q <;> first | exact absurd q.1 h | (rw [q.2]; rfl)
theorem own_c_geY {i j : Int} (h : ¬ i < j) : ifCond.holds .ge (own_c i j) = true := by rcases own_c_cases i j with q | q | q <;> first | exact absurd q.1 h | (rw [q.2]; rfl)
theorem own_c_geN {i j : Int} (h : i < j) : ifCond.holds .ge (own_c i j) = false := by rw [own_c_lt h]; rfl
theorem own_c_gtY {i j : Int} (h : j < i) : ifCond.holds .gt (own_c i j) = true := by rw [own_c_gt h]; rfl
theorem own_c_gtN {i j : Int} (h : ¬ j < i) : ifCond.holds .gt (own_c i j) = false := by rcases own_c_cases i j with q | q | q <;> first | exact absurd q.1 h | (rw [q.2]; rfl)
theorem own_c_leY {i j : Int} (h : ¬ j < i) : ifCond.holds .le (own_c i j) = true := by rcases own_c_cases i j with q | q | q <;> first | exact absurd q.1 h | (rw [q.2]; rfl)
theorem own_c_leN {i j : Int} (h : j < i) : ifCond.holds .le (own_c i j) = false := by rw [own_c_gt h]; rfl
theorem own_c_eqY {i j : Int} (h : i = j) : ifCond.holds .eq (own_c i j) = true := by rw [own_c_eq h]; rfl
theorem own_c_eqN {i j : Int} (h : ¬ i = j) : ifCond.holds .eq (own_c i j) = false := by rcases own_c_cases i j with q | q | q <;> first | exact absurd q.1 h | (rw [q.2]; rfl)
theorem own_c_neY {i j : Int} (h : ¬ i = j) : ifCond.holds .ne (own_c i j) = true := by rcases own_c_cases i j with q | q | q <;> first | exact absurd q.1 h | (rw [q.2]; rfl)
theorem own_c_neN {i j : Int} (h : i = j) : ifCond.holds .ne (own_c i j) = false := by rw [own_c_eq h]; rfl
theorem own_l_lt {i j : Int64} (h : i < j) : XT.cmpL i j = -1 := by
  rw [XT.cmpL, if_neg (fun q => Int64.lt_irrefl (Int64.lt_trans h q)), if_neg (fun q => Int64.lt_irrefl (q ▸ h))]
theorem own_l_eq {i j : Int64} (h : i = j) : XT.cmpL i j = 0 := by subst h; rw [XT.cmpL, if_neg Int64.lt_irrefl, if_pos rfl]
theorem own_l_gt {i j : Int64} (h : j < i) : XT.cmpL i j = 1 := by rw [XT.cmpL, if_pos h]
theorem own_l_cases (i j : Int64) : (i < j ∧ XT.cmpL i j = -1) ∨ (i = j ∧ XT.cmpL i j = 0) ∨ (j < i ∧ XT.cmpL i j = 1) := by
  by_cases h : i < j
  · exact Or.inl ⟨h, own_l_lt h⟩
  · by_cases h2 : i = j
    · exact Or.inr (Or.inl ⟨h2, own_l_eq h2⟩)
    · have h3 : j < i := by
        rw [Int64.lt_iff_toInt_lt] at h ⊢
        have h4 : i.toInt ≠ j.toInt := fun q => h2 (Int64.toInt_inj.mp q)
        omega
      exact Or.inr (Or.inr ⟨h3, own_l_gt h3⟩)
theorem own_l_ltY {i j : Int64} (h : i < j) : ifCond.holds .lt (XT.cmpL i j) = true := by rw [own_l_lt h]; rfl
theorem own_l_ltN {i j : Int64} (h : ¬ i < j) : ifCond.holds .lt (XT.cmpL i j) = false := by rcases own_l_cases i j with q | q | q <;> first | exact absurd q.1 h | (rw [q.2]; rfl)
theorem own_l_geY {i j : Int64} (h : ¬ i < j) : ifCond.holds .ge (XT.cmpL i j) = true := by rcases own_l_cases i j with q | q | q <;> first | exact absurd q.1 h | (rw [q.2]; rfl)
theorem own_l_geN {i j : Int64} (h : i < j) : ifCond.holds .ge (XT.cmpL i j) = false := by rw [own_l_lt h]; rfl
theorem own_l_gtY {i j : Int64} (h : j < i) : ifCond.holds .gt (XT.cmpL i j) = true := by rw [own_l_gt h]; rfl
theorem own_l_gtN {i j : Int64} (h : ¬ j < i) : ifCond.holds .gt (XT.cmpL i j) = false := by rcases own_l_cases i j with q | q | q <;> first | exact absurd q.1 h | (rw [q.2]; rfl)
theorem own_l_leY {i j : Int64} (h : ¬ j < i) : ifCond.holds .le (XT.cmpL i j) = true := by rcases own_l_cases i j with q | q | q <;> first | exact absurd q.1 h | (rw [q.2]; rfl)
theorem own_l_leN {i j : Int64} (h : j < i) : ifCond.holds .le (XT.cmpL i j) = false := by rw [own_l_gt h]; rfl
theorem own_l_eqY {i j : Int64} (h : i = j) : ifCond.holds .eq (XT.cmpL i j) = true := by rw [own_l_eq h]; rfl
theorem own_l_eqN {i j : Int64} (h : ¬ i = j) : ifCond.holds .eq (XT.cmpL i j) = false := by rcases own_l_cases i j with q | q | q <;> first | exact absurd q.1 h | (rw [q.2]; rfl)
theorem own_l_neY {i j : Int64} (h : ¬ i = j) : ifCond.holds .ne (XT.cmpL i j) = true := by rcases own_l_cases i j with q | q | q <;> first | exact absurd q.1 h | (rw [q.2]; rfl)
theorem own_l_neN {i j : Int64} (h : i = j) : ifCond.holds .ne (XT.cmpL i j) = false := by rw [own_l_eq h]; rfl
theorem own_ac_eq_Y {x y : Value} (h : x = y) : XT.acmp .eq x y = true := decide_eq_true h
theorem own_ac_eq_N {x y : Value} (h : ¬ x = y) : XT.acmp .eq x y = false := decide_eq_false h
theorem own_ac_ne_Y {x y : Value} (h : ¬ x = y) : XT.acmp .ne x y = true := decide_eq_true h
theorem own_ac_ne_N {x y : Value} (h : x = y) : XT.acmp .ne x y = false := decide_eq_false (fun q => q h)
theorem own_ar_eq_Y {x y : Addr} (h : x = y) : XT.acmp .eq (.ref x) (.ref y) = true := own_ac_eq_Y (congrArg Value.ref h)
theorem own_ar_eq_N {x y : Addr} (h : ¬ x = y) : XT.acmp .eq (.ref x) (.ref y) = false := own_ac_eq_N (fun q => h (Value.ref.inj q))
theorem own_ar_ne_Y {x y : Addr} (h : ¬ x = y) : XT.acmp .ne (.ref x) (.ref y) = true := own_ac_ne_Y (fun q => h (Value.ref.inj q))
theorem own_ar_ne_N {x y : Addr} (h : x = y) : XT.acmp .ne (.ref x) (.ref y) = false := own_ac_ne_N (congrArg Value.ref h)
/-- a static's object's field that the case names by a number -/
theorem own_ord {args : Array Value} {s : State} {t : Term} {C n d : String} {k : Int32} {x : Addr} (ev : t.eval args s none [] s = some (.ref x))
    (h : (Jvm.Cond.eq (Term.field t C n d) (Term.int k)).value args s none s [] = some true) : s.fieldOf? x C n d = some (.int k) := by
  obtain ⟨v, u, e1, e2, k1, k2⟩ := cmp_v (Or.inl h)
  have e3 : u = .int k := by have := (Term.int_eval (args := args) (first := s) (o := none) (idx := []) (s := s) k).symm.trans e2; exact (Option.some.inj this).symm
  subst e3
  obtain ⟨z, rfl⟩ := k2
  have q := gotT (Cond.eq_ints e1 e2) h
  rw [← fld_at ev, e1, q]
/-! doubles: exact values in units of the least double -/
def own_z (x : UInt64) : Int := FP.Core.zval FP.Core.b64 (FP.Core.val64 x)
theorem own_nn {i : Int} {x : UInt64} (h : FP.Core.DInt i x) : NoNaN64 x := Fl.val64_no.mpr (FP.Core.DInt_ne_nan h)
theorem own_cmpz {x y : UInt64} (hx : NoNaN64 x) (hy : NoNaN64 y) : FP.dcmp x y = some (compare (own_z x) (own_z y)) := FP.Core.dcmp_zval (Fl.val64_no.mp hx) (Fl.val64_no.mp hy)
theorem own_d0 : FP.Core.DInt 0 FP.dconst0 := by
  have h := FP.Core.l2d_int (a := 0) (by decide)
  rw [FP.Core.l2d_zero] at h; exact h
theorem own_d1 : FP.Core.DInt 1 FP.dconst1 := FP.Core.dint_one
theorem own_zi {i : Int} {x : UInt64} (h : FP.Core.DInt i x) : own_z x = i * (FP.Core.one64 : Int) := FP.Core.DInt_zval h
theorem own_fini {i : Int} {x : UInt64} (h : FP.Core.DInt i x) : Fin64 x := by
  have h' : FP.Core.Whole i (FP.Core.val64 x) := h
  cases hv : FP.Core.val64 x with
  | nan => rw [hv] at h'; exact h'.elim
  | inf s => rw [hv] at h'; exact h'.elim
  | fin s c q => exact Fl.fin64_core.mpr ⟨s, c, q, hv⟩
theorem own_one : (0 : Int) < (FP.Core.one64 : Int) := by have := FP.Core.one64_pos; omega
theorem own_nz {x : UInt64} (h : own_z x ≠ 0) : Nz64 x := Fl.nz64_core.mpr fun ⟨s, q, e⟩ => h (by
  show FP.Core.zval FP.Core.b64 (FP.Core.val64 x) = 0
  rw [e]; show FP.Core.signed s (0 * _) = 0; rw [Nat.zero_mul]; cases s <;> rfl)
theorem own_nzi {i : Int} {x : UInt64} (h : FP.Core.DInt i x) (hi : i ≠ 0) : Nz64 x := own_nz (by
  rw [own_zi h]; intro q; rcases Int.mul_eq_zero.mp q with r | r
  · exact hi r
  · have := own_one; omega)
theorem own_zn (x : UInt64) : (own_z x).natAbs = FP.Core.zmag FP.Core.b64 (FP.Core.val64 x) := FP.Core.natAbs_signed _ _
/-- the quotient, by the two values alone -/
theorem own_quot {x y : UInt64} (hx : Fin64 x) (hy : Fin64 y) (hz : own_z y ≠ 0) :
    FP.Core.val64 (FP.ddiv x y) = FP.Core.roundRatio FP.Core.b64 (FP.Core.sgn (FP.Core.val64 x) != FP.Core.sgn (FP.Core.val64 y)) (own_z x).natAbs (own_z y).natAbs 0 := by
  obtain ⟨s, c, q, ex⟩ := Fl.fin64_core.mp hx
  obtain ⟨t, d, r, ey⟩ := Fl.fin64_core.mp hy
  have fx : FP.Core.fits FP.Core.b64 (.fin s c q) := ex ▸ FP.Core.val64_fits x
  have fy : FP.Core.fits FP.Core.b64 (.fin t d r) := ey ▸ FP.Core.val64_fits y
  have hd : d ≠ 0 := fun h => hz (by
    show FP.Core.zval FP.Core.b64 (FP.Core.val64 y) = 0
    rw [ey, h]; show FP.Core.signed t (0 * _) = 0; rw [Nat.zero_mul]; cases t <;> rfl)
  rw [own_zn, own_zn, show FP.ddiv x y = FP.Core.ddiv x y from rfl, FP.Core.val64_ddiv, ex, ey]
  show (if d = 0 then _ else FP.Core.roundRatio FP.Core.b64 (s != t) c d (q - r)) = FP.Core.roundRatio FP.Core.b64 (s != t) (c * 2 ^ (q - FP.Core.b64.qmin).toNat) (d * 2 ^ (r - FP.Core.b64.qmin).toNat) 0
  rw [if_neg hd]
  refine FP.Core.roundRatio_congr (Nat.pos_of_ne_zero hd) (Nat.mul_pos (Nat.pos_of_ne_zero hd) (Nat.two_pow_pos _)) ?_
  have h1 := fx.2.1
  have h2 := fy.2.1
  have e1 : (r - FP.Core.b64.qmin).toNat + (q - r - 0).toNat = (q - FP.Core.b64.qmin).toNat + (0 - (q - r)).toNat := by omega
  calc c * (d * 2 ^ (r - FP.Core.b64.qmin).toNat) * 2 ^ (q - r - 0).toNat = c * d * (2 ^ (r - FP.Core.b64.qmin).toNat * 2 ^ (q - r - 0).toNat) := by
        rw [Nat.mul_assoc, Nat.mul_assoc, Nat.mul_assoc]
    _ = c * d * (2 ^ (q - FP.Core.b64.qmin).toNat * 2 ^ (0 - (q - r)).toNat) := by rw [← Nat.pow_add, ← Nat.pow_add, e1]
    _ = c * 2 ^ (q - FP.Core.b64.qmin).toNat * d * 2 ^ (0 - (q - r)).toNat := by
        rw [Nat.mul_right_comm c _ d, Nat.mul_assoc (c * d)]
theorem own_noNaN_of {x : UInt64} {s : Bool} {A B : Nat} {e : Int} (h : FP.Core.val64 x = FP.Core.roundRatio FP.Core.b64 s A B e) : NoNaN64 x :=
  Fl.val64_no.mpr (h ▸ FP.Core.roundRatio_ne_nan _ _ _ _ _)
theorem own_div_nn {x y : UInt64} (hx : Fin64 x) (hy : Fin64 y) (hz : own_z y ≠ 0) : NoNaN64 (FP.ddiv x y) := Fl.ddiv_out hx.noNaN hy (own_nz hz)
/-- what is rounded below (above) a double stays there -/
theorem own_rr_le {s : Bool} {A B : Nat} {V : UInt64} (hB : 0 < B) (hV : NoNaN64 V) (h : A * FP.Core.one64 ≤ (own_z V).natAbs * B) :
    FP.Core.zmag FP.Core.b64 (FP.Core.roundRatio FP.Core.b64 s A B 0) ≤ (own_z V).natAbs := by
  rw [own_zn] at h ⊢
  refine FP.Core.zmag_roundRatio_le FP.Core.good_b64 hB (FP.Core.val64_fits V) (Fl.val64_no.mp hV) (e0 := FP.Core.b64.qmin) (Int.le_refl _) (by decide +kernel) ?_
  rw [Int.sub_self]
  show A * 2 ^ (0 - FP.Core.b64.qmin).toNat ≤ _ * 1 * B
  rw [Nat.mul_one, Int.zero_sub, FP.Core.pow_qmin64]; exact h
theorem own_rr_ge {s : Bool} {A B : Nat} {V : UInt64} (hB : 0 < B) (h : (own_z V).natAbs * B ≤ A * FP.Core.one64) :
    (own_z V).natAbs ≤ FP.Core.zmag FP.Core.b64 (FP.Core.roundRatio FP.Core.b64 s A B 0) := by
  rw [own_zn] at h ⊢
  refine FP.Core.zmag_roundRatio_ge FP.Core.good_b64 hB (FP.Core.val64_fits V) (e0 := FP.Core.b64.qmin) (Int.le_refl _) (by decide +kernel) ?_
  rw [Int.sub_self]
  show _ * 1 * B ≤ A * 2 ^ (0 - FP.Core.b64.qmin).toNat
  rw [Nat.mul_one, Int.zero_sub, FP.Core.pow_qmin64]; exact h
theorem own_z_signed {x : UInt64} {s : Bool} {A B : Nat} (h : FP.Core.val64 x = FP.Core.roundRatio FP.Core.b64 s A B 0) :
    own_z x = FP.Core.signed s (FP.Core.zmag FP.Core.b64 (FP.Core.roundRatio FP.Core.b64 s A B 0)) := by
  show FP.Core.signed _ _ = _
  rw [h, FP.Core.sgn_roundRatio]
/-- a quotient of two that are not below nought -/
theorem own_div_ge0 {x y : UInt64} (hx : Fin64 x) (hy : Fin64 y) (hz : own_z y ≠ 0) (h0 : 0 ≤ own_z x) (h1 : 0 ≤ own_z y) : 0 ≤ own_z (FP.ddiv x y) := by
  have hq := own_quot hx hy hz
  rw [own_z_signed hq]
  cases hs : (FP.Core.sgn (FP.Core.val64 x) != FP.Core.sgn (FP.Core.val64 y)) with
  | false => exact Int.natCast_nonneg _
  | true =>
    have hy2 : FP.Core.sgn (FP.Core.val64 y) = false := by
      cases hs2 : FP.Core.sgn (FP.Core.val64 y) with
      | false => rfl
      | true =>
        exfalso; have : own_z y = -(FP.Core.zmag FP.Core.b64 (FP.Core.val64 y) : Int) := by show FP.Core.signed _ _ = _; rw [hs2]; rfl
        omega
    have hx2 : FP.Core.sgn (FP.Core.val64 x) = true := by rw [hy2] at hs; simpa using hs
    have hx3 : own_z x = -(FP.Core.zmag FP.Core.b64 (FP.Core.val64 x) : Int) := by show FP.Core.signed _ _ = _; rw [hx2]; rfl
    have hx4 : (own_z x).natAbs = 0 := by omega
    rw [hx4, FP.Core.roundRatio, if_pos rfl]
    show 0 ≤ FP.Core.signed true (0 * _); rw [Nat.zero_mul]; decide
theorem own_div_le {x y V : UInt64} (hx : Fin64 x) (hy : Fin64 y) (hz : own_z y ≠ 0) (hV : NoNaN64 V) (h0 : 0 ≤ own_z x) (h1 : 0 ≤ own_z y) (h2 : 0 ≤ own_z V)
    (h : own_z x * (FP.Core.one64 : Int) ≤ own_z V * own_z y) : own_z (FP.ddiv x y) ≤ own_z V := by
  have hq := own_quot hx hy hz
  have hge := own_div_ge0 hx hy hz h0 h1
  have hB : 0 < (own_z y).natAbs := by omega
  have h3 : (own_z x).natAbs * FP.Core.one64 ≤ (own_z V).natAbs * (own_z y).natAbs := by
    have e1 : ((own_z x).natAbs : Int) = own_z x := by omega
    have e2 : ((own_z y).natAbs : Int) = own_z y := by omega
    have e3 : ((own_z V).natAbs : Int) = own_z V := by omega
    have : (((own_z x).natAbs * FP.Core.one64 : Nat) : Int) ≤ (((own_z V).natAbs * (own_z y).natAbs : Nat) : Int) := by
      rw [Int.natCast_mul, Int.natCast_mul, e1, e2, e3]; exact h
    exact Int.ofNat_le.mp this
  have := own_rr_le (s := FP.Core.sgn (FP.Core.val64 x) != FP.Core.sgn (FP.Core.val64 y)) hB hV h3
  have h4 : (own_z (FP.ddiv x y)).natAbs ≤ (own_z V).natAbs := by rw [own_zn, hq]; exact this
  omega
/-- two doubles of the same whole value compare as equal -/
theorem own_eq0 {x y : UInt64} {i : Int} (o : CmpOp) (hx : FP.Core.DInt i x) (hy : FP.Core.DInt i y) : cmpValue (FP.dcmp x y) o = 0 := by
  rw [own_cE o (FP.Core.dcmp_int hx hy), own_c_eq rfl]
theorem own_mb {a b A B : Int} (h1 : -A ≤ a) (h2 : a ≤ A) (h3 : -B ≤ b) (h4 : b ≤ B) (h : A * B ≤ 9007199254740992) : (a * b).natAbs ≤ 2 ^ 53 := by
  rw [Int.natAbs_mul]
  have e1 : a.natAbs ≤ A.toNat := by omega
  have e2 : b.natAbs ≤ B.toNat := by omega
  have e3 : a.natAbs * b.natAbs ≤ A.toNat * B.toNat := Nat.mul_le_mul e1 e2
  have e4 : ((A.toNat * B.toNat : Nat) : Int) = A * B := by rw [Int.natCast_mul, Int.toNat_of_nonneg (by omega), Int.toNat_of_nonneg (by omega)]
  have e5 : (2 : Nat) ^ 53 = 9007199254740992 := by decide
  omega
theorem own_dl (a : Int64) {i : Int} (h : a.toInt = i) (hb : i.natAbs ≤ 2 ^ 53) : FP.Core.DInt i (FP.l2d a) := by subst h; exact FP.Core.l2d_int hb
theorem own_lm {a b : Int64} (h : (a.toInt * b.toInt).natAbs ≤ 2 ^ 53) : (a * b).toInt = a.toInt * b.toInt := by
  have e5 : (2 : Nat) ^ 53 = 9007199254740992 := by decide
  exact Jvm.Kit.i64_mul (by omega) (by omega)
theorem own_sgn_mul {s t : Bool} {b : Nat} {k : Int} (hb : 0 < b) (h : FP.Core.signed s (k.natAbs * b) = k * FP.Core.signed t b) : FP.Core.signed (s != t) k.natAbs = k := by
  have hb' : (0 : Int) < (b : Int) := by omega
  have e : ((k.natAbs * b : Nat) : Int) = (k.natAbs : Int) * (b : Int) := Int.natCast_mul _ _
  have key : ∀ z : Int, (k.natAbs : Int) * (b : Int) = z * (b : Int) → (k.natAbs : Int) = z := fun z q => Int.eq_of_mul_eq_mul_right (by omega) q
  cases s <;> cases t
  · show (k.natAbs : Int) = k
    apply key; rw [← e]; exact h
  · show -(k.natAbs : Int) = k
    have h' : ((k.natAbs * b : Nat) : Int) = k * -(b : Int) := h
    have := key (-k) (by rw [← e, h', Int.mul_neg, Int.neg_mul]); omega
  · show -(k.natAbs : Int) = k
    have h' : -((k.natAbs * b : Nat) : Int) = k * (b : Int) := h
    have := key (-k) (by rw [← e, Int.neg_mul, ← h', Int.neg_neg]); omega
  · show (k.natAbs : Int) = k
    have h' : -((k.natAbs * b : Nat) : Int) = k * -(b : Int) := h
    apply key; rw [← e]
    have : -((k.natAbs * b : Nat) : Int) = -(k * (b : Int)) := by rw [h', Int.mul_neg]
    omega
/-- a quotient of whole values that comes out even -/
theorem own_ddiv_int {k j : Int} {x y : UInt64} (hx : FP.Core.DInt (k * j) x) (hy : FP.Core.DInt j y) (hj : j ≠ 0) (hk : k.natAbs ≤ 2 ^ 53) : FP.Core.DInt k (FP.ddiv x y) := by
  have zx := own_zi hx
  have zy := own_zi hy
  have hz : own_z y ≠ 0 := by rw [zy]; exact Int.mul_ne_zero hj (by have := own_one; omega)
  have hq := own_quot (own_fini hx) (own_fini hy) hz
  have ha : (own_z x).natAbs = k.natAbs * (own_z y).natAbs := by rw [zx, zy, Int.mul_assoc, Int.natAbs_mul]
  have hb : 0 < (own_z y).natAbs := by omega
  show FP.Core.Whole k (FP.Core.val64 (FP.ddiv x y))
  rw [hq, ha, FP.Core.roundRatio_congr (A' := k.natAbs) (B' := 1) (e' := 0) hb (by decide) (by rw [Nat.mul_one])]
  refine FP.Core.whole_round FP.Core.good_b64 FP.Core.wide_b64 hk (d := .fin (FP.Core.sgn (FP.Core.val64 x) != FP.Core.sgn (FP.Core.val64 y)) k.natAbs 0) ?_
  show FP.Core.signed _ (k.natAbs * 1) = k * ((1 : Nat) : Int)
  rw [Nat.mul_one, show ((1 : Nat) : Int) = 1 from rfl, Int.mul_one]
  refine own_sgn_mul hb ?_
  have e1 : FP.Core.signed (FP.Core.sgn (FP.Core.val64 x)) (own_z x).natAbs = own_z x := by rw [own_zn]; rfl
  have e2 : FP.Core.signed (FP.Core.sgn (FP.Core.val64 y)) (own_z y).natAbs = own_z y := by rw [own_zn]; rfl
  rw [← ha, e1, e2, zx, zy, Int.mul_assoc]
theorem own_zmag_s (s : Bool) (A B : Nat) (e : Int) : FP.Core.zmag FP.Core.b64 (FP.Core.roundRatio FP.Core.b64 s A B e) = FP.Core.zmag FP.Core.b64 (FP.Core.roundRatio FP.Core.b64 false A B e) := by
  cases s with
  | false => rfl
  | true =>
    rw [show FP.Core.roundRatio FP.Core.b64 true A B e = FP.Core.negate (FP.Core.roundRatio FP.Core.b64 false A B e) from (FP.Core.negate_roundRatio FP.Core.b64 false A B e).symm]
    cases FP.Core.roundRatio FP.Core.b64 false A B e <;> rfl
theorem own_div_n {x y : UInt64} (hx : Fin64 x) (hy : Fin64 y) (hz : own_z y ≠ 0) : (own_z (FP.ddiv x y)).natAbs = FP.Core.zmag FP.Core.b64 (FP.Core.roundRatio FP.Core.b64 false (own_z x).natAbs (own_z y).natAbs 0) := by
  rw [own_zn, own_quot hx hy hz, own_zmag_s]
/-- two quotients of the same ratio, none below nought -/
theorem own_div_congr {x y x' y' : UInt64} (hx : Fin64 x) (hy : Fin64 y) (hz : own_z y ≠ 0) (hx' : Fin64 x') (hy' : Fin64 y') (hz' : own_z y' ≠ 0)
    (g1 : 0 ≤ own_z x) (g2 : 0 ≤ own_z y) (g3 : 0 ≤ own_z x') (g4 : 0 ≤ own_z y') (h : own_z x * own_z y' = own_z x' * own_z y) : own_z (FP.ddiv x y) = own_z (FP.ddiv x' y') := by
  have e1 := own_div_n hx hy hz
  have e2 := own_div_n hx' hy' hz'
  have k1 := own_div_ge0 hx hy hz g1 g2
  have k2 := own_div_ge0 hx' hy' hz' g3 g4
  have h' : (own_z x).natAbs * (own_z y').natAbs = (own_z x').natAbs * (own_z y).natAbs := by rw [← Int.natAbs_mul, ← Int.natAbs_mul, h]
  rw [FP.Core.roundRatio_congr (A' := (own_z x').natAbs) (B' := (own_z y').natAbs) (e' := 0) (by omega) (by omega) (by rw [h'])] at e1
  omega
/-- m * 2^k units is a double -/
theorem own_rep (m k : Nat) (hm : m < 2 ^ 53) (hk : k ≤ 2045) : ∃ V : UInt64, Fin64 V ∧ own_z V = ((m * 2 ^ k : Nat) : Int) := by
  have hq : FP.Core.b64.qmin = -1074 := FP.Core.qmin_b64
  have hq2 : FP.Core.b64.qmax = 971 := by decide
  obtain ⟨c, q, e1, e2⟩ := FP.Core.round_exact FP.Core.good_b64 false (c := m) (q := (k : Int) - 1074) hm (by rw [hq]; omega) (by rw [hq2]; omega)
  have hv : FP.Core.val64 (FP.Core.of64 (FP.Core.round FP.Core.b64 (.fin false m ((k : Int) - 1074)))) = .fin false c q := by
    rw [FP.Core.val64_of64 (FP.Core.round_fits FP.Core.good_b64 _), e1]
  refine ⟨_, Fl.fin64_core.mpr ⟨_, _, _, hv⟩, ?_⟩
  show FP.Core.zval FP.Core.b64 _ = _
  rw [hv]
  show ((FP.Core.inUnits c q FP.Core.b64.qmin : Nat) : Int) = _
  rw [e2, FP.Core.inUnits, hq, show ((k : Int) - 1074 - -1074).toNat = k by omega]
/-- a quotient that comes out even in some binary place -/
theorem own_div_exact {x y : UInt64} (hx : Fin64 x) (hy : Fin64 y) (hz : own_z y ≠ 0) (g1 : 0 ≤ own_z x) (g2 : 0 ≤ own_z y) (m k : Nat) (hm : m < 2 ^ 53) (hk : k ≤ 2045)
    (h : own_z x * (FP.Core.one64 : Int) = ((m * 2 ^ k : Nat) : Int) * own_z y) : own_z (FP.ddiv x y) = ((m * 2 ^ k : Nat) : Int) := by
  obtain ⟨V, fV, zV⟩ := own_rep m k hm hk
  have k1 := own_div_ge0 hx hy hz g1 g2
  have e1 := own_div_n hx hy hz
  have h3 : (own_z x).natAbs * FP.Core.one64 = (own_z V).natAbs * (own_z y).natAbs := by
    have := congrArg Int.natAbs h
    rw [Int.natAbs_mul, Int.natAbs_mul, ← zV] at this
    exact this
  have l1 := own_rr_le (s := false) (A := (own_z x).natAbs) (B := (own_z y).natAbs) (V := V) (by omega) fV.noNaN (Nat.le_of_eq h3)
  have l2 := own_rr_ge (s := false) (A := (own_z x).natAbs) (B := (own_z y).natAbs) (V := V) (by omega) (Nat.le_of_eq h3.symm)
  omega
theorem own_eqz {x y : UInt64} (o : CmpOp) (hx : NoNaN64 x) (hy : NoNaN64 y) (h : own_z x = own_z y) : cmpValue (FP.dcmp x y) o = 0 := by
  rw [own_cE o (own_cmpz hx hy), own_c_eq h]
theorem own_ge0 {x : UInt64} (h : 0 ≤ own_z x) : ¬ own_z x < own_z FP.dconst0 := by rw [own_zi own_d0, Int.zero_mul]; exact Int.not_lt.mpr h
theorem own_le1 {x : UInt64} (h : own_z x ≤ own_z FP.dconst1) : ¬ own_z FP.dconst1 < own_z x := Int.not_lt.mpr h
/-! exact sums, differences, products and quotients in some binary place -/
theorem own_z_neg {x : UInt64} (h : Fin64 x) : own_z (FP.dneg x) = -own_z x ∧ Fin64 (FP.dneg x) := by
  obtain ⟨s, c, q, e⟩ := Fl.fin64_core.mp h
  have hv : FP.Core.val64 (FP.dneg x) = FP.Core.negate (FP.Core.val64 x) := FP.val64_dneg x
  refine ⟨?_, Fl.fin64_core.mpr ⟨!s, c, q, by rw [hv, e]; rfl⟩⟩
  show FP.Core.zval _ _ = -FP.Core.zval _ _
  rw [hv, FP.Core.zval_negate]
theorem own_repI (m : Int) (k : Nat) (hm : m.natAbs < 2 ^ 53) (hk : k ≤ 2045) : ∃ V : UInt64, Fin64 V ∧ own_z V = m * ((2 ^ k : Nat) : Int) := by
  obtain ⟨V, fV, zV⟩ := own_rep m.natAbs k hm hk
  rw [Int.natCast_mul] at zV
  by_cases h : 0 ≤ m
  · exact ⟨V, fV, by rw [zV, Int.natAbs_of_nonneg h]⟩
  · refine ⟨FP.dneg V, (own_z_neg fV).2, ?_⟩
    rw [(own_z_neg fV).1, zV, ← Int.neg_mul]
    congr 1; omega
/-- what is finite and rounds from a value that is a double is that double -/
theorem own_round_exact {x : UInt64} {sg : Bool} {n : Nat} {e : Int} (hv : FP.Core.val64 x = FP.Core.round FP.Core.b64 (.fin sg n e)) (he : FP.Core.b64.qmin ≤ e) {V : UInt64} (fV : Fin64 V) (h : FP.Core.signed sg (FP.Core.inUnits n e FP.Core.b64.qmin) = own_z V) :
    own_z x = own_z V ∧ Fin64 x := by
  have nV := Fl.val64_no.mp fV.noNaN
  have h1 := FP.Core.zval_round_le FP.Core.good_b64 (s := sg) (c := n) (q := e) (V := FP.Core.val64 V) (FP.Core.val64_fits V) nV (e0 := FP.Core.b64.qmin) (Int.le_refl _) he (by
    rw [Int.sub_self]; show _ ≤ _ * ((1 : Nat) : Int); rw [show ((1 : Nat) : Int) = 1 from rfl, Int.mul_one]; exact Int.le_of_eq h)
  have h2 := FP.Core.zval_round_ge FP.Core.good_b64 (s := sg) (c := n) (q := e) (V := FP.Core.val64 V) (FP.Core.val64_fits V) nV (e0 := FP.Core.b64.qmin) (Int.le_refl _) he (by
    rw [Int.sub_self]; show _ * ((1 : Nat) : Int) ≤ _; rw [show ((1 : Nat) : Int) = 1 from rfl, Int.mul_one]; exact Int.le_of_eq h.symm)
  have hz : own_z x = own_z V := by
    show FP.Core.zval _ (FP.Core.val64 x) = FP.Core.zval _ (FP.Core.val64 V)
    rw [hv]; exact Int.le_antisymm h1 h2
  refine ⟨hz, ?_⟩
  have nx : NoNaN64 x := Fl.val64_no.mpr (by rw [hv]; exact fun z => FP.Core.roundRatio_ne_nan _ _ _ _ _ z)
  cases hx : FP.Core.val64 x with
  | nan => exact absurd hx (Fl.val64_no.mp nx)
  | fin s c q => exact Fl.fin64_core.mpr ⟨s, c, q, hx⟩
  | inf s =>
    exfalso
    have b := (Fl.fin64_core.mp fV).zval_lt
    have e1 : (own_z x).natAbs = FP.Core.b64.tails * 2 ^ (FP.Core.b64.exps - 2) := by rw [own_zn, hx]; rfl
    have e2 : (own_z V).natAbs = FP.Core.zmag FP.Core.b64 (FP.Core.val64 V) := own_zn V
    rw [hz, e2] at e1
    omega
theorem own_add_exact {x y : UInt64} (hx : Fin64 x) (hy : Fin64 y) (m : Int) (k : Nat) (hm : m.natAbs < 2 ^ 53) (hk : k ≤ 2045) (h : own_z x + own_z y = m * ((2 ^ k : Nat) : Int)) : own_z (FP.dadd x y) = m * ((2 ^ k : Nat) : Int) ∧ Fin64 (FP.dadd x y) := by
  obtain ⟨V, fV, zV⟩ := own_repI m k hm hk
  obtain ⟨s, c, q, ex⟩ := Fl.fin64_core.mp hx
  obtain ⟨t, d, r, ey⟩ := Fl.fin64_core.mp hy
  obtain ⟨sg, n, e, e1, e2, e3⟩ := FP.Core.sum_units (f := FP.Core.b64) (ex ▸ FP.Core.val64_fits x) (ey ▸ FP.Core.val64_fits y)
  have hv : FP.Core.val64 (FP.dadd x y) = FP.Core.round FP.Core.b64 (.fin sg n e) := by
    rw [show FP.dadd x y = FP.Core.dadd x y from rfl, FP.Core.val64_dadd, ex, ey, e1]
  rw [← ex, ← ey] at e3
  rw [← zV]
  exact own_round_exact hv e2 fV (e3.trans (h.trans zV.symm))
theorem own_sub_exact {x y : UInt64} (hx : Fin64 x) (hy : Fin64 y) (m : Int) (k : Nat) (hm : m.natAbs < 2 ^ 53) (hk : k ≤ 2045) (h : own_z x - own_z y = m * ((2 ^ k : Nat) : Int)) : own_z (FP.dsub x y) = m * ((2 ^ k : Nat) : Int) ∧ Fin64 (FP.dsub x y) := by
  obtain ⟨V, fV, zV⟩ := own_repI m k hm hk
  obtain ⟨s, c, q, ex⟩ := Fl.fin64_core.mp hx
  obtain ⟨t, d, r, ey⟩ := Fl.fin64_core.mp hy
  have fy : FP.Core.fits FP.Core.b64 (.fin (!t) d r) := FP.Core.negate_fits (d := .fin t d r) (ey ▸ FP.Core.val64_fits y)
  obtain ⟨sg, n, e, e1, e2, e3⟩ := FP.Core.sum_units (f := FP.Core.b64) (ex ▸ FP.Core.val64_fits x) fy
  have hv : FP.Core.val64 (FP.dsub x y) = FP.Core.round FP.Core.b64 (.fin sg n e) := by
    rw [show FP.dsub x y = FP.Core.dsub x y from rfl, FP.Core.val64_dsub, ex, ey, ← e1]; rfl
  have hn : FP.Core.zval FP.Core.b64 (.fin (!t) d r) = -own_z y := by
    show FP.Core.zval FP.Core.b64 (FP.Core.negate (.fin t d r)) = -FP.Core.zval FP.Core.b64 (FP.Core.val64 y)
    rw [FP.Core.zval_negate, ey]
  rw [← ex, hn] at e3
  rw [← zV]
  exact own_round_exact hv e2 fV (e3.trans (by rw [zV, ← h]; rfl))
theorem own_fin_of_z {x V : UInt64} (nx : NoNaN64 x) (fV : Fin64 V) (hz : own_z x = own_z V) : Fin64 x := by
  cases hx : FP.Core.val64 x with
  | nan => exact absurd hx (Fl.val64_no.mp nx)
  | fin s c q => exact Fl.fin64_core.mpr ⟨s, c, q, hx⟩
  | inf s =>
    exfalso
    have b := (Fl.fin64_core.mp fV).zval_lt
    have e1 : (own_z x).natAbs = FP.Core.b64.tails * 2 ^ (FP.Core.b64.exps - 2) := by rw [own_zn, hx]; rfl
    have e2 : (own_z V).natAbs = FP.Core.zmag FP.Core.b64 (FP.Core.val64 V) := own_zn V
    rw [hz, e2] at e1
    omega
theorem own_divI_exact {x y : UInt64} (hx : Fin64 x) (hy : Fin64 y) (hz : own_z y ≠ 0) (m : Int) (k : Nat) (hm : m.natAbs < 2 ^ 53) (hk : k ≤ 2045)
    (h : own_z x * (FP.Core.one64 : Int) = m * ((2 ^ k : Nat) : Int) * own_z y) : own_z (FP.ddiv x y) = m * ((2 ^ k : Nat) : Int) ∧ Fin64 (FP.ddiv x y) := by
  obtain ⟨V, fV, zV⟩ := own_repI m k hm hk
  have hq := own_quot hx hy hz
  have nn := own_div_nn hx hy hz
  have hb : 0 < (own_z y).natAbs := by omega
  have h3 : (own_z x).natAbs * FP.Core.one64 = (own_z V).natAbs * (own_z y).natAbs := by
    have := congrArg Int.natAbs h
    rw [Int.natAbs_mul, Int.natAbs_mul, ← zV] at this
    exact this
  have l1 := own_rr_le (s := FP.Core.sgn (FP.Core.val64 x) != FP.Core.sgn (FP.Core.val64 y)) (A := (own_z x).natAbs) (B := (own_z y).natAbs) (V := V) hb fV.noNaN (Nat.le_of_eq h3)
  have l2 := own_rr_ge (s := FP.Core.sgn (FP.Core.val64 x) != FP.Core.sgn (FP.Core.val64 y)) (A := (own_z x).natAbs) (B := (own_z y).natAbs) (V := V) hb (Nat.le_of_eq h3.symm)
  have hz' : own_z (FP.ddiv x y) = own_z V := by
    rw [own_z_signed hq, Nat.le_antisymm l1 l2]
    refine own_sgn_mul hb ?_
    have e1 : FP.Core.signed (FP.Core.sgn (FP.Core.val64 x)) (own_z x).natAbs = own_z x := by rw [own_zn]; rfl
    have e2 : FP.Core.signed (FP.Core.sgn (FP.Core.val64 y)) (own_z y).natAbs = own_z y := by rw [own_zn]; rfl
    rw [← h3, FP.Core.signed_mul, e1, e2, h, zV]
  exact ⟨hz'.trans zV, own_fin_of_z nn fV hz'⟩
/-! arrays by the list of what they hold -/
def own_A (Z : State) (h : Heap) (a : Addr) (ty : FieldType) (vs : List Value) : Prop := ∃ c : Cell, Arr Z h a c ty ∧ c.slots.toList = vs
section OwnArr
variable {p : Program} {l : Launch} {e : Env} {R : Room} {s : State} {m : MethodId} {args : Array Value} {below : List Frame} {meth : Method} {c : Code} {T : State} {locs : List Loc} {cells slots : Nat} {Z : State} {h h' : Heap} {a b : Addr} {ty : FieldType} {vs : List Value} {sl : Nat} {v : Value} {ws : List Addr}
theorem own_A.lt (F : own_A Z h a ty vs) : a < h.size := by obtain ⟨c, A, -⟩ := F; exact A.lt
theorem own_A.ext (F : own_A Z h a ty vs) (E : Ext h h') : own_A Z h' a ty vs := by obtain ⟨c, A, r⟩ := F; exact ⟨c, A.ext E, r⟩
theorem own_A.other (F : own_A Z h b ty vs) (W : Wr h h' a sl v) (q : b ≠ a) : own_A Z h' b ty vs := by obtain ⟨c, A, r⟩ := F; exact ⟨c, A.other W q, r⟩
theorem own_A.keep (F : own_A Z h a ty vs) (K : Keep h h' ws) (q : a ∉ ws) : own_A Z h' a ty vs := by obtain ⟨c, A, r⟩ := F; exact ⟨c, ⟨K.2.1 a c A.1 q, A.2⟩, r⟩
theorem own_A.new {k : ClassId} {n : Int32} (A : Arr Z h a (newA k ty n) ty) : own_A Z h a ty (List.replicate n.toNatClampNeg (defaultValue ty)) := ⟨_, A, by simp [newA]⟩
theorem own_A.len (X : Stand p l e R s m args below meth c T locs cells slots) (hx : p.tables.exec = Jvm.exec) (hZ : Z.Warmed39 s.vm) (eT : T.heap = h) (F : own_A Z h a ty vs)
    {g : JFrame} (hg : g.method = m) {rest : List Value} (hs : g.stack = .ref a :: rest) (hd : decode c.code g.pc = .ok (.arraylength, 1)) (target : State)
    (hr : Steps p.tables e below (T.setTop { g with pc := g.pc + 1, stack := .int vs.length.toInt32 :: rest }) target) : Steps p.tables e below (T.setTop g) target := by
  obtain ⟨cl, A, rfl⟩ := F
  refine X.arraylength hx (cell := cl) (by rw [eT]; exact A.1) (State.isArrayOf_alike hZ.alike A.2.1) hg hs hd _ ?_
  rw [Array.length_toList] at hr; exact hr
theorem own_A.inb {cl : Cell} {j : Int32} (hj : ¬ j < 0) (hv : cl.slots.toList[j.toNatClampNeg]? = some v) : ¬ (j < 0 ∨ cl.slots.size ≤ j.toNatClampNeg) := by
  rintro (q | q)
  · exact hj q
  · rw [List.getElem?_eq_none (by rw [Array.length_toList]; exact q)] at hv; cases hv
theorem own_A.dld (X : Stand p l e R s m args below meth c T locs cells slots) (hx : p.tables.exec = Jvm.exec) (hZ : Z.Warmed39 s.vm) (eT : T.heap = h) (F : own_A Z h a .double vs) {j : Int32} (hj : ¬ j < 0) (hv : vs[j.toNatClampNeg]? = some v)
    {g : JFrame} (hg : g.method = m) {rest : List Value} (hs : g.stack = .int j :: .ref a :: rest) (hd : decode c.code g.pc = .ok (.daload, 1)) (target : State)
    (hr : Steps p.tables e below (T.setTop { g with pc := g.pc + 1, stack := v :: rest }) target) : Steps p.tables e below (T.setTop g) target := by
  obtain ⟨cl, A, rfl⟩ := F
  exact X.daload hx (by rw [eT]; exact A.1) (State.isArrayOf_alike hZ.alike A.2.1) A.2.2 (own_A.inb hj hv) (by rw [← Array.getElem?_toList]; exact hv) hg hs hd _ hr
theorem own_A.ild (X : Stand p l e R s m args below meth c T locs cells slots) (hx : p.tables.exec = Jvm.exec) (hZ : Z.Warmed39 s.vm) (eT : T.heap = h) (F : own_A Z h a .int vs) {j : Int32} (hj : ¬ j < 0) (hv : vs[j.toNatClampNeg]? = some v)
    {g : JFrame} (hg : g.method = m) {rest : List Value} (hs : g.stack = .int j :: .ref a :: rest) (hd : decode c.code g.pc = .ok (.iaload, 1)) (target : State)
    (hr : Steps p.tables e below (T.setTop { g with pc := g.pc + 1, stack := v :: rest }) target) : Steps p.tables e below (T.setTop g) target := by
  obtain ⟨cl, A, rfl⟩ := F
  exact X.iaload hx (by rw [eT]; exact A.1) (State.isArrayOf_alike hZ.alike A.2.1) A.2.2 (own_A.inb hj hv) (by rw [← Array.getElem?_toList]; exact hv) hg hs hd _ hr
theorem own_A.lld (X : Stand p l e R s m args below meth c T locs cells slots) (hx : p.tables.exec = Jvm.exec) (hZ : Z.Warmed39 s.vm) (eT : T.heap = h) (F : own_A Z h a .long vs) {j : Int32} (hj : ¬ j < 0) (hv : vs[j.toNatClampNeg]? = some v)
    {g : JFrame} (hg : g.method = m) {rest : List Value} (hs : g.stack = .int j :: .ref a :: rest) (hd : decode c.code g.pc = .ok (.laload, 1)) (target : State)
    (hr : Steps p.tables e below (T.setTop { g with pc := g.pc + 1, stack := v :: rest }) target) : Steps p.tables e below (T.setTop g) target := by
  obtain ⟨cl, A, rfl⟩ := F
  exact X.laload hx (by rw [eT]; exact A.1) (State.isArrayOf_alike hZ.alike A.2.1) A.2.2 (own_A.inb hj hv) (by rw [← Array.getElem?_toList]; exact hv) hg hs hd _ hr
theorem own_A.same {cl : Cell} (A : Arr Z h a cl ty) (W : Wr h h' a sl v) : own_A Z h' a ty (cl.slots.toList.set sl v) := ⟨_, A.same W, by simp [Cell.setSlot]⟩
theorem own_A.dst (X : Stand p l e R s m args below meth c T locs cells slots) (hx : p.tables.exec = Jvm.exec) (hZ : Z.Warmed39 s.vm) (eT : T.heap = h) (F : own_A Z h a .double vs) {j : Int32} {x : UInt64} (hj : ¬ j < 0) {o : Value} (hv : vs[j.toNatClampNeg]? = some o)
    {g : JFrame} (hg : g.method = m) {rest : List Value} (hs : g.stack = .double x :: .int j :: .ref a :: rest) (hd : decode c.code g.pc = .ok (.dastore, 1)) :
    ∃ T' h', Stand p l e R s m args below meth c T' (locs ++ [⟨a, j.toNatClampNeg⟩]) cells slots ∧ T'.heap = h' ∧ Wr h h' a j.toNatClampNeg (.double x) ∧ own_A Z h' a .double (vs.set j.toNatClampNeg (.double x)) ∧
      ∀ target, Steps p.tables e below (T'.setTop { g with pc := g.pc + 1, stack := rest }) target → Steps p.tables e below (T.setTop g) target := by
  obtain ⟨cl, A, rfl⟩ := F
  obtain ⟨T', h', X', e', W, st⟩ := stD X hx hZ eT A (own_A.inb hj hv) hg hs hd
  exact ⟨T', h', X', e', W, own_A.same A W, st⟩
theorem own_A.ist (X : Stand p l e R s m args below meth c T locs cells slots) (hx : p.tables.exec = Jvm.exec) (hZ : Z.Warmed39 s.vm) (eT : T.heap = h) (F : own_A Z h a .int vs) {j : Int32} {x : Int32} (hj : ¬ j < 0) {o : Value} (hv : vs[j.toNatClampNeg]? = some o)
    {g : JFrame} (hg : g.method = m) {rest : List Value} (hs : g.stack = .int x :: .int j :: .ref a :: rest) (hd : decode c.code g.pc = .ok (.iastore, 1)) :
    ∃ T' h', Stand p l e R s m args below meth c T' (locs ++ [⟨a, j.toNatClampNeg⟩]) cells slots ∧ T'.heap = h' ∧ Wr h h' a j.toNatClampNeg (.int x) ∧ own_A Z h' a .int (vs.set j.toNatClampNeg (.int x)) ∧
      ∀ target, Steps p.tables e below (T'.setTop { g with pc := g.pc + 1, stack := rest }) target → Steps p.tables e below (T.setTop g) target := by
  obtain ⟨cl, A, rfl⟩ := F
  obtain ⟨T', h', X', e', W, st⟩ := stI X hx hZ eT A (own_A.inb hj hv) hg hs hd
  exact ⟨T', h', X', e', W, own_A.same A W, st⟩
theorem own_A.lst (X : Stand p l e R s m args below meth c T locs cells slots) (hx : p.tables.exec = Jvm.exec) (hZ : Z.Warmed39 s.vm) (eT : T.heap = h) (F : own_A Z h a .long vs) {j : Int32} {x : Int64} (hj : ¬ j < 0) {o : Value} (hv : vs[j.toNatClampNeg]? = some o)
    {g : JFrame} (hg : g.method = m) {rest : List Value} (hs : g.stack = .long x :: .int j :: .ref a :: rest) (hd : decode c.code g.pc = .ok (.lastore, 1)) :
    ∃ T' h', Stand p l e R s m args below meth c T' (locs ++ [⟨a, j.toNatClampNeg⟩]) cells slots ∧ T'.heap = h' ∧ Wr h h' a j.toNatClampNeg (.long x) ∧ own_A Z h' a .long (vs.set j.toNatClampNeg (.long x)) ∧
      ∀ target, Steps p.tables e below (T'.setTop { g with pc := g.pc + 1, stack := rest }) target → Steps p.tables e below (T.setTop g) target := by
  obtain ⟨cl, A, rfl⟩ := F
  obtain ⟨T', h', X', e', W, st⟩ := stJ X hx hZ eT A (own_A.inb hj hv) hg hs hd
  exact ⟨T', h', X', e', W, own_A.same A W, st⟩
end OwnArr
section OwnChr
variable {p : Program} {l : Launch} {e : Env} {R : Room} {s : State} {m : MethodId} {args : Array Value} {below : List Frame} {meth : Method} {c : Code} {T : State} {locs : List Loc} {cells slots : Nat} {Z : State} {h h' : Heap} {a b : Addr} {ty : FieldType} {vs : List Value} {sl : Nat} {v : Value} {ws : List Addr}
theorem own_A.cst (X : Stand p l e R s m args below meth c T locs cells slots) (hx : p.tables.exec = Jvm.exec) (hZ : Z.Warmed39 s.vm) (eT : T.heap = h) (F : own_A Z h a .char vs) {j : Int32} {x : Int32} (hj : ¬ j < 0) {o : Value} (hv : vs[j.toNatClampNeg]? = some o)
    {g : JFrame} (hg : g.method = m) {rest : List Value} (hs : g.stack = .int x :: .int j :: .ref a :: rest) (hd : decode c.code g.pc = .ok (.castore, 1)) :
    ∃ T' h', Stand p l e R s m args below meth c T' (locs ++ [⟨a, j.toNatClampNeg⟩]) cells slots ∧ T'.heap = h' ∧ Wr h h' a j.toNatClampNeg (.int (nar .char x)) ∧ own_A Z h' a .char (vs.set j.toNatClampNeg (.int (nar .char x))) ∧
      ∀ target, Steps p.tables e below (T'.setTop { g with pc := g.pc + 1, stack := rest }) target → Steps p.tables e below (T.setTop g) target := by
  obtain ⟨cl, A, rfl⟩ := F
  obtain ⟨T', h', X', e', W, st⟩ := stC X hx hZ eT A (own_A.inb hj hv) hg hs hd
  exact ⟨T', h', X', e', W, own_A.same A W, st⟩
theorem own_A.bst (X : Stand p l e R s m args below meth c T locs cells slots) (hx : p.tables.exec = Jvm.exec) (hZ : Z.Warmed39 s.vm) (eT : T.heap = h) (F : own_A Z h a .byte vs) {j : Int32} {x : Int32} (hj : ¬ j < 0) {o : Value} (hv : vs[j.toNatClampNeg]? = some o)
    {g : JFrame} (hg : g.method = m) {rest : List Value} (hs : g.stack = .int x :: .int j :: .ref a :: rest) (hd : decode c.code g.pc = .ok (.bastore, 1)) :
    ∃ T' h', Stand p l e R s m args below meth c T' (locs ++ [⟨a, j.toNatClampNeg⟩]) cells slots ∧ T'.heap = h' ∧ Wr h h' a j.toNatClampNeg (.int (nar .byte x)) ∧ own_A Z h' a .byte (vs.set j.toNatClampNeg (.int (nar .byte x))) ∧
      ∀ target, Steps p.tables e below (T'.setTop { g with pc := g.pc + 1, stack := rest }) target → Steps p.tables e below (T.setTop g) target := by
  obtain ⟨cl, A, rfl⟩ := F
  obtain ⟨T', h', X', e', W, st⟩ := stB X hx hZ eT A (own_A.inb hj hv) hg hs hd
  exact ⟨T', h', X', e', W, own_A.same A W, st⟩
end OwnChr
/-! how far the heap had come when the intern table last turned -/
abbrev own_Le (k : Nat) (h : Heap) : Prop := k ≤ h.size
theorem own_Le.ext {k : Nat} {h h' : Heap} (F : own_Le k h) (E : Ext h h') : own_Le k h' := Nat.le_trans F E.1
theorem own_Le.wr {k : Nat} {h h' : Heap} {a : Addr} {sl : Nat} {v : Value} (F : own_Le k h) (W : Wr h h' a sl v) : own_Le k h' := Nat.le_trans F (Keep.of_wr W).1
theorem own_Le.keep {k : Nat} {h h' : Heap} {ws : List Addr} (F : own_Le k h) (K : Keep h h' ws) : own_Le k h' := Nat.le_trans F K.1
theorem own_and255 (x : Int32) : ¬ x &&& 255 < 0 ∧ ¬ (255 : Int32) < x &&& 255 := by
  have e := Jvm.Kit.i32_mask x 255 (k := 8) (by decide) (by decide)
  constructor
  · rw [Int32.lt_iff_toInt_lt, e]; show ¬ _ < (0 : Int); omega
  · rw [Int32.lt_iff_toInt_lt, e]; show ¬ (255 : Int) < _; omega
theorem own_lat (x : Int32) : ¬ nar .char ((x &&& 255).toUInt32.toUInt16.toUInt32.toInt32) < 0 ∧ ¬ (255 : Int32) < nar .char ((x &&& 255).toUInt32.toUInt16.toUInt32.toInt32) := by
  rw [show nar .char ((x &&& (255 : Int32)).toUInt32.toUInt16.toUInt32.toInt32) = x &&& 255 from by simp only [nar, i2c_mask]]; exact own_and255 x

theorem own_n0 : NoNaN64 FP.dconst0 := own_nn own_d0
theorem own_nM : NoNaN64 (9218868437227405311 : UInt64) := by unfold NoNaN64; decide
theorem own_z0 : own_z FP.dconst0 = 0 := by rw [own_zi own_d0, Int.zero_mul]
theorem own_zM : ((2 ^ 64 : Nat) : Int) * (FP.Core.one64 : Int) ≤ own_z (9218868437227405311 : UInt64) := by unfold own_z FP.Core.one64; decide +kernel
theorem own_zM0 : 0 ≤ own_z (9218868437227405311 : UInt64) := by unfold own_z; decide +kernel
theorem own_lM {i : Int} (h : i ≤ ((2 ^ 64 : Nat) : Int)) : i * (FP.Core.one64 : Int) ≤ own_z (9218868437227405311 : UInt64) :=
  Int.le_trans (Int.mul_le_mul_of_nonneg_right h (Int.le_of_lt own_one)) own_zM
def own_V (v : UInt64) : Prop := NoNaN64 v ∧ 0 ≤ own_z v ∧ own_z v ≤ own_z (9218868437227405311 : UInt64)
theorem own_V0 {v : UInt64} (h : own_V v) : ¬ own_z v < own_z FP.dconst0 := by rw [own_z0]; exact Int.not_lt.mpr h.2.1
theorem own_n63 (p : Int64) : 0 ≤ (p &&& (9223372036854775807 : Int64)).toInt := by
  rw [Jvm.Kit.i64_mask p 9223372036854775807 (k := 63) (by decide) (by decide)]; exact Int.emod_nonneg _ (by decide)
theorem own_d30 (p : Int32) : 1 ≤ ((p &&& (1073741823 : Int32)) + (1 : Int32)).toInt := by
  have h := Jvm.Kit.i32_mask p 1073741823 (k := 30) (by decide) (by decide)
  have h2 : ((p &&& (1073741823 : Int32)) + (1 : Int32)).toInt = (p &&& (1073741823 : Int32)).toInt + 1 := Jvm.Kit.i32_add (q := 1) (by rw [h]; show _ ≤ _ + (1 : Int); omega) (by rw [h]; show _ + (1 : Int) < _; omega)
  omega
theorem own_i2c (p : Int32) : ¬ (255 : Int32) < (p &&& (255 : Int32)).toUInt32.toUInt16.toUInt32.toInt32 := by rw [i2c_mask]; exact (own_and255 p).2
theorem own_v3 : own_V (9218868437227405311 : UInt64) := ⟨own_nM, own_zM0, Int.le_refl _⟩
theorem own_v4 : own_V (1 : UInt64) := ⟨by unfold NoNaN64; decide, by unfold own_z; decide +kernel, by unfold own_z; decide +kernel⟩
theorem own_w5 : own_V (9223372036854775808 : UInt64) := ⟨by unfold NoNaN64; decide, by unfold own_z; decide +kernel, by unfold own_z; decide +kernel⟩
theorem own_w1 : own_V FP.dconst0 := ⟨own_n0, by rw [own_z0]; decide, by rw [own_z0]; exact own_zM0⟩
theorem own_w0 {n : Int64} (gn : 0 ≤ n.toInt) : 0 ≤ own_z (FP.l2d n) := by
  have := FP.Core.l2d_zval_ge (n := n) (V := FP.dconst0) (Fl.val64_no.mp own_n0) (by
    show own_z FP.dconst0 ≤ _
    rw [own_z0]; exact Int.mul_nonneg gn (Int.le_of_lt own_one))
  have h : own_z FP.dconst0 ≤ own_z (FP.l2d n) := this
  rw [own_z0] at h; exact h
theorem own_w3 {n : Int64} (gn : 0 ≤ n.toInt) : own_V (FP.l2d n) := by
  refine ⟨(Fl.l2d_fin n).noNaN, own_w0 gn, ?_⟩
  have e2 : ((2 ^ 64 : Nat) : Int) = 18446744073709551616 := by decide
  have b := n.toInt_lt
  exact FP.Core.l2d_zval_le (n := n) (V := (9218868437227405311 : UInt64)) (Fl.val64_no.mp own_nM) (own_lM (by omega))
theorem own_w4 {n : Int64} {d : Int32} (gn : 0 ≤ n.toInt) (gd : 1 ≤ d.toInt) : own_V (FP.ddiv (FP.l2d n) (FP.i2d d)) := by
  have o := own_one
  have zd : own_z (FP.i2d d) = d.toInt * (FP.Core.one64 : Int) := own_zi (FP.Core.i2d_int d)
  have zp : 0 < own_z (FP.i2d d) := by rw [zd]; exact Int.mul_pos (by omega) o
  refine ⟨own_div_nn (Fl.l2d_fin n) (Fl.i2d_fin d) (by omega), own_div_ge0 (Fl.l2d_fin n) (Fl.i2d_fin d) (by omega) (own_w0 gn) (by omega), ?_⟩
  refine own_div_le (Fl.l2d_fin n) (Fl.i2d_fin d) (by omega) own_nM (own_w0 gn) (by omega) own_zM0 ?_
  rw [zd, ← Int.mul_assoc]
  refine Int.mul_le_mul_of_nonneg_right ?_ (Int.le_of_lt o)
  refine Int.le_trans (own_w3 gn).2.2 ?_
  have := Int.mul_le_mul_of_nonneg_left gd own_zM0
  rw [Int.mul_one] at this; exact this

def QrmPk (Z : State) (q : Int32) (n : Int64) (d : Int32) (h0 : Heap) (n0 : Nat) (vQ : Option Value) (hQ : Heap) (LQ : List Loc) : Prop := ∃ (v : UInt64), vQ = some (.double v) ∧ Fr n0 LQ ∧ hQ = h0 ∧ (own_V v)
theorem ef_rmPk (m : MethodId) (q : Int32) (n : Int64) (d : Int32) : entryFrame m #[(.int q), (.long n), (.int d)] 4 = mkF m 0 #[vi q, vj n, ss, vi d] [] := by first | (simp [entryFrame, mkF, argsToLocals, Value.category]; done) | rfl
abbrev mn0 : MethodName := ⟨"rootzone/BoundNotNegativePinLaw", "pick", "(IJI)D"⟩
theorem pn_rootzone_BoundNotNegativePinLaw : plainName "rootzone/BoundNotNegativePinLaw" = true := by first | (simp [plainName, overriddenIn]; done) | decide +kernel
theorem d_method_2_code_0 : decode method_2_code 0 = .ok (.iload_n 0, 1) := by decide +kernel
theorem d_method_2_code_1 : decode method_2_code 1 = .ok (.ifCond .ne 5, 3) := by decide +kernel
theorem d_method_2_code_4 : decode method_2_code 4 = .ok (.dconst 0, 1) := by decide +kernel
theorem d_method_2_code_5 : decode method_2_code 5 = .ok (.dreturn, 1) := by decide +kernel
theorem d_method_2_code_6 : decode method_2_code 6 = .ok (.iload_n 0, 1) := by decide +kernel
theorem d_method_2_code_7 : decode method_2_code 7 = .ok (.iconst 1, 1) := by decide +kernel
theorem d_method_2_code_8 : decode method_2_code 8 = .ok (.if_icmp .ne 7, 3) := by decide +kernel
theorem d_method_2_code_11 : decode method_2_code 11 = .ok (.ldc2_w 7, 3) := by decide +kernel
def tw7 {Z : State} {a0 : Array Value} (hw : ∀ d ∈ tables_1, d.before a0 Z = true) := hw _ (List.mem_of_getElem? (i := 7) rfl)
theorem d_method_2_code_14 : decode method_2_code 14 = .ok (.dreturn, 1) := by decide +kernel
theorem d_method_2_code_15 : decode method_2_code 15 = .ok (.iload_n 0, 1) := by decide +kernel
theorem d_method_2_code_16 : decode method_2_code 16 = .ok (.iconst 2, 1) := by decide +kernel
theorem d_method_2_code_17 : decode method_2_code 17 = .ok (.if_icmp .ne 6, 3) := by decide +kernel
theorem d_method_2_code_20 : decode method_2_code 20 = .ok (.lload_n 1, 1) := by decide +kernel
theorem d_method_2_code_21 : decode method_2_code 21 = .ok (.l2d, 1) := by decide +kernel
theorem d_method_2_code_22 : decode method_2_code 22 = .ok (.dreturn, 1) := by decide +kernel
theorem d_method_2_code_23 : decode method_2_code 23 = .ok (.iload_n 0, 1) := by decide +kernel
theorem d_method_2_code_24 : decode method_2_code 24 = .ok (.iconst 3, 1) := by decide +kernel
theorem d_method_2_code_25 : decode method_2_code 25 = .ok (.if_icmp .ne 9, 3) := by decide +kernel
theorem d_method_2_code_28 : decode method_2_code 28 = .ok (.lload_n 1, 1) := by decide +kernel
theorem d_method_2_code_29 : decode method_2_code 29 = .ok (.l2d, 1) := by decide +kernel
theorem d_method_2_code_30 : decode method_2_code 30 = .ok (.iload_n 3, 1) := by decide +kernel
theorem d_method_2_code_31 : decode method_2_code 31 = .ok (.i2d, 1) := by decide +kernel
theorem d_method_2_code_32 : decode method_2_code 32 = .ok (.ddiv, 1) := by decide +kernel
theorem d_method_2_code_33 : decode method_2_code 33 = .ok (.dreturn, 1) := by decide +kernel
theorem d_method_2_code_34 : decode method_2_code 34 = .ok (.iload_n 0, 1) := by decide +kernel
theorem d_method_2_code_35 : decode method_2_code 35 = .ok (.iconst 4, 1) := by decide +kernel
theorem d_method_2_code_36 : decode method_2_code 36 = .ok (.if_icmp .ne 7, 3) := by decide +kernel
theorem d_method_2_code_39 : decode method_2_code 39 = .ok (.ldc2_w 9, 3) := by decide +kernel
def tw77 {Z : State} {a0 : Array Value} (hw : ∀ d ∈ tables_1, d.before a0 Z = true) := hw _ (List.mem_of_getElem? (i := 77) rfl)
theorem d_method_2_code_42 : decode method_2_code 42 = .ok (.dreturn, 1) := by decide +kernel
theorem d_method_2_code_43 : decode method_2_code 43 = .ok (.ldc2_w 11, 3) := by decide +kernel
def tw76 {Z : State} {a0 : Array Value} (hw : ∀ d ∈ tables_1, d.before a0 Z = true) := hw _ (List.mem_of_getElem? (i := 76) rfl)
theorem d_method_2_code_46 : decode method_2_code 46 = .ok (.dreturn, 1) := by decide +kernel
set_option maxRecDepth 65536 in
set_option maxHeartbeats 40000000 in
theorem rmPk (l : Launch) (Z : State) (a0 : Array Value) (hw : ∀ d ∈ tables_1, d.before a0 Z = true) (ws : List Jvm.Cond) (q : Int32) (n : Int64) (d : Int32) (h0 : Heap) (n0 : Nat) (Z0 : n0 ≤ h0.size) (gn : 0 ≤ n.toInt) (gd : 1 ≤ d.toInt) :
    MetFree l mn0 (head1 (Jvm.Cond.code mn0 method_2_code 4 (some .double) :: ws) ({ frames := 0, cells := 0, slots := 0, locals := 0 } : Room)) (fun aA U => aA = #[(.int q), (.long n), (.int d)] ∧ Z.Warmed39 U.vm ∧ U.heap = h0) (fun _ _ _ _ _ => True) (fun _ U o U' => ∃ vR LR, o = .returned vR ∧ QrmPk Z q n d h0 n0 vR U'.heap LR ∧ FrameEnd U o U' LR ({ frames := 0, cells := 0, slots := 0, locals := 0 } : Room).cells ({ frames := 0, cells := 0, slots := 0, locals := 0 } : Room).slots) := by
  refine MetFree.of_bodySF (plainFor_of_name pn_rootzone_BoundNotNegativePinLaw) hisR ?_
  intro p e s m args below meth c s₁ Bd hml0 hPre hKk
  obtain ⟨rfl, hZ, hh⟩ := hPre
  have hx := Bd.exec
  have hby := Bd.bytes
  skip
  have hml : c.maxLocals = 4 := hml0
  have hown : s.vm.findClass "rootzone/BoundNotNegativePinLaw" = some m.cls := findClass_of_methodNamed Bd.named
  have hnm := (name_of_methodNamed Bd.named Bd.method).1
  have X0 : Stand p l e ({ frames := 0, cells := 0, slots := 0, locals := 0 } : Room) s m #[(.int q), (.long n), (.int d)] below meth c s₁ [] 0 0 := Stand.of_body Bd
  have e0 : s₁.heap = h0 := by rw [← hh, Bd.state]; rfl
  have N0 := Fr.nil n0
  obtain ⟨E0, hE0⟩ : ∃ zE : State, zE = s₁.setTop (entryFrame m #[(.int q), (.long n), (.int d)] 4) := ⟨_, rfl⟩
  have k0 : own_G p e below E0 s₁ (mkF m 0 #[vi q, vj n, ss, vi d] []) := fun tz kz => hE0 ▸ castTop (ef_rmPk m q n d) kz
  have k1 : own_G p e below E0 s₁ (mkF m 1 #[vi q, vj n, ss, vi d] [(.int q)]) := by
    intro tQ kk
    refine k0 tQ ?_
    refine XS.iloadN X0.here hx rfl (hb hby d_method_2_code_0) rfl ?_
    exact kk
  clear k0
  by_cases c2 : q = 0
  · skip
    have k3 : own_G p e below E0 s₁ (mkF m 5 #[vi q, vj n, ss, vi d] [(.double FP.dconst0)]) := by
      intro tQ kk
      refine k1 tQ ?_
      refine XS.ifNo X0.here hx rfl (hb hby d_method_2_code_1) rfl (own_if_neN c2) ?_
      refine XS.dconst0 X0.here hx rfl (hb hby d_method_2_code_4) rfl ?_
      exact kk
    clear k1
    obtain ⟨fs, hr, hrun, hended, hW, hsame⟩ := X0.leave (v := some (.double FP.dconst0)) (fun h => by rw [Bd.returns] at h; cases h)
    have hrun0 := k3 _ (retOut X0 hx Bd.returns (t := .double) rfl (Or.inr (Or.inr (Or.inl ⟨rfl, rfl, _, rfl⟩))) (hb hby d_method_2_code_5) hr)
    subst hE0
    refine ⟨_, _, hrun0, hrun, hended, _, _, rfl, ?_, ⟨_, rfl⟩, hW, hsame.mono (by decide) (by decide)⟩
    show QrmPk Z q n d h0 n0 _ s₁.heap _
    rw [e0]
    exact ⟨FP.dconst0, rfl, N0, rfl, own_w1⟩
  · skip
    have k4 : own_G p e below E0 s₁ (mkF m 8 #[vi q, vj n, ss, vi d] [(.int (1 : Int32)), (.int q)]) := by
      intro tQ kk
      refine k1 tQ ?_
      refine XS.ifYes X0.here hx rfl (pc0 := 1) (pc' := 6) rfl (hb hby d_method_2_code_1) rfl (own_if_neY c2) (by decide) (by decide) ?_
      refine XS.iloadN X0.here hx rfl (hb hby d_method_2_code_6) rfl ?_
      refine XS.iconst X0.here hx rfl (hb hby d_method_2_code_7) ?_
      exact kk
    clear k1
    by_cases c5 : q = (1 : Int32)
    · skip
      have k6 : own_G p e below E0 s₁ (mkF m 11 #[vi q, vj n, ss, vi d] []) := by
        intro tQ kk
        refine k4 tQ ?_
        refine XS.icmpNo X0.here hx rfl (hb hby d_method_2_code_8) rfl (own_ic_neN c5) ?_
        exact kk
      clear k4
      have st7 := X0.ldc2DoubleC hx hown (mvT hZ (tw7 hw)) (g := (mkF m 11 #[vi q, vj n, ss, vi d] [])) rfl (hb hby d_method_2_code_11)
      have k8 : own_G p e below E0 s₁ (mkF m 14 #[vi q, vj n, ss, vi d] [(.double (9218868437227405311 : UInt64))]) := fun tQ kk => k6 tQ (st7 _ kk)
      clear k6 st7
      obtain ⟨fs, hr, hrun, hended, hW, hsame⟩ := X0.leave (v := some (.double (9218868437227405311 : UInt64))) (fun h => by rw [Bd.returns] at h; cases h)
      have hrun0 := k8 _ (retOut X0 hx Bd.returns (t := .double) rfl (Or.inr (Or.inr (Or.inl ⟨rfl, rfl, _, rfl⟩))) (hb hby d_method_2_code_14) hr)
      subst hE0
      refine ⟨_, _, hrun0, hrun, hended, _, _, rfl, ?_, ⟨_, rfl⟩, hW, hsame.mono (by decide) (by decide)⟩
      show QrmPk Z q n d h0 n0 _ s₁.heap _
      rw [e0]
      exact ⟨(9218868437227405311 : UInt64), rfl, N0, rfl, own_v3⟩
    · skip
      have k9 : own_G p e below E0 s₁ (mkF m 17 #[vi q, vj n, ss, vi d] [(.int (2 : Int32)), (.int q)]) := by
        intro tQ kk
        refine k4 tQ ?_
        refine XS.icmpYes X0.here hx rfl (pc0 := 8) (pc' := 15) rfl (hb hby d_method_2_code_8) rfl (own_ic_neY c5) (by decide) (by decide) ?_
        refine XS.iloadN X0.here hx rfl (hb hby d_method_2_code_15) rfl ?_
        refine XS.iconst X0.here hx rfl (hb hby d_method_2_code_16) ?_
        exact kk
      clear k4
      by_cases c10 : q = (2 : Int32)
      · skip
        have k11 : own_G p e below E0 s₁ (mkF m 22 #[vi q, vj n, ss, vi d] [(.double (FP.l2d n))]) := by
          intro tQ kk
          refine k9 tQ ?_
          refine XS.icmpNo X0.here hx rfl (hb hby d_method_2_code_17) rfl (own_ic_neN c10) ?_
          refine XT.lloadN X0.here hx rfl (hb hby d_method_2_code_20) rfl ?_
          refine XS.l2dS X0.here hx rfl (hb hby d_method_2_code_21) rfl rfl ?_
          exact kk
        clear k9
        obtain ⟨fs, hr, hrun, hended, hW, hsame⟩ := X0.leave (v := some (.double (FP.l2d n))) (fun h => by rw [Bd.returns] at h; cases h)
        have hrun0 := k11 _ (retOut X0 hx Bd.returns (t := .double) rfl (Or.inr (Or.inr (Or.inl ⟨rfl, rfl, _, rfl⟩))) (hb hby d_method_2_code_22) hr)
        subst hE0
        refine ⟨_, _, hrun0, hrun, hended, _, _, rfl, ?_, ⟨_, rfl⟩, hW, hsame.mono (by decide) (by decide)⟩
        show QrmPk Z q n d h0 n0 _ s₁.heap _
        rw [e0]
        exact ⟨(FP.l2d n), rfl, N0, rfl, own_w3 gn⟩
      · skip
        have k12 : own_G p e below E0 s₁ (mkF m 25 #[vi q, vj n, ss, vi d] [(.int (3 : Int32)), (.int q)]) := by
          intro tQ kk
          refine k9 tQ ?_
          refine XS.icmpYes X0.here hx rfl (pc0 := 17) (pc' := 23) rfl (hb hby d_method_2_code_17) rfl (own_ic_neY c10) (by decide) (by decide) ?_
          refine XS.iloadN X0.here hx rfl (hb hby d_method_2_code_23) rfl ?_
          refine XS.iconst X0.here hx rfl (hb hby d_method_2_code_24) ?_
          exact kk
        clear k9
        by_cases c13 : q = (3 : Int32)
        · skip
          have k14 : own_G p e below E0 s₁ (mkF m 33 #[vi q, vj n, ss, vi d] [(.double (FP.ddiv (FP.l2d n) (FP.i2d d)))]) := by
            intro tQ kk
            refine k12 tQ ?_
            refine XS.icmpNo X0.here hx rfl (hb hby d_method_2_code_25) rfl (own_ic_neN c13) ?_
            refine XT.lloadN X0.here hx rfl (hb hby d_method_2_code_28) rfl ?_
            refine XS.l2dS X0.here hx rfl (hb hby d_method_2_code_29) rfl rfl ?_
            refine XS.iloadN X0.here hx rfl (hb hby d_method_2_code_30) rfl ?_
            show Steps p.tables e below (s₁.setTop (mkF m 31 #[vi q, vj n, ss, vi d] [(.int d), (.double (FP.l2d n))])) tQ
            refine XS.i2dS X0.here hx rfl (hb hby d_method_2_code_31) rfl rfl ?_
            refine XS.ddivS X0.here hx rfl (hb hby d_method_2_code_32) rfl (own_w4 gn gd).1 rfl ?_
            exact kk
          clear k12
          obtain ⟨fs, hr, hrun, hended, hW, hsame⟩ := X0.leave (v := some (.double (FP.ddiv (FP.l2d n) (FP.i2d d)))) (fun h => by rw [Bd.returns] at h; cases h)
          have hrun0 := k14 _ (retOut X0 hx Bd.returns (t := .double) rfl (Or.inr (Or.inr (Or.inl ⟨rfl, rfl, _, rfl⟩))) (hb hby d_method_2_code_33) hr)
          subst hE0
          refine ⟨_, _, hrun0, hrun, hended, _, _, rfl, ?_, ⟨_, rfl⟩, hW, hsame.mono (by decide) (by decide)⟩
          show QrmPk Z q n d h0 n0 _ s₁.heap _
          rw [e0]
          exact ⟨(FP.ddiv (FP.l2d n) (FP.i2d d)), rfl, N0, rfl, own_w4 gn gd⟩
        · skip
          have k15 : own_G p e below E0 s₁ (mkF m 36 #[vi q, vj n, ss, vi d] [(.int (4 : Int32)), (.int q)]) := by
            intro tQ kk
            refine k12 tQ ?_
            refine XS.icmpYes X0.here hx rfl (pc0 := 25) (pc' := 34) rfl (hb hby d_method_2_code_25) rfl (own_ic_neY c13) (by decide) (by decide) ?_
            refine XS.iloadN X0.here hx rfl (hb hby d_method_2_code_34) rfl ?_
            refine XS.iconst X0.here hx rfl (hb hby d_method_2_code_35) ?_
            exact kk
          clear k12
          by_cases c16 : q = (4 : Int32)
          · skip
            have k17 : own_G p e below E0 s₁ (mkF m 39 #[vi q, vj n, ss, vi d] []) := by
              intro tQ kk
              refine k15 tQ ?_
              refine XS.icmpNo X0.here hx rfl (hb hby d_method_2_code_36) rfl (own_ic_neN c16) ?_
              exact kk
            clear k15
            have st18 := X0.ldc2DoubleC hx hown (mvT hZ (tw77 hw)) (g := (mkF m 39 #[vi q, vj n, ss, vi d] [])) rfl (hb hby d_method_2_code_39)
            have k19 : own_G p e below E0 s₁ (mkF m 42 #[vi q, vj n, ss, vi d] [(.double (1 : UInt64))]) := fun tQ kk => k17 tQ (st18 _ kk)
            clear k17 st18
            obtain ⟨fs, hr, hrun, hended, hW, hsame⟩ := X0.leave (v := some (.double (1 : UInt64))) (fun h => by rw [Bd.returns] at h; cases h)
            have hrun0 := k19 _ (retOut X0 hx Bd.returns (t := .double) rfl (Or.inr (Or.inr (Or.inl ⟨rfl, rfl, _, rfl⟩))) (hb hby d_method_2_code_42) hr)
            subst hE0
            refine ⟨_, _, hrun0, hrun, hended, _, _, rfl, ?_, ⟨_, rfl⟩, hW, hsame.mono (by decide) (by decide)⟩
            show QrmPk Z q n d h0 n0 _ s₁.heap _
            rw [e0]
            exact ⟨(1 : UInt64), rfl, N0, rfl, own_v4⟩
          · skip
            have k20 : own_G p e below E0 s₁ (mkF m 43 #[vi q, vj n, ss, vi d] []) := by
              intro tQ kk
              refine k15 tQ ?_
              refine XS.icmpYes X0.here hx rfl (pc0 := 36) (pc' := 43) rfl (hb hby d_method_2_code_36) rfl (own_ic_neY c16) (by decide) (by decide) ?_
              exact kk
            clear k15
            have st21 := X0.ldc2DoubleC hx hown (mvT hZ (tw76 hw)) (g := (mkF m 43 #[vi q, vj n, ss, vi d] [])) rfl (hb hby d_method_2_code_43)
            have k22 : own_G p e below E0 s₁ (mkF m 46 #[vi q, vj n, ss, vi d] [(.double (9223372036854775808 : UInt64))]) := fun tQ kk => k20 tQ (st21 _ kk)
            clear k20 st21
            obtain ⟨fs, hr, hrun, hended, hW, hsame⟩ := X0.leave (v := some (.double (9223372036854775808 : UInt64))) (fun h => by rw [Bd.returns] at h; cases h)
            have hrun0 := k22 _ (retOut X0 hx Bd.returns (t := .double) rfl (Or.inr (Or.inr (Or.inl ⟨rfl, rfl, _, rfl⟩))) (hb hby d_method_2_code_46) hr)
            subst hE0
            refine ⟨_, _, hrun0, hrun, hended, _, _, rfl, ?_, ⟨_, rfl⟩, hW, hsame.mono (by decide) (by decide)⟩
            show QrmPk Z q n d h0 n0 _ s₁.heap _
            rw [e0]
            exact ⟨(9223372036854775808 : UInt64), rfl, N0, rfl, own_w5⟩
def QrmCe (Z : State) (k : Int32) (h0 : Heap) (n0 : Nat) (vQ : Option Value) (hQ : Heap) (LQ : List Loc) : Prop := vQ = some (.int (1 : Int32)) ∧ Fr n0 LQ ∧ hQ = h0
theorem ef_rmCe (m : MethodId) (k : Int32) : entryFrame m #[(.int k)] 1 = mkF m 0 #[vi k] [] := by first | (simp [entryFrame, mkF, argsToLocals, Value.category]; done) | rfl
abbrev mn1 : MethodName := ⟨"java/lang/StringLatin1", "canEncode", "(C)Z"⟩
theorem pn_java_lang_StringLatin1 : plainName "java/lang/StringLatin1" = true := by first | (simp [plainName, overriddenIn]; done) | decide +kernel
theorem d_jdk_43_method_3_code_0 : decode jdk_43_method_3_code 0 = .ok (.iload_n 0, 1) := by decide +kernel
theorem d_jdk_43_method_3_code_1 : decode jdk_43_method_3_code 1 = .ok (.sipush 255, 3) := by decide +kernel
theorem d_jdk_43_method_3_code_4 : decode jdk_43_method_3_code 4 = .ok (.if_icmp .gt 7, 3) := by decide +kernel
theorem d_jdk_43_method_3_code_7 : decode jdk_43_method_3_code 7 = .ok (.iconst 1, 1) := by decide +kernel
theorem d_jdk_43_method_3_code_8 : decode jdk_43_method_3_code 8 = .ok (.goto 4, 3) := by decide +kernel
theorem d_jdk_43_method_3_code_12 : decode jdk_43_method_3_code 12 = .ok (.ireturn, 1) := by decide +kernel
set_option maxRecDepth 65536 in
set_option maxHeartbeats 40000000 in
theorem rmCe (l : Launch) (Z : State) (a0 : Array Value) (hw : ∀ d ∈ tables_1, d.before a0 Z = true) (ws : List Jvm.Cond) (k : Int32) (h0 : Heap) (n0 : Nat) (Z0 : n0 ≤ h0.size) (hk : ¬ (255 : Int32) < k) :
    MetFree l mn1 (head1 (Jvm.Cond.code mn1 jdk_43_method_3_code 1 (some .boolean) :: ws) ({ frames := 0, cells := 0, slots := 0, locals := 0 } : Room)) (fun aA U => aA = #[(.int k)] ∧ Z.Warmed39 U.vm ∧ U.heap = h0) (fun _ _ _ _ _ => True) (fun _ U o U' => ∃ vR LR, o = .returned vR ∧ QrmCe Z k h0 n0 vR U'.heap LR ∧ FrameEnd U o U' LR ({ frames := 0, cells := 0, slots := 0, locals := 0 } : Room).cells ({ frames := 0, cells := 0, slots := 0, locals := 0 } : Room).slots) := by
  refine MetFree.of_bodySF (plainFor_of_name pn_java_lang_StringLatin1) hisR ?_
  intro p e s m args below meth c s₁ Bd hml0 hPre hKk
  obtain ⟨rfl, hZ, hh⟩ := hPre
  have hx := Bd.exec
  have hby := Bd.bytes
  skip
  have hml : c.maxLocals = 1 := hml0
  have hown : s.vm.findClass "java/lang/StringLatin1" = some m.cls := findClass_of_methodNamed Bd.named
  have hnm := (name_of_methodNamed Bd.named Bd.method).1
  have X0 : Stand p l e ({ frames := 0, cells := 0, slots := 0, locals := 0 } : Room) s m #[(.int k)] below meth c s₁ [] 0 0 := Stand.of_body Bd
  have e0 : s₁.heap = h0 := by rw [← hh, Bd.state]; rfl
  have N0 := Fr.nil n0
  obtain ⟨E0, hE0⟩ : ∃ zE : State, zE = s₁.setTop (entryFrame m #[(.int k)] 1) := ⟨_, rfl⟩
  have k0 : own_G p e below E0 s₁ (mkF m 0 #[vi k] []) := fun tz kz => hE0 ▸ castTop (ef_rmCe m k) kz
  have k23 : own_G p e below E0 s₁ (mkF m 12 #[vi k] [(.int (1 : Int32))]) := by
    intro tQ kk
    refine k0 tQ ?_
    refine XS.iloadN X0.here hx rfl (hb hby d_jdk_43_method_3_code_0) rfl ?_
    refine XS.sipush X0.here hx rfl (hb hby d_jdk_43_method_3_code_1) ?_
    refine XS.icmpNo X0.here hx rfl (hb hby d_jdk_43_method_3_code_4) rfl (own_ic_gtN hk) ?_
    refine XS.iconst X0.here hx rfl (hb hby d_jdk_43_method_3_code_7) ?_
    show Steps p.tables e below (s₁.setTop (mkF m 8 #[vi k] [(.int (1 : Int32))])) tQ
    refine XS.goto X0.here hx rfl (pc0 := 8) (pc' := 12) rfl (hb hby d_jdk_43_method_3_code_8) (by decide) (by decide) ?_
    exact kk
  clear k0
  obtain ⟨fs, hr, hrun, hended, hW, hsame⟩ := X0.leave (v := some (.int (1 : Int32))) (fun h => by rw [Bd.returns] at h; cases h)
  have hrun0 := k23 _ (retOut X0 hx Bd.returns (t := .boolean) rfl (Or.inl ⟨rfl, Or.inr (Or.inl rfl), _, rfl⟩) (hb hby d_jdk_43_method_3_code_12) hr)
  subst hE0
  refine ⟨_, _, hrun0, hrun, hended, _, _, rfl, ?_, ⟨_, rfl⟩, hW, hsame.mono (by decide) (by decide)⟩
  show QrmCe Z k h0 n0 _ s₁.heap _
  rw [e0]
  exact ⟨rfl, N0, rfl⟩
def QrmTb (Z : State) (k : Int32) (h0 : Heap) (n0 : Nat) (vQ : Option Value) (hQ : Heap) (LQ : List Loc) : Prop := ∃ (r : Addr), vQ = some (.ref r) ∧ Fr n0 LQ ∧ Keep h0 hQ [] ∧ (h0.size ≤ r)
theorem ef_rmTb (m : MethodId) (k : Int32) : entryFrame m #[(.int k)] 1 = mkF m 0 #[vi k] [] := by first | (simp [entryFrame, mkF, argsToLocals, Value.category]; done) | rfl
abbrev mn2 : MethodName := ⟨"java/lang/StringLatin1", "toBytes", "(C)[B"⟩
theorem d_jdk_43_method_46_code_0 : decode jdk_43_method_46_code 0 = .ok (.iconst 1, 1) := by decide +kernel
theorem d_jdk_43_method_46_code_1 : decode jdk_43_method_46_code 1 = .ok (.newarray .byte, 2) := by decide +kernel
def tw22 {Z : State} {a0 : Array Value} (hw : ∀ d ∈ tables_1, d.before a0 Z = true) := hw _ (List.mem_of_getElem? (i := 22) rfl)
theorem d_jdk_43_method_46_code_3 : decode jdk_43_method_46_code 3 = .ok (.dup, 1) := by decide +kernel
theorem d_jdk_43_method_46_code_4 : decode jdk_43_method_46_code 4 = .ok (.iconst 0, 1) := by decide +kernel
theorem d_jdk_43_method_46_code_5 : decode jdk_43_method_46_code 5 = .ok (.iload_n 0, 1) := by decide +kernel
theorem d_jdk_43_method_46_code_6 : decode jdk_43_method_46_code 6 = .ok (.i2b, 1) := by decide +kernel
theorem d_jdk_43_method_46_code_7 : decode jdk_43_method_46_code 7 = .ok (.bastore, 1) := by decide +kernel
theorem d_jdk_43_method_46_code_8 : decode jdk_43_method_46_code 8 = .ok (.areturn, 1) := by decide +kernel
set_option maxRecDepth 65536 in
set_option maxHeartbeats 40000000 in
theorem rmTb (l : Launch) (Z : State) (a0 : Array Value) (hw : ∀ d ∈ tables_1, d.before a0 Z = true) (ws : List Jvm.Cond) (k : Int32) (h0 : Heap) (n0 : Nat) (Z0 : n0 ≤ h0.size)  :
    MetFree l mn2 (head1 (Jvm.Cond.code mn2 jdk_43_method_46_code 1 (some (.array .byte)) :: ws) ({ frames := 0, cells := 1, slots := 1, locals := 0 } : Room)) (fun aA U => aA = #[(.int k)] ∧ Z.Warmed39 U.vm ∧ U.heap = h0) (fun _ _ _ _ _ => True) (fun _ U o U' => ∃ vR LR, o = .returned vR ∧ QrmTb Z k h0 n0 vR U'.heap LR ∧ FrameEnd U o U' LR ({ frames := 0, cells := 1, slots := 1, locals := 0 } : Room).cells ({ frames := 0, cells := 1, slots := 1, locals := 0 } : Room).slots) := by
  refine MetFree.of_bodySF (plainFor_of_name pn_java_lang_StringLatin1) hisR ?_
  intro p e s m args below meth c s₁ Bd hml0 hPre hKk
  obtain ⟨rfl, hZ, hh⟩ := hPre
  have hx := Bd.exec
  have hby := Bd.bytes
  skip
  have hml : c.maxLocals = 1 := hml0
  have hown : s.vm.findClass "java/lang/StringLatin1" = some m.cls := findClass_of_methodNamed Bd.named
  have hnm := (name_of_methodNamed Bd.named Bd.method).1
  have X0 : Stand p l e ({ frames := 0, cells := 1, slots := 1, locals := 0 } : Room) s m #[(.int k)] below meth c s₁ [] 0 0 := Stand.of_body Bd
  have e0 : s₁.heap = h0 := by rw [← hh, Bd.state]; rfl
  have N0 := Fr.nil n0
  obtain ⟨E0, hE0⟩ : ∃ zE : State, zE = s₁.setTop (entryFrame m #[(.int k)] 1) := ⟨_, rfl⟩
  have k0 : own_G p e below E0 s₁ (mkF m 0 #[vi k] []) := fun tz kz => hE0 ▸ castTop (ef_rmTb m k) kz
  have K0 : Keep h0 h0 [] := Keep.refl _ _
  have k24 : own_G p e below E0 s₁ (mkF m 1 #[vi k] [(.int (1 : Int32))]) := by
    intro tQ kk
    refine k0 tQ ?_
    refine XS.iconst X0.here hx rfl (hb hby d_jdk_43_method_46_code_0) ?_
    exact kk
  clear k0
  obtain ⟨T25, h26, cA27, X28, e29, E30, A31, st32⟩ := newP (aty := .byte) X0 hx hZ (tw22 hw) e0 (g := (mkF m 1 #[vi k] [(.int (1 : Int32))])) rfl (hb hby d_jdk_43_method_46_code_1) rfl (by decide) (cap := 1) (by decide) (by decide) (by decide) (by decide)
  obtain ⟨a33, g34⟩ : ∃ zA : Nat, zA = h0.size := ⟨_, rfl⟩
  rw [← g34] at A31 st32
  have nw35 : h0.size ≤ a33 := own_ge_of K0.1 g34
  have ge36 : n0 ≤ a33 := own_ge_of Z0 g34
  have Z37 : n0 ≤ h26.size := Nat.le_trans Z0 E30.1
  have K38 : Keep h0 h26 [] := K0.ext E30
  have F39 : own_A Z h26 a33 .byte [(.int (0 : Int32))] := own_A.new A31
  have k40 : own_G p e below E0 T25 (mkF m 3 #[vi k] [(.ref a33)]) := fun tQ kk => k24 tQ (st32 _ kk)
  clear k24 st32
  have k41 : own_G p e below E0 T25 (mkF m 7 #[vi k] [(.int (k.toInt8.toInt32)), (.int (0 : Int32)), (.ref a33), (.ref a33)]) := by
    intro tQ kk
    refine k40 tQ ?_
    refine XS.dup X28.here hx rfl (hb hby d_jdk_43_method_46_code_3) rfl rfl ?_
    refine XS.iconst X28.here hx rfl (hb hby d_jdk_43_method_46_code_4) ?_
    refine XS.iloadN X28.here hx rfl (hb hby d_jdk_43_method_46_code_5) rfl ?_
    refine XT.i2b X28.here hx rfl (hb hby d_jdk_43_method_46_code_6) rfl ?_
    exact kk
  clear k40
  obtain ⟨T42, h43, X44, e45, W46, F47, st48⟩ := own_A.bst X28 hx hZ e29 F39 (j := (0 : Int32)) (by decide) rfl (g := (mkF m 7 #[vi k] [(.int (k.toInt8.toInt32)), (.int (0 : Int32)), (.ref a33), (.ref a33)])) rfl rfl (hb hby d_jdk_43_method_46_code_7)
  have N49 := Fr.snoc X44 N0 ge36
  have k50 : own_G p e below E0 T42 (mkF m 8 #[vi k] [(.ref a33)]) := fun tQ kk => k41 tQ (st48 _ kk)
  clear k41 st48
  have Z51 : n0 ≤ h43.size := by rw [W46.size]; exact Z37
  clear Z37
  have K52 : Keep h0 h43 [] := K38.wr W46 (Or.inr nw35)
  clear K38
  have F53 : own_A Z h43 a33 .byte [(.int (nar .byte (k.toInt8.toInt32)))] := F47
  obtain ⟨fs, hr, hrun, hended, hW, hsame⟩ := X44.leave (v := some (.ref a33)) (fun h => by rw [Bd.returns] at h; cases h)
  have hrun0 := k50 _ (retOut X44 hx Bd.returns (t := (.array .byte)) rfl (Or.inr (Or.inr (Or.inr (Or.inr ⟨rfl, rfl, rfl⟩)))) (hb hby d_jdk_43_method_46_code_8) hr)
  subst hE0
  refine ⟨_, _, hrun0, hrun, hended, _, _, rfl, ?_, ⟨_, rfl⟩, hW, hsame.mono (by decide) (by decide)⟩
  show QrmTb Z k h0 n0 _ T42.heap _
  rw [e45]
  exact ⟨a33, rfl, N49, K52, nw35⟩
def QrmSi (Z : State) (a : Addr) (b : Addr) (h0 : Heap) (n0 : Nat) (vQ : Option Value) (hQ : Heap) (LQ : List Loc) : Prop := vQ = none ∧ Fr n0 LQ ∧ Keep h0 hQ [a]
theorem ef_rmSi (m : MethodId) (a : Addr) (b : Addr) : entryFrame m #[(.ref a), (.ref b), (.int (0 : Int32))] 3 = mkF m 0 #[vr a, vr b, vi (0 : Int32)] [] := by first | (simp [entryFrame, mkF, argsToLocals, Value.category]; done) | rfl
abbrev xa3 (Z : State) (h : Heap) (a : Addr) : Prop := Exa Z h a "java/lang/String"
abbrev fd4 (Z : State) (h : Heap) (a : Addr) (v : Value) : Prop := Fld Z h a "java/lang/String" "value" "[B" v
abbrev fd5 (Z : State) (h : Heap) (a : Addr) (v : Value) : Prop := Fld Z h a "java/lang/String" "coder" "B" v
abbrev mn6 : MethodName := ⟨"java/lang/String", "<init>", "([BB)V"⟩
theorem pn_java_lang_String : plainName "java/lang/String" = true := by first | (simp [plainName, overriddenIn]; done) | decide +kernel
theorem d_jdk_42_method_151_code_0 : decode jdk_42_method_151_code 0 = .ok (.aload_n 0, 1) := by decide +kernel
theorem d_jdk_42_method_151_code_1 : decode jdk_42_method_151_code 1 = .ok (.invokespecial 1, 3) := by decide +kernel
def tw27 {Z : State} {a0 : Array Value} (hw : ∀ d ∈ tables_1, d.before a0 Z = true) := hw _ (List.mem_of_getElem? (i := 27) rfl)
def tw28 {Z : State} {a0 : Array Value} (hw : ∀ d ∈ tables_1, d.before a0 Z = true) := hw _ (List.mem_of_getElem? (i := 28) rfl)
def tw29 {Z : State} {a0 : Array Value} (hw : ∀ d ∈ tables_1, d.before a0 Z = true) := hw _ (List.mem_of_getElem? (i := 29) rfl)
theorem d_jdk_42_method_151_code_4 : decode jdk_42_method_151_code 4 = .ok (.aload_n 0, 1) := by decide +kernel
theorem d_jdk_42_method_151_code_5 : decode jdk_42_method_151_code 5 = .ok (.aload_n 1, 1) := by decide +kernel
theorem d_jdk_42_method_151_code_6 : decode jdk_42_method_151_code 6 = .ok (.putfield 9, 3) := by decide +kernel
def tw30 {Z : State} {a0 : Array Value} (hw : ∀ d ∈ tables_1, d.before a0 Z = true) := hw _ (List.mem_of_getElem? (i := 30) rfl)
def tw18 {Z : State} {a0 : Array Value} (hw : ∀ d ∈ tables_1, d.before a0 Z = true) := hw _ (List.mem_of_getElem? (i := 18) rfl)
def tw31 {Z : State} {a0 : Array Value} (hw : ∀ d ∈ tables_1, d.before a0 Z = true) := hw _ (List.mem_of_getElem? (i := 31) rfl)
def tw33 {Z : State} {a0 : Array Value} (hw : ∀ d ∈ tables_1, d.before a0 Z = true) := hw _ (List.mem_of_getElem? (i := 33) rfl)
theorem d_jdk_42_method_151_code_9 : decode jdk_42_method_151_code 9 = .ok (.aload_n 0, 1) := by decide +kernel
theorem d_jdk_42_method_151_code_10 : decode jdk_42_method_151_code 10 = .ok (.iload_n 2, 1) := by decide +kernel
theorem d_jdk_42_method_151_code_11 : decode jdk_42_method_151_code 11 = .ok (.putfield 15, 3) := by decide +kernel
def tw32 {Z : State} {a0 : Array Value} (hw : ∀ d ∈ tables_1, d.before a0 Z = true) := hw _ (List.mem_of_getElem? (i := 32) rfl)
theorem d_jdk_42_method_151_code_14 : decode jdk_42_method_151_code 14 = .ok (.return_, 1) := by decide +kernel
set_option maxRecDepth 65536 in
set_option maxHeartbeats 40000000 in
theorem rmSi (l : Launch) (Z : State) (a0 : Array Value) (hw : ∀ d ∈ tables_1, d.before a0 Z = true) (ws : List Jvm.Cond) (a : Addr) (b : Addr) (h0 : Heap) (n0 : Nat) (Z0 : n0 ≤ h0.size) (E1 : xa3 Z h0 a) (F1 : fd4 Z h0 a .null) (F2 : fd5 Z h0 a (.int (0 : Int32))) (ge_a : n0 ≤ a) :
    MetFree l mn6 (head1 (Jvm.Cond.code mn6 jdk_42_method_151_code 3 none :: ws) ({ frames := 1, cells := 0, slots := 0, locals := 12 } : Room)) (fun aA U => aA = #[(.ref a), (.ref b), (.int (0 : Int32))] ∧ Z.Warmed39 U.vm ∧ U.heap = h0) (fun _ _ _ _ _ => True) (fun _ U o U' => ∃ vR LR, o = .returned vR ∧ QrmSi Z a b h0 n0 vR U'.heap LR ∧ FrameEnd U o U' LR ({ frames := 1, cells := 0, slots := 0, locals := 12 } : Room).cells ({ frames := 1, cells := 0, slots := 0, locals := 12 } : Room).slots) := by
  refine MetFree.of_bodySF (plainFor_of_name pn_java_lang_String) hisR ?_
  intro p e s m args below meth c s₁ Bd hml0 hPre hKk
  obtain ⟨rfl, hZ, hh⟩ := hPre
  have hx := Bd.exec
  have hby := Bd.bytes
  skip
  have hml : c.maxLocals = 3 := hml0
  have hown : s.vm.findClass "java/lang/String" = some m.cls := findClass_of_methodNamed Bd.named
  have hnm := (name_of_methodNamed Bd.named Bd.method).1
  have X0 : Stand p l e ({ frames := 1, cells := 0, slots := 0, locals := 12 } : Room) s m #[(.ref a), (.ref b), (.int (0 : Int32))] below meth c s₁ [] 0 0 := Stand.of_body Bd
  have e0 : s₁.heap = h0 := by rw [← hh, Bd.state]; rfl
  have N0 := Fr.nil n0
  obtain ⟨E0, hE0⟩ : ∃ zE : State, zE = s₁.setTop (entryFrame m #[(.ref a), (.ref b), (.int (0 : Int32))] 3) := ⟨_, rfl⟩
  have k0 : own_G p e below E0 s₁ (mkF m 0 #[vr a, vr b, vi (0 : Int32)] []) := fun tz kz => hE0 ▸ castTop (ef_rmSi m a b) kz
  have K0 : Keep h0 h0 [a] := Keep.refl _ _
  have k54 : own_G p e below E0 s₁ (mkF m 1 #[vr a, vr b, vi (0 : Int32)] [(.ref a)]) := by
    intro tQ kk
    refine k0 tQ ?_
    refine XS.aloadN X0.here hx rfl (hb hby d_jdk_42_method_151_code_0) rfl rfl ?_
    exact kk
  clear k0
  obtain ⟨T55, X56, e57, st58⟩ := initO X0 hx hZ hown (tw27 hw) (tw28 hw) (tw29 hw) e0 (g := (mkF m 1 #[vr a, vr b, vi (0 : Int32)] [(.ref a)])) rfl (by rw [hml]; rfl) rfl (hb hby d_jdk_42_method_151_code_1) (by decide) (W := 0) (by show 2 * 0 + _ ≤ _; exact Nat.le_of_eq rfl) (by decide)
  have k59 : own_G p e below E0 T55 (mkF m 4 #[vr a, vr b, vi (0 : Int32)] []) := fun tQ kk => k54 tQ (st58 _ kk)
  clear k54 st58
  have k60 : own_G p e below E0 T55 (mkF m 6 #[vr a, vr b, vi (0 : Int32)] [(.ref b), (.ref a)]) := by
    intro tQ kk
    refine k59 tQ ?_
    refine XS.aloadN X56.here hx rfl (hb hby d_jdk_42_method_151_code_4) rfl rfl ?_
    refine XS.aloadN X56.here hx rfl (hb hby d_jdk_42_method_151_code_5) rfl rfl ?_
    exact kk
  clear k59
  obtain ⟨T61, h62, X63, e64, W65, st66⟩ := putF X56 hx hZ hown (host := "") (Or.inl (tw30 hw)) Via.refl e57 F1 E1 (Or.inr ⟨(tw31 hw), rfl, hnm⟩) (tw18 hw) (ty := (.array .byte)) (by decide) rfl rfl (g := (mkF m 6 #[vr a, vr b, vi (0 : Int32)] [(.ref b), (.ref a)])) rfl rfl (hb hby d_jdk_42_method_151_code_6)
  have N67 := Fr.snoc X63 N0 ge_a
  have k68 : own_G p e below E0 T61 (mkF m 9 #[vr a, vr b, vi (0 : Int32)] []) := fun tQ kk => k60 tQ (st66 _ kk)
  clear k60 st66
  have F69 : xa3 Z h62 a := E1.wr W65
  clear E1
  have F70 : fd4 Z h62 a (.ref b) := F1.same W65
  clear F1
  have F71 : fd5 Z h62 a (.int (0 : Int32)) := F2.other W65 (Or.inr (slot_ne (C := "java/lang/String") (Or.inr (tw33 hw)) (Or.inr (tw31 hw)) (by decide) (t := .byte) (t' := (.array .byte)) (by decide) (by decide)))
  clear F2
  have Z72 : n0 ≤ h62.size := by rw [W65.size]; exact Z0
  have K73 : Keep h0 h62 [a] := K0.wr W65 (Or.inl (List.mem_of_getElem? (i := 0) rfl))
  have k74 : own_G p e below E0 T61 (mkF m 11 #[vr a, vr b, vi (0 : Int32)] [(.int (0 : Int32)), (.ref a)]) := by
    intro tQ kk
    refine k68 tQ ?_
    refine XS.aloadN X63.here hx rfl (hb hby d_jdk_42_method_151_code_9) rfl rfl ?_
    refine XS.iloadN X63.here hx rfl (hb hby d_jdk_42_method_151_code_10) rfl ?_
    exact kk
  clear k68
  obtain ⟨T75, h76, X77, e78, W79, st80⟩ := putF X63 hx hZ hown (host := "") (Or.inl (tw32 hw)) Via.refl e64 F71 F69 (Or.inr ⟨(tw33 hw), rfl, hnm⟩) (tw18 hw) (ty := .byte) (by decide) rfl rfl (g := (mkF m 11 #[vr a, vr b, vi (0 : Int32)] [(.int (0 : Int32)), (.ref a)])) rfl rfl (hb hby d_jdk_42_method_151_code_11)
  have N81 := Fr.snoc X77 N67 ge_a
  have k82 : own_G p e below E0 T75 (mkF m 14 #[vr a, vr b, vi (0 : Int32)] []) := fun tQ kk => k74 tQ (st80 _ kk)
  clear k74 st80
  have F83 : xa3 Z h76 a := F69.wr W79
  clear F69
  have F84 : fd4 Z h76 a (.ref b) := F70.other W79 (Or.inr (slot_ne (C := "java/lang/String") (Or.inr (tw31 hw)) (Or.inr (tw33 hw)) (by decide) (t := (.array .byte)) (t' := .byte) (by decide) (by decide)))
  clear F70
  have F85 : fd5 Z h76 a (.int (0 : Int32)) := F71.same W79
  clear F71
  have Z86 : n0 ≤ h76.size := by rw [W79.size]; exact Z72
  clear Z72
  have K87 : Keep h0 h76 [a] := K73.wr W79 (Or.inl (List.mem_of_getElem? (i := 0) rfl))
  clear K73
  obtain ⟨fs, hr, hrun, hended, hW, hsame⟩ := X77.leave (v := none) (fun _ => rfl)
  have hrun0 := k82 _ (X77.returnOut hx Bd.returns (hb hby d_jdk_42_method_151_code_14) hr)
  subst hE0
  refine ⟨_, _, hrun0, hrun, hended, _, _, rfl, ?_, ⟨_, rfl⟩, hW, hsame.mono (by decide) (by decide)⟩
  show QrmSi Z a b h0 n0 _ T75.heap _
  rw [e78]
  exact ⟨rfl, N81, K87⟩
def QrmVo (Z : State) (k : Int32) (G1 : Int32) (h0 : Heap) (n0 : Nat) (vQ : Option Value) (hQ : Heap) (LQ : List Loc) : Prop := ∃ (r : Addr), vQ = some (.ref r) ∧ Fr n0 LQ ∧ Keep h0 hQ [] ∧ (h0.size ≤ r)
theorem ef_rmVo (m : MethodId) (k : Int32) (G1 : Int32) : entryFrame m #[(.int k)] 1 = mkF m 0 #[vi k] [] := by first | (simp [entryFrame, mkF, argsToLocals, Value.category]; done) | rfl
abbrev mn7 : MethodName := ⟨"java/lang/String", "valueOf", "(C)Ljava/lang/String;"⟩
theorem d_jdk_42_method_139_code_0 : decode jdk_42_method_139_code 0 = .ok (.getstatic 38, 3) := by decide +kernel
def tw12 {Z : State} {a0 : Array Value} (hw : ∀ d ∈ tables_1, d.before a0 Z = true) := hw _ (List.mem_of_getElem? (i := 12) rfl)
theorem d_jdk_42_method_139_code_3 : decode jdk_42_method_139_code 3 = .ok (.ifCond .eq 23, 3) := by decide +kernel
theorem d_jdk_42_method_139_code_6 : decode jdk_42_method_139_code 6 = .ok (.iload_n 0, 1) := by decide +kernel
theorem d_jdk_42_method_139_code_7 : decode jdk_42_method_139_code 7 = .ok (.invokestatic 1015, 3) := by decide +kernel
def tw13 {Z : State} {a0 : Array Value} (hw : ∀ d ∈ tables_1, d.before a0 Z = true) := hw _ (List.mem_of_getElem? (i := 13) rfl)
def tw16 {Z : State} {a0 : Array Value} (hw : ∀ d ∈ tables_1, d.before a0 Z = true) := hw _ (List.mem_of_getElem? (i := 16) rfl)
def tw15 {Z : State} {a0 : Array Value} (hw : ∀ d ∈ tables_1, d.before a0 Z = true) := hw _ (List.mem_of_getElem? (i := 15) rfl)
theorem pd_8 : parseMethodDescriptor "(C)Z" = some ⟨[.char], some .boolean⟩ := by decide +kernel
def tw14 {Z : State} {a0 : Array Value} (hw : ∀ d ∈ tables_1, d.before a0 Z = true) := hw _ (List.mem_of_getElem? (i := 14) rfl)
theorem d_jdk_42_method_139_code_10 : decode jdk_42_method_139_code 10 = .ok (.ifCond .eq 16, 3) := by decide +kernel
theorem d_jdk_42_method_139_code_13 : decode jdk_42_method_139_code 13 = .ok (.new 10, 3) := by decide +kernel
def tw17 {Z : State} {a0 : Array Value} (hw : ∀ d ∈ tables_1, d.before a0 Z = true) := hw _ (List.mem_of_getElem? (i := 17) rfl)
def tw10 {Z : State} {a0 : Array Value} (hw : ∀ d ∈ tables_1, d.before a0 Z = true) := hw _ (List.mem_of_getElem? (i := 10) rfl)
theorem d_jdk_42_method_139_code_16 : decode jdk_42_method_139_code 16 = .ok (.dup, 1) := by decide +kernel
theorem d_jdk_42_method_139_code_17 : decode jdk_42_method_139_code 17 = .ok (.iload_n 0, 1) := by decide +kernel
theorem d_jdk_42_method_139_code_18 : decode jdk_42_method_139_code 18 = .ok (.invokestatic 1018, 3) := by decide +kernel
def tw19 {Z : State} {a0 : Array Value} (hw : ∀ d ∈ tables_1, d.before a0 Z = true) := hw _ (List.mem_of_getElem? (i := 19) rfl)
def tw21 {Z : State} {a0 : Array Value} (hw : ∀ d ∈ tables_1, d.before a0 Z = true) := hw _ (List.mem_of_getElem? (i := 21) rfl)
theorem pd_9 : parseMethodDescriptor "(C)[B" = some ⟨[.char], some (.array .byte)⟩ := by decide +kernel
def tw20 {Z : State} {a0 : Array Value} (hw : ∀ d ∈ tables_1, d.before a0 Z = true) := hw _ (List.mem_of_getElem? (i := 20) rfl)
theorem d_jdk_42_method_139_code_21 : decode jdk_42_method_139_code 21 = .ok (.iconst 0, 1) := by decide +kernel
theorem d_jdk_42_method_139_code_22 : decode jdk_42_method_139_code 22 = .ok (.invokespecial 209, 3) := by decide +kernel
def tw23 {Z : State} {a0 : Array Value} (hw : ∀ d ∈ tables_1, d.before a0 Z = true) := hw _ (List.mem_of_getElem? (i := 23) rfl)
def tw26 {Z : State} {a0 : Array Value} (hw : ∀ d ∈ tables_1, d.before a0 Z = true) := hw _ (List.mem_of_getElem? (i := 26) rfl)
theorem pd_10 : parseMethodDescriptor "([BB)V" = some ⟨[(.array .byte), .byte], none⟩ := by decide +kernel
def tw24 {Z : State} {a0 : Array Value} (hw : ∀ d ∈ tables_1, d.before a0 Z = true) := hw _ (List.mem_of_getElem? (i := 24) rfl)
theorem d_jdk_42_method_139_code_25 : decode jdk_42_method_139_code 25 = .ok (.areturn, 1) := by decide +kernel
set_option maxRecDepth 65536 in
set_option maxHeartbeats 40000000 in
theorem rmVo (l : Launch) (Z : State) (a0 : Array Value) (hw : ∀ d ∈ tables_1, d.before a0 Z = true) (ws : List Jvm.Cond) (k : Int32) (G1 : Int32) (h0 : Heap) (n0 : Nat) (Z0 : n0 ≤ h0.size) (FS : Sta Z h0 "java/lang/String" "COMPACT_STRINGS" "Z" (.int G1)) (hG : ¬ G1 = 0) (hk : ¬ (255 : Int32) < k) :
    MetFree l mn7 (head1 (Jvm.Cond.code mn7 jdk_42_method_139_code 1 (some (.object "java/lang/String")) :: ws) ({ frames := 2, cells := 2, slots := 5, locals := 30 } : Room)) (fun aA U => aA = #[(.int k)] ∧ Z.Warmed39 U.vm ∧ U.heap = h0) (fun _ _ _ _ _ => True) (fun _ U o U' => ∃ vR LR, o = .returned vR ∧ QrmVo Z k G1 h0 n0 vR U'.heap LR ∧ FrameEnd U o U' LR ({ frames := 2, cells := 2, slots := 5, locals := 30 } : Room).cells ({ frames := 2, cells := 2, slots := 5, locals := 30 } : Room).slots) := by
  refine MetFree.of_bodySF (plainFor_of_name pn_java_lang_String) hisR ?_
  intro p e s m args below meth c s₁ Bd hml0 hPre hKk
  obtain ⟨rfl, hZ, hh⟩ := hPre
  have hx := Bd.exec
  have hby := Bd.bytes
  skip
  have hml : c.maxLocals = 1 := hml0
  have hown : s.vm.findClass "java/lang/String" = some m.cls := findClass_of_methodNamed Bd.named
  have hnm := (name_of_methodNamed Bd.named Bd.method).1
  have X0 : Stand p l e ({ frames := 2, cells := 2, slots := 5, locals := 30 } : Room) s m #[(.int k)] below meth c s₁ [] 0 0 := Stand.of_body Bd
  have e0 : s₁.heap = h0 := by rw [← hh, Bd.state]; rfl
  have N0 := Fr.nil n0
  obtain ⟨E0, hE0⟩ : ∃ zE : State, zE = s₁.setTop (entryFrame m #[(.int k)] 1) := ⟨_, rfl⟩
  have k0 : own_G p e below E0 s₁ (mkF m 0 #[vi k] []) := fun tz kz => hE0 ▸ castTop (ef_rmVo m k G1) kz
  have K0 : Keep h0 h0 [] := Keep.refl _ _
  obtain ⟨T88, X89, e90, st91⟩ := getS X0 hx hZ hown (host := "") (tw12 hw) Via.refl e0 FS (g := (mkF m 0 #[vi k] [])) rfl (hb hby d_jdk_42_method_139_code_0)
  have k92 : own_G p e below E0 T88 (mkF m 3 #[vi k] [(.int G1)]) := fun tQ kk => k0 tQ (st91 _ kk)
  clear k0 st91
  have k93 : own_G p e below E0 T88 (mkF m 7 #[vi k] [(.int k)]) := by
    intro tQ kk
    refine k92 tQ ?_
    refine XS.ifNo X89.here hx rfl (hb hby d_jdk_42_method_139_code_3) rfl (own_if_eqN hG) ?_
    refine XS.iloadN X89.here hx rfl (hb hby d_jdk_42_method_139_code_6) rfl ?_
    exact kk
  clear k92
  obtain ⟨_, _, ⟨T94, L95, kc96, nc97⟩, -, X98, ⟨Lc99, hQ100, l101, y102, z103⟩, st104⟩ := Jvm.LawKit.callS X89 hx (y := mn1) hown (mvT hZ (tw13 hw)) (mvT hZ (tw14 hw)) (mvT hZ (tw15 hw)) (mvT hZ (tw16 hw)) (by decide) (backOf (W := 0) (rmCe l Z a0 hw [] k h0 n0 Z0 hk) hZ (tw16 hw) (tw15 hw) (by decide) (by decide)) (g := (mkF m 7 #[vi k] [(.int k)])) rfl (by rw [hml]; rfl) (argsL := [(.int k)]) (rest := []) (lenOf pd_8 rfl) rfl (by show 2 * 0 + _ ≤ _; exact Nat.le_of_eq rfl) (hb hby d_jdk_42_method_139_code_7) (fun _ _ => ⟨rfl, e90, (by decide : 0 + 0 ≤ _), (by decide : 0 + 0 ≤ _)⟩)
  dsimp only [Pt.U, Pt.locs, Pt.cells, Pt.slots] at X98 l101 y102 z103 st104 hQ100
  subst y102 z103
  obtain ⟨rfl, N105, e106⟩ := hQ100
  have N108 : Fr n0 L95 := by rw [l101]; exact Fr.app N0 N105
  clear l101 N105
  have k109 : own_G p e below E0 T94 (mkF m 10 #[vi k] [(.int (1 : Int32))]) := fun tQ kk => k93 tQ (st104 _ kk)
  clear k93 st104
  have k110 : own_G p e below E0 T94 (mkF m 13 #[vi k] []) := by
    intro tQ kk
    refine k109 tQ ?_
    refine XS.ifNo X98.here hx rfl (hb hby d_jdk_42_method_139_code_10) rfl (own_if_eqN (by decide)) ?_
    exact kk
  clear k109
  obtain ⟨T111, h112, X113, e114, E115, A116, D117, -, st118⟩ := newO X98 hx hZ hown (tw17 hw) (tw18 hw) (tw10 hw) e106 (g := (mkF m 13 #[vi k] [])) rfl (hb hby d_jdk_42_method_139_code_13) (by decide) (by decide)
  obtain ⟨a119, g120⟩ : ∃ zA : Nat, zA = h0.size := ⟨_, rfl⟩
  rw [← g120] at A116 D117 st118
  have nw121 : h0.size ≤ a119 := own_ge_of K0.1 g120
  have ge122 : n0 ≤ a119 := own_ge_of Z0 g120
  have Z123 : n0 ≤ h112.size := Nat.le_trans Z0 E115.1
  have F124 : Sta Z h112 "java/lang/String" "COMPACT_STRINGS" "Z" (.int G1) := FS.ext E115
  clear FS
  have K125 : Keep h0 h112 [] := K0.ext E115
  have F126 : Fld Z h112 a119 "java/lang/String" "value" "[B" .null := (D117 (Or.inr (tw31 hw)) (ty := (.array .byte)) (by decide))
  have F127 : Fld Z h112 a119 "java/lang/String" "coder" "B" (.int (0 : Int32)) := (D117 (Or.inr (tw33 hw)) (ty := .byte) (by decide))
  have k128 : own_G p e below E0 T111 (mkF m 16 #[vi k] [(.ref a119)]) := fun tQ kk => k110 tQ (st118 _ kk)
  clear k110 st118
  have k129 : own_G p e below E0 T111 (mkF m 18 #[vi k] [(.int k), (.ref a119), (.ref a119)]) := by
    intro tQ kk
    refine k128 tQ ?_
    refine XS.dup X113.here hx rfl (hb hby d_jdk_42_method_139_code_16) rfl rfl ?_
    refine XS.iloadN X113.here hx rfl (hb hby d_jdk_42_method_139_code_17) rfl ?_
    exact kk
  clear k128
  obtain ⟨_, _, ⟨T130, L131, kc132, nc133⟩, -, X134, ⟨Lc135, hQ136, l137, y138, z139⟩, st140⟩ := Jvm.LawKit.callS X113 hx (y := mn2) hown (mvT hZ (tw19 hw)) (mvT hZ (tw20 hw)) (mvT hZ (tw15 hw)) (mvT hZ (tw21 hw)) (by decide) (backOf (W := 2) (rmTb l Z a0 hw [] k h112 n0 Z123 ) hZ (tw21 hw) (tw15 hw) (by decide) (by decide)) (g := (mkF m 18 #[vi k] [(.int k), (.ref a119), (.ref a119)])) rfl (by rw [hml]; rfl) (argsL := [(.int k)]) (rest := [(.ref a119), (.ref a119)]) (lenOf pd_9 rfl) rfl (by show 2 * 0 + _ ≤ _; exact Nat.le_of_eq rfl) (hb hby d_jdk_42_method_139_code_18) (fun _ _ => ⟨rfl, e114, (by decide : 1 + 1 ≤ _), (by decide : 4 + 1 ≤ _)⟩)
  dsimp only [Pt.U, Pt.locs, Pt.cells, Pt.slots] at X134 l137 y138 z139 st140 hQ136
  subst y138 z139
  obtain ⟨r144, rfl, N141, K145, nw146⟩ := hQ136
  have N147 : Fr n0 L131 := by rw [l137]; exact Fr.app N108 N141
  clear l137 N141
  have ge148 : n0 ≤ r144 := Nat.le_trans Z123 nw146
  have nw149 : h0.size ≤ r144 := Nat.le_trans K125.1 nw146
  have n150 : a119 ≠ r144 := own_lt_ne2 A116.lt nw146
  have Z151 : n0 ≤ T130.heap.size := Nat.le_trans Z123 K145.1
  clear Z123
  have F152 : xa3 Z T130.heap a119 := A116.keep K145
  clear A116
  have F153 : fd4 Z T130.heap a119 .null := F126.keep K145 nin0
  clear F126
  have F154 : fd5 Z T130.heap a119 (.int (0 : Int32)) := F127.keep K145 nin0
  clear F127
  have K155 : Keep h0 T130.heap [] := K125.trans K145 all0
  clear K125
  have k156 : own_G p e below E0 T130 (mkF m 21 #[vi k] [(.ref r144), (.ref a119), (.ref a119)]) := fun tQ kk => k129 tQ (st140 _ kk)
  clear k129 st140
  have k157 : own_G p e below E0 T130 (mkF m 22 #[vi k] [(.int (0 : Int32)), (.ref r144), (.ref a119), (.ref a119)]) := by
    intro tQ kk
    refine k156 tQ ?_
    refine XS.iconst X134.here hx rfl (hb hby d_jdk_42_method_139_code_21) ?_
    exact kk
  clear k156
  obtain ⟨_, _, ⟨T158, L159, kc160, nc161⟩, -, X162, ⟨Lc163, hQ164, l165, y166, z167⟩, st168⟩ := X134.specialBack hx (y := mn6) rfl hown (mvT hZ (tw23 hw)) (mvT hZ (tw24 hw)) (mvT hZ (tw26 hw)) (by decide) (backOf (W := 1) (rmSi l Z a0 hw [] a119 r144 T130.heap n0 Z151 F152 F153 F154 ge122) hZ (tw26 hw) (tw10 hw) (by decide) (by decide)) (g := (mkF m 22 #[vi k] [(.int (0 : Int32)), (.ref r144), (.ref a119), (.ref a119)])) rfl (by rw [hml]; rfl) (Steps.refl _) (a := a119) (argsL := [(.ref r144), (.int (0 : Int32))]) (rest := [(.ref a119)]) (lenOf pd_10 rfl) rfl (by show 2 * 0 + _ ≤ _; exact Nat.le_of_eq rfl) (hb hby d_jdk_42_method_139_code_22) (fun _ _ => ⟨rfl, rfl, (by decide : 2 + 0 ≤ _), (by decide : 5 + 0 ≤ _)⟩)
  dsimp only [Pt.U, Pt.locs, Pt.cells, Pt.slots] at X162 l165 y166 z167 st168 hQ164
  subst y166 z167
  obtain ⟨rfl, N169, K172⟩ := hQ164
  have N173 : Fr n0 L159 := by rw [l165]; exact Fr.app N147 N169
  clear l165 N169
  have Z174 : n0 ≤ T158.heap.size := Nat.le_trans Z151 K172.1
  clear Z151
  have F175 : xa3 Z T158.heap a119 := F152.keep K172
  clear F152
  clear F153
  clear F154
  have K176 : Keep h0 T158.heap [] := K155.trans K172 (allS (Or.inr nw121) all0)
  clear K155
  have k177 : own_G p e below E0 T158 (mkF m 25 #[vi k] [(.ref a119)]) := fun tQ kk => k157 tQ (st168.trans kk)
  clear k157 st168
  obtain ⟨fs, hr, hrun, hended, hW, hsame⟩ := X162.leave (v := some (.ref a119)) (fun h => by rw [Bd.returns] at h; cases h)
  have hrun0 := k177 _ (retOut X162 hx Bd.returns (t := (.object "java/lang/String")) rfl (Or.inr (Or.inr (Or.inr (Or.inr ⟨rfl, rfl, rfl⟩)))) (hb hby d_jdk_42_method_139_code_25) hr)
  subst hE0
  refine ⟨_, _, hrun0, hrun, hended, _, _, rfl, ?_, ⟨_, rfl⟩, hW, hsame.mono (by decide) (by decide)⟩
  show QrmVo Z k G1 h0 n0 _ T158.heap _
  exact ⟨a119, rfl, N173, K176, nw121⟩
abbrev fd11 (Z : State) (h : Heap) (a : Addr) (v : Value) : Prop := Fld Z h a "rootzone/Bound" "least" "D" v
abbrev fd12 (Z : State) (h : Heap) (a : Addr) (v : Value) : Prop := Fld Z h a "rootzone/Bound" "leastIncluded" "Z" v
abbrev fd13 (Z : State) (h : Heap) (a : Addr) (v : Value) : Prop := Fld Z h a "rootzone/Bound" "below" "Ljava/lang/String;" v
abbrev fd14 (Z : State) (h : Heap) (a : Addr) (v : Value) : Prop := Fld Z h a "rootzone/Bound" "most" "D" v
abbrev fd15 (Z : State) (h : Heap) (a : Addr) (v : Value) : Prop := Fld Z h a "rootzone/Bound" "mostIncluded" "Z" v
abbrev fd16 (Z : State) (h : Heap) (a : Addr) (v : Value) : Prop := Fld Z h a "rootzone/Bound" "above" "Ljava/lang/String;" v
def QrmBi (Z : State) (a : Addr) (b1 : Addr) (b2 : Addr) (h0 : Heap) (n0 : Nat) (vQ : Option Value) (hQ : Heap) (LQ : List Loc) : Prop := vQ = none ∧ Fr n0 LQ ∧ Keep h0 hQ [a] ∧ (fd11 Z hQ a (.double FP.dconst0)) ∧ (fd12 Z hQ a (.int (1 : Int32))) ∧ (fd13 Z hQ a (.ref b1)) ∧ (fd14 Z hQ a (.double (9218868437227405311 : UInt64))) ∧ (fd15 Z hQ a (.int (1 : Int32))) ∧ (fd16 Z hQ a (.ref b2))
theorem ef_rmBi (m : MethodId) (a : Addr) (b1 : Addr) (b2 : Addr) : entryFrame m #[(.ref a), (.double FP.dconst0), (.int (1 : Int32)), (.ref b1), (.double (9218868437227405311 : UInt64)), (.int (1 : Int32)), (.ref b2)] 9 = mkF m 0 #[vr a, vd FP.dconst0, ss, vi (1 : Int32), vr b1, vd (9218868437227405311 : UInt64), ss, vi (1 : Int32), vr b2] [] := by first | (simp [entryFrame, mkF, argsToLocals, Value.category]; done) | rfl
abbrev xa17 (Z : State) (h : Heap) (a : Addr) : Prop := Exa Z h a "rootzone/Bound"
abbrev mn18 : MethodName := ⟨"rootzone/Bound", "<init>", "(DZLjava/lang/String;DZLjava/lang/String;)V"⟩
theorem pn_rootzone_Bound : plainName "rootzone/Bound" = true := by first | (simp [plainName, overriddenIn]; done) | decide +kernel
theorem d_prog_1_method_1_code_0 : decode prog_1_method_1_code 0 = .ok (.aload_n 0, 1) := by decide +kernel
theorem d_prog_1_method_1_code_1 : decode prog_1_method_1_code 1 = .ok (.invokespecial 1, 3) := by decide +kernel
def tw48 {Z : State} {a0 : Array Value} (hw : ∀ d ∈ tables_1, d.before a0 Z = true) := hw _ (List.mem_of_getElem? (i := 48) rfl)
theorem d_prog_1_method_1_code_4 : decode prog_1_method_1_code 4 = .ok (.aload_n 0, 1) := by decide +kernel
theorem d_prog_1_method_1_code_5 : decode prog_1_method_1_code 5 = .ok (.dload_n 1, 1) := by decide +kernel
theorem d_prog_1_method_1_code_6 : decode prog_1_method_1_code 6 = .ok (.putfield 7, 3) := by decide +kernel
def tw49 {Z : State} {a0 : Array Value} (hw : ∀ d ∈ tables_1, d.before a0 Z = true) := hw _ (List.mem_of_getElem? (i := 49) rfl)
def tw39 {Z : State} {a0 : Array Value} (hw : ∀ d ∈ tables_1, d.before a0 Z = true) := hw _ (List.mem_of_getElem? (i := 39) rfl)
def tw50 {Z : State} {a0 : Array Value} (hw : ∀ d ∈ tables_1, d.before a0 Z = true) := hw _ (List.mem_of_getElem? (i := 50) rfl)
def tw52 {Z : State} {a0 : Array Value} (hw : ∀ d ∈ tables_1, d.before a0 Z = true) := hw _ (List.mem_of_getElem? (i := 52) rfl)
def tw54 {Z : State} {a0 : Array Value} (hw : ∀ d ∈ tables_1, d.before a0 Z = true) := hw _ (List.mem_of_getElem? (i := 54) rfl)
def tw56 {Z : State} {a0 : Array Value} (hw : ∀ d ∈ tables_1, d.before a0 Z = true) := hw _ (List.mem_of_getElem? (i := 56) rfl)
def tw58 {Z : State} {a0 : Array Value} (hw : ∀ d ∈ tables_1, d.before a0 Z = true) := hw _ (List.mem_of_getElem? (i := 58) rfl)
def tw60 {Z : State} {a0 : Array Value} (hw : ∀ d ∈ tables_1, d.before a0 Z = true) := hw _ (List.mem_of_getElem? (i := 60) rfl)
theorem d_prog_1_method_1_code_9 : decode prog_1_method_1_code 9 = .ok (.aload_n 0, 1) := by decide +kernel
theorem d_prog_1_method_1_code_10 : decode prog_1_method_1_code 10 = .ok (.iload_n 3, 1) := by decide +kernel
theorem d_prog_1_method_1_code_11 : decode prog_1_method_1_code 11 = .ok (.putfield 13, 3) := by decide +kernel
def tw51 {Z : State} {a0 : Array Value} (hw : ∀ d ∈ tables_1, d.before a0 Z = true) := hw _ (List.mem_of_getElem? (i := 51) rfl)
theorem d_prog_1_method_1_code_14 : decode prog_1_method_1_code 14 = .ok (.aload_n 0, 1) := by decide +kernel
theorem d_prog_1_method_1_code_15 : decode prog_1_method_1_code 15 = .ok (.aload 4, 2) := by decide +kernel
theorem d_prog_1_method_1_code_17 : decode prog_1_method_1_code 17 = .ok (.putfield 17, 3) := by decide +kernel
def tw53 {Z : State} {a0 : Array Value} (hw : ∀ d ∈ tables_1, d.before a0 Z = true) := hw _ (List.mem_of_getElem? (i := 53) rfl)
theorem d_prog_1_method_1_code_20 : decode prog_1_method_1_code 20 = .ok (.aload_n 0, 1) := by decide +kernel
theorem d_prog_1_method_1_code_21 : decode prog_1_method_1_code 21 = .ok (.dload 5, 2) := by decide +kernel
theorem d_prog_1_method_1_code_23 : decode prog_1_method_1_code 23 = .ok (.putfield 21, 3) := by decide +kernel
def tw55 {Z : State} {a0 : Array Value} (hw : ∀ d ∈ tables_1, d.before a0 Z = true) := hw _ (List.mem_of_getElem? (i := 55) rfl)
theorem d_prog_1_method_1_code_26 : decode prog_1_method_1_code 26 = .ok (.aload_n 0, 1) := by decide +kernel
theorem d_prog_1_method_1_code_27 : decode prog_1_method_1_code 27 = .ok (.iload 7, 2) := by decide +kernel
theorem d_prog_1_method_1_code_29 : decode prog_1_method_1_code 29 = .ok (.putfield 24, 3) := by decide +kernel
def tw57 {Z : State} {a0 : Array Value} (hw : ∀ d ∈ tables_1, d.before a0 Z = true) := hw _ (List.mem_of_getElem? (i := 57) rfl)
theorem d_prog_1_method_1_code_32 : decode prog_1_method_1_code 32 = .ok (.aload_n 0, 1) := by decide +kernel
theorem d_prog_1_method_1_code_33 : decode prog_1_method_1_code 33 = .ok (.aload 8, 2) := by decide +kernel
theorem d_prog_1_method_1_code_35 : decode prog_1_method_1_code 35 = .ok (.putfield 27, 3) := by decide +kernel
def tw59 {Z : State} {a0 : Array Value} (hw : ∀ d ∈ tables_1, d.before a0 Z = true) := hw _ (List.mem_of_getElem? (i := 59) rfl)
theorem d_prog_1_method_1_code_38 : decode prog_1_method_1_code 38 = .ok (.return_, 1) := by decide +kernel
set_option maxRecDepth 65536 in
set_option maxHeartbeats 40000000 in
theorem rmBi (l : Launch) (Z : State) (a0 : Array Value) (hw : ∀ d ∈ tables_1, d.before a0 Z = true) (ws : List Jvm.Cond) (a : Addr) (b1 : Addr) (b2 : Addr) (h0 : Heap) (n0 : Nat) (Z0 : n0 ≤ h0.size) (E1 : xa17 Z h0 a) (F0 : fd11 Z h0 a (.double (0 : UInt64))) (F1 : fd12 Z h0 a (.int (0 : Int32))) (F2 : fd13 Z h0 a .null) (F3 : fd14 Z h0 a (.double (0 : UInt64))) (F4 : fd15 Z h0 a (.int (0 : Int32))) (F5 : fd16 Z h0 a .null) (ge_a : n0 ≤ a) :
    MetFree l mn18 (head1 (Jvm.Cond.code mn18 prog_1_method_1_code 9 none :: ws) ({ frames := 1, cells := 0, slots := 0, locals := 12 } : Room)) (fun aA U => aA = #[(.ref a), (.double FP.dconst0), (.int (1 : Int32)), (.ref b1), (.double (9218868437227405311 : UInt64)), (.int (1 : Int32)), (.ref b2)] ∧ Z.Warmed39 U.vm ∧ U.heap = h0) (fun _ _ _ _ _ => True) (fun _ U o U' => ∃ vR LR, o = .returned vR ∧ QrmBi Z a b1 b2 h0 n0 vR U'.heap LR ∧ FrameEnd U o U' LR ({ frames := 1, cells := 0, slots := 0, locals := 12 } : Room).cells ({ frames := 1, cells := 0, slots := 0, locals := 12 } : Room).slots) := by
  refine MetFree.of_bodySF (plainFor_of_name pn_rootzone_Bound) hisR ?_
  intro p e s m args below meth c s₁ Bd hml0 hPre hKk
  obtain ⟨rfl, hZ, hh⟩ := hPre
  have hx := Bd.exec
  have hby := Bd.bytes
  skip
  have hml : c.maxLocals = 9 := hml0
  have hown : s.vm.findClass "rootzone/Bound" = some m.cls := findClass_of_methodNamed Bd.named
  have hnm := (name_of_methodNamed Bd.named Bd.method).1
  have X0 : Stand p l e ({ frames := 1, cells := 0, slots := 0, locals := 12 } : Room) s m #[(.ref a), (.double FP.dconst0), (.int (1 : Int32)), (.ref b1), (.double (9218868437227405311 : UInt64)), (.int (1 : Int32)), (.ref b2)] below meth c s₁ [] 0 0 := Stand.of_body Bd
  have e0 : s₁.heap = h0 := by rw [← hh, Bd.state]; rfl
  have N0 := Fr.nil n0
  obtain ⟨E0, hE0⟩ : ∃ zE : State, zE = s₁.setTop (entryFrame m #[(.ref a), (.double FP.dconst0), (.int (1 : Int32)), (.ref b1), (.double (9218868437227405311 : UInt64)), (.int (1 : Int32)), (.ref b2)] 9) := ⟨_, rfl⟩
  have k0 : own_G p e below E0 s₁ (mkF m 0 #[vr a, vd FP.dconst0, ss, vi (1 : Int32), vr b1, vd (9218868437227405311 : UInt64), ss, vi (1 : Int32), vr b2] []) := fun tz kz => hE0 ▸ castTop (ef_rmBi m a b1 b2) kz
  have K0 : Keep h0 h0 [a] := Keep.refl _ _
  have k178 : own_G p e below E0 s₁ (mkF m 1 #[vr a, vd FP.dconst0, ss, vi (1 : Int32), vr b1, vd (9218868437227405311 : UInt64), ss, vi (1 : Int32), vr b2] [(.ref a)]) := by
    intro tQ kk
    refine k0 tQ ?_
    refine XS.aloadN X0.here hx rfl (hb hby d_prog_1_method_1_code_0) rfl rfl ?_
    exact kk
  clear k0
  obtain ⟨T179, X180, e181, st182⟩ := initO X0 hx hZ hown (tw48 hw) (tw28 hw) (tw29 hw) e0 (g := (mkF m 1 #[vr a, vd FP.dconst0, ss, vi (1 : Int32), vr b1, vd (9218868437227405311 : UInt64), ss, vi (1 : Int32), vr b2] [(.ref a)])) rfl (by rw [hml]; rfl) rfl (hb hby d_prog_1_method_1_code_1) (by decide) (W := 0) (by show 2 * 0 + _ ≤ _; exact Nat.le_of_eq rfl) (by decide)
  have k183 : own_G p e below E0 T179 (mkF m 4 #[vr a, vd FP.dconst0, ss, vi (1 : Int32), vr b1, vd (9218868437227405311 : UInt64), ss, vi (1 : Int32), vr b2] []) := fun tQ kk => k178 tQ (st182 _ kk)
  clear k178 st182
  have k184 : own_G p e below E0 T179 (mkF m 6 #[vr a, vd FP.dconst0, ss, vi (1 : Int32), vr b1, vd (9218868437227405311 : UInt64), ss, vi (1 : Int32), vr b2] [(.double FP.dconst0), (.ref a)]) := by
    intro tQ kk
    refine k183 tQ ?_
    refine XS.aloadN X180.here hx rfl (hb hby d_prog_1_method_1_code_4) rfl rfl ?_
    refine XS.dloadN X180.here hx rfl (hb hby d_prog_1_method_1_code_5) rfl ?_
    exact kk
  clear k183
  obtain ⟨T185, h186, X187, e188, W189, st190⟩ := putF X180 hx hZ hown (host := "") (Or.inl (tw49 hw)) Via.refl e181 F0 E1 (Or.inr ⟨(tw50 hw), rfl, hnm⟩) (tw39 hw) (ty := .double) (by decide) rfl rfl (g := (mkF m 6 #[vr a, vd FP.dconst0, ss, vi (1 : Int32), vr b1, vd (9218868437227405311 : UInt64), ss, vi (1 : Int32), vr b2] [(.double FP.dconst0), (.ref a)])) rfl rfl (hb hby d_prog_1_method_1_code_6)
  have N191 := Fr.snoc X187 N0 ge_a
  have k192 : own_G p e below E0 T185 (mkF m 9 #[vr a, vd FP.dconst0, ss, vi (1 : Int32), vr b1, vd (9218868437227405311 : UInt64), ss, vi (1 : Int32), vr b2] []) := fun tQ kk => k184 tQ (st190 _ kk)
  clear k184 st190
  have F193 : xa17 Z h186 a := E1.wr W189
  clear E1
  have F194 : fd11 Z h186 a (.double FP.dconst0) := F0.same W189
  clear F0
  have F195 : fd12 Z h186 a (.int (0 : Int32)) := F1.other W189 (Or.inr (slot_ne (C := "rootzone/Bound") (Or.inr (tw52 hw)) (Or.inr (tw50 hw)) (by decide) (t := .boolean) (t' := .double) (by decide) (by decide)))
  clear F1
  have F196 : fd13 Z h186 a .null := F2.other W189 (Or.inr (slot_ne (C := "rootzone/Bound") (Or.inr (tw54 hw)) (Or.inr (tw50 hw)) (by decide) (t := (.object "java/lang/String")) (t' := .double) (by decide) (by decide)))
  clear F2
  have F197 : fd14 Z h186 a (.double (0 : UInt64)) := F3.other W189 (Or.inr (slot_ne (C := "rootzone/Bound") (Or.inr (tw56 hw)) (Or.inr (tw50 hw)) (by decide) (t := .double) (t' := .double) (by decide) (by decide)))
  clear F3
  have F198 : fd15 Z h186 a (.int (0 : Int32)) := F4.other W189 (Or.inr (slot_ne (C := "rootzone/Bound") (Or.inr (tw58 hw)) (Or.inr (tw50 hw)) (by decide) (t := .boolean) (t' := .double) (by decide) (by decide)))
  clear F4
  have F199 : fd16 Z h186 a .null := F5.other W189 (Or.inr (slot_ne (C := "rootzone/Bound") (Or.inr (tw60 hw)) (Or.inr (tw50 hw)) (by decide) (t := (.object "java/lang/String")) (t' := .double) (by decide) (by decide)))
  clear F5
  have Z200 : n0 ≤ h186.size := by rw [W189.size]; exact Z0
  have K201 : Keep h0 h186 [a] := K0.wr W189 (Or.inl (List.mem_of_getElem? (i := 0) rfl))
  have k202 : own_G p e below E0 T185 (mkF m 11 #[vr a, vd FP.dconst0, ss, vi (1 : Int32), vr b1, vd (9218868437227405311 : UInt64), ss, vi (1 : Int32), vr b2] [(.int (1 : Int32)), (.ref a)]) := by
    intro tQ kk
    refine k192 tQ ?_
    refine XS.aloadN X187.here hx rfl (hb hby d_prog_1_method_1_code_9) rfl rfl ?_
    refine XS.iloadN X187.here hx rfl (hb hby d_prog_1_method_1_code_10) rfl ?_
    exact kk
  clear k192
  obtain ⟨T203, h204, X205, e206, W207, st208⟩ := putF X187 hx hZ hown (host := "") (Or.inl (tw51 hw)) Via.refl e188 F195 F193 (Or.inr ⟨(tw52 hw), rfl, hnm⟩) (tw39 hw) (ty := .boolean) (by decide) rfl rfl (g := (mkF m 11 #[vr a, vd FP.dconst0, ss, vi (1 : Int32), vr b1, vd (9218868437227405311 : UInt64), ss, vi (1 : Int32), vr b2] [(.int (1 : Int32)), (.ref a)])) rfl rfl (hb hby d_prog_1_method_1_code_11)
  have N209 := Fr.snoc X205 N191 ge_a
  have k210 : own_G p e below E0 T203 (mkF m 14 #[vr a, vd FP.dconst0, ss, vi (1 : Int32), vr b1, vd (9218868437227405311 : UInt64), ss, vi (1 : Int32), vr b2] []) := fun tQ kk => k202 tQ (st208 _ kk)
  clear k202 st208
  have F211 : xa17 Z h204 a := F193.wr W207
  clear F193
  have F212 : fd11 Z h204 a (.double FP.dconst0) := F194.other W207 (Or.inr (slot_ne (C := "rootzone/Bound") (Or.inr (tw50 hw)) (Or.inr (tw52 hw)) (by decide) (t := .double) (t' := .boolean) (by decide) (by decide)))
  clear F194
  have F213 : fd12 Z h204 a (.int (1 : Int32)) := F195.same W207
  clear F195
  have F214 : fd13 Z h204 a .null := F196.other W207 (Or.inr (slot_ne (C := "rootzone/Bound") (Or.inr (tw54 hw)) (Or.inr (tw52 hw)) (by decide) (t := (.object "java/lang/String")) (t' := .boolean) (by decide) (by decide)))
  clear F196
  have F215 : fd14 Z h204 a (.double (0 : UInt64)) := F197.other W207 (Or.inr (slot_ne (C := "rootzone/Bound") (Or.inr (tw56 hw)) (Or.inr (tw52 hw)) (by decide) (t := .double) (t' := .boolean) (by decide) (by decide)))
  clear F197
  have F216 : fd15 Z h204 a (.int (0 : Int32)) := F198.other W207 (Or.inr (slot_ne (C := "rootzone/Bound") (Or.inr (tw58 hw)) (Or.inr (tw52 hw)) (by decide) (t := .boolean) (t' := .boolean) (by decide) (by decide)))
  clear F198
  have F217 : fd16 Z h204 a .null := F199.other W207 (Or.inr (slot_ne (C := "rootzone/Bound") (Or.inr (tw60 hw)) (Or.inr (tw52 hw)) (by decide) (t := (.object "java/lang/String")) (t' := .boolean) (by decide) (by decide)))
  clear F199
  have Z218 : n0 ≤ h204.size := by rw [W207.size]; exact Z200
  clear Z200
  have K219 : Keep h0 h204 [a] := K201.wr W207 (Or.inl (List.mem_of_getElem? (i := 0) rfl))
  clear K201
  have k220 : own_G p e below E0 T203 (mkF m 17 #[vr a, vd FP.dconst0, ss, vi (1 : Int32), vr b1, vd (9218868437227405311 : UInt64), ss, vi (1 : Int32), vr b2] [(.ref b1), (.ref a)]) := by
    intro tQ kk
    refine k210 tQ ?_
    refine XS.aloadN X205.here hx rfl (hb hby d_prog_1_method_1_code_14) rfl rfl ?_
    refine XS.aload X205.here hx rfl (hb hby d_prog_1_method_1_code_15) rfl rfl ?_
    exact kk
  clear k210
  obtain ⟨T221, h222, X223, e224, W225, st226⟩ := putF X205 hx hZ hown (host := "") (Or.inl (tw53 hw)) Via.refl e206 F214 F211 (Or.inr ⟨(tw54 hw), rfl, hnm⟩) (tw39 hw) (ty := (.object "java/lang/String")) (by decide) rfl rfl (g := (mkF m 17 #[vr a, vd FP.dconst0, ss, vi (1 : Int32), vr b1, vd (9218868437227405311 : UInt64), ss, vi (1 : Int32), vr b2] [(.ref b1), (.ref a)])) rfl rfl (hb hby d_prog_1_method_1_code_17)
  have N227 := Fr.snoc X223 N209 ge_a
  have k228 : own_G p e below E0 T221 (mkF m 20 #[vr a, vd FP.dconst0, ss, vi (1 : Int32), vr b1, vd (9218868437227405311 : UInt64), ss, vi (1 : Int32), vr b2] []) := fun tQ kk => k220 tQ (st226 _ kk)
  clear k220 st226
  have F229 : xa17 Z h222 a := F211.wr W225
  clear F211
  have F230 : fd11 Z h222 a (.double FP.dconst0) := F212.other W225 (Or.inr (slot_ne (C := "rootzone/Bound") (Or.inr (tw50 hw)) (Or.inr (tw54 hw)) (by decide) (t := .double) (t' := (.object "java/lang/String")) (by decide) (by decide)))
  clear F212
  have F231 : fd12 Z h222 a (.int (1 : Int32)) := F213.other W225 (Or.inr (slot_ne (C := "rootzone/Bound") (Or.inr (tw52 hw)) (Or.inr (tw54 hw)) (by decide) (t := .boolean) (t' := (.object "java/lang/String")) (by decide) (by decide)))
  clear F213
  have F232 : fd13 Z h222 a (.ref b1) := F214.same W225
  clear F214
  have F233 : fd14 Z h222 a (.double (0 : UInt64)) := F215.other W225 (Or.inr (slot_ne (C := "rootzone/Bound") (Or.inr (tw56 hw)) (Or.inr (tw54 hw)) (by decide) (t := .double) (t' := (.object "java/lang/String")) (by decide) (by decide)))
  clear F215
  have F234 : fd15 Z h222 a (.int (0 : Int32)) := F216.other W225 (Or.inr (slot_ne (C := "rootzone/Bound") (Or.inr (tw58 hw)) (Or.inr (tw54 hw)) (by decide) (t := .boolean) (t' := (.object "java/lang/String")) (by decide) (by decide)))
  clear F216
  have F235 : fd16 Z h222 a .null := F217.other W225 (Or.inr (slot_ne (C := "rootzone/Bound") (Or.inr (tw60 hw)) (Or.inr (tw54 hw)) (by decide) (t := (.object "java/lang/String")) (t' := (.object "java/lang/String")) (by decide) (by decide)))
  clear F217
  have Z236 : n0 ≤ h222.size := by rw [W225.size]; exact Z218
  clear Z218
  have K237 : Keep h0 h222 [a] := K219.wr W225 (Or.inl (List.mem_of_getElem? (i := 0) rfl))
  clear K219
  have k238 : own_G p e below E0 T221 (mkF m 23 #[vr a, vd FP.dconst0, ss, vi (1 : Int32), vr b1, vd (9218868437227405311 : UInt64), ss, vi (1 : Int32), vr b2] [(.double (9218868437227405311 : UInt64)), (.ref a)]) := by
    intro tQ kk
    refine k228 tQ ?_
    refine XS.aloadN X223.here hx rfl (hb hby d_prog_1_method_1_code_20) rfl rfl ?_
    refine XS.dload X223.here hx rfl (hb hby d_prog_1_method_1_code_21) rfl ?_
    exact kk
  clear k228
  obtain ⟨T239, h240, X241, e242, W243, st244⟩ := putF X223 hx hZ hown (host := "") (Or.inl (tw55 hw)) Via.refl e224 F233 F229 (Or.inr ⟨(tw56 hw), rfl, hnm⟩) (tw39 hw) (ty := .double) (by decide) rfl rfl (g := (mkF m 23 #[vr a, vd FP.dconst0, ss, vi (1 : Int32), vr b1, vd (9218868437227405311 : UInt64), ss, vi (1 : Int32), vr b2] [(.double (9218868437227405311 : UInt64)), (.ref a)])) rfl rfl (hb hby d_prog_1_method_1_code_23)
  have N245 := Fr.snoc X241 N227 ge_a
  have k246 : own_G p e below E0 T239 (mkF m 26 #[vr a, vd FP.dconst0, ss, vi (1 : Int32), vr b1, vd (9218868437227405311 : UInt64), ss, vi (1 : Int32), vr b2] []) := fun tQ kk => k238 tQ (st244 _ kk)
  clear k238 st244
  have F247 : xa17 Z h240 a := F229.wr W243
  clear F229
  have F248 : fd11 Z h240 a (.double FP.dconst0) := F230.other W243 (Or.inr (slot_ne (C := "rootzone/Bound") (Or.inr (tw50 hw)) (Or.inr (tw56 hw)) (by decide) (t := .double) (t' := .double) (by decide) (by decide)))
  clear F230
  have F249 : fd12 Z h240 a (.int (1 : Int32)) := F231.other W243 (Or.inr (slot_ne (C := "rootzone/Bound") (Or.inr (tw52 hw)) (Or.inr (tw56 hw)) (by decide) (t := .boolean) (t' := .double) (by decide) (by decide)))
  clear F231
  have F250 : fd13 Z h240 a (.ref b1) := F232.other W243 (Or.inr (slot_ne (C := "rootzone/Bound") (Or.inr (tw54 hw)) (Or.inr (tw56 hw)) (by decide) (t := (.object "java/lang/String")) (t' := .double) (by decide) (by decide)))
  clear F232
  have F251 : fd14 Z h240 a (.double (9218868437227405311 : UInt64)) := F233.same W243
  clear F233
  have F252 : fd15 Z h240 a (.int (0 : Int32)) := F234.other W243 (Or.inr (slot_ne (C := "rootzone/Bound") (Or.inr (tw58 hw)) (Or.inr (tw56 hw)) (by decide) (t := .boolean) (t' := .double) (by decide) (by decide)))
  clear F234
  have F253 : fd16 Z h240 a .null := F235.other W243 (Or.inr (slot_ne (C := "rootzone/Bound") (Or.inr (tw60 hw)) (Or.inr (tw56 hw)) (by decide) (t := (.object "java/lang/String")) (t' := .double) (by decide) (by decide)))
  clear F235
  have Z254 : n0 ≤ h240.size := by rw [W243.size]; exact Z236
  clear Z236
  have K255 : Keep h0 h240 [a] := K237.wr W243 (Or.inl (List.mem_of_getElem? (i := 0) rfl))
  clear K237
  have k256 : own_G p e below E0 T239 (mkF m 29 #[vr a, vd FP.dconst0, ss, vi (1 : Int32), vr b1, vd (9218868437227405311 : UInt64), ss, vi (1 : Int32), vr b2] [(.int (1 : Int32)), (.ref a)]) := by
    intro tQ kk
    refine k246 tQ ?_
    refine XS.aloadN X241.here hx rfl (hb hby d_prog_1_method_1_code_26) rfl rfl ?_
    refine XS.iload X241.here hx rfl (hb hby d_prog_1_method_1_code_27) rfl ?_
    exact kk
  clear k246
  obtain ⟨T257, h258, X259, e260, W261, st262⟩ := putF X241 hx hZ hown (host := "") (Or.inl (tw57 hw)) Via.refl e242 F252 F247 (Or.inr ⟨(tw58 hw), rfl, hnm⟩) (tw39 hw) (ty := .boolean) (by decide) rfl rfl (g := (mkF m 29 #[vr a, vd FP.dconst0, ss, vi (1 : Int32), vr b1, vd (9218868437227405311 : UInt64), ss, vi (1 : Int32), vr b2] [(.int (1 : Int32)), (.ref a)])) rfl rfl (hb hby d_prog_1_method_1_code_29)
  have N263 := Fr.snoc X259 N245 ge_a
  have k264 : own_G p e below E0 T257 (mkF m 32 #[vr a, vd FP.dconst0, ss, vi (1 : Int32), vr b1, vd (9218868437227405311 : UInt64), ss, vi (1 : Int32), vr b2] []) := fun tQ kk => k256 tQ (st262 _ kk)
  clear k256 st262
  have F265 : xa17 Z h258 a := F247.wr W261
  clear F247
  have F266 : fd11 Z h258 a (.double FP.dconst0) := F248.other W261 (Or.inr (slot_ne (C := "rootzone/Bound") (Or.inr (tw50 hw)) (Or.inr (tw58 hw)) (by decide) (t := .double) (t' := .boolean) (by decide) (by decide)))
  clear F248
  have F267 : fd12 Z h258 a (.int (1 : Int32)) := F249.other W261 (Or.inr (slot_ne (C := "rootzone/Bound") (Or.inr (tw52 hw)) (Or.inr (tw58 hw)) (by decide) (t := .boolean) (t' := .boolean) (by decide) (by decide)))
  clear F249
  have F268 : fd13 Z h258 a (.ref b1) := F250.other W261 (Or.inr (slot_ne (C := "rootzone/Bound") (Or.inr (tw54 hw)) (Or.inr (tw58 hw)) (by decide) (t := (.object "java/lang/String")) (t' := .boolean) (by decide) (by decide)))
  clear F250
  have F269 : fd14 Z h258 a (.double (9218868437227405311 : UInt64)) := F251.other W261 (Or.inr (slot_ne (C := "rootzone/Bound") (Or.inr (tw56 hw)) (Or.inr (tw58 hw)) (by decide) (t := .double) (t' := .boolean) (by decide) (by decide)))
  clear F251
  have F270 : fd15 Z h258 a (.int (1 : Int32)) := F252.same W261
  clear F252
  have F271 : fd16 Z h258 a .null := F253.other W261 (Or.inr (slot_ne (C := "rootzone/Bound") (Or.inr (tw60 hw)) (Or.inr (tw58 hw)) (by decide) (t := (.object "java/lang/String")) (t' := .boolean) (by decide) (by decide)))
  clear F253
  have Z272 : n0 ≤ h258.size := by rw [W261.size]; exact Z254
  clear Z254
  have K273 : Keep h0 h258 [a] := K255.wr W261 (Or.inl (List.mem_of_getElem? (i := 0) rfl))
  clear K255
  have k274 : own_G p e below E0 T257 (mkF m 35 #[vr a, vd FP.dconst0, ss, vi (1 : Int32), vr b1, vd (9218868437227405311 : UInt64), ss, vi (1 : Int32), vr b2] [(.ref b2), (.ref a)]) := by
    intro tQ kk
    refine k264 tQ ?_
    refine XS.aloadN X259.here hx rfl (hb hby d_prog_1_method_1_code_32) rfl rfl ?_
    refine XS.aload X259.here hx rfl (hb hby d_prog_1_method_1_code_33) rfl rfl ?_
    exact kk
  clear k264
  obtain ⟨T275, h276, X277, e278, W279, st280⟩ := putF X259 hx hZ hown (host := "") (Or.inl (tw59 hw)) Via.refl e260 F271 F265 (Or.inr ⟨(tw60 hw), rfl, hnm⟩) (tw39 hw) (ty := (.object "java/lang/String")) (by decide) rfl rfl (g := (mkF m 35 #[vr a, vd FP.dconst0, ss, vi (1 : Int32), vr b1, vd (9218868437227405311 : UInt64), ss, vi (1 : Int32), vr b2] [(.ref b2), (.ref a)])) rfl rfl (hb hby d_prog_1_method_1_code_35)
  have N281 := Fr.snoc X277 N263 ge_a
  have k282 : own_G p e below E0 T275 (mkF m 38 #[vr a, vd FP.dconst0, ss, vi (1 : Int32), vr b1, vd (9218868437227405311 : UInt64), ss, vi (1 : Int32), vr b2] []) := fun tQ kk => k274 tQ (st280 _ kk)
  clear k274 st280
  have F283 : xa17 Z h276 a := F265.wr W279
  clear F265
  have F284 : fd11 Z h276 a (.double FP.dconst0) := F266.other W279 (Or.inr (slot_ne (C := "rootzone/Bound") (Or.inr (tw50 hw)) (Or.inr (tw60 hw)) (by decide) (t := .double) (t' := (.object "java/lang/String")) (by decide) (by decide)))
  clear F266
  have F285 : fd12 Z h276 a (.int (1 : Int32)) := F267.other W279 (Or.inr (slot_ne (C := "rootzone/Bound") (Or.inr (tw52 hw)) (Or.inr (tw60 hw)) (by decide) (t := .boolean) (t' := (.object "java/lang/String")) (by decide) (by decide)))
  clear F267
  have F286 : fd13 Z h276 a (.ref b1) := F268.other W279 (Or.inr (slot_ne (C := "rootzone/Bound") (Or.inr (tw54 hw)) (Or.inr (tw60 hw)) (by decide) (t := (.object "java/lang/String")) (t' := (.object "java/lang/String")) (by decide) (by decide)))
  clear F268
  have F287 : fd14 Z h276 a (.double (9218868437227405311 : UInt64)) := F269.other W279 (Or.inr (slot_ne (C := "rootzone/Bound") (Or.inr (tw56 hw)) (Or.inr (tw60 hw)) (by decide) (t := .double) (t' := (.object "java/lang/String")) (by decide) (by decide)))
  clear F269
  have F288 : fd15 Z h276 a (.int (1 : Int32)) := F270.other W279 (Or.inr (slot_ne (C := "rootzone/Bound") (Or.inr (tw58 hw)) (Or.inr (tw60 hw)) (by decide) (t := .boolean) (t' := (.object "java/lang/String")) (by decide) (by decide)))
  clear F270
  have F289 : fd16 Z h276 a (.ref b2) := F271.same W279
  clear F271
  have Z290 : n0 ≤ h276.size := by rw [W279.size]; exact Z272
  clear Z272
  have K291 : Keep h0 h276 [a] := K273.wr W279 (Or.inl (List.mem_of_getElem? (i := 0) rfl))
  clear K273
  obtain ⟨fs, hr, hrun, hended, hW, hsame⟩ := X277.leave (v := none) (fun _ => rfl)
  have hrun0 := k282 _ (X277.returnOut hx Bd.returns (hb hby d_prog_1_method_1_code_38) hr)
  subst hE0
  refine ⟨_, _, hrun0, hrun, hended, _, _, rfl, ?_, ⟨_, rfl⟩, hW, hsame.mono (by decide) (by decide)⟩
  show QrmBi Z a b1 b2 h0 n0 _ T275.heap _
  rw [e278]
  exact ⟨rfl, N281, K291, F284, F285, F286, F287, F288, F289⟩
def QrmBm (Z : State)  (h0 : Heap) (n0 : Nat) (vQ : Option Value) (hQ : Heap) (LQ : List Loc) : Prop := ∃ (r : Addr), vQ = some (.ref r) ∧ Fr n0 LQ ∧ Keep h0 hQ [] ∧ (xa17 Z hQ r) ∧ (fd11 Z hQ r (.double FP.dconst0)) ∧ (fd12 Z hQ r (.int (1 : Int32))) ∧ (fd14 Z hQ r (.double (9218868437227405311 : UInt64))) ∧ (fd15 Z hQ r (.int (1 : Int32))) ∧ (h0.size ≤ r)
theorem ef_rmBm (m : MethodId)  : entryFrame m #[] 0 = mkF m 0 #[] [] := by first | (simp [entryFrame, mkF, argsToLocals, Value.category]; done) | rfl
abbrev mn19 : MethodName := ⟨"rootzone/Bound", "notNegative", "()Lrootzone/Bound;"⟩
theorem d_prog_1_method_6_code_0 : decode prog_1_method_6_code 0 = .ok (.new 8, 3) := by decide +kernel
def tw38 {Z : State} {a0 : Array Value} (hw : ∀ d ∈ tables_1, d.before a0 Z = true) := hw _ (List.mem_of_getElem? (i := 38) rfl)
def tw36 {Z : State} {a0 : Array Value} (hw : ∀ d ∈ tables_1, d.before a0 Z = true) := hw _ (List.mem_of_getElem? (i := 36) rfl)
theorem d_prog_1_method_6_code_3 : decode prog_1_method_6_code 3 = .ok (.dup, 1) := by decide +kernel
theorem d_prog_1_method_6_code_4 : decode prog_1_method_6_code 4 = .ok (.dconst 0, 1) := by decide +kernel
theorem d_prog_1_method_6_code_5 : decode prog_1_method_6_code 5 = .ok (.iconst 1, 1) := by decide +kernel
theorem d_prog_1_method_6_code_6 : decode prog_1_method_6_code 6 = .ok (.ldc 45, 2) := by decide +kernel
def tw40 {Z : State} {a0 : Array Value} (hw : ∀ d ∈ tables_1, d.before a0 Z = true) := hw _ (List.mem_of_getElem? (i := 40) rfl)
theorem own_sA {Z : State} {a0 : Array Value} (hw : ∀ d ∈ tables_1, d.before a0 Z = true) : ∀ d ∈ Bundle.stringAtoms, d.before a0 Z = true := fun d hd => hw d ((by decide +kernel : ∀ d ∈ Bundle.stringAtoms, d ∈ tables_1) d hd)
theorem d_prog_1_method_6_code_8 : decode prog_1_method_6_code 8 = .ok (.ldc2_w 52, 3) := by decide +kernel
def tw43 {Z : State} {a0 : Array Value} (hw : ∀ d ∈ tables_1, d.before a0 Z = true) := hw _ (List.mem_of_getElem? (i := 43) rfl)
theorem d_prog_1_method_6_code_11 : decode prog_1_method_6_code 11 = .ok (.iconst 1, 1) := by decide +kernel
theorem d_prog_1_method_6_code_12 : decode prog_1_method_6_code 12 = .ok (.ldc 54, 2) := by decide +kernel
def tw44 {Z : State} {a0 : Array Value} (hw : ∀ d ∈ tables_1, d.before a0 Z = true) := hw _ (List.mem_of_getElem? (i := 44) rfl)
theorem d_prog_1_method_6_code_14 : decode prog_1_method_6_code 14 = .ok (.invokespecial 40, 3) := by decide +kernel
def tw45 {Z : State} {a0 : Array Value} (hw : ∀ d ∈ tables_1, d.before a0 Z = true) := hw _ (List.mem_of_getElem? (i := 45) rfl)
def tw47 {Z : State} {a0 : Array Value} (hw : ∀ d ∈ tables_1, d.before a0 Z = true) := hw _ (List.mem_of_getElem? (i := 47) rfl)
theorem pd_20 : parseMethodDescriptor "(DZLjava/lang/String;DZLjava/lang/String;)V" = some ⟨[.double, .boolean, (.object "java/lang/String"), .double, .boolean, (.object "java/lang/String")], none⟩ := by decide +kernel
def tw46 {Z : State} {a0 : Array Value} (hw : ∀ d ∈ tables_1, d.before a0 Z = true) := hw _ (List.mem_of_getElem? (i := 46) rfl)
theorem d_prog_1_method_6_code_17 : decode prog_1_method_6_code 17 = .ok (.areturn, 1) := by decide +kernel
set_option maxRecDepth 65536 in
set_option maxHeartbeats 40000000 in
theorem rmBm (l : Launch) (Z : State) (a0 : Array Value) (hw : ∀ d ∈ tables_1, d.before a0 Z = true) (ws : List Jvm.Cond)  (h0 : Heap) (n0 : Nat) (Z0 : n0 ≤ h0.size)  :
    MetFree l mn19 (head1 (Jvm.Cond.code mn19 prog_1_method_6_code 0 (some (.object "rootzone/Bound")) :: ws) ({ frames := 2, cells := 5, slots := 110, locals := 36 } : Room)) (fun aA U => aA = #[] ∧ Z.Warmed39 U.vm ∧ U.heap = h0) (fun _ _ _ _ _ => True) (fun _ U o U' => ∃ vR LR, o = .returned vR ∧ QrmBm Z  h0 n0 vR U'.heap LR ∧ ReturnedEndW U o U' LR ({ frames := 2, cells := 5, slots := 110, locals := 36 } : Room).cells ({ frames := 2, cells := 5, slots := 110, locals := 36 } : Room).slots) := by
  refine MetFree.of_bodySF (plainFor_of_name pn_rootzone_Bound) hisR ?_
  intro p e s m args below meth c s₁ Bd hml0 hPre hKk
  obtain ⟨rfl, hZ, hh⟩ := hPre
  have hx := Bd.exec
  have hby := Bd.bytes
  skip
  have hml : c.maxLocals = 0 := hml0
  have hown : s.vm.findClass "rootzone/Bound" = some m.cls := findClass_of_methodNamed Bd.named
  have hnm := (name_of_methodNamed Bd.named Bd.method).1
  have X0 : Stand p l e ({ frames := 2, cells := 5, slots := 110, locals := 36 } : Room) (s.setVm s.vm) m #[] below meth c s₁ [] 0 0 := Stand.of_body Bd
  have e0 : s₁.heap = h0 := by rw [← hh, Bd.state]; rfl
  have N0 := Fr.nil n0
  obtain ⟨E0, hE0⟩ : ∃ zE : State, zE = s₁.setTop (entryFrame m #[] 0) := ⟨_, rfl⟩
  have k0 : own_G p e below E0 s₁ (mkF m 0 #[] []) := fun tz kz => hE0 ▸ castTop (ef_rmBm m ) kz
  have S0 : s.Since s.vm 0 := (State.WarmedH.refl s).since 0
  have LE0 : own_Le 0 h0 := Nat.zero_le _
  have K0 : Keep h0 h0 [] := Keep.refl _ _
  obtain ⟨T292, h293, X294, e295, E296, A297, D298, -, st299⟩ := newO X0 hx hZ hown (tw38 hw) (tw39 hw) (tw36 hw) e0 (g := (mkF m 0 #[] [])) rfl (hb hby d_prog_1_method_6_code_0) (by decide) (by decide)
  obtain ⟨a300, g301⟩ : ∃ zA : Nat, zA = h0.size := ⟨_, rfl⟩
  rw [← g301] at A297 D298 st299
  have nw302 : h0.size ≤ a300 := own_ge_of K0.1 g301
  have ge303 : n0 ≤ a300 := own_ge_of Z0 g301
  have Z304 : n0 ≤ h293.size := Nat.le_trans Z0 E296.1
  have F305 : own_Le 0 h293 := LE0.ext E296
  have K306 : Keep h0 h293 [] := K0.ext E296
  have F307 : Fld Z h293 a300 "rootzone/Bound" "least" "D" (.double (0 : UInt64)) := (D298 (Or.inr (tw50 hw)) (ty := .double) (by decide))
  have F308 : Fld Z h293 a300 "rootzone/Bound" "leastIncluded" "Z" (.int (0 : Int32)) := (D298 (Or.inr (tw52 hw)) (ty := .boolean) (by decide))
  have F309 : Fld Z h293 a300 "rootzone/Bound" "below" "Ljava/lang/String;" .null := (D298 (Or.inr (tw54 hw)) (ty := (.object "java/lang/String")) (by decide))
  have F310 : Fld Z h293 a300 "rootzone/Bound" "most" "D" (.double (0 : UInt64)) := (D298 (Or.inr (tw56 hw)) (ty := .double) (by decide))
  have F311 : Fld Z h293 a300 "rootzone/Bound" "mostIncluded" "Z" (.int (0 : Int32)) := (D298 (Or.inr (tw58 hw)) (ty := .boolean) (by decide))
  have F312 : Fld Z h293 a300 "rootzone/Bound" "above" "Ljava/lang/String;" .null := (D298 (Or.inr (tw60 hw)) (ty := (.object "java/lang/String")) (by decide))
  have k313 : own_G p e below E0 T292 (mkF m 3 #[] [(.ref a300)]) := fun tQ kk => k0 tQ (st299 _ kk)
  clear k0 st299
  have k314 : own_G p e below E0 T292 (mkF m 6 #[] [(.int (1 : Int32)), (.double FP.dconst0), (.ref a300), (.ref a300)]) := by
    intro tQ kk
    refine k313 tQ ?_
    refine XS.dup X294.here hx rfl (hb hby d_prog_1_method_6_code_3) rfl rfl ?_
    refine XS.dconst0 X294.here hx rfl (hb hby d_prog_1_method_6_code_4) rfl ?_
    refine XS.iconst X294.here hx rfl (hb hby d_prog_1_method_6_code_5) ?_
    exact kk
  clear k313
  obtain ⟨a315, T316, h317, ks318, X319, e320, E321, S322, Kl323, hZ, hown, st324⟩ := ldcS X294 hx hZ hown (tw40 hw) (own_sA hw) e295 S0 F305 (g := (mkF m 6 #[] [(.int (1 : Int32)), (.double FP.dconst0), (.ref a300), (.ref a300)])) rfl (hb hby d_prog_1_method_6_code_6) (n := 44) (by decide) (by decide) (by decide) (by decide)
  have Z325 : n0 ≤ h317.size := Nat.le_trans Z304 E321.1
  clear Z304
  have F326 : xa17 Z h317 a300 := A297.ext E321
  clear A297
  have F327 : fd11 Z h317 a300 (.double (0 : UInt64)) := F307.ext E321
  clear F307
  have F328 : fd12 Z h317 a300 (.int (0 : Int32)) := F308.ext E321
  clear F308
  have F329 : fd13 Z h317 a300 .null := F309.ext E321
  clear F309
  have F330 : fd14 Z h317 a300 (.double (0 : UInt64)) := F310.ext E321
  clear F310
  have F331 : fd15 Z h317 a300 (.int (0 : Int32)) := F311.ext E321
  clear F311
  have F332 : fd16 Z h317 a300 .null := F312.ext E321
  clear F312
  have K333 : Keep h0 h317 [] := K306.ext E321
  clear K306
  have F334 : own_Le ks318 h317 := Kl323
  have k335 : own_G p e below E0 T316 (mkF m 8 #[] [(.ref a315), (.int (1 : Int32)), (.double FP.dconst0), (.ref a300), (.ref a300)]) := fun tQ kk => k314 tQ (st324 _ kk)
  clear k314 st324
  have st336 := X319.ldc2DoubleC hx hown (mvT hZ (tw43 hw)) (g := (mkF m 8 #[] [(.ref a315), (.int (1 : Int32)), (.double FP.dconst0), (.ref a300), (.ref a300)])) rfl (hb hby d_prog_1_method_6_code_8)
  have k337 : own_G p e below E0 T316 (mkF m 11 #[] [(.double (9218868437227405311 : UInt64)), (.ref a315), (.int (1 : Int32)), (.double FP.dconst0), (.ref a300), (.ref a300)]) := fun tQ kk => k335 tQ (st336 _ kk)
  clear k335 st336
  have k338 : own_G p e below E0 T316 (mkF m 12 #[] [(.int (1 : Int32)), (.double (9218868437227405311 : UInt64)), (.ref a315), (.int (1 : Int32)), (.double FP.dconst0), (.ref a300), (.ref a300)]) := by
    intro tQ kk
    refine k337 tQ ?_
    refine XS.iconst X319.here hx rfl (hb hby d_prog_1_method_6_code_11) ?_
    exact kk
  clear k337
  obtain ⟨a339, T340, h341, ks342, X343, e344, E345, S346, Kl347, hZ, hown, st348⟩ := ldcS X319 hx hZ hown (tw44 hw) (own_sA hw) e320 S322 F334 (g := (mkF m 12 #[] [(.int (1 : Int32)), (.double (9218868437227405311 : UInt64)), (.ref a315), (.int (1 : Int32)), (.double FP.dconst0), (.ref a300), (.ref a300)])) rfl (hb hby d_prog_1_method_6_code_12) (n := 52) (by decide) (by decide) (by decide) (by decide)
  have Z349 : n0 ≤ h341.size := Nat.le_trans Z325 E345.1
  clear Z325
  have F350 : xa17 Z h341 a300 := F326.ext E345
  clear F326
  have F351 : fd11 Z h341 a300 (.double (0 : UInt64)) := F327.ext E345
  clear F327
  have F352 : fd12 Z h341 a300 (.int (0 : Int32)) := F328.ext E345
  clear F328
  have F353 : fd13 Z h341 a300 .null := F329.ext E345
  clear F329
  have F354 : fd14 Z h341 a300 (.double (0 : UInt64)) := F330.ext E345
  clear F330
  have F355 : fd15 Z h341 a300 (.int (0 : Int32)) := F331.ext E345
  clear F331
  have F356 : fd16 Z h341 a300 .null := F332.ext E345
  clear F332
  have K357 : Keep h0 h341 [] := K333.ext E345
  clear K333
  have F358 : own_Le ks342 h341 := Kl347
  have k359 : own_G p e below E0 T340 (mkF m 14 #[] [(.ref a339), (.int (1 : Int32)), (.double (9218868437227405311 : UInt64)), (.ref a315), (.int (1 : Int32)), (.double FP.dconst0), (.ref a300), (.ref a300)]) := fun tQ kk => k338 tQ (st348 _ kk)
  clear k338 st348
  obtain ⟨_, _, ⟨T360, L361, kc362, nc363⟩, -, X364, ⟨Lc365, hQ366, l367, y368, z369⟩, st370⟩ := X343.specialBack hx (y := mn18) rfl hown (mvT hZ (tw45 hw)) (mvT hZ (tw46 hw)) (mvT hZ (tw47 hw)) (by decide) (backOf (W := 1) (rmBi l Z a0 hw [] a300 a315 a339 h341 n0 Z349 F350 F351 F352 F353 F354 F355 F356 ge303) hZ (tw47 hw) (tw36 hw) (by decide) (by decide)) (g := (mkF m 14 #[] [(.ref a339), (.int (1 : Int32)), (.double (9218868437227405311 : UInt64)), (.ref a315), (.int (1 : Int32)), (.double FP.dconst0), (.ref a300), (.ref a300)])) rfl (by rw [hml]; rfl) (Steps.refl _) (a := a300) (argsL := [(.double FP.dconst0), (.int (1 : Int32)), (.ref a315), (.double (9218868437227405311 : UInt64)), (.int (1 : Int32)), (.ref a339)]) (rest := [(.ref a300)]) (lenOf pd_20 rfl) rfl (by show 2 * 0 + _ ≤ _; exact Nat.le_of_eq rfl) (hb hby d_prog_1_method_6_code_14) (fun _ _ => ⟨rfl, e344, (by decide : 5 + 0 ≤ _), (by decide : 110 + 0 ≤ _)⟩)
  dsimp only [Pt.U, Pt.locs, Pt.cells, Pt.slots] at X364 l367 y368 z369 st370 hQ366
  subst y368 z369
  obtain ⟨rfl, N371, K374, g375, g376, g377, g378, g379, g380⟩ := hQ366
  have N381 : Fr n0 L361 := by rw [l367]; exact Fr.app N0 N371
  clear l367 N371
  have Z382 : n0 ≤ T360.heap.size := Nat.le_trans Z349 K374.1
  clear Z349
  have F383 : xa17 Z T360.heap a300 := F350.keep K374
  clear F350
  clear F351
  clear F352
  clear F353
  clear F354
  clear F355
  clear F356
  have F384 : own_Le ks342 T360.heap := F358.keep K374
  clear F358
  have K385 : Keep h0 T360.heap [] := K357.trans K374 (allS (Or.inr nw302) all0)
  clear K357
  have k386 : own_G p e below E0 T360 (mkF m 17 #[] [(.ref a300)]) := fun tQ kk => k359 tQ (st370.trans kk)
  clear k359 st370
  obtain ⟨fs, hr, hrun, hended, hRW⟩ := X364.leaveW S346 F384 (v := some (.ref a300)) (fun h => by rw [Bd.returns] at h; cases h)
  have hrun0 := k386 _ (retOut X364 hx Bd.returns (t := (.object "rootzone/Bound")) rfl (Or.inr (Or.inr (Or.inr (Or.inr ⟨rfl, rfl, rfl⟩)))) (hb hby d_prog_1_method_6_code_17) hr)
  subst hE0
  refine ⟨_, _, hrun0, hrun, hended, _, _, rfl, ?_, ⟨_, rfl⟩, hRW.2.1, hRW.2.2.1, hRW.2.2.2.mono (by decide) (by decide)⟩
  show QrmBm Z  h0 n0 _ T360.heap _
  exact ⟨a300, rfl, N381, K385, F383, g375, g376, g378, g379, nw302⟩
def QrmNa (Z : State) (x : UInt64) (h0 : Heap) (n0 : Nat) (vQ : Option Value) (hQ : Heap) (LQ : List Loc) : Prop := vQ = some (.int (0 : Int32)) ∧ Fr n0 LQ ∧ hQ = h0
theorem ef_rmNa (m : MethodId) (x : UInt64) : entryFrame m #[(.double x)] 2 = mkF m 0 #[vd x, ss] [] := by first | (simp [entryFrame, mkF, argsToLocals, Value.category]; done) | rfl
abbrev mn21 : MethodName := ⟨"java/lang/Double", "isNaN", "(D)Z"⟩
theorem pn_java_lang_Double : plainName "java/lang/Double" = true := by first | (simp [plainName, overriddenIn]; done) | decide +kernel
theorem d_jdk_117_method_6_code_0 : decode jdk_117_method_6_code 0 = .ok (.dload_n 0, 1) := by decide +kernel
theorem d_jdk_117_method_6_code_1 : decode jdk_117_method_6_code 1 = .ok (.dload_n 0, 1) := by decide +kernel
theorem d_jdk_117_method_6_code_2 : decode jdk_117_method_6_code 2 = .ok (.dcmp .l, 1) := by decide +kernel
theorem d_jdk_117_method_6_code_3 : decode jdk_117_method_6_code 3 = .ok (.ifCond .eq 7, 3) := by decide +kernel
theorem d_jdk_117_method_6_code_10 : decode jdk_117_method_6_code 10 = .ok (.iconst 0, 1) := by decide +kernel
theorem d_jdk_117_method_6_code_11 : decode jdk_117_method_6_code 11 = .ok (.ireturn, 1) := by decide +kernel
set_option maxRecDepth 65536 in
set_option maxHeartbeats 40000000 in
theorem rmNa (l : Launch) (Z : State) (a0 : Array Value) (hw : ∀ d ∈ tables_1, d.before a0 Z = true) (ws : List Jvm.Cond) (x : UInt64) (h0 : Heap) (n0 : Nat) (Z0 : n0 ≤ h0.size) (nx : NoNaN64 x) :
    MetFree l mn21 (head1 (Jvm.Cond.code mn21 jdk_117_method_6_code 2 (some .boolean) :: ws) ({ frames := 0, cells := 0, slots := 0, locals := 0 } : Room)) (fun aA U => aA = #[(.double x)] ∧ Z.Warmed39 U.vm ∧ U.heap = h0) (fun _ _ _ _ _ => True) (fun _ U o U' => ∃ vR LR, o = .returned vR ∧ QrmNa Z x h0 n0 vR U'.heap LR ∧ FrameEnd U o U' LR ({ frames := 0, cells := 0, slots := 0, locals := 0 } : Room).cells ({ frames := 0, cells := 0, slots := 0, locals := 0 } : Room).slots) := by
  refine MetFree.of_bodySF (plainFor_of_name pn_java_lang_Double) hisR ?_
  intro p e s m args below meth c s₁ Bd hml0 hPre hKk
  obtain ⟨rfl, hZ, hh⟩ := hPre
  have hx := Bd.exec
  have hby := Bd.bytes
  skip
  have hml : c.maxLocals = 2 := hml0
  have hown : s.vm.findClass "java/lang/Double" = some m.cls := findClass_of_methodNamed Bd.named
  have hnm := (name_of_methodNamed Bd.named Bd.method).1
  have X0 : Stand p l e ({ frames := 0, cells := 0, slots := 0, locals := 0 } : Room) s m #[(.double x)] below meth c s₁ [] 0 0 := Stand.of_body Bd
  have e0 : s₁.heap = h0 := by rw [← hh, Bd.state]; rfl
  have N0 := Fr.nil n0
  obtain ⟨E0, hE0⟩ : ∃ zE : State, zE = s₁.setTop (entryFrame m #[(.double x)] 2) := ⟨_, rfl⟩
  have k0 : own_G p e below E0 s₁ (mkF m 0 #[vd x, ss] []) := fun tz kz => hE0 ▸ castTop (ef_rmNa m x) kz
  have k387 : own_G p e below E0 s₁ (mkF m 11 #[vd x, ss] [(.int (0 : Int32))]) := by
    intro tQ kk
    refine k0 tQ ?_
    refine XS.dloadN X0.here hx rfl (hb hby d_jdk_117_method_6_code_0) rfl ?_
    refine XS.dloadN X0.here hx rfl (hb hby d_jdk_117_method_6_code_1) rfl ?_
    refine XS.dcmpS (v := (0 : Int32)) X0.here hx rfl (hb hby d_jdk_117_method_6_code_2) rfl (own_eqz .l nx nx rfl) ?_
    refine XS.ifYes X0.here hx rfl (pc0 := 3) (pc' := 10) rfl (hb hby d_jdk_117_method_6_code_3) rfl (own_if_eqY (by decide)) (by decide) (by decide) ?_
    show Steps p.tables e below (s₁.setTop (mkF m 10 #[vd x, ss] [])) tQ
    refine XS.iconst X0.here hx rfl (hb hby d_jdk_117_method_6_code_10) ?_
    exact kk
  clear k0
  obtain ⟨fs, hr, hrun, hended, hW, hsame⟩ := X0.leave (v := some (.int (0 : Int32))) (fun h => by rw [Bd.returns] at h; cases h)
  have hrun0 := k387 _ (retOut X0 hx Bd.returns (t := .boolean) rfl (Or.inl ⟨rfl, Or.inr (Or.inl rfl), _, rfl⟩) (hb hby d_jdk_117_method_6_code_11) hr)
  subst hE0
  refine ⟨_, _, hrun0, hrun, hended, _, _, rfl, ?_, ⟨_, rfl⟩, hW, hsame.mono (by decide) (by decide)⟩
  show QrmNa Z x h0 n0 _ s₁.heap _
  rw [e0]
  exact ⟨rfl, N0, rfl⟩
def QrmCg (Z : State) (a : Addr) (nm : Addr) (x : UInt64) (h0 : Heap) (n0 : Nat) (vQ : Option Value) (hQ : Heap) (LQ : List Loc) : Prop := vQ = some (.double x) ∧ Fr n0 LQ ∧ hQ = h0
theorem ef_rmCg (m : MethodId) (a : Addr) (nm : Addr) (x : UInt64) : entryFrame m #[(.ref a), (.ref nm), (.double x)] 6 = mkF m 0 #[vr a, vr nm, vd x, ss, uu, uu] [] := by first | (simp [entryFrame, mkF, argsToLocals, Value.category]; done) | rfl
abbrev mn22 : MethodName := ⟨"rootzone/Bound", "checkGiven", "(Ljava/lang/String;D)D"⟩
theorem d_prog_1_method_10_code_0 : decode prog_1_method_10_code 0 = .ok (.aload_n 0, 1) := by decide +kernel
theorem d_prog_1_method_10_code_1 : decode prog_1_method_10_code 1 = .ok (.getfield 13, 3) := by decide +kernel
theorem d_prog_1_method_10_code_4 : decode prog_1_method_10_code 4 = .ok (.ifCond .eq 20, 3) := by decide +kernel
theorem d_prog_1_method_10_code_7 : decode prog_1_method_10_code 7 = .ok (.dload_n 2, 1) := by decide +kernel
theorem d_prog_1_method_10_code_8 : decode prog_1_method_10_code 8 = .ok (.aload_n 0, 1) := by decide +kernel
theorem d_prog_1_method_10_code_9 : decode prog_1_method_10_code 9 = .ok (.getfield 7, 3) := by decide +kernel
theorem d_prog_1_method_10_code_12 : decode prog_1_method_10_code 12 = .ok (.dcmp .g, 1) := by decide +kernel
theorem d_prog_1_method_10_code_13 : decode prog_1_method_10_code 13 = .ok (.ifCond .ge 7, 3) := by decide +kernel
theorem d_prog_1_method_10_code_20 : decode prog_1_method_10_code 20 = .ok (.iconst 0, 1) := by decide +kernel
theorem d_prog_1_method_10_code_21 : decode prog_1_method_10_code 21 = .ok (.goto 17, 3) := by decide +kernel
theorem d_prog_1_method_10_code_38 : decode prog_1_method_10_code 38 = .ok (.istore 4, 2) := by decide +kernel
theorem d_prog_1_method_10_code_40 : decode prog_1_method_10_code 40 = .ok (.aload_n 0, 1) := by decide +kernel
theorem d_prog_1_method_10_code_41 : decode prog_1_method_10_code 41 = .ok (.getfield 24, 3) := by decide +kernel
theorem d_prog_1_method_10_code_44 : decode prog_1_method_10_code 44 = .ok (.ifCond .eq 20, 3) := by decide +kernel
theorem d_prog_1_method_10_code_47 : decode prog_1_method_10_code 47 = .ok (.dload_n 2, 1) := by decide +kernel
theorem d_prog_1_method_10_code_48 : decode prog_1_method_10_code 48 = .ok (.aload_n 0, 1) := by decide +kernel
theorem d_prog_1_method_10_code_49 : decode prog_1_method_10_code 49 = .ok (.getfield 21, 3) := by decide +kernel
theorem d_prog_1_method_10_code_52 : decode prog_1_method_10_code 52 = .ok (.dcmp .l, 1) := by decide +kernel
theorem d_prog_1_method_10_code_53 : decode prog_1_method_10_code 53 = .ok (.ifCond .le 7, 3) := by decide +kernel
theorem d_prog_1_method_10_code_60 : decode prog_1_method_10_code 60 = .ok (.iconst 0, 1) := by decide +kernel
theorem d_prog_1_method_10_code_61 : decode prog_1_method_10_code 61 = .ok (.goto 17, 3) := by decide +kernel
theorem d_prog_1_method_10_code_78 : decode prog_1_method_10_code 78 = .ok (.istore 5, 2) := by decide +kernel
theorem d_prog_1_method_10_code_80 : decode prog_1_method_10_code 80 = .ok (.iload 4, 2) := by decide +kernel
theorem d_prog_1_method_10_code_82 : decode prog_1_method_10_code 82 = .ok (.ifCond .eq 16, 3) := by decide +kernel
theorem d_prog_1_method_10_code_98 : decode prog_1_method_10_code 98 = .ok (.iload 5, 2) := by decide +kernel
theorem d_prog_1_method_10_code_100 : decode prog_1_method_10_code 100 = .ok (.ifCond .eq 16, 3) := by decide +kernel
theorem d_prog_1_method_10_code_116 : decode prog_1_method_10_code 116 = .ok (.dload_n 2, 1) := by decide +kernel
theorem d_prog_1_method_10_code_117 : decode prog_1_method_10_code 117 = .ok (.dreturn, 1) := by decide +kernel
set_option maxRecDepth 65536 in
set_option maxHeartbeats 40000000 in
theorem rmCg (l : Launch) (Z : State) (a0 : Array Value) (hw : ∀ d ∈ tables_1, d.before a0 Z = true) (ws : List Jvm.Cond) (a : Addr) (nm : Addr) (x : UInt64) (h0 : Heap) (n0 : Nat) (Z0 : n0 ≤ h0.size) (E1 : xa17 Z h0 a) (F0 : fd11 Z h0 a (.double FP.dconst0)) (F1 : fd12 Z h0 a (.int (1 : Int32))) (F2 : fd14 Z h0 a (.double (9218868437227405311 : UInt64))) (F3 : fd15 Z h0 a (.int (1 : Int32))) (nx : NoNaN64 x) (gx : ¬ own_z x < (own_z FP.dconst0)) (lx : ¬ (own_z (9218868437227405311 : UInt64)) < own_z x) :
    MetFree l mn22 (head1 (Jvm.Cond.code mn22 prog_1_method_10_code 6 (some .double) :: ws) ({ frames := 0, cells := 0, slots := 0, locals := 0 } : Room)) (fun aA U => aA = #[(.ref a), (.ref nm), (.double x)] ∧ Z.Warmed39 U.vm ∧ U.heap = h0) (fun _ _ _ _ _ => True) (fun _ U o U' => ∃ vR LR, o = .returned vR ∧ QrmCg Z a nm x h0 n0 vR U'.heap LR ∧ FrameEnd U o U' LR ({ frames := 0, cells := 0, slots := 0, locals := 0 } : Room).cells ({ frames := 0, cells := 0, slots := 0, locals := 0 } : Room).slots) := by
  refine MetFree.of_bodySF (plainFor_of_name pn_rootzone_Bound) hisR ?_
  intro p e s m args below meth c s₁ Bd hml0 hPre hKk
  obtain ⟨rfl, hZ, hh⟩ := hPre
  have hx := Bd.exec
  have hby := Bd.bytes
  skip
  have hml : c.maxLocals = 6 := hml0
  have hown : s.vm.findClass "rootzone/Bound" = some m.cls := findClass_of_methodNamed Bd.named
  have hnm := (name_of_methodNamed Bd.named Bd.method).1
  have X0 : Stand p l e ({ frames := 0, cells := 0, slots := 0, locals := 0 } : Room) s m #[(.ref a), (.ref nm), (.double x)] below meth c s₁ [] 0 0 := Stand.of_body Bd
  have e0 : s₁.heap = h0 := by rw [← hh, Bd.state]; rfl
  have N0 := Fr.nil n0
  obtain ⟨E0, hE0⟩ : ∃ zE : State, zE = s₁.setTop (entryFrame m #[(.ref a), (.ref nm), (.double x)] 6) := ⟨_, rfl⟩
  have k0 : own_G p e below E0 s₁ (mkF m 0 #[vr a, vr nm, vd x, ss, uu, uu] []) := fun tz kz => hE0 ▸ castTop (ef_rmCg m a nm x) kz
  have k388 : own_G p e below E0 s₁ (mkF m 1 #[vr a, vr nm, vd x, ss, uu, uu] [(.ref a)]) := by
    intro tQ kk
    refine k0 tQ ?_
    refine XS.aloadN X0.here hx rfl (hb hby d_prog_1_method_10_code_0) rfl rfl ?_
    exact kk
  clear k0
  obtain ⟨T389, X390, e391, st392⟩ := getF X0 hx hZ hown (host := "") (Or.inl (tw51 hw)) Via.refl e0 F1 (g := (mkF m 1 #[vr a, vr nm, vd x, ss, uu, uu] [(.ref a)])) rfl rfl (hb hby d_prog_1_method_10_code_1)
  have k393 : own_G p e below E0 T389 (mkF m 4 #[vr a, vr nm, vd x, ss, uu, uu] [(.int (1 : Int32))]) := fun tQ kk => k388 tQ (st392 _ kk)
  clear k388 st392
  have k394 : own_G p e below E0 T389 (mkF m 9 #[vr a, vr nm, vd x, ss, uu, uu] [(.ref a), (.double x)]) := by
    intro tQ kk
    refine k393 tQ ?_
    refine XS.ifNo X390.here hx rfl (hb hby d_prog_1_method_10_code_4) rfl (own_if_eqN (by decide)) ?_
    refine XS.dloadN X390.here hx rfl (hb hby d_prog_1_method_10_code_7) rfl ?_
    refine XS.aloadN X390.here hx rfl (hb hby d_prog_1_method_10_code_8) rfl rfl ?_
    exact kk
  clear k393
  obtain ⟨T395, X396, e397, st398⟩ := getF X390 hx hZ hown (host := "") (Or.inl (tw49 hw)) Via.refl e391 F0 (g := (mkF m 9 #[vr a, vr nm, vd x, ss, uu, uu] [(.ref a), (.double x)])) rfl rfl (hb hby d_prog_1_method_10_code_9)
  have k399 : own_G p e below E0 T395 (mkF m 12 #[vr a, vr nm, vd x, ss, uu, uu] [(.double FP.dconst0), (.double x)]) := fun tQ kk => k394 tQ (st398 _ kk)
  clear k394 st398
  have k400 : own_G p e below E0 T395 (mkF m 41 #[vr a, vr nm, vd x, ss, vi (0 : Int32), uu] [(.ref a)]) := by
    intro tQ kk
    refine k399 tQ ?_
    refine XS.dcmpS (v := (own_c (own_z x) (own_z FP.dconst0))) X396.here hx rfl (hb hby d_prog_1_method_10_code_12) rfl (own_cE .g (own_cmpz nx own_n0)) ?_
    refine XS.ifYes X396.here hx rfl (pc0 := 13) (pc' := 20) rfl (hb hby d_prog_1_method_10_code_13) rfl (own_c_geY gx) (by decide) (by decide) ?_
    refine XS.iconst X396.here hx rfl (hb hby d_prog_1_method_10_code_20) ?_
    refine XS.goto X396.here hx rfl (pc0 := 21) (pc' := 38) rfl (hb hby d_prog_1_method_10_code_21) (by decide) (by decide) ?_
    show Steps p.tables e below (T395.setTop (mkF m 38 #[vr a, vr nm, vd x, ss, uu, uu] [(.int (0 : Int32))])) tQ
    refine XS.istore X396.here hx rfl (hb hby d_prog_1_method_10_code_38) rfl (l' := #[vr a, vr nm, vd x, ss, vi (0 : Int32), uu]) rfl ?_
    refine XS.aloadN X396.here hx rfl (hb hby d_prog_1_method_10_code_40) rfl rfl ?_
    exact kk
  clear k399
  obtain ⟨T401, X402, e403, st404⟩ := getF X396 hx hZ hown (host := "") (Or.inl (tw57 hw)) Via.refl e397 F3 (g := (mkF m 41 #[vr a, vr nm, vd x, ss, vi (0 : Int32), uu] [(.ref a)])) rfl rfl (hb hby d_prog_1_method_10_code_41)
  have k405 : own_G p e below E0 T401 (mkF m 44 #[vr a, vr nm, vd x, ss, vi (0 : Int32), uu] [(.int (1 : Int32))]) := fun tQ kk => k400 tQ (st404 _ kk)
  clear k400 st404
  have k406 : own_G p e below E0 T401 (mkF m 49 #[vr a, vr nm, vd x, ss, vi (0 : Int32), uu] [(.ref a), (.double x)]) := by
    intro tQ kk
    refine k405 tQ ?_
    refine XS.ifNo X402.here hx rfl (hb hby d_prog_1_method_10_code_44) rfl (own_if_eqN (by decide)) ?_
    refine XS.dloadN X402.here hx rfl (hb hby d_prog_1_method_10_code_47) rfl ?_
    refine XS.aloadN X402.here hx rfl (hb hby d_prog_1_method_10_code_48) rfl rfl ?_
    exact kk
  clear k405
  obtain ⟨T407, X408, e409, st410⟩ := getF X402 hx hZ hown (host := "") (Or.inl (tw55 hw)) Via.refl e403 F2 (g := (mkF m 49 #[vr a, vr nm, vd x, ss, vi (0 : Int32), uu] [(.ref a), (.double x)])) rfl rfl (hb hby d_prog_1_method_10_code_49)
  have k411 : own_G p e below E0 T407 (mkF m 52 #[vr a, vr nm, vd x, ss, vi (0 : Int32), uu] [(.double (9218868437227405311 : UInt64)), (.double x)]) := fun tQ kk => k406 tQ (st410 _ kk)
  clear k406 st410
  have k412 : own_G p e below E0 T407 (mkF m 117 #[vr a, vr nm, vd x, ss, vi (0 : Int32), vi (0 : Int32)] [(.double x)]) := by
    intro tQ kk
    refine k411 tQ ?_
    refine XS.dcmpS (v := (own_c (own_z x) (own_z (9218868437227405311 : UInt64)))) X408.here hx rfl (hb hby d_prog_1_method_10_code_52) rfl (own_cE .l (own_cmpz nx own_nM)) ?_
    refine XS.ifYes X408.here hx rfl (pc0 := 53) (pc' := 60) rfl (hb hby d_prog_1_method_10_code_53) rfl (own_c_leY lx) (by decide) (by decide) ?_
    refine XS.iconst X408.here hx rfl (hb hby d_prog_1_method_10_code_60) ?_
    refine XS.goto X408.here hx rfl (pc0 := 61) (pc' := 78) rfl (hb hby d_prog_1_method_10_code_61) (by decide) (by decide) ?_
    show Steps p.tables e below (T407.setTop (mkF m 78 #[vr a, vr nm, vd x, ss, vi (0 : Int32), uu] [(.int (0 : Int32))])) tQ
    refine XS.istore X408.here hx rfl (hb hby d_prog_1_method_10_code_78) rfl (l' := #[vr a, vr nm, vd x, ss, vi (0 : Int32), vi (0 : Int32)]) rfl ?_
    refine XS.iload X408.here hx rfl (hb hby d_prog_1_method_10_code_80) rfl ?_
    refine XS.ifYes X408.here hx rfl (pc0 := 82) (pc' := 98) rfl (hb hby d_prog_1_method_10_code_82) rfl (own_if_eqY (by decide)) (by decide) (by decide) ?_
    refine XS.iload X408.here hx rfl (hb hby d_prog_1_method_10_code_98) rfl ?_
    show Steps p.tables e below (T407.setTop (mkF m 100 #[vr a, vr nm, vd x, ss, vi (0 : Int32), vi (0 : Int32)] [(.int (0 : Int32))])) tQ
    refine XS.ifYes X408.here hx rfl (pc0 := 100) (pc' := 116) rfl (hb hby d_prog_1_method_10_code_100) rfl (own_if_eqY (by decide)) (by decide) (by decide) ?_
    refine XS.dloadN X408.here hx rfl (hb hby d_prog_1_method_10_code_116) rfl ?_
    exact kk
  clear k411
  obtain ⟨fs, hr, hrun, hended, hW, hsame⟩ := X408.leave (v := some (.double x)) (fun h => by rw [Bd.returns] at h; cases h)
  have hrun0 := k412 _ (retOut X408 hx Bd.returns (t := .double) rfl (Or.inr (Or.inr (Or.inl ⟨rfl, rfl, _, rfl⟩))) (hb hby d_prog_1_method_10_code_117) hr)
  subst hE0
  refine ⟨_, _, hrun0, hrun, hended, _, _, rfl, ?_, ⟨_, rfl⟩, hW, hsame.mono (by decide) (by decide)⟩
  show QrmCg Z a nm x h0 n0 _ T407.heap _
  rw [e409]
  exact ⟨rfl, N0, rfl⟩
def QrmCk (Z : State) (a : Addr) (nm : Addr) (x : UInt64) (h0 : Heap) (n0 : Nat) (vQ : Option Value) (hQ : Heap) (LQ : List Loc) : Prop := vQ = some (.double x) ∧ Fr n0 LQ ∧ hQ = h0
theorem ef_rmCk (m : MethodId) (a : Addr) (nm : Addr) (x : UInt64) : entryFrame m #[(.ref a), (.ref nm), (.double x)] 4 = mkF m 0 #[vr a, vr nm, vd x, ss] [] := by first | (simp [entryFrame, mkF, argsToLocals, Value.category]; done) | rfl
abbrev mn23 : MethodName := ⟨"rootzone/Bound", "check", "(Ljava/lang/String;D)D"⟩
theorem d_prog_1_method_9_code_0 : decode prog_1_method_9_code 0 = .ok (.dload_n 2, 1) := by decide +kernel
theorem d_prog_1_method_9_code_1 : decode prog_1_method_9_code 1 = .ok (.invokestatic 59, 3) := by decide +kernel
def tw66 {Z : State} {a0 : Array Value} (hw : ∀ d ∈ tables_1, d.before a0 Z = true) := hw _ (List.mem_of_getElem? (i := 66) rfl)
def tw69 {Z : State} {a0 : Array Value} (hw : ∀ d ∈ tables_1, d.before a0 Z = true) := hw _ (List.mem_of_getElem? (i := 69) rfl)
def tw68 {Z : State} {a0 : Array Value} (hw : ∀ d ∈ tables_1, d.before a0 Z = true) := hw _ (List.mem_of_getElem? (i := 68) rfl)
theorem pd_24 : parseMethodDescriptor "(D)Z" = some ⟨[.double], some .boolean⟩ := by decide +kernel
def tw67 {Z : State} {a0 : Array Value} (hw : ∀ d ∈ tables_1, d.before a0 Z = true) := hw _ (List.mem_of_getElem? (i := 67) rfl)
theorem d_prog_1_method_9_code_4 : decode prog_1_method_9_code 4 = .ok (.ifCond .eq 11, 3) := by decide +kernel
theorem d_prog_1_method_9_code_15 : decode prog_1_method_9_code 15 = .ok (.aload_n 0, 1) := by decide +kernel
theorem d_prog_1_method_9_code_16 : decode prog_1_method_9_code 16 = .ok (.aload_n 1, 1) := by decide +kernel
theorem d_prog_1_method_9_code_17 : decode prog_1_method_9_code 17 = .ok (.dload_n 2, 1) := by decide +kernel
theorem d_prog_1_method_9_code_18 : decode prog_1_method_9_code 18 = .ok (.invokevirtual 71, 3) := by decide +kernel
def tw70 {Z : State} {a0 : Array Value} (hw : ∀ d ∈ tables_1, d.before a0 Z = true) := hw _ (List.mem_of_getElem? (i := 70) rfl)
def tw73 {Z : State} {a0 : Array Value} (hw : ∀ d ∈ tables_1, d.before a0 Z = true) := hw _ (List.mem_of_getElem? (i := 73) rfl)
def tw74 {Z : State} {a0 : Array Value} (hw : ∀ d ∈ tables_1, d.before a0 Z = true) := hw _ (List.mem_of_getElem? (i := 74) rfl)
theorem pd_25 : parseMethodDescriptor "(Ljava/lang/String;D)D" = some ⟨[(.object "java/lang/String"), .double], some .double⟩ := by decide +kernel
def tw71 {Z : State} {a0 : Array Value} (hw : ∀ d ∈ tables_1, d.before a0 Z = true) := hw _ (List.mem_of_getElem? (i := 71) rfl)
def tw72 {Z : State} {a0 : Array Value} (hw : ∀ d ∈ tables_1, d.before a0 Z = true) := hw _ (List.mem_of_getElem? (i := 72) rfl)
theorem d_prog_1_method_9_code_21 : decode prog_1_method_9_code 21 = .ok (.dreturn, 1) := by decide +kernel
set_option maxRecDepth 65536 in
set_option maxHeartbeats 40000000 in
theorem rmCk (l : Launch) (Z : State) (a0 : Array Value) (hw : ∀ d ∈ tables_1, d.before a0 Z = true) (ws : List Jvm.Cond) (a : Addr) (nm : Addr) (x : UInt64) (h0 : Heap) (n0 : Nat) (Z0 : n0 ≤ h0.size) (E1 : xa17 Z h0 a) (F0 : fd11 Z h0 a (.double FP.dconst0)) (F1 : fd12 Z h0 a (.int (1 : Int32))) (F2 : fd14 Z h0 a (.double (9218868437227405311 : UInt64))) (F3 : fd15 Z h0 a (.int (1 : Int32))) (nx : NoNaN64 x) (gx : ¬ own_z x < (own_z FP.dconst0)) (lx : ¬ (own_z (9218868437227405311 : UInt64)) < own_z x) :
    MetFree l mn23 (head1 (Jvm.Cond.code mn23 prog_1_method_9_code 4 (some .double) :: ws) ({ frames := 1, cells := 0, slots := 0, locals := 20 } : Room)) (fun aA U => aA = #[(.ref a), (.ref nm), (.double x)] ∧ Z.Warmed39 U.vm ∧ U.heap = h0) (fun _ _ _ _ _ => True) (fun _ U o U' => ∃ vR LR, o = .returned vR ∧ QrmCk Z a nm x h0 n0 vR U'.heap LR ∧ FrameEnd U o U' LR ({ frames := 1, cells := 0, slots := 0, locals := 20 } : Room).cells ({ frames := 1, cells := 0, slots := 0, locals := 20 } : Room).slots) := by
  refine MetFree.of_bodySF (plainFor_of_name pn_rootzone_Bound) hisR ?_
  intro p e s m args below meth c s₁ Bd hml0 hPre hKk
  obtain ⟨rfl, hZ, hh⟩ := hPre
  have hx := Bd.exec
  have hby := Bd.bytes
  skip
  have hml : c.maxLocals = 4 := hml0
  have hown : s.vm.findClass "rootzone/Bound" = some m.cls := findClass_of_methodNamed Bd.named
  have hnm := (name_of_methodNamed Bd.named Bd.method).1
  have X0 : Stand p l e ({ frames := 1, cells := 0, slots := 0, locals := 20 } : Room) s m #[(.ref a), (.ref nm), (.double x)] below meth c s₁ [] 0 0 := Stand.of_body Bd
  have e0 : s₁.heap = h0 := by rw [← hh, Bd.state]; rfl
  have N0 := Fr.nil n0
  obtain ⟨E0, hE0⟩ : ∃ zE : State, zE = s₁.setTop (entryFrame m #[(.ref a), (.ref nm), (.double x)] 4) := ⟨_, rfl⟩
  have k0 : own_G p e below E0 s₁ (mkF m 0 #[vr a, vr nm, vd x, ss] []) := fun tz kz => hE0 ▸ castTop (ef_rmCk m a nm x) kz
  have k413 : own_G p e below E0 s₁ (mkF m 1 #[vr a, vr nm, vd x, ss] [(.double x)]) := by
    intro tQ kk
    refine k0 tQ ?_
    refine XS.dloadN X0.here hx rfl (hb hby d_prog_1_method_9_code_0) rfl ?_
    exact kk
  clear k0
  obtain ⟨_, _, ⟨T414, L415, kc416, nc417⟩, -, X418, ⟨Lc419, hQ420, l421, y422, z423⟩, st424⟩ := Jvm.LawKit.callS X0 hx (y := mn21) hown (mvT hZ (tw66 hw)) (mvT hZ (tw67 hw)) (mvT hZ (tw68 hw)) (mvT hZ (tw69 hw)) (by decide) (backOf (W := 0) (rmNa l Z a0 hw [] x h0 n0 Z0 nx) hZ (tw69 hw) (tw68 hw) (by decide) (by decide)) (g := (mkF m 1 #[vr a, vr nm, vd x, ss] [(.double x)])) rfl (by rw [hml]; rfl) (argsL := [(.double x)]) (rest := []) (lenOf pd_24 rfl) rfl (by show 2 * 0 + _ ≤ _; exact Nat.le_of_eq rfl) (hb hby d_prog_1_method_9_code_1) (fun _ _ => ⟨rfl, e0, (by decide : 0 + 0 ≤ _), (by decide : 0 + 0 ≤ _)⟩)
  dsimp only [Pt.U, Pt.locs, Pt.cells, Pt.slots] at X418 l421 y422 z423 st424 hQ420
  subst y422 z423
  obtain ⟨rfl, N425, e426⟩ := hQ420
  have N428 : Fr n0 L415 := by rw [l421]; exact Fr.app N0 N425
  clear l421 N425
  have k429 : own_G p e below E0 T414 (mkF m 4 #[vr a, vr nm, vd x, ss] [(.int (0 : Int32))]) := fun tQ kk => k413 tQ (st424 _ kk)
  clear k413 st424
  have k430 : own_G p e below E0 T414 (mkF m 18 #[vr a, vr nm, vd x, ss] [(.double x), (.ref nm), (.ref a)]) := by
    intro tQ kk
    refine k429 tQ ?_
    refine XS.ifYes X418.here hx rfl (pc0 := 4) (pc' := 15) rfl (hb hby d_prog_1_method_9_code_4) rfl (own_if_eqY (by decide)) (by decide) (by decide) ?_
    refine XS.aloadN X418.here hx rfl (hb hby d_prog_1_method_9_code_15) rfl rfl ?_
    refine XS.aloadN X418.here hx rfl (hb hby d_prog_1_method_9_code_16) rfl rfl ?_
    refine XS.dloadN X418.here hx rfl (hb hby d_prog_1_method_9_code_17) rfl ?_
    exact kk
  clear k429
  obtain ⟨cq442, kq443, qa444, qb445, qc446⟩ := isOf hZ e426 E1
  obtain ⟨_, _, ⟨T431, L432, kc433, nc434⟩, -, X435, ⟨Lc436, hQ437, l438, y439, z440⟩, st441⟩ := X418.virtualBack hx (y := mn22) (z := mn22) hown (mvT hZ (tw70 hw)) (mvT hZ (tw71 hw)) (notFace_of_selects (args := #[]) (mvT hZ (tw73 hw))) (mvT hZ (tw73 hw)) (mvT hZ (tw72 hw)) (by decide) (backOf (W := 0) (rmCg l Z a0 hw [] a nm x h0 n0 Z0 E1 F0 F1 F2 F3 nx gx lx) hZ (tw74 hw) (tw36 hw) (by decide) (by decide)) qa444 qc446 (g := (mkF m 18 #[vr a, vr nm, vd x, ss] [(.double x), (.ref nm), (.ref a)])) rfl (by rw [hml]; rfl) (Steps.refl _) (argsL := [(.ref nm), (.double x)]) (rest := []) (lenOf pd_25 rfl) rfl (by show 2 * 0 + _ ≤ _; exact Nat.le_of_eq rfl) (hb hby d_prog_1_method_9_code_18) (fun _ _ => ⟨rfl, e426, (by decide : 0 + 0 ≤ _), (by decide : 0 + 0 ≤ _)⟩)
  dsimp only [Pt.U, Pt.locs, Pt.cells, Pt.slots] at X435 l438 y439 z440 st441 hQ437
  subst y439 z440
  obtain ⟨rfl, N447, e448⟩ := hQ437
  have N450 : Fr n0 L432 := by rw [l438]; exact Fr.app N428 N447
  clear l438 N447
  have k451 : own_G p e below E0 T431 (mkF m 21 #[vr a, vr nm, vd x, ss] [(.double x)]) := fun tQ kk => k430 tQ (st441.trans kk)
  clear k430 st441
  obtain ⟨fs, hr, hrun, hended, hW, hsame⟩ := X435.leave (v := some (.double x)) (fun h => by rw [Bd.returns] at h; cases h)
  have hrun0 := k451 _ (retOut X435 hx Bd.returns (t := .double) rfl (Or.inr (Or.inr (Or.inl ⟨rfl, rfl, _, rfl⟩))) (hb hby d_prog_1_method_9_code_21) hr)
  subst hE0
  refine ⟨_, _, hrun0, hrun, hended, _, _, rfl, ?_, ⟨_, rfl⟩, hW, hsame.mono (by decide) (by decide)⟩
  show QrmCk Z a nm x h0 n0 _ T431.heap _
  rw [e448]
  exact ⟨rfl, N450, rfl⟩
def Qrm0 (Z : State) (p0 : Int64) (p1 : Int32) (p2 : Int32) (p3 : Int32) (G1 : Int32) (h0 : Heap) (n0 : Nat) (vQ : Option Value) (hQ : Heap) (LQ : List Loc) : Prop := vQ = some (.int (1 : Int32)) ∧ Fr n0 LQ
theorem ef_rm0 (m : MethodId) (p0 : Int64) (p1 : Int32) (p2 : Int32) (p3 : Int32) (G1 : Int32) : entryFrame m #[(.long p0), (.int p1), (.int p2), (.int p3)] maxLocals = mkF m 0 #[vj p0, ss, vi p1, vi p2, vi p3, uu, uu, uu, uu, uu, uu, uu, uu, uu, uu, uu, uu] [] := by first | (simp [entryFrame, mkF, argsToLocals, Value.category, maxLocals]; done) | rfl
def tw0 {Z : State} {a0 : Array Value} (hw : ∀ d ∈ tables_1, d.before a0 Z = true) := hw _ (List.mem_of_getElem? (i := 0) rfl)
def tw1 {Z : State} {a0 : Array Value} (hw : ∀ d ∈ tables_1, d.before a0 Z = true) := hw _ (List.mem_of_getElem? (i := 1) rfl)
def tw2 {Z : State} {a0 : Array Value} (hw : ∀ d ∈ tables_1, d.before a0 Z = true) := hw _ (List.mem_of_getElem? (i := 2) rfl)
def tw3 {Z : State} {a0 : Array Value} (hw : ∀ d ∈ tables_1, d.before a0 Z = true) := hw _ (List.mem_of_getElem? (i := 3) rfl)
def tw6 {Z : State} {a0 : Array Value} (hw : ∀ d ∈ tables_1, d.before a0 Z = true) := hw _ (List.mem_of_getElem? (i := 6) rfl)
def tw5 {Z : State} {a0 : Array Value} (hw : ∀ d ∈ tables_1, d.before a0 Z = true) := hw _ (List.mem_of_getElem? (i := 5) rfl)
theorem pd_26 : parseMethodDescriptor "(IJI)D" = some ⟨[.int, .long, .int], some .double⟩ := by decide +kernel
def tw4 {Z : State} {a0 : Array Value} (hw : ∀ d ∈ tables_1, d.before a0 Z = true) := hw _ (List.mem_of_getElem? (i := 4) rfl)
def tw8 {Z : State} {a0 : Array Value} (hw : ∀ d ∈ tables_1, d.before a0 Z = true) := hw _ (List.mem_of_getElem? (i := 8) rfl)
def tw11 {Z : State} {a0 : Array Value} (hw : ∀ d ∈ tables_1, d.before a0 Z = true) := hw _ (List.mem_of_getElem? (i := 11) rfl)
theorem pd_27 : parseMethodDescriptor "(C)Ljava/lang/String;" = some ⟨[.char], some (.object "java/lang/String")⟩ := by decide +kernel
def tw9 {Z : State} {a0 : Array Value} (hw : ∀ d ∈ tables_1, d.before a0 Z = true) := hw _ (List.mem_of_getElem? (i := 9) rfl)
def tw34 {Z : State} {a0 : Array Value} (hw : ∀ d ∈ tables_1, d.before a0 Z = true) := hw _ (List.mem_of_getElem? (i := 34) rfl)
def tw37 {Z : State} {a0 : Array Value} (hw : ∀ d ∈ tables_1, d.before a0 Z = true) := hw _ (List.mem_of_getElem? (i := 37) rfl)
theorem pd_28 : parseMethodDescriptor "()Lrootzone/Bound;" = some ⟨[], some (.object "rootzone/Bound")⟩ := by decide +kernel
def tw35 {Z : State} {a0 : Array Value} (hw : ∀ d ∈ tables_1, d.before a0 Z = true) := hw _ (List.mem_of_getElem? (i := 35) rfl)
def tw61 {Z : State} {a0 : Array Value} (hw : ∀ d ∈ tables_1, d.before a0 Z = true) := hw _ (List.mem_of_getElem? (i := 61) rfl)
def tw64 {Z : State} {a0 : Array Value} (hw : ∀ d ∈ tables_1, d.before a0 Z = true) := hw _ (List.mem_of_getElem? (i := 64) rfl)
def tw65 {Z : State} {a0 : Array Value} (hw : ∀ d ∈ tables_1, d.before a0 Z = true) := hw _ (List.mem_of_getElem? (i := 65) rfl)
def tw62 {Z : State} {a0 : Array Value} (hw : ∀ d ∈ tables_1, d.before a0 Z = true) := hw _ (List.mem_of_getElem? (i := 62) rfl)
def tw63 {Z : State} {a0 : Array Value} (hw : ∀ d ∈ tables_1, d.before a0 Z = true) := hw _ (List.mem_of_getElem? (i := 63) rfl)
def tw75 {Z : State} {a0 : Array Value} (hw : ∀ d ∈ tables_1, d.before a0 Z = true) := hw _ (List.mem_of_getElem? (i := 75) rfl)
set_option maxRecDepth 65536 in
set_option maxHeartbeats 40000000 in
theorem rm0 (l : Launch) (Z : State) (a0 : Array Value) (hw : ∀ d ∈ tables_1, d.before a0 Z = true) (ws : List Jvm.Cond) (p0 : Int64) (p1 : Int32) (p2 : Int32) (p3 : Int32) (G1 : Int32) (h0 : Heap) (n0 : Nat) (Z0 : n0 ≤ h0.size) (FS : Sta Z h0 "java/lang/String" "COMPACT_STRINGS" "Z" (.int G1)) (hG : ¬ G1 = 0) :
    MetFree l x (head1 (Jvm.Cond.code x code maxLocals ret :: ws) room_1) (fun aA U => aA = #[(.long p0), (.int p1), (.int p2), (.int p3)] ∧ Z.Warmed39 U.vm ∧ U.heap = h0) (fun _ _ _ _ _ => True) (fun _ U o U' => ∃ vR LR, o = .returned vR ∧ Qrm0 Z p0 p1 p2 p3 G1 h0 n0 vR U'.heap LR ∧ ReturnedEndW U o U' LR 24 2176) := by
  refine MetFree.of_bodySF (plainFor_of_name pn_rootzone_BoundNotNegativePinLaw) hisR ?_
  intro p e s m args below meth c s₁ Bd hml0 hPre hKk
  obtain ⟨rfl, hZ, hh⟩ := hPre
  have hx := Bd.exec
  have hby := Bd.bytes
  skip
  have hml : c.maxLocals = 17 := hml0
  have hown : s.vm.findClass "rootzone/BoundNotNegativePinLaw" = some m.cls := findClass_of_methodNamed Bd.named
  have hnm := (name_of_methodNamed Bd.named Bd.method).1
  have X0 : Stand p l e room_1 (s.setVm s.vm) m #[(.long p0), (.int p1), (.int p2), (.int p3)] below meth c s₁ [] 0 0 := Stand.of_body Bd
  have e0 : s₁.heap = h0 := by rw [← hh, Bd.state]; rfl
  have N0 := Fr.nil n0
  obtain ⟨E0, hE0⟩ : ∃ zE : State, zE = s₁.setTop (entryFrame m #[(.long p0), (.int p1), (.int p2), (.int p3)] maxLocals) := ⟨_, rfl⟩
  have k0 : own_G p e below E0 s₁ (mkF m 0 #[vj p0, ss, vi p1, vi p2, vi p3, uu, uu, uu, uu, uu, uu, uu, uu, uu, uu, uu, uu] []) := fun tz kz => hE0 ▸ castTop (ef_rm0 m p0 p1 p2 p3 G1) kz
  have S0 : s.Since s.vm 0 := (State.WarmedH.refl s).since 0
  have LE0 : own_Le 0 h0 := Nat.zero_le _
  have k452 : own_G p e below E0 s₁ (mkF m 1 #[vj p0, ss, vi p1, vi p2, vi p3, uu, uu, uu, uu, uu, uu, uu, uu, uu, uu, uu, uu] [(.long p0)]) := by
    intro tQ kk
    refine k0 tQ ?_
    refine XT.lloadN X0.here hx rfl (hb hby at_0) rfl ?_
    exact kk
  clear k0
  have st453 := X0.ldc2Long hx hown (mvT hZ (tw0 hw)) (g := (mkF m 1 #[vj p0, ss, vi p1, vi p2, vi p3, uu, uu, uu, uu, uu, uu, uu, uu, uu, uu, uu, uu] [(.long p0)])) rfl (hb hby at_1)
  have k454 : own_G p e below E0 s₁ (mkF m 4 #[vj p0, ss, vi p1, vi p2, vi p3, uu, uu, uu, uu, uu, uu, uu, uu, uu, uu, uu, uu] [(.long (9223372036854775807 : Int64)), (.long p0)]) := fun tQ kk => k452 tQ (st453 _ kk)
  clear k452 st453
  have k455 : own_G p e below E0 s₁ (mkF m 8 #[vj p0, ss, vi p1, vi p2, vi p3, vj (p0 &&& (9223372036854775807 : Int64)), ss, uu, uu, uu, uu, uu, uu, uu, uu, uu, uu] [(.int p1)]) := by
    intro tQ kk
    refine k454 tQ ?_
    refine XT.land X0.here hx rfl (hb hby at_4) rfl ?_
    refine XT.lstore X0.here hx rfl (hb hby at_5) rfl (l' := #[vj p0, ss, vi p1, vi p2, vi p3, vj (p0 &&& (9223372036854775807 : Int64)), ss, uu, uu, uu, uu, uu, uu, uu, uu, uu, uu]) rfl ?_
    refine XS.iloadN X0.here hx rfl (hb hby at_7) rfl ?_
    exact kk
  clear k454
  have st456 := X0.ldcInt hx hown (mvT hZ (tw1 hw)) (g := (mkF m 8 #[vj p0, ss, vi p1, vi p2, vi p3, vj (p0 &&& (9223372036854775807 : Int64)), ss, uu, uu, uu, uu, uu, uu, uu, uu, uu, uu] [(.int p1)])) rfl (hb hby at_8)
  have k457 : own_G p e below E0 s₁ (mkF m 10 #[vj p0, ss, vi p1, vi p2, vi p3, vj (p0 &&& (9223372036854775807 : Int64)), ss, uu, uu, uu, uu, uu, uu, uu, uu, uu, uu] [(.int (1073741823 : Int32)), (.int p1)]) := fun tQ kk => k455 tQ (st456 _ kk)
  clear k455 st456
  have k458 : own_G p e below E0 s₁ (mkF m 16 #[vj p0, ss, vi p1, vi p2, vi p3, vj (p0 &&& (9223372036854775807 : Int64)), ss, vi ((p1 &&& (1073741823 : Int32)) + (1 : Int32)), uu, uu, uu, uu, uu, uu, uu, uu, uu] [(.int p2)]) := by
    intro tQ kk
    refine k457 tQ ?_
    refine XS.iand X0.here hx rfl (hb hby at_10) rfl ?_
    refine XS.iconst X0.here hx rfl (hb hby at_11) ?_
    refine XS.iadd X0.here hx rfl (hb hby at_12) rfl ?_
    refine XS.istore X0.here hx rfl (hb hby at_13) rfl (l' := #[vj p0, ss, vi p1, vi p2, vi p3, vj (p0 &&& (9223372036854775807 : Int64)), ss, vi ((p1 &&& (1073741823 : Int32)) + (1 : Int32)), uu, uu, uu, uu, uu, uu, uu, uu, uu]) rfl ?_
    show Steps p.tables e below (s₁.setTop (mkF m 15 #[vj p0, ss, vi p1, vi p2, vi p3, vj (p0 &&& (9223372036854775807 : Int64)), ss, vi ((p1 &&& (1073741823 : Int32)) + (1 : Int32)), uu, uu, uu, uu, uu, uu, uu, uu, uu] [])) tQ
    refine XS.iloadN X0.here hx rfl (hb hby at_15) rfl ?_
    exact kk
  clear k457
  have st459 := X0.ldcInt hx hown (mvT hZ (tw2 hw)) (g := (mkF m 16 #[vj p0, ss, vi p1, vi p2, vi p3, vj (p0 &&& (9223372036854775807 : Int64)), ss, vi ((p1 &&& (1073741823 : Int32)) + (1 : Int32)), uu, uu, uu, uu, uu, uu, uu, uu, uu] [(.int p2)])) rfl (hb hby at_16)
  have k460 : own_G p e below E0 s₁ (mkF m 18 #[vj p0, ss, vi p1, vi p2, vi p3, vj (p0 &&& (9223372036854775807 : Int64)), ss, vi ((p1 &&& (1073741823 : Int32)) + (1 : Int32)), uu, uu, uu, uu, uu, uu, uu, uu, uu] [(.int (2147483647 : Int32)), (.int p2)]) := fun tQ kk => k458 tQ (st459 _ kk)
  clear k458 st459
  have k461 : own_G p e below E0 s₁ (mkF m 30 #[vj p0, ss, vi p1, vi p2, vi p3, vj (p0 &&& (9223372036854775807 : Int64)), ss, vi ((p1 &&& (1073741823 : Int32)) + (1 : Int32)), vi ((p2 &&& (2147483647 : Int32)) % (6 : Int32)), uu, uu, uu, uu, uu, uu, uu, uu] [(.int ((p1 &&& (1073741823 : Int32)) + (1 : Int32))), (.long (p0 &&& (9223372036854775807 : Int64))), (.int ((p2 &&& (2147483647 : Int32)) % (6 : Int32)))]) := by
    intro tQ kk
    refine k460 tQ ?_
    refine XS.iand X0.here hx rfl (hb hby at_18) rfl ?_
    refine XS.bipush X0.here hx rfl (hb hby at_19) ?_
    refine iremM X0 hx rfl (hb hby at_21) rfl (by decide) ?_
    refine XS.istore X0.here hx rfl (hb hby at_22) rfl (l' := #[vj p0, ss, vi p1, vi p2, vi p3, vj (p0 &&& (9223372036854775807 : Int64)), ss, vi ((p1 &&& (1073741823 : Int32)) + (1 : Int32)), vi ((p2 &&& (2147483647 : Int32)) % (6 : Int32)), uu, uu, uu, uu, uu, uu, uu, uu]) rfl ?_
    show Steps p.tables e below (s₁.setTop (mkF m 24 #[vj p0, ss, vi p1, vi p2, vi p3, vj (p0 &&& (9223372036854775807 : Int64)), ss, vi ((p1 &&& (1073741823 : Int32)) + (1 : Int32)), vi ((p2 &&& (2147483647 : Int32)) % (6 : Int32)), uu, uu, uu, uu, uu, uu, uu, uu] [])) tQ
    refine XS.iload X0.here hx rfl (hb hby at_24) rfl ?_
    refine XT.lload X0.here hx rfl (hb hby at_26) rfl ?_
    refine XS.iload X0.here hx rfl (hb hby at_28) rfl ?_
    exact kk
  clear k460
  obtain ⟨_, _, ⟨T462, L463, kc464, nc465⟩, -, X466, ⟨Lc467, hQ468, l469, y470, z471⟩, st472⟩ := Jvm.LawKit.callS X0 hx (y := mn0) hown (mvT hZ (tw3 hw)) (mvT hZ (tw4 hw)) (mvT hZ (tw5 hw)) (mvT hZ (tw6 hw)) (by decide) (backOf (W := 0) (rmPk l Z a0 hw [] ((p2 &&& (2147483647 : Int32)) % (6 : Int32)) (p0 &&& (9223372036854775807 : Int64)) ((p1 &&& (1073741823 : Int32)) + (1 : Int32)) h0 n0 Z0 (own_n63 p0) (own_d30 p1)) hZ (tw6 hw) (tw5 hw) (by decide) (by decide)) (g := (mkF m 30 #[vj p0, ss, vi p1, vi p2, vi p3, vj (p0 &&& (9223372036854775807 : Int64)), ss, vi ((p1 &&& (1073741823 : Int32)) + (1 : Int32)), vi ((p2 &&& (2147483647 : Int32)) % (6 : Int32)), uu, uu, uu, uu, uu, uu, uu, uu] [(.int ((p1 &&& (1073741823 : Int32)) + (1 : Int32))), (.long (p0 &&& (9223372036854775807 : Int64))), (.int ((p2 &&& (2147483647 : Int32)) % (6 : Int32)))])) rfl (by rw [hml]; rfl) (argsL := [(.int ((p2 &&& (2147483647 : Int32)) % (6 : Int32))), (.long (p0 &&& (9223372036854775807 : Int64))), (.int ((p1 &&& (1073741823 : Int32)) + (1 : Int32)))]) (rest := []) (lenOf pd_26 rfl) rfl (by show 2 * 0 + _ ≤ _; exact Nat.le_of_eq rfl) (hb hby at_30) (fun _ _ => ⟨rfl, e0, (by decide : 0 + 0 ≤ _), (by decide : 0 + 0 ≤ _)⟩)
  dsimp only [Pt.U, Pt.locs, Pt.cells, Pt.slots] at X466 l469 y470 z471 st472 hQ468
  subst y470 z471
  obtain ⟨v476, rfl, N473, e474, g477⟩ := hQ468
  have N478 : Fr n0 L463 := by rw [l469]; exact Fr.app N0 N473
  clear l469 N473
  have k479 : own_G p e below E0 T462 (mkF m 33 #[vj p0, ss, vi p1, vi p2, vi p3, vj (p0 &&& (9223372036854775807 : Int64)), ss, vi ((p1 &&& (1073741823 : Int32)) + (1 : Int32)), vi ((p2 &&& (2147483647 : Int32)) % (6 : Int32)), uu, uu, uu, uu, uu, uu, uu, uu] [(.double v476)]) := fun tQ kk => k461 tQ (st472 _ kk)
  clear k461 st472
  have hV := g477
  have k480 : own_G p e below E0 T462 (mkF m 42 #[vj p0, ss, vi p1, vi p2, vi p3, vj (p0 &&& (9223372036854775807 : Int64)), ss, vi ((p1 &&& (1073741823 : Int32)) + (1 : Int32)), vi ((p2 &&& (2147483647 : Int32)) % (6 : Int32)), vd v476, ss, uu, uu, uu, uu, uu, uu] [(.int ((p3 &&& (255 : Int32)).toUInt32.toUInt16.toUInt32.toInt32))]) := by
    intro tQ kk
    refine k479 tQ ?_
    refine XS.dstore X466.here hx rfl (hb hby at_33) rfl (l' := #[vj p0, ss, vi p1, vi p2, vi p3, vj (p0 &&& (9223372036854775807 : Int64)), ss, vi ((p1 &&& (1073741823 : Int32)) + (1 : Int32)), vi ((p2 &&& (2147483647 : Int32)) % (6 : Int32)), vd v476, ss, uu, uu, uu, uu, uu, uu]) rfl ?_
    refine XS.iload X466.here hx rfl (hb hby at_35) rfl ?_
    refine XS.sipush X466.here hx rfl (hb hby at_37) ?_
    refine XS.iand X466.here hx rfl (hb hby at_40) rfl ?_
    show Steps p.tables e below (T462.setTop (mkF m 41 #[vj p0, ss, vi p1, vi p2, vi p3, vj (p0 &&& (9223372036854775807 : Int64)), ss, vi ((p1 &&& (1073741823 : Int32)) + (1 : Int32)), vi ((p2 &&& (2147483647 : Int32)) % (6 : Int32)), vd v476, ss, uu, uu, uu, uu, uu, uu] [(.int (p3 &&& (255 : Int32)))])) tQ
    refine XT.i2c X466.here hx rfl (hb hby at_41) rfl ?_
    exact kk
  clear k479
  obtain ⟨_, _, ⟨T481, L482, kc483, nc484⟩, -, X485, ⟨Lc486, hQ487, l488, y489, z490⟩, st491⟩ := Jvm.LawKit.callS X466 hx (y := mn7) hown (mvT hZ (tw8 hw)) (mvT hZ (tw9 hw)) (mvT hZ (tw10 hw)) (mvT hZ (tw11 hw)) (by decide) (backOf (W := 0) (rmVo l Z a0 hw [] ((p3 &&& (255 : Int32)).toUInt32.toUInt16.toUInt32.toInt32) G1 h0 n0 Z0 FS hG (own_i2c p3)) hZ (tw11 hw) (tw10 hw) (by decide) (by decide)) (g := (mkF m 42 #[vj p0, ss, vi p1, vi p2, vi p3, vj (p0 &&& (9223372036854775807 : Int64)), ss, vi ((p1 &&& (1073741823 : Int32)) + (1 : Int32)), vi ((p2 &&& (2147483647 : Int32)) % (6 : Int32)), vd v476, ss, uu, uu, uu, uu, uu, uu] [(.int ((p3 &&& (255 : Int32)).toUInt32.toUInt16.toUInt32.toInt32))])) rfl (by rw [hml]; rfl) (argsL := [(.int ((p3 &&& (255 : Int32)).toUInt32.toUInt16.toUInt32.toInt32))]) (rest := []) (lenOf pd_27 rfl) rfl (by show 2 * 0 + _ ≤ _; exact Nat.le_of_eq rfl) (hb hby at_42) (fun _ _ => ⟨rfl, e474, (by decide : 0 + 2 ≤ _), (by decide : 0 + 5 ≤ _)⟩)
  dsimp only [Pt.U, Pt.locs, Pt.cells, Pt.slots] at X485 l488 y489 z490 st491 hQ487
  subst y489 z490
  obtain ⟨r495, rfl, N492, K496, nw497⟩ := hQ487
  have N498 : Fr n0 L482 := by rw [l488]; exact Fr.app N478 N492
  clear l488 N492
  have ge499 : n0 ≤ r495 := Nat.le_trans Z0 nw497
  have Z500 : n0 ≤ T481.heap.size := Nat.le_trans Z0 K496.1
  have F501 : own_Le 0 T481.heap := LE0.keep K496
  have k502 : own_G p e below E0 T481 (mkF m 45 #[vj p0, ss, vi p1, vi p2, vi p3, vj (p0 &&& (9223372036854775807 : Int64)), ss, vi ((p1 &&& (1073741823 : Int32)) + (1 : Int32)), vi ((p2 &&& (2147483647 : Int32)) % (6 : Int32)), vd v476, ss, uu, uu, uu, uu, uu, uu] [(.ref r495)]) := fun tQ kk => k480 tQ (st491 _ kk)
  clear k480 st491
  have k503 : own_G p e below E0 T481 (mkF m 47 #[vj p0, ss, vi p1, vi p2, vi p3, vj (p0 &&& (9223372036854775807 : Int64)), ss, vi ((p1 &&& (1073741823 : Int32)) + (1 : Int32)), vi ((p2 &&& (2147483647 : Int32)) % (6 : Int32)), vd v476, ss, vr r495, uu, uu, uu, uu, uu] []) := by
    intro tQ kk
    refine k502 tQ ?_
    refine XS.astore X485.here hx rfl (hb hby at_45) rfl rfl (l' := #[vj p0, ss, vi p1, vi p2, vi p3, vj (p0 &&& (9223372036854775807 : Int64)), ss, vi ((p1 &&& (1073741823 : Int32)) + (1 : Int32)), vi ((p2 &&& (2147483647 : Int32)) % (6 : Int32)), vd v476, ss, vr r495, uu, uu, uu, uu, uu]) rfl ?_
    exact kk
  clear k502
  obtain ⟨_, _, ⟨T504, L505, kc506, nc507⟩, -, X508, S515, G516, ⟨Lc509, hQ510, l511, y512, z513⟩, st514⟩ := callSS X485 hx (y := mn19) hown (mvT hZ (tw34 hw)) (mvT hZ (tw35 hw)) (mvT hZ (tw36 hw)) (mvT hZ (tw37 hw)) (by decide) (backOfS (W := 0) (rmBm l Z a0 hw []  T481.heap n0 Z500 ) hZ (tw37 hw) (tw36 hw) (by decide) (by decide)) (g := (mkF m 47 #[vj p0, ss, vi p1, vi p2, vi p3, vj (p0 &&& (9223372036854775807 : Int64)), ss, vi ((p1 &&& (1073741823 : Int32)) + (1 : Int32)), vi ((p2 &&& (2147483647 : Int32)) % (6 : Int32)), vd v476, ss, vr r495, uu, uu, uu, uu, uu] [])) rfl (by rw [hml]; rfl) (argsL := []) (rest := []) (lenOf pd_28 rfl) rfl (by show 2 * 0 + _ ≤ _; exact Nat.le_of_eq rfl) (hb hby at_47) (fun _ _ => ⟨rfl, rfl, (by decide : 2 + 5 ≤ _), (by decide : 5 + 110 ≤ _)⟩)
  dsimp only [Pt.U, Pt.locs, Pt.cells, Pt.slots] at X508 l511 y512 z513 st514 hQ510 S515 G516
  subst y512 z513
  obtain ⟨X517, S518, hZ, hown⟩ := rebS S0 F501 X508 S515 G516 hZ hown
  clear X508 S515 G516
  obtain ⟨r522, rfl, N519, K523, g524, g525, g526, g527, g528, nw529⟩ := hQ510
  have N530 : Fr n0 L505 := by rw [l511]; exact Fr.app N498 N519
  clear l511 N519
  have ge531 : n0 ≤ r522 := Nat.le_trans Z500 nw529
  have Z532 : n0 ≤ T504.heap.size := Nat.le_trans Z500 K523.1
  clear Z500
  have F533 : own_Le T504.heap.size T504.heap := Nat.le_refl _
  have k534 : own_G p e below E0 T504 (mkF m 50 #[vj p0, ss, vi p1, vi p2, vi p3, vj (p0 &&& (9223372036854775807 : Int64)), ss, vi ((p1 &&& (1073741823 : Int32)) + (1 : Int32)), vi ((p2 &&& (2147483647 : Int32)) % (6 : Int32)), vd v476, ss, vr r495, uu, uu, uu, uu, uu] [(.ref r522)]) := fun tQ kk => k503 tQ (st514.trans kk)
  clear k503 st514
  have k535 : own_G p e below E0 T504 (mkF m 58 #[vj p0, ss, vi p1, vi p2, vi p3, vj (p0 &&& (9223372036854775807 : Int64)), ss, vi ((p1 &&& (1073741823 : Int32)) + (1 : Int32)), vi ((p2 &&& (2147483647 : Int32)) % (6 : Int32)), vd v476, ss, vr r495, vr r522, uu, uu, uu, uu] [(.double v476), (.ref r495), (.ref r522)]) := by
    intro tQ kk
    refine k534 tQ ?_
    refine XS.astore X517.here hx rfl (hb hby at_50) rfl rfl (l' := #[vj p0, ss, vi p1, vi p2, vi p3, vj (p0 &&& (9223372036854775807 : Int64)), ss, vi ((p1 &&& (1073741823 : Int32)) + (1 : Int32)), vi ((p2 &&& (2147483647 : Int32)) % (6 : Int32)), vd v476, ss, vr r495, vr r522, uu, uu, uu, uu]) rfl ?_
    refine XS.aload X517.here hx rfl (hb hby at_52) rfl rfl ?_
    refine XS.aload X517.here hx rfl (hb hby at_54) rfl rfl ?_
    refine XS.dload X517.here hx rfl (hb hby at_56) rfl ?_
    exact kk
  clear k534
  obtain ⟨cq547, kq548, qa549, qb550, qc551⟩ := isOf hZ rfl g524
  obtain ⟨_, _, ⟨T536, L537, kc538, nc539⟩, -, X540, ⟨Lc541, hQ542, l543, y544, z545⟩, st546⟩ := X517.virtualBack hx (y := mn23) (z := mn23) hown (mvT hZ (tw61 hw)) (mvT hZ (tw62 hw)) (notFace_of_selects (args := #[]) (mvT hZ (tw64 hw))) (mvT hZ (tw64 hw)) (mvT hZ (tw63 hw)) (by decide) (backOf (W := 0) (rmCk l Z a0 hw [] r522 r495 v476 T504.heap n0 Z532 g524 g525 g526 g527 g528 hV.1 (own_V0 hV) (Int.not_lt.mpr hV.2.2)) hZ (tw65 hw) (tw36 hw) (by decide) (by decide)) qa549 qc551 (g := (mkF m 58 #[vj p0, ss, vi p1, vi p2, vi p3, vj (p0 &&& (9223372036854775807 : Int64)), ss, vi ((p1 &&& (1073741823 : Int32)) + (1 : Int32)), vi ((p2 &&& (2147483647 : Int32)) % (6 : Int32)), vd v476, ss, vr r495, vr r522, uu, uu, uu, uu] [(.double v476), (.ref r495), (.ref r522)])) rfl (by rw [hml]; rfl) (Steps.refl _) (argsL := [(.ref r495), (.double v476)]) (rest := []) (lenOf pd_25 rfl) rfl (by show 2 * 0 + _ ≤ _; exact Nat.le_of_eq rfl) (hb hby at_58) (fun _ _ => ⟨rfl, rfl, (by decide : 7 + 0 ≤ _), (by decide : 115 + 0 ≤ _)⟩)
  dsimp only [Pt.U, Pt.locs, Pt.cells, Pt.slots] at X540 l543 y544 z545 st546 hQ542
  subst y544 z545
  obtain ⟨rfl, N552, e553⟩ := hQ542
  have N555 : Fr n0 L537 := by rw [l543]; exact Fr.app N530 N552
  clear l543 N552
  have k556 : own_G p e below E0 T536 (mkF m 61 #[vj p0, ss, vi p1, vi p2, vi p3, vj (p0 &&& (9223372036854775807 : Int64)), ss, vi ((p1 &&& (1073741823 : Int32)) + (1 : Int32)), vi ((p2 &&& (2147483647 : Int32)) % (6 : Int32)), vd v476, ss, vr r495, vr r522, uu, uu, uu, uu] [(.double v476)]) := fun tQ kk => k535 tQ (st546.trans kk)
  clear k535 st546
  have k557 : own_G p e below E0 T536 (mkF m 69 #[vj p0, ss, vi p1, vi p2, vi p3, vj (p0 &&& (9223372036854775807 : Int64)), ss, vi ((p1 &&& (1073741823 : Int32)) + (1 : Int32)), vi ((p2 &&& (2147483647 : Int32)) % (6 : Int32)), vd v476, ss, vr r495, vr r522, vd v476, ss, uu, uu] [(.double v476), (.ref r495), (.ref r522)]) := by
    intro tQ kk
    refine k556 tQ ?_
    refine XS.dstore X540.here hx rfl (hb hby at_61) rfl (l' := #[vj p0, ss, vi p1, vi p2, vi p3, vj (p0 &&& (9223372036854775807 : Int64)), ss, vi ((p1 &&& (1073741823 : Int32)) + (1 : Int32)), vi ((p2 &&& (2147483647 : Int32)) % (6 : Int32)), vd v476, ss, vr r495, vr r522, vd v476, ss, uu, uu]) rfl ?_
    refine XS.aload X540.here hx rfl (hb hby at_63) rfl rfl ?_
    refine XS.aload X540.here hx rfl (hb hby at_65) rfl rfl ?_
    refine XS.dload X540.here hx rfl (hb hby at_67) rfl ?_
    exact kk
  clear k556
  obtain ⟨cq569, kq570, qa571, qb572, qc573⟩ := isOf hZ e553 g524
  obtain ⟨_, _, ⟨T558, L559, kc560, nc561⟩, -, X562, ⟨Lc563, hQ564, l565, y566, z567⟩, st568⟩ := X540.virtualBack hx (y := mn22) (z := mn22) hown (mvT hZ (tw75 hw)) (mvT hZ (tw71 hw)) (notFace_of_selects (args := #[]) (mvT hZ (tw73 hw))) (mvT hZ (tw73 hw)) (mvT hZ (tw72 hw)) (by decide) (backOf (W := 0) (rmCg l Z a0 hw [] r522 r495 v476 T504.heap n0 Z532 g524 g525 g526 g527 g528 hV.1 (own_V0 hV) (Int.not_lt.mpr hV.2.2)) hZ (tw74 hw) (tw36 hw) (by decide) (by decide)) qa571 qc573 (g := (mkF m 69 #[vj p0, ss, vi p1, vi p2, vi p3, vj (p0 &&& (9223372036854775807 : Int64)), ss, vi ((p1 &&& (1073741823 : Int32)) + (1 : Int32)), vi ((p2 &&& (2147483647 : Int32)) % (6 : Int32)), vd v476, ss, vr r495, vr r522, vd v476, ss, uu, uu] [(.double v476), (.ref r495), (.ref r522)])) rfl (by rw [hml]; rfl) (Steps.refl _) (argsL := [(.ref r495), (.double v476)]) (rest := []) (lenOf pd_25 rfl) rfl (by show 2 * 0 + _ ≤ _; exact Nat.le_of_eq rfl) (hb hby at_69) (fun _ _ => ⟨rfl, e553, (by decide : 7 + 0 ≤ _), (by decide : 115 + 0 ≤ _)⟩)
  dsimp only [Pt.U, Pt.locs, Pt.cells, Pt.slots] at X562 l565 y566 z567 st568 hQ564
  subst y566 z567
  obtain ⟨rfl, N574, e575⟩ := hQ564
  have N577 : Fr n0 L559 := by rw [l565]; exact Fr.app N555 N574
  clear l565 N574
  have k578 : own_G p e below E0 T558 (mkF m 72 #[vj p0, ss, vi p1, vi p2, vi p3, vj (p0 &&& (9223372036854775807 : Int64)), ss, vi ((p1 &&& (1073741823 : Int32)) + (1 : Int32)), vi ((p2 &&& (2147483647 : Int32)) % (6 : Int32)), vd v476, ss, vr r495, vr r522, vd v476, ss, uu, uu] [(.double v476)]) := fun tQ kk => k557 tQ (st568.trans kk)
  clear k557 st568
  have k579 : own_G p e below E0 T558 (mkF m 95 #[vj p0, ss, vi p1, vi p2, vi p3, vj (p0 &&& (9223372036854775807 : Int64)), ss, vi ((p1 &&& (1073741823 : Int32)) + (1 : Int32)), vi ((p2 &&& (2147483647 : Int32)) % (6 : Int32)), vd v476, ss, vr r495, vr r522, vd v476, ss, vd v476, ss] [(.int (1 : Int32))]) := by
    intro tQ kk
    refine k578 tQ ?_
    refine XS.dstore X562.here hx rfl (hb hby at_72) rfl (l' := #[vj p0, ss, vi p1, vi p2, vi p3, vj (p0 &&& (9223372036854775807 : Int64)), ss, vi ((p1 &&& (1073741823 : Int32)) + (1 : Int32)), vi ((p2 &&& (2147483647 : Int32)) % (6 : Int32)), vd v476, ss, vr r495, vr r522, vd v476, ss, vd v476, ss]) rfl ?_
    refine XS.dload X562.here hx rfl (hb hby at_74) rfl ?_
    refine XS.dload X562.here hx rfl (hb hby at_76) rfl ?_
    refine XS.dcmpS (v := (0 : Int32)) X562.here hx rfl (hb hby at_78) rfl (own_eqz .l hV.1 hV.1 rfl) ?_
    show Steps p.tables e below (T558.setTop (mkF m 79 #[vj p0, ss, vi p1, vi p2, vi p3, vj (p0 &&& (9223372036854775807 : Int64)), ss, vi ((p1 &&& (1073741823 : Int32)) + (1 : Int32)), vi ((p2 &&& (2147483647 : Int32)) % (6 : Int32)), vd v476, ss, vr r495, vr r522, vd v476, ss, vd v476, ss] [(.int (0 : Int32))])) tQ
    refine XS.ifNo X562.here hx rfl (hb hby at_79) rfl (own_if_neN (by decide)) ?_
    refine XS.dload X562.here hx rfl (hb hby at_82) rfl ?_
    refine XS.dload X562.here hx rfl (hb hby at_84) rfl ?_
    refine XS.dcmpS (v := (0 : Int32)) X562.here hx rfl (hb hby at_86) rfl (own_eqz .l hV.1 hV.1 rfl) ?_
    show Steps p.tables e below (T558.setTop (mkF m 87 #[vj p0, ss, vi p1, vi p2, vi p3, vj (p0 &&& (9223372036854775807 : Int64)), ss, vi ((p1 &&& (1073741823 : Int32)) + (1 : Int32)), vi ((p2 &&& (2147483647 : Int32)) % (6 : Int32)), vd v476, ss, vr r495, vr r522, vd v476, ss, vd v476, ss] [(.int (0 : Int32))])) tQ
    refine XS.ifNo X562.here hx rfl (hb hby at_87) rfl (own_if_neN (by decide)) ?_
    refine XS.iconst X562.here hx rfl (hb hby at_90) ?_
    refine XS.goto X562.here hx rfl (pc0 := 91) (pc' := 95) rfl (hb hby at_91) (by decide) (by decide) ?_
    exact kk
  clear k578
  obtain ⟨fs, hr, hrun, hended, hRW⟩ := X562.leaveW S518 (Nat.le_trans F533 (Nat.le_of_eq (congrArg Array.size e575.symm))) (v := some (.int (1 : Int32))) (fun h => by rw [Bd.returns] at h; cases h)
  have hrun0 := k579 _ (retOut X562 hx Bd.returns (t := .boolean) rfl (Or.inl ⟨rfl, Or.inr (Or.inl rfl), _, rfl⟩) (hb hby at_95) hr)
  subst hE0
  refine ⟨_, _, hrun0, hrun, hended, _, _, rfl, ?_, ⟨_, rfl⟩, hRW.2.1, hRW.2.2.1, hRW.2.2.2.mono (by decide) (by decide)⟩
  show Qrm0 Z p0 p1 p2 p3 G1 h0 n0 _ T558.heap _
  rw [e575]
  exact ⟨rfl, N577⟩
set_option maxRecDepth 65536 in
set_option maxHeartbeats 40000000 in
theorem comes_1 {Post : Tables → Env → Array Value → State → Outcome → State → Prop} (hpost : ∀ tb e args s v u, (limb_1_1.after args s (.returned v) u = true ∧ limb_1_2.after args s (.returned v) u = true ∧ True) → ReturnedEndW s (.returned v) u (Jvm.fieldLocs frame_1_writes args s ++ Jvm.arrayLocs frame_1_arrays args s ++ Jvm.staticLocs frame_1_statics s) 24 2176 → Post tb e args s (.returned v) u) :
    ArmFor flags0 classFile x code maxLocals ret World_1 tables_1 room_1 Calls_1 rest_1 Pre_1 Post := by
  intro l hfl _ _ p e ha hc hk s m args below hf hA hF happ hP
  obtain ⟨hcalls, hrest, hpre⟩ := hP
  obtain ⟨-, -, -, hnamed, -, -, -, hat⟩ := (Spec.applies_iff hf).mp happ
  obtain ⟨hg, hn⟩ := and_e (Cond.before_iff.mp (show (Jvm.Cond.and given_1 narrow_1).before args s = true from hpre))
  obtain ⟨hct, hr0⟩ := and_e hg
  obtain ⟨ha0, hr1⟩ := and_e hr0
  obtain ⟨ha1, hr2⟩ := and_e hr1
  obtain ⟨ha2, hr3⟩ := and_e hr2
  obtain ⟨w0, w1, w2, w3, rfl⟩ : ∃ w0 w1 w2 w3 : Value, args = #[w0, w1, w2, w3] := by
    have hs : args.size = 4 := by simpa [Cond.value, given_1] using hct
    obtain ⟨L⟩ := args
    match L, hs with
    | [w0, w1, w2, w3], _ => exact ⟨w0, w1, w2, w3, rfl⟩
  have hw := fun d (hd : d ∈ tables_1) => atoms_spec (ws := Jvm.Cond.code x code maxLocals ret :: tables_1) hat d (List.mem_cons_of_mem _ hd)
  obtain ⟨hsets, hown0⟩ := atoms_of _ (rest_1_c_eq ▸ (show rest_1_c.before _ s = true from hrest))
  have hfit : Fit s := fun {y c} hc i hi => by
    obtain ⟨ha, rfl⟩ := Array.getElem?_eq_some_iff.mp hc
    have q := List.all_eq_true.mp ((Array.all_eq_true_iff_forall_mem.mp hF) _ (Array.getElem_mem ha)) i (List.mem_range.mpr hi)
    simpa [Array.getElem?_eq_getElem hi] using q
  obtain ⟨i0, ev0⟩ := isL_v ha0
  obtain rfl : w0 = (.long i0) := Option.some.inj ev0
  obtain ⟨i1, ev1⟩ := is_v ha1
  obtain rfl : w1 = (.int i1) := Option.some.inj ev1
  obtain ⟨i2, ev2⟩ := is_v ha2
  obtain rfl : w2 = (.int i2) := Option.some.inj ev2
  obtain ⟨i3, ev3⟩ := is_v hr3
  obtain rfl : w3 = (.int i3) := Option.some.inj ev3
  have nC := not_v (Cond.before_iff.mp (hsets _ (List.mem_of_getElem? (i := 2) rfl)))
  obtain ⟨iC, eC⟩ := is_v (Cond.before_iff.mp (hsets _ (List.mem_of_getElem? (i := 1) rfl)))
  have SC : Sta s s.heap "java/lang/String" "COMPACT_STRINGS" "Z" (.int iC) := Sta.start eC (Or.inl (hsets _ (List.mem_of_getElem? (i := 0) rfl)))
  have cC : ¬ (iC = (0 : Int32)) := gotF (Cond.eq_ints eC (Term.int_eval (0))) nC
  obtain ⟨n, o, h1, h2, h3, _, L, rfl, ⟨rfl, N⟩, hq⟩ := rm0 l s _ hw tables_1 i0 i1 i2 i3 iC s.heap s.heap.size (Nat.le_refl _) SC cC p e ha hc hk s m _ below hf ((Spec.applies_iff_loose hf).mp happ).1 ⟨rfl, State.Warmed39.refl s, rfl⟩ trivial
  refine ⟨n, _, h1, h2, h3, hpost _ _ _ _ _ _ ⟨Cond.after_iff.mpr rfl, Cond.after_iff.mpr (eq_i res_at (Term.int_eval (1)) rfl), trivial⟩ ⟨hq.1, hq.2.1, hq.2.2.1, (hq.2.2.2.sift fun y hy => Or.inr (N y hy)).mono (by decide) (by decide)⟩⟩
theorem main_1_1 : Claimed_1_1 := comes_1 fun _ _ _ _ _ _ h hF => ⟨h.1, hF⟩
theorem main_1_2 : Claimed_1_2 := comes_1 fun _ _ _ _ _ _ h hF => ⟨h.2.1, hF⟩
end Jvm.Pilot.@@N@@
namespace Jvm.Pilot.@@N@@
open Jvm Jvm.ClassFile Sem Op Lib Jvm.Free Jvm.Stand Jvm.Pilot.@@N@@.Jvm.D
/-! MADE BY PROGRAM (witnessworld.py) out of the Statement's table words and the real class files: 17 classes; the members and pool entries that the words name. The judged class is class 1, her method 2. -/
namespace start1
open Jvm.ClassFile
def u (s : String) : CpInfo := .utf8 (stringToUtf16 s)
/-- a pool by its gaps: so many unusable entries, then the entry; so many at the end -/
def gap : Nat → List CpInfo → List CpInfo
  | 0, r => r
  | n + 1, r => .unusable :: gap n r
def poolList (es : List (Nat × CpInfo)) (last : Nat) : List CpInfo := es.foldr (fun e r => gap e.1 (e.2 :: r)) (gap last [])
def pool (es : List (Nat × CpInfo)) (last : Nat) : Array CpInfo := ⟨poolList es last⟩
def fileOf (pool : Array CpInfo) (this : Nat) (attrs : Array Attribute := #[]) (ms : Array MethodInfo := #[]) (fl : Nat := 33) (sup : Nat := 0) (ifs : Array Nat := #[]) (fds : Array FieldInfo := #[]) : ClassFile where
  minorVersion := 0
  majorVersion := 65
  constantPool := pool
  accessFlags := fl
  thisClass := this
  superClass := sup
  interfaces := ifs
  fields := fds
  methods := ms
  attributes := attrs
def plain (name : String) (sup : Option ClassId) : Class where
  name := name
  kind := .ordinary
  loader := none
  accessFlags := 33
  super := sup
  interfaces := #[]
  cf := none
  fields := #[]
  methods := #[]
  instanceTypes := #[]
  staticTypes := #[]
  resolved := #[]
  callSites := []
  init := .initialized
  statics := none
  mirror := none

def pool0 : Array CpInfo := pool [(5, u "<init>"), (0, u "()V"), (1, .class_ 10), (1, u "java/lang/Object")] 113

def k0c0 : Code := { maxStack := 0, maxLocals := 1, code := object_method_1_code, exceptionTable := #[], attributes := #[] }
def k0m0 : Method := { name := "<init>", desc := "()V", sig := { parameters := [], returnType := none }, accessFlags := 1, code := some k0c0 }
/-- java/lang/Object -/
def k0 : Class := { plain "java/lang/Object" none with
  accessFlags := 33
  interfaces := #[]
  cf := some (fileOf pool0 8 #[] #[{ accessFlags := 1, nameIndex := 5, descriptorIndex := 6, attributes := #[] }] 33 0 #[] #[])
  fields := #[]
  methods := #[k0m0]
  instanceTypes := #[]
  staticTypes := #[]
  resolved := Array.replicate 124 none
  statics := none }

def pool1 : Array CpInfo := pool [(2, .class_ 4), (1, u "java/lang/Object"), (0, u "<init>"), (0, u "()V"), (0, .double 9218868437227405311), (1, .double 1), (1, .double 9223372036854775808), (3, .long 9223372036854775807), (1, .integer 1073741823), (0, .integer 2147483647), (0, .methodref 20 21), (0, .class_ 22), (0, .nameAndType 23 24), (0, u "rootzone/BoundNotNegativePinLaw"), (0, u "pick"), (0, u "(IJI)D"), (0, .methodref 26 27), (0, .class_ 28), (0, .nameAndType 29 30), (0, u "java/lang/String"), (0, u "valueOf"), (0, u "(C)Ljava/lang/String;"), (0, .methodref 32 33), (0, .class_ 34), (0, .nameAndType 35 36), (0, u "rootzone/Bound"), (0, u "notNegative"), (0, u "()Lrootzone/Bound;"), (0, .methodref 32 38), (0, .nameAndType 39 40), (0, u "check"), (0, u "(Ljava/lang/String;D)D"), (0, .methodref 32 42), (0, .nameAndType 43 40), (0, u "checkGiven"), (3, u "law"), (0, u "(JIII)Z")] 2

def k1m0 : Method := { name := "<init>", desc := "()V", sig := { parameters := [], returnType := none }, accessFlags := 1, code := none }
def k1c1 : Code := { maxStack := 4, maxLocals := 4, code := method_2_code, exceptionTable := #[], attributes := #[] }
def k1m1 : Method := { name := "pick", desc := "(IJI)D", sig := { parameters := [.int, .long, .int], returnType := some .double }, accessFlags := 10, code := some k1c1 }
def k1c2 : Code := { maxStack := 4, maxLocals := 17, code := code, exceptionTable := #[], attributes := #[] }
def k1m2 : Method := { name := "law", desc := "(JIII)Z", sig := { parameters := [.long, .int, .int, .int], returnType := some .boolean }, accessFlags := 9, code := some k1c2 }
/-- rootzone/BoundNotNegativePinLaw -/
def k1 : Class := { plain "rootzone/BoundNotNegativePinLaw" (some 0) with
  accessFlags := 49
  interfaces := #[]
  cf := some (fileOf pool1 20 #[] #[{ accessFlags := 1, nameIndex := 5, descriptorIndex := 6, attributes := #[] }, { accessFlags := 10, nameIndex := 23, descriptorIndex := 24, attributes := #[] }, { accessFlags := 9, nameIndex := 47, descriptorIndex := 48, attributes := #[] }] 49 2 #[] #[])
  fields := #[]
  methods := #[k1m0, k1m1, k1m2]
  instanceTypes := #[]
  staticTypes := #[]
  resolved := Array.replicate 51 none
  statics := none }

def pool2 : Array CpInfo := pool [(1, .class_ 2), (0, u "java/io/Serializable"), (0, .class_ 4), (0, u "java/lang/Object")] 2

/-- java/io/Serializable -/
def k2 : Class := { plain "java/io/Serializable" (some 0) with
  accessFlags := 1537
  interfaces := #[]
  cf := some (fileOf pool2 1 #[] #[] 1537 3 #[] #[])
  fields := #[]
  methods := #[]
  instanceTypes := #[]
  staticTypes := #[]
  resolved := Array.replicate 7 none
  statics := none }

def pool3 : Array CpInfo := pool [(1, .class_ 2), (0, u "java/lang/Comparable"), (0, .class_ 4), (0, u "java/lang/Object")] 7

/-- java/lang/Comparable -/
def k3 : Class := { plain "java/lang/Comparable" (some 0) with
  accessFlags := 1537
  interfaces := #[]
  cf := some (fileOf pool3 1 #[] #[] 1537 3 #[] #[])
  fields := #[]
  methods := #[]
  instanceTypes := #[]
  staticTypes := #[]
  resolved := Array.replicate 12 none
  statics := none }

def pool4 : Array CpInfo := pool [(2, .class_ 4), (1, u "java/lang/CharSequence"), (42, .class_ 48), (0, u "java/lang/CharSequence$1CodePointIterator"), (10, .class_ 60), (0, u "java/lang/CharSequence$1CharIterator"), (5, .class_ 67), (0, u "java/lang/Object")] 63

/-- java/lang/CharSequence -/
def k4 : Class := { plain "java/lang/CharSequence" (some 0) with
  accessFlags := 1537
  interfaces := #[]
  cf := some (fileOf pool4 2 #[.nestMembers #[47, 59]] #[] 1537 66 #[] #[])
  fields := #[]
  methods := #[]
  instanceTypes := #[]
  staticTypes := #[]
  resolved := Array.replicate 131 none
  statics := none }

def pool5 : Array CpInfo := pool [(1, .class_ 2), (0, u "java/lang/constant/Constable"), (0, .class_ 4), (0, u "java/lang/Object")] 6

/-- java/lang/constant/Constable -/
def k5 : Class := { plain "java/lang/constant/Constable" (some 0) with
  accessFlags := 1537
  interfaces := #[]
  cf := some (fileOf pool5 1 #[] #[] 1537 3 #[] #[])
  fields := #[]
  methods := #[]
  instanceTypes := #[]
  staticTypes := #[]
  resolved := Array.replicate 11 none
  statics := none }

def pool6 : Array CpInfo := pool [(1, .class_ 2), (0, u "java/lang/constant/ConstantDesc"), (0, .class_ 4), (0, u "java/lang/Object")] 32

/-- java/lang/constant/ConstantDesc -/
def k6 : Class := { plain "java/lang/constant/ConstantDesc" (some 0) with
  accessFlags := 1537
  interfaces := #[]
  cf := some (fileOf pool6 1 #[] #[] 1537 3 #[] #[])
  fields := #[]
  methods := #[]
  instanceTypes := #[]
  staticTypes := #[]
  resolved := Array.replicate 37 none
  statics := none }

def pool7 : Array CpInfo := pool [(1, .methodref 2 3), (0, .class_ 4), (0, .nameAndType 5 6), (0, u "java/lang/Object"), (0, u "<init>"), (0, u "()V"), (2, .fieldref 10 11), (0, .class_ 12), (0, .nameAndType 13 14), (0, u "java/lang/String"), (0, u "value"), (0, u "[B"), (0, .fieldref 10 16), (0, .nameAndType 17 18), (0, u "coder"), (0, u "B"), (2, u "hash"), (0, u "I"), (2, u "hashIsZero"), (0, u "Z"), (11, .fieldref 10 39), (0, .nameAndType 40 26), (0, u "COMPACT_STRINGS"), (12, u "toBytes"), (53, .class_ 109), (1, u "java/lang/StringLatin1"), (99, .methodref 10 210), (0, .nameAndType 5 211), (0, u "([BB)V"), (157, u "(C)Z"), (205, .class_ 576), (0, u "java/lang/CharSequence"), (22, u "CASE_INSENSITIVE_ORDER"), (0, u "Ljava/util/Comparator;"), (181, u "valueOf"), (0, u "(C)Ljava/lang/String;"), (231, .methodref 107 1016), (0, .nameAndType 1017 369), (0, u "canEncode"), (0, .methodref 107 1019), (0, .nameAndType 53 1020), (0, u "(C)[B"), (80, u "serialPersistentFields"), (0, u "[Ljava/io/ObjectStreamField;"), (0, .class_ 1104), (0, u "java/lang/String$CaseInsensitiveComparator"), (1, .class_ 1107), (0, u "java/io/Serializable"), (0, .class_ 1109), (0, u "java/lang/Comparable"), (0, .class_ 1111), (0, u "java/lang/constant/Constable"), (0, .class_ 1113), (0, u "java/lang/constant/ConstantDesc"), (2, u "serialVersionUID"), (0, u "J"), (3, u "REPL"), (0, u "C"), (2, u "LATIN1"), (1, u "UTF16")] 323

def k7m0 : Method := { name := "<init>", desc := "()V", sig := { parameters := [], returnType := none }, accessFlags := 1, code := none }
def k7c1 : Code := { maxStack := 4, maxLocals := 1, code := jdk_42_method_139_code, exceptionTable := #[], attributes := #[] }
def k7m1 : Method := { name := "valueOf", desc := "(C)Ljava/lang/String;", sig := { parameters := [.char], returnType := some (.object "java/lang/String") }, accessFlags := 9, code := some k7c1 }
def k7c2 : Code := { maxStack := 2, maxLocals := 3, code := jdk_42_method_151_code, exceptionTable := #[], attributes := #[] }
def k7m2 : Method := { name := "<init>", desc := "([BB)V", sig := { parameters := [(.array .byte), .byte], returnType := none }, accessFlags := 0, code := some k7c2 }
/-- java/lang/String -/
def k7 : Class := { plain "java/lang/String" (some 0) with
  accessFlags := 49
  interfaces := #[2, 3, 4, 5, 6]
  cf := some (fileOf pool7 10 #[.nestMembers #[1103]] #[{ accessFlags := 1, nameIndex := 5, descriptorIndex := 6, attributes := #[] }, { accessFlags := 9, nameIndex := 782, descriptorIndex := 783, attributes := #[] }, { accessFlags := 0, nameIndex := 5, descriptorIndex := 211, attributes := #[] }] 49 2 #[1106, 1108, 575, 1110, 1112] #[{ accessFlags := 18, nameIndex := 13, descriptorIndex := 14, attributes := #[] }, { accessFlags := 18, nameIndex := 17, descriptorIndex := 18, attributes := #[] }, { accessFlags := 2, nameIndex := 21, descriptorIndex := 22, attributes := #[] }, { accessFlags := 2, nameIndex := 25, descriptorIndex := 26, attributes := #[] }, { accessFlags := 26, nameIndex := 1116, descriptorIndex := 1117, attributes := #[] }, { accessFlags := 24, nameIndex := 40, descriptorIndex := 26, attributes := #[] }, { accessFlags := 26, nameIndex := 1101, descriptorIndex := 1102, attributes := #[] }, { accessFlags := 26, nameIndex := 1121, descriptorIndex := 1122, attributes := #[] }, { accessFlags := 25, nameIndex := 599, descriptorIndex := 600, attributes := #[] }, { accessFlags := 24, nameIndex := 1125, descriptorIndex := 18, attributes := #[] }, { accessFlags := 24, nameIndex := 1127, descriptorIndex := 18, attributes := #[] }])
  fields := #[{ name := "value", type := (.array .byte), accessFlags := 18, slot := 0, constantValue := 0 }, { name := "coder", type := .byte, accessFlags := 18, slot := 1, constantValue := 0 }, { name := "hash", type := .int, accessFlags := 2, slot := 2, constantValue := 0 }, { name := "hashIsZero", type := .boolean, accessFlags := 2, slot := 3, constantValue := 0 }, { name := "serialVersionUID", type := .long, accessFlags := 26, slot := 0, constantValue := 0 }, { name := "COMPACT_STRINGS", type := .boolean, accessFlags := 24, slot := 1, constantValue := 0 }, { name := "serialPersistentFields", type := (.array (.object "java/io/ObjectStreamField")), accessFlags := 26, slot := 2, constantValue := 0 }, { name := "REPL", type := .char, accessFlags := 26, slot := 3, constantValue := 0 }, { name := "CASE_INSENSITIVE_ORDER", type := (.object "java/util/Comparator"), accessFlags := 25, slot := 4, constantValue := 0 }, { name := "LATIN1", type := .byte, accessFlags := 24, slot := 5, constantValue := 0 }, { name := "UTF16", type := .byte, accessFlags := 24, slot := 6, constantValue := 0 }]
  methods := #[k7m0, k7m1, k7m2]
  instanceTypes := #[(.array .byte), .byte, .int, .boolean]
  staticTypes := #[.long, .boolean, (.array (.object "java/io/ObjectStreamField")), .char, (.object "java/util/Comparator"), .byte, .byte]
  resolved := Array.replicate 1451 none
  statics := some 0 }

def pool8 : Array CpInfo := pool [(4, .class_ 6), (1, u "java/lang/Object"), (0, u "<init>"), (0, u "()V"), (5, .class_ 16), (1, u "java/lang/StringLatin1"), (73, u "canEncode"), (14, u "(C)Z"), (15, u "$assertionsDisabled"), (0, u "Z"), (98, .class_ 223), (1, u "java/lang/StringLatin1$LinesSpliterator"), (156, u "toBytes"), (1, u "(C)[B"), (7, .class_ 391), (0, u "java/lang/StringLatin1$CharsSpliterator")] 3

def k8m0 : Method := { name := "<init>", desc := "()V", sig := { parameters := [], returnType := none }, accessFlags := 0, code := none }
def k8c1 : Code := { maxStack := 2, maxLocals := 1, code := jdk_43_method_3_code, exceptionTable := #[], attributes := #[] }
def k8m1 : Method := { name := "canEncode", desc := "(C)Z", sig := { parameters := [.char], returnType := some .boolean }, accessFlags := 9, code := some k8c1 }
def k8c2 : Code := { maxStack := 4, maxLocals := 1, code := jdk_43_method_46_code, exceptionTable := #[], attributes := #[] }
def k8m2 : Method := { name := "toBytes", desc := "(C)[B", sig := { parameters := [.char], returnType := some (.array .byte) }, accessFlags := 9, code := some k8c2 }
/-- java/lang/StringLatin1 -/
def k8 : Class := { plain "java/lang/StringLatin1" (some 0) with
  accessFlags := 48
  interfaces := #[]
  cf := some (fileOf pool8 14 #[.nestMembers #[390, 221]] #[{ accessFlags := 0, nameIndex := 7, descriptorIndex := 8, attributes := #[] }, { accessFlags := 9, nameIndex := 90, descriptorIndex := 105, attributes := #[] }, { accessFlags := 9, nameIndex := 380, descriptorIndex := 382, attributes := #[] }] 48 4 #[] #[{ accessFlags := 4120, nameIndex := 121, descriptorIndex := 122, attributes := #[] }])
  fields := #[{ name := "$assertionsDisabled", type := .boolean, accessFlags := 4120, slot := 0, constantValue := 0 }]
  methods := #[k8m0, k8m1, k8m2]
  instanceTypes := #[]
  staticTypes := #[.boolean]
  resolved := Array.replicate 395 none
  statics := none }

def pool9 : Array CpInfo := pool [(1, .methodref 2 3), (0, .class_ 4), (0, .nameAndType 5 6), (0, u "java/lang/Object"), (0, u "<init>"), (0, u "()V"), (0, .fieldref 8 9), (0, .class_ 10), (0, .nameAndType 11 12), (0, u "rootzone/Bound"), (0, u "least"), (0, u "D"), (0, .fieldref 8 14), (0, .nameAndType 15 16), (0, u "leastIncluded"), (0, u "Z"), (0, .fieldref 8 18), (0, .nameAndType 19 20), (0, u "below"), (0, u "Ljava/lang/String;"), (0, .fieldref 8 22), (0, .nameAndType 23 12), (0, u "most"), (0, .fieldref 8 25), (0, .nameAndType 26 16), (0, u "mostIncluded"), (0, .fieldref 8 28), (0, .nameAndType 29 20), (0, u "above"), (10, .methodref 8 41), (0, .nameAndType 5 42), (0, u "(DZLjava/lang/String;DZLjava/lang/String;)V"), (2, .string 46), (0, u "is negative"), (3, .class_ 51), (0, u "java/lang/Double"), (0, .double 9218868437227405311), (1, .string 55), (0, u "is not finite"), (3, .methodref 50 60), (0, .nameAndType 61 62), (0, u "isNaN"), (0, u "(D)Z"), (8, .methodref 8 72), (0, .nameAndType 73 74), (0, u "checkGiven"), (0, u "(Ljava/lang/String;D)D"), (48, u "NOT_FINITE"), (9, u "notNegative"), (0, u "()Lrootzone/Bound;"), (2, u "check")] 38

def k9c0 : Code := { maxStack := 3, maxLocals := 9, code := prog_1_method_1_code, exceptionTable := #[], attributes := #[] }
def k9m0 : Method := { name := "<init>", desc := "(DZLjava/lang/String;DZLjava/lang/String;)V", sig := { parameters := [.double, .boolean, (.object "java/lang/String"), .double, .boolean, (.object "java/lang/String")], returnType := none }, accessFlags := 2, code := some k9c0 }
def k9c1 : Code := { maxStack := 10, maxLocals := 0, code := prog_1_method_6_code, exceptionTable := #[], attributes := #[] }
def k9m1 : Method := { name := "notNegative", desc := "()Lrootzone/Bound;", sig := { parameters := [], returnType := some (.object "rootzone/Bound") }, accessFlags := 8, code := some k9c1 }
def k9c2 : Code := { maxStack := 4, maxLocals := 4, code := prog_1_method_9_code, exceptionTable := #[], attributes := #[] }
def k9m2 : Method := { name := "check", desc := "(Ljava/lang/String;D)D", sig := { parameters := [(.object "java/lang/String"), .double], returnType := some .double }, accessFlags := 1, code := some k9c2 }
def k9c3 : Code := { maxStack := 4, maxLocals := 6, code := prog_1_method_10_code, exceptionTable := #[], attributes := #[] }
def k9m3 : Method := { name := "checkGiven", desc := "(Ljava/lang/String;D)D", sig := { parameters := [(.object "java/lang/String"), .double], returnType := some .double }, accessFlags := 1, code := some k9c3 }
/-- rootzone/Bound -/
def k9 : Class := { plain "rootzone/Bound" (some 0) with
  accessFlags := 49
  interfaces := #[]
  cf := some (fileOf pool9 8 #[] #[{ accessFlags := 2, nameIndex := 5, descriptorIndex := 42, attributes := #[] }, { accessFlags := 8, nameIndex := 133, descriptorIndex := 134, attributes := #[] }, { accessFlags := 1, nameIndex := 137, descriptorIndex := 74, attributes := #[] }, { accessFlags := 1, nameIndex := 73, descriptorIndex := 74, attributes := #[] }] 49 2 #[] #[{ accessFlags := 26, nameIndex := 123, descriptorIndex := 20, attributes := #[] }, { accessFlags := 18, nameIndex := 11, descriptorIndex := 12, attributes := #[] }, { accessFlags := 18, nameIndex := 15, descriptorIndex := 16, attributes := #[] }, { accessFlags := 18, nameIndex := 19, descriptorIndex := 20, attributes := #[] }, { accessFlags := 18, nameIndex := 23, descriptorIndex := 12, attributes := #[] }, { accessFlags := 18, nameIndex := 26, descriptorIndex := 16, attributes := #[] }, { accessFlags := 18, nameIndex := 29, descriptorIndex := 20, attributes := #[] }])
  fields := #[{ name := "NOT_FINITE", type := (.object "java/lang/String"), accessFlags := 26, slot := 0, constantValue := 0 }, { name := "least", type := .double, accessFlags := 18, slot := 0, constantValue := 0 }, { name := "leastIncluded", type := .boolean, accessFlags := 18, slot := 1, constantValue := 0 }, { name := "below", type := (.object "java/lang/String"), accessFlags := 18, slot := 2, constantValue := 0 }, { name := "most", type := .double, accessFlags := 18, slot := 3, constantValue := 0 }, { name := "mostIncluded", type := .boolean, accessFlags := 18, slot := 4, constantValue := 0 }, { name := "above", type := (.object "java/lang/String"), accessFlags := 18, slot := 5, constantValue := 0 }]
  methods := #[k9m0, k9m1, k9m2, k9m3]
  instanceTypes := #[.double, .boolean, (.object "java/lang/String"), .double, .boolean, (.object "java/lang/String")]
  staticTypes := #[(.object "java/lang/String")]
  resolved := Array.replicate 176 none
  statics := none }

def pool10 : Array CpInfo := pool [(2, .class_ 4), (1, u "java/lang/Object"), (0, u "<init>"), (0, u "()V"), (1, .class_ 10), (1, u "java/lang/Number"), (2, .class_ 14), (0, u "java/io/Serializable"), (0, u "serialVersionUID"), (0, u "J")] 20

def k10m0 : Method := { name := "<init>", desc := "()V", sig := { parameters := [], returnType := none }, accessFlags := 1, code := none }
/-- java/lang/Number -/
def k10 : Class := { plain "java/lang/Number" (some 0) with
  accessFlags := 1057
  interfaces := #[2]
  cf := some (fileOf pool10 8 #[] #[{ accessFlags := 1, nameIndex := 5, descriptorIndex := 6, attributes := #[] }] 1057 2 #[13] #[{ accessFlags := 26, nameIndex := 15, descriptorIndex := 16, attributes := #[] }])
  fields := #[{ name := "serialVersionUID", type := .long, accessFlags := 26, slot := 0, constantValue := 0 }]
  methods := #[k10m0]
  instanceTypes := #[]
  staticTypes := #[.long]
  resolved := Array.replicate 37 none
  statics := none }

def pool11 : Array CpInfo := pool [(1, .class_ 2), (0, u "java/lang/Double"), (11, u "(D)Z"), (99, .class_ 116), (1, u "java/lang/Number"), (3, u "value"), (0, u "D"), (2, u "isNaN"), (48, u "TYPE"), (0, u "Ljava/lang/Class;"), (0, .class_ 176), (0, u "java/lang/Comparable"), (0, .class_ 178), (0, u "java/lang/constant/Constable"), (0, .class_ 180), (0, u "java/lang/constant/ConstantDesc"), (0, u "POSITIVE_INFINITY"), (3, u "NEGATIVE_INFINITY"), (2, u "NaN"), (2, u "MAX_VALUE"), (0, u "MIN_NORMAL"), (0, u "MIN_VALUE"), (2, u "SIZE"), (0, u "I"), (1, u "PRECISION"), (1, u "MAX_EXPONENT"), (1, u "MIN_EXPONENT"), (1, u "BYTES"), (3, u "serialVersionUID"), (0, u "J")] 79

def k11c0 : Code := { maxStack := 4, maxLocals := 2, code := jdk_117_method_6_code, exceptionTable := #[], attributes := #[] }
def k11m0 : Method := { name := "isNaN", desc := "(D)Z", sig := { parameters := [.double], returnType := some .boolean }, accessFlags := 9, code := some k11c0 }
/-- java/lang/Double -/
def k11 : Class := { plain "java/lang/Double" (some 10) with
  accessFlags := 49
  interfaces := #[3, 5, 6]
  cf := some (fileOf pool11 1 #[] #[{ accessFlags := 9, nameIndex := 124, descriptorIndex := 14, attributes := #[] }] 49 114 #[175, 177, 179] #[{ accessFlags := 25, nameIndex := 181, descriptorIndex := 121, attributes := #[] }, { accessFlags := 25, nameIndex := 185, descriptorIndex := 121, attributes := #[] }, { accessFlags := 25, nameIndex := 188, descriptorIndex := 121, attributes := #[] }, { accessFlags := 25, nameIndex := 191, descriptorIndex := 121, attributes := #[] }, { accessFlags := 25, nameIndex := 192, descriptorIndex := 121, attributes := #[] }, { accessFlags := 25, nameIndex := 193, descriptorIndex := 121, attributes := #[] }, { accessFlags := 25, nameIndex := 196, descriptorIndex := 197, attributes := #[] }, { accessFlags := 25, nameIndex := 199, descriptorIndex := 197, attributes := #[] }, { accessFlags := 25, nameIndex := 201, descriptorIndex := 197, attributes := #[] }, { accessFlags := 25, nameIndex := 203, descriptorIndex := 197, attributes := #[] }, { accessFlags := 25, nameIndex := 205, descriptorIndex := 197, attributes := #[] }, { accessFlags := 25, nameIndex := 173, descriptorIndex := 174, attributes := #[] }, { accessFlags := 18, nameIndex := 120, descriptorIndex := 121, attributes := #[] }, { accessFlags := 26, nameIndex := 209, descriptorIndex := 210, attributes := #[] }])
  fields := #[{ name := "POSITIVE_INFINITY", type := .double, accessFlags := 25, slot := 0, constantValue := 0 }, { name := "NEGATIVE_INFINITY", type := .double, accessFlags := 25, slot := 1, constantValue := 0 }, { name := "NaN", type := .double, accessFlags := 25, slot := 2, constantValue := 0 }, { name := "MAX_VALUE", type := .double, accessFlags := 25, slot := 3, constantValue := 0 }, { name := "MIN_NORMAL", type := .double, accessFlags := 25, slot := 4, constantValue := 0 }, { name := "MIN_VALUE", type := .double, accessFlags := 25, slot := 5, constantValue := 0 }, { name := "SIZE", type := .int, accessFlags := 25, slot := 6, constantValue := 0 }, { name := "PRECISION", type := .int, accessFlags := 25, slot := 7, constantValue := 0 }, { name := "MAX_EXPONENT", type := .int, accessFlags := 25, slot := 8, constantValue := 0 }, { name := "MIN_EXPONENT", type := .int, accessFlags := 25, slot := 9, constantValue := 0 }, { name := "BYTES", type := .int, accessFlags := 25, slot := 10, constantValue := 0 }, { name := "TYPE", type := (.object "java/lang/Class"), accessFlags := 25, slot := 11, constantValue := 0 }, { name := "value", type := .double, accessFlags := 18, slot := 0, constantValue := 0 }, { name := "serialVersionUID", type := .long, accessFlags := 26, slot := 12, constantValue := 0 }]
  methods := #[k11m0]
  instanceTypes := #[.double]
  staticTypes := #[.double, .double, .double, .double, .double, .double, .int, .int, .int, .int, .int, (.object "java/lang/Class"), .long]
  resolved := Array.replicate 290 none
  statics := none }

def pool12 : Array CpInfo := pool [(2, .class_ 4), (1, u "java/lang/Object"), (0, u "<init>"), (0, u "()V"), (17, .class_ 26), (1, u "jdk/internal/util/Preconditions"), (28, .class_ 56), (0, u "jdk/internal/util/Preconditions$4"), (57, .class_ 115), (0, u "jdk/internal/util/Preconditions$1"), (7, u "SIOOBE_FORMATTER"), (0, u "Ljava/util/function/BiFunction;"), (0, .class_ 126), (0, u "jdk/internal/util/Preconditions$2"), (3, u "AIOOBE_FORMATTER"), (0, .class_ 132), (0, u "jdk/internal/util/Preconditions$3"), (3, u "IOOBE_FORMATTER")] 57

def k12m0 : Method := { name := "<init>", desc := "()V", sig := { parameters := [], returnType := none }, accessFlags := 1, code := none }
/-- jdk/internal/util/Preconditions -/
def k12 : Class := { plain "jdk/internal/util/Preconditions" (some 0) with
  accessFlags := 33
  interfaces := #[]
  cf := some (fileOf pool12 24 #[.nestMembers #[55, 131, 125, 114]] #[{ accessFlags := 1, nameIndex := 5, descriptorIndex := 6, attributes := #[] }] 33 2 #[] #[{ accessFlags := 25, nameIndex := 123, descriptorIndex := 124, attributes := #[] }, { accessFlags := 25, nameIndex := 130, descriptorIndex := 124, attributes := #[] }, { accessFlags := 25, nameIndex := 136, descriptorIndex := 124, attributes := #[] }])
  fields := #[{ name := "SIOOBE_FORMATTER", type := (.object "java/util/function/BiFunction"), accessFlags := 25, slot := 0, constantValue := 0 }, { name := "AIOOBE_FORMATTER", type := (.object "java/util/function/BiFunction"), accessFlags := 25, slot := 1, constantValue := 0 }, { name := "IOOBE_FORMATTER", type := (.object "java/util/function/BiFunction"), accessFlags := 25, slot := 2, constantValue := 0 }]
  methods := #[k12m0]
  instanceTypes := #[]
  staticTypes := #[(.object "java/util/function/BiFunction"), (.object "java/util/function/BiFunction"), (.object "java/util/function/BiFunction")]
  resolved := Array.replicate 194 none
  statics := some 1 }

def pool13 : Array CpInfo := pool [(9, u "<init>"), (6, .class_ 18), (1, u "java/lang/Object"), (0, u "()V"), (1, .class_ 23), (1, u "jdk/internal/util/ArraysSupport"), (0, u "LOG2_ARRAY_LONG_INDEX_SCALE"), (0, u "I"), (2, u "U"), (0, u "Ljdk/internal/misc/Unsafe;"), (8, u "BIG_ENDIAN"), (0, u "Z"), (8, u "LOG2_BYTE_BIT_SIZE"), (4, u "LOG2_ARRAY_INT_INDEX_SCALE"), (54, u "JLA"), (0, u "Ljdk/internal/access/JavaLangAccess;"), (11, u "LOG2_ARRAY_BOOLEAN_INDEX_SCALE"), (9, u "LOG2_ARRAY_BYTE_INDEX_SCALE"), (5, u "LOG2_ARRAY_CHAR_INDEX_SCALE"), (5, u "LOG2_ARRAY_SHORT_INDEX_SCALE"), (18, u "LOG2_ARRAY_FLOAT_INDEX_SCALE"), (24, u "LOG2_ARRAY_DOUBLE_INDEX_SCALE"), (89, u "T_BOOLEAN"), (2, u "T_CHAR"), (1, u "T_FLOAT"), (1, u "T_DOUBLE"), (1, u "T_BYTE"), (1, u "T_SHORT"), (1, u "T_INT"), (1, u "T_LONG"), (1, u "SOFT_MAX_ARRAY_LENGTH")] 83

def k13m0 : Method := { name := "<init>", desc := "()V", sig := { parameters := [], returnType := none }, accessFlags := 2, code := none }
/-- jdk/internal/util/ArraysSupport -/
def k13 : Class := { plain "jdk/internal/util/ArraysSupport" (some 0) with
  accessFlags := 33
  interfaces := #[]
  cf := some (fileOf pool13 21 #[] #[{ accessFlags := 2, nameIndex := 9, descriptorIndex := 19, attributes := #[] }] 33 16 #[] #[{ accessFlags := 24, nameIndex := 28, descriptorIndex := 29, attributes := #[] }, { accessFlags := 26, nameIndex := 38, descriptorIndex := 39, attributes := #[] }, { accessFlags := 25, nameIndex := 121, descriptorIndex := 25, attributes := #[] }, { accessFlags := 25, nameIndex := 131, descriptorIndex := 25, attributes := #[] }, { accessFlags := 25, nameIndex := 137, descriptorIndex := 25, attributes := #[] }, { accessFlags := 25, nameIndex := 143, descriptorIndex := 25, attributes := #[] }, { accessFlags := 25, nameIndex := 53, descriptorIndex := 25, attributes := #[] }, { accessFlags := 25, nameIndex := 24, descriptorIndex := 25, attributes := #[] }, { accessFlags := 25, nameIndex := 162, descriptorIndex := 25, attributes := #[] }, { accessFlags := 25, nameIndex := 187, descriptorIndex := 25, attributes := #[] }, { accessFlags := 26, nameIndex := 48, descriptorIndex := 25, attributes := #[] }, { accessFlags := 25, nameIndex := 277, descriptorIndex := 25, attributes := #[] }, { accessFlags := 25, nameIndex := 280, descriptorIndex := 25, attributes := #[] }, { accessFlags := 25, nameIndex := 282, descriptorIndex := 25, attributes := #[] }, { accessFlags := 25, nameIndex := 284, descriptorIndex := 25, attributes := #[] }, { accessFlags := 25, nameIndex := 286, descriptorIndex := 25, attributes := #[] }, { accessFlags := 25, nameIndex := 288, descriptorIndex := 25, attributes := #[] }, { accessFlags := 25, nameIndex := 290, descriptorIndex := 25, attributes := #[] }, { accessFlags := 25, nameIndex := 292, descriptorIndex := 25, attributes := #[] }, { accessFlags := 26, nameIndex := 108, descriptorIndex := 109, attributes := #[] }, { accessFlags := 25, nameIndex := 294, descriptorIndex := 25, attributes := #[] }])
  fields := #[{ name := "U", type := (.object "jdk/internal/misc/Unsafe"), accessFlags := 24, slot := 0, constantValue := 0 }, { name := "BIG_ENDIAN", type := .boolean, accessFlags := 26, slot := 1, constantValue := 0 }, { name := "LOG2_ARRAY_BOOLEAN_INDEX_SCALE", type := .int, accessFlags := 25, slot := 2, constantValue := 0 }, { name := "LOG2_ARRAY_BYTE_INDEX_SCALE", type := .int, accessFlags := 25, slot := 3, constantValue := 0 }, { name := "LOG2_ARRAY_CHAR_INDEX_SCALE", type := .int, accessFlags := 25, slot := 4, constantValue := 0 }, { name := "LOG2_ARRAY_SHORT_INDEX_SCALE", type := .int, accessFlags := 25, slot := 5, constantValue := 0 }, { name := "LOG2_ARRAY_INT_INDEX_SCALE", type := .int, accessFlags := 25, slot := 6, constantValue := 0 }, { name := "LOG2_ARRAY_LONG_INDEX_SCALE", type := .int, accessFlags := 25, slot := 7, constantValue := 0 }, { name := "LOG2_ARRAY_FLOAT_INDEX_SCALE", type := .int, accessFlags := 25, slot := 8, constantValue := 0 }, { name := "LOG2_ARRAY_DOUBLE_INDEX_SCALE", type := .int, accessFlags := 25, slot := 9, constantValue := 0 }, { name := "LOG2_BYTE_BIT_SIZE", type := .int, accessFlags := 26, slot := 10, constantValue := 0 }, { name := "T_BOOLEAN", type := .int, accessFlags := 25, slot := 11, constantValue := 0 }, { name := "T_CHAR", type := .int, accessFlags := 25, slot := 12, constantValue := 0 }, { name := "T_FLOAT", type := .int, accessFlags := 25, slot := 13, constantValue := 0 }, { name := "T_DOUBLE", type := .int, accessFlags := 25, slot := 14, constantValue := 0 }, { name := "T_BYTE", type := .int, accessFlags := 25, slot := 15, constantValue := 0 }, { name := "T_SHORT", type := .int, accessFlags := 25, slot := 16, constantValue := 0 }, { name := "T_INT", type := .int, accessFlags := 25, slot := 17, constantValue := 0 }, { name := "T_LONG", type := .int, accessFlags := 25, slot := 18, constantValue := 0 }, { name := "JLA", type := (.object "jdk/internal/access/JavaLangAccess"), accessFlags := 26, slot := 19, constantValue := 0 }, { name := "SOFT_MAX_ARRAY_LENGTH", type := .int, accessFlags := 25, slot := 20, constantValue := 0 }]
  methods := #[k13m0]
  instanceTypes := #[]
  staticTypes := #[(.object "jdk/internal/misc/Unsafe"), .boolean, .int, .int, .int, .int, .int, .int, .int, .int, .int, .int, .int, .int, .int, .int, .int, .int, .int, (.object "jdk/internal/access/JavaLangAccess"), .int]
  resolved := Array.replicate 378 none
  statics := none }

def pool14 : Array CpInfo := pool [(1, u "java/lang/Cloneable"), (0, .class_ 1), (0, u "java/lang/Object"), (0, .class_ 3)] 3

/-- java/lang/Cloneable -/
def k14 : Class := { plain "java/lang/Cloneable" (some 0) with
  accessFlags := 1537
  interfaces := #[]
  cf := some (fileOf pool14 2 #[] #[] 1537 4 #[] #[])
  fields := #[]
  methods := #[]
  instanceTypes := #[]
  staticTypes := #[]
  resolved := Array.replicate 8 none
  statics := none }

/-- the primitive byte -/
def k15 : Class := { plain "byte" none with kind := .primitive 'B', accessFlags := 0x411 }
/-- [B -/
def k16 : Class := { plain "[B" (some 0) with kind := .array 15 .byte, interfaces := #[14, 2], accessFlags := 1041 }

def heap : Heap := #[{ cls := 7, slots := #[.long 0, .int 1, .null, .int 0, .null, .int 0, .int 0], vm := .statics 7 },
  { cls := 12, slots := #[.null, .null, .null], vm := .statics 12 }]
def classes : Array Class := #[k0, k1, k2, k3, k4, k5, k6, k7, k8, k9, k10, k11, k12, k13, k14, k15, k16]
def interned : List (Array UInt16 × Addr) := []
def slotsUsed : Nat := 10
def theMethod : MethodId := ⟨1, 2⟩
def args0 : Array Value := #[.long 3, .int 4, .int 5, .int 65]
def aboutOver (below : List Frame) : State where
  vm := { classes := classes, interned := interned.toArray }
  heap := heap
  slotsUsed := slotsUsed
  threads := #[{ frames := .invoking theMethod args0 :: below }]
def below0 : List Frame := [.native { method := ⟨0, 0⟩, args := #[] }]
def about1 : State := aboutOver below0
def p0 : Program := .bare "" "" ""
def e0 : Env := launch0.env 0 0 0
theorem w_frames : about1.frames = Frame.invoking theMethod args0 :: below0 := rfl
set_option maxRecDepth 65536 in
theorem w_args : argsFit about1.vm theMethod args0 = true := by decide +kernel
set_option maxRecDepth 65536 in
theorem w_heap : heapFits about1 = true := by decide +kernel
set_option maxRecDepth 65536 in
theorem w_runnable : about1.curStatus? = some .runnable := by decide +kernel
set_option maxRecDepth 65536 in
theorem w_alone : about1.alone = true := by decide +kernel
set_option maxRecDepth 65536 in
theorem w_named : about1.methodNamed? x = some theMethod := by decide +kernel
set_option maxRecDepth 65536 in
theorem w_hears : about1.hears theMethod below0 = true := by decide +kernel
set_option maxRecDepth 65536 in
theorem w_ripe : about1.ripe theMethod args0 below0 = true := by decide +kernel
theorem w_running : about1.status = .running := rfl
set_option maxRecDepth 65536 in
theorem w_room : about1.hasRoom e0.platform room_1 = true :=
  launch0.hasRoom_least _ room_1 (by decide +kernel) (by decide +kernel) (by decide +kernel) (by decide +kernel) (by decide +kernel) (by decide +kernel)
theorem allAtoms_all (ts : List Jvm.Cond) (a : Array Jvm.Value) (st : Jvm.State) : (allAtoms ts).before a st = ts.all (fun c => c.before a st) := by
  induction ts with
  | nil => rfl
  | cons c t ih =>
    show (Jvm.Cond.and c (allAtoms t)).before a st = _
    rw [Jvm.Cond.before_and, ih, List.all_cons]
def words1 : List Jvm.Cond := Jvm.Cond.code x code maxLocals ret :: tables_1
/-- a 'code' word, met by the world's own term for the bytes: nothing is compared byte by byte -/
theorem code_word {y : MethodName} {bytes : ByteArray} {mx : Nat} {rt : Option FieldType} {a : Array Value} {s : State} {m : MethodId} {meth : Method} {c : Code} (h1 : s.methodNamed? y = some m) (h2 : s.vm.method? m = some meth) (h3 : meth.code = some c) (h4 : c.code = bytes)
    (h5 : (c.maxLocals == mx && c.exceptionTable.isEmpty && decide (c.maxStack ≤ mostOperands) && decide (meth.sig.returnType = rt) && !meth.locks && decide (parseMethodDescriptor y.desc = some meth.sig)) = true) : (Jvm.Cond.code y bytes mx rt).before a s = true := by
  simp only [Bool.and_eq_true, beq_iff_eq, Bool.not_eq_true', decide_eq_true_eq] at h5
  obtain ⟨⟨⟨⟨⟨g1, g2⟩, g3⟩, g4⟩, g5⟩, g6⟩ := h5
  simp [Cond.before, Cond.holds, Cond.value, h1, h2, h3, h4, g1, g2, g3, g4, g5, g6]
def isCode : Jvm.Cond → Bool
  | .code _ _ _ _ => true
  | _ => false
theorem all_split {L : List Jvm.Cond} {P : Jvm.Cond → Bool} (h1 : L.all (fun c => isCode c || P c) = true) (h2 : ∀ c ∈ L.filter isCode, P c = true) : L.all P = true := by
  refine List.all_eq_true.mpr fun c hc => ?_
  have h := List.all_eq_true.mp h1 c hc
  rcases Bool.eq_false_or_eq_true (isCode c) with hi | hi
  · exact h2 c (List.mem_filter.mpr ⟨hc, hi⟩)
  · simpa [hi] using h
set_option maxRecDepth 65536 in
theorem w_c0 : (Jvm.Cond.code x code maxLocals ret).before args0 about1 = true := code_word (m := ⟨1, 2⟩) (meth := k1m2) (c := k1c2) (by decide +kernel) rfl rfl rfl (by decide +kernel)
set_option maxRecDepth 65536 in
theorem w_c1 : (Jvm.Cond.code ({ cls := "rootzone/BoundNotNegativePinLaw", name := "pick", desc := "(IJI)D" } : Jvm.MethodName) method_2_code (4 : Nat) (Option.some Jvm.ClassFile.FieldType.double)).before args0 about1 = true := code_word (m := ⟨1, 1⟩) (meth := k1m1) (c := k1c1) (by decide +kernel) rfl rfl rfl (by decide +kernel)
set_option maxRecDepth 65536 in
theorem w_c2 : (Jvm.Cond.code ({ cls := "java/lang/String", name := "valueOf", desc := "(C)Ljava/lang/String;" } : Jvm.MethodName) jdk_42_method_139_code (1 : Nat) (Option.some (Jvm.ClassFile.FieldType.object "java/lang/String"))).before args0 about1 = true := code_word (m := ⟨7, 1⟩) (meth := k7m1) (c := k7c1) (by decide +kernel) rfl rfl rfl (by decide +kernel)
set_option maxRecDepth 65536 in
theorem w_c3 : (Jvm.Cond.code ({ cls := "java/lang/StringLatin1", name := "canEncode", desc := "(C)Z" } : Jvm.MethodName) jdk_43_method_3_code (1 : Nat) (Option.some Jvm.ClassFile.FieldType.boolean)).before args0 about1 = true := code_word (m := ⟨8, 1⟩) (meth := k8m1) (c := k8c1) (by decide +kernel) rfl rfl rfl (by decide +kernel)
set_option maxRecDepth 65536 in
theorem w_c4 : (Jvm.Cond.code ({ cls := "java/lang/StringLatin1", name := "toBytes", desc := "(C)[B" } : Jvm.MethodName) jdk_43_method_46_code (1 : Nat) (Option.some (Jvm.ClassFile.FieldType.array Jvm.ClassFile.FieldType.byte))).before args0 about1 = true := code_word (m := ⟨8, 2⟩) (meth := k8m2) (c := k8c2) (by decide +kernel) rfl rfl rfl (by decide +kernel)
set_option maxRecDepth 65536 in
theorem w_c5 : (Jvm.Cond.code ({ cls := "java/lang/String", name := "<init>", desc := "([BB)V" } : Jvm.MethodName) jdk_42_method_151_code (3 : Nat) (Option.none : Option Jvm.ClassFile.FieldType)).before args0 about1 = true := code_word (m := ⟨7, 2⟩) (meth := k7m2) (c := k7c2) (by decide +kernel) rfl rfl rfl (by decide +kernel)
set_option maxRecDepth 65536 in
theorem w_c6 : (Jvm.Cond.code ({ cls := "java/lang/Object", name := "<init>", desc := "()V" } : Jvm.MethodName) object_method_1_code (1 : Nat) (Option.none : Option Jvm.ClassFile.FieldType)).before args0 about1 = true := code_word (m := ⟨0, 0⟩) (meth := k0m0) (c := k0c0) (by decide +kernel) rfl rfl rfl (by decide +kernel)
set_option maxRecDepth 65536 in
theorem w_c7 : (Jvm.Cond.code ({ cls := "rootzone/Bound", name := "notNegative", desc := "()Lrootzone/Bound;" } : Jvm.MethodName) prog_1_method_6_code (0 : Nat) (Option.some (Jvm.ClassFile.FieldType.object "rootzone/Bound"))).before args0 about1 = true := code_word (m := ⟨9, 1⟩) (meth := k9m1) (c := k9c1) (by decide +kernel) rfl rfl rfl (by decide +kernel)
set_option maxRecDepth 65536 in
theorem w_c8 : (Jvm.Cond.code ({ cls := "rootzone/Bound", name := "<init>", desc := "(DZLjava/lang/String;DZLjava/lang/String;)V" } : Jvm.MethodName) prog_1_method_1_code (9 : Nat) (Option.none : Option Jvm.ClassFile.FieldType)).before args0 about1 = true := code_word (m := ⟨9, 0⟩) (meth := k9m0) (c := k9c0) (by decide +kernel) rfl rfl rfl (by decide +kernel)
set_option maxRecDepth 65536 in
theorem w_c9 : (Jvm.Cond.code ({ cls := "rootzone/Bound", name := "check", desc := "(Ljava/lang/String;D)D" } : Jvm.MethodName) prog_1_method_9_code (4 : Nat) (Option.some Jvm.ClassFile.FieldType.double)).before args0 about1 = true := code_word (m := ⟨9, 2⟩) (meth := k9m2) (c := k9c2) (by decide +kernel) rfl rfl rfl (by decide +kernel)
set_option maxRecDepth 65536 in
theorem w_c10 : (Jvm.Cond.code ({ cls := "java/lang/Double", name := "isNaN", desc := "(D)Z" } : Jvm.MethodName) jdk_117_method_6_code (2 : Nat) (Option.some Jvm.ClassFile.FieldType.boolean)).before args0 about1 = true := code_word (m := ⟨11, 0⟩) (meth := k11m0) (c := k11c0) (by decide +kernel) rfl rfl rfl (by decide +kernel)
set_option maxRecDepth 65536 in
theorem w_c11 : (Jvm.Cond.code ({ cls := "rootzone/Bound", name := "checkGiven", desc := "(Ljava/lang/String;D)D" } : Jvm.MethodName) prog_1_method_10_code (6 : Nat) (Option.some Jvm.ClassFile.FieldType.double)).before args0 about1 = true := code_word (m := ⟨9, 3⟩) (meth := k9m3) (c := k9c3) (by decide +kernel) rfl rfl rfl (by decide +kernel)
def codes1 : List Jvm.Cond := [Jvm.Cond.code x code maxLocals ret, Jvm.Cond.code ({ cls := "rootzone/BoundNotNegativePinLaw", name := "pick", desc := "(IJI)D" } : Jvm.MethodName) method_2_code (4 : Nat) (Option.some Jvm.ClassFile.FieldType.double), Jvm.Cond.code ({ cls := "java/lang/String", name := "valueOf", desc := "(C)Ljava/lang/String;" } : Jvm.MethodName) jdk_42_method_139_code (1 : Nat) (Option.some (Jvm.ClassFile.FieldType.object "java/lang/String")), Jvm.Cond.code ({ cls := "java/lang/StringLatin1", name := "canEncode", desc := "(C)Z" } : Jvm.MethodName) jdk_43_method_3_code (1 : Nat) (Option.some Jvm.ClassFile.FieldType.boolean), Jvm.Cond.code ({ cls := "java/lang/StringLatin1", name := "toBytes", desc := "(C)[B" } : Jvm.MethodName) jdk_43_method_46_code (1 : Nat) (Option.some (Jvm.ClassFile.FieldType.array Jvm.ClassFile.FieldType.byte)), Jvm.Cond.code ({ cls := "java/lang/String", name := "<init>", desc := "([BB)V" } : Jvm.MethodName) jdk_42_method_151_code (3 : Nat) (Option.none : Option Jvm.ClassFile.FieldType), Jvm.Cond.code ({ cls := "java/lang/Object", name := "<init>", desc := "()V" } : Jvm.MethodName) object_method_1_code (1 : Nat) (Option.none : Option Jvm.ClassFile.FieldType), Jvm.Cond.code ({ cls := "rootzone/Bound", name := "notNegative", desc := "()Lrootzone/Bound;" } : Jvm.MethodName) prog_1_method_6_code (0 : Nat) (Option.some (Jvm.ClassFile.FieldType.object "rootzone/Bound")), Jvm.Cond.code ({ cls := "rootzone/Bound", name := "<init>", desc := "(DZLjava/lang/String;DZLjava/lang/String;)V" } : Jvm.MethodName) prog_1_method_1_code (9 : Nat) (Option.none : Option Jvm.ClassFile.FieldType), Jvm.Cond.code ({ cls := "rootzone/Bound", name := "check", desc := "(Ljava/lang/String;D)D" } : Jvm.MethodName) prog_1_method_9_code (4 : Nat) (Option.some Jvm.ClassFile.FieldType.double), Jvm.Cond.code ({ cls := "java/lang/Double", name := "isNaN", desc := "(D)Z" } : Jvm.MethodName) jdk_117_method_6_code (2 : Nat) (Option.some Jvm.ClassFile.FieldType.boolean), Jvm.Cond.code ({ cls := "rootzone/Bound", name := "checkGiven", desc := "(Ljava/lang/String;D)D" } : Jvm.MethodName) prog_1_method_10_code (6 : Nat) (Option.some Jvm.ClassFile.FieldType.double)]
set_option maxRecDepth 65536 in
theorem codes_eq : words1.filter isCode = codes1 := rfl
theorem w_codes : ∀ c ∈ words1.filter isCode, c.before args0 about1 = true := by
  rw [codes_eq]
  intro c hc
  simp only [codes1, List.mem_cons, List.not_mem_nil, or_false] at hc
  rcases hc with rfl | rfl | rfl | rfl | rfl | rfl | rfl | rfl | rfl | rfl | rfl | rfl
  · exact w_c0
  · exact w_c1
  · exact w_c2
  · exact w_c3
  · exact w_c4
  · exact w_c5
  · exact w_c6
  · exact w_c7
  · exact w_c8
  · exact w_c9
  · exact w_c10
  · exact w_c11
set_option maxRecDepth 65536 in
theorem w_t1 : (words1.take 24).all (fun c => isCode c || c.before args0 about1) = true := by decide +kernel
set_option maxRecDepth 65536 in
theorem w_t2 : ((words1.drop 24).take 24).all (fun c => isCode c || c.before args0 about1) = true := by decide +kernel
set_option maxRecDepth 65536 in
theorem w_t3 : (((words1.drop 24).drop 24).take 24).all (fun c => isCode c || c.before args0 about1) = true := by decide +kernel
set_option maxRecDepth 65536 in
theorem w_t4 : (((words1.drop 24).drop 24).drop 24).all (fun c => isCode c || c.before args0 about1) = true := by decide +kernel
theorem w_tables : (allAtoms (Jvm.Cond.code x code maxLocals ret :: tables_1)).before args0 about1 = true := by
  rw [allAtoms_all]
  show words1.all (fun c => c.before args0 about1) = true
  refine all_split ?_ w_codes
  rw [← List.take_append_drop 24 words1, List.all_append, w_t1, ← List.take_append_drop 24 (words1.drop 24), List.all_append, w_t2, ← List.take_append_drop 24 ((words1.drop 24).drop 24), List.all_append, w_t3, w_t4]
  rfl
set_option maxRecDepth 65536 in
theorem w_rest : rest_1_c.before args0 about1 = true := by decide +kernel
set_option maxRecDepth 65536 in
theorem w_case : (Jvm.Cond.and given_1 narrow_1).before args0 about1 = true := by decide +kernel
theorem w_applies : (headSpec (Jvm.Cond.code x code maxLocals ret :: tables_1) room_1).applies x e0.platform about1 = true :=
  (Spec.applies_iff w_frames).mpr ⟨w_running, w_runnable, w_alone, w_named, w_hears, w_ripe, w_room, w_tables⟩
theorem atStart : AtStart classFile x code maxLocals ret World_1 tables_1 room_1 Calls_1 rest_1 Pre_1 launch0 p0 e0 about1 theMethod args0 below0 :=
  ⟨lists_1, trivial, launch0.admits_env _ _ _, launch0.least_env, fairChoices_fair.cas, fairChoices_fair.clock, w_frames, w_args, w_heap, w_applies, trivial, w_rest, w_case⟩
end start1
theorem witness_1 : WitnessClaimed_1 := ⟨start1.p0, start1.e0, start1.about1, start1.theMethod, start1.args0, start1.below0, start1.atStart⟩
end Jvm.Pilot.@@N@@
