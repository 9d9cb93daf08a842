import JvmDerived
import JvmDerived.Pilot.@@N@@Statement
import JvmDerived.Pilot.@@N@@Code
set_option linter.unusedVariables false
set_option linter.unusedSimpArgs false
@@BLOCK:NumsL.lean.txt@@
namespace Jvm.Pilot.@@N@@
open Jvm Jvm.ClassFile Sem Op Lib Jvm.Free Jvm.Stand Jvm.LawKit Jvm.RoadKit Bundle Jvm.Pilot.@@N@@.Jvm.D
open Jvm.Free.Fl (NoNaN64 Fin64 Nz64)
theorem own_lt_ne {a b n : Nat} (h : a < n) (g : b = n) : a ≠ b := by omega
theorem own_lt_ne2 {a b n : Nat} (h : a < n) (g : n ≤ b) : a ≠ b := by omega
theorem own_ge_of {k b n : Nat} (h : k ≤ n) (g : b = n) : k ≤ b := by omega
abbrev uu : Slot := .unset
abbrev ss : Slot := .second
abbrev vi (x : Int32) : Slot := .val (.int x)
abbrev vj (x : Int64) : Slot := .val (.long x)
abbrev vd (x : UInt64) : Slot := .val (.double x)
abbrev vr (x : Addr) : Slot := .val (.ref x)
/-- whatever is reached from here is reached from E -/
abbrev own_G (p : Program) (e : Env) (below : List Frame) (E T : State) (g : JFrame) : Prop := ∀ t, Steps p.tables e below (T.setTop g) t → Steps p.tables e below E t
theorem own_if_eqY {x : Int32} (h : x = 0) : ifCond.holds .eq x = true := by subst h; rfl
theorem own_if_eqN {x : Int32} (h : ¬ x = 0) : ifCond.holds .eq x = false := beq_false_of_ne h
theorem own_if_neY {x : Int32} (h : ¬ x = 0) : ifCond.holds .ne x = true := bne_iff_ne.mpr h
theorem own_if_neN {x : Int32} (h : x = 0) : ifCond.holds .ne x = false := by subst h; rfl
theorem own_if_ltY {x : Int32} (h : x < 0) : ifCond.holds .lt x = true := decide_eq_true h
theorem own_if_ltN {x : Int32} (h : ¬ x < 0) : ifCond.holds .lt x = false := decide_eq_false h
theorem own_if_geY {x : Int32} (h : ¬ x < 0) : ifCond.holds .ge x = true := decide_eq_true (Int32.not_lt.mp h)
theorem own_if_geN {x : Int32} (h : x < 0) : ifCond.holds .ge x = false := decide_eq_false (fun q => Int32.not_le.mpr h q)
theorem own_if_gtY {x : Int32} (h : 0 < x) : ifCond.holds .gt x = true := decide_eq_true h
theorem own_if_gtN {x : Int32} (h : ¬ 0 < x) : ifCond.holds .gt x = false := decide_eq_false h
theorem own_if_leY {x : Int32} (h : ¬ 0 < x) : ifCond.holds .le x = true := decide_eq_true (Int32.not_lt.mp h)
theorem own_if_leN {x : Int32} (h : 0 < x) : ifCond.holds .le x = false := decide_eq_false (fun q => Int32.not_le.mpr h q)
theorem own_ic_eqY {x y : Int32} (h : x = y) : if_icmp.holds .eq x y = true := beq_iff_eq.mpr h
theorem own_ic_eqN {x y : Int32} (h : ¬ x = y) : if_icmp.holds .eq x y = false := beq_false_of_ne h
theorem own_ic_neY {x y : Int32} (h : ¬ x = y) : if_icmp.holds .ne x y = true := bne_iff_ne.mpr h
theorem own_ic_neN {x y : Int32} (h : x = y) : if_icmp.holds .ne x y = false := by subst h; exact bne_self_eq_false x
theorem own_ic_ltY {x y : Int32} (h : x < y) : if_icmp.holds .lt x y = true := decide_eq_true h
theorem own_ic_ltN {x y : Int32} (h : ¬ x < y) : if_icmp.holds .lt x y = false := decide_eq_false h
theorem own_ic_geY {x y : Int32} (h : ¬ x < y) : if_icmp.holds .ge x y = true := decide_eq_true (Int32.not_lt.mp h)
theorem own_ic_geN {x y : Int32} (h : x < y) : if_icmp.holds .ge x y = false := decide_eq_false (fun q => Int32.not_le.mpr h q)
theorem own_ic_gtY {x y : Int32} (h : y < x) : if_icmp.holds .gt x y = true := decide_eq_true h
theorem own_ic_gtN {x y : Int32} (h : ¬ y < x) : if_icmp.holds .gt x y = false := decide_eq_false h
theorem own_ic_leY {x y : Int32} (h : ¬ y < x) : if_icmp.holds .le x y = true := decide_eq_true (Int32.not_lt.mp h)
theorem own_ic_leN {x y : Int32} (h : y < x) : if_icmp.holds .le x y = false := decide_eq_false (fun q => Int32.not_le.mpr h q)
/-- what a comparison of two whole or scaled values pushes -/
def own_c (i j : Int) : Int32 := if i < j then -1 else if i = j then 0 else 1
theorem own_cE (o : CmpOp) {x y : UInt64} {i j : Int} (h : FP.dcmp x y = some (compare i j)) : cmpValue (FP.dcmp x y) o = own_c i j := by
  rw [h, FP.Core.compare_ite, own_c]
  by_cases h1 : i < j
  · rw [if_pos h1, if_pos h1]; cases o <;> rfl
  · rw [if_neg h1, if_neg h1]
    by_cases h2 : i = j
    · rw [if_pos h2, if_pos h2]; cases o <;> rfl
    · rw [if_neg h2, if_neg h2]; cases o <;> rfl
theorem own_c_lt {i j : Int} (h : i < j) : own_c i j = -1 := by rw [own_c, if_pos h]
theorem own_c_eq {i j : Int} (h : i = j) : own_c i j = 0 := by rw [own_c, if_neg (by omega), if_pos h]
theorem own_c_gt {i j : Int} (h : j < i) : own_c i j = 1 := by rw [own_c, if_neg (by omega), if_neg (by omega)]
theorem own_c_cases (i j : Int) : (i < j ∧ own_c i j = -1) ∨ (i = j ∧ own_c i j = 0) ∨ (j < i ∧ own_c i j = 1) := by
  rcases Int.lt_trichotomy i j with h | h | h
  · exact Or.inl ⟨h, own_c_lt h⟩
  · exact Or.inr (Or.inl ⟨h, own_c_eq h⟩)
  · exact Or.inr (Or.inr ⟨h, own_c_gt h⟩)
theorem own_c_ltY {i j : Int} (h : i < j) : ifCond.holds .lt (own_c i j) = true := by rw [own_c_lt h]; rfl
theorem own_c_ltN {i j : Int} (h : ¬ i < j) : ifCond.holds .lt (own_c i j) = false := by rcases own_c_cases i j with q | q | q <;> first | exact absurd q.1 h | (rw [q.2]; rfl)
theorem own_c_geY {i j : Int} (h : ¬ i < j) : ifCond.holds .ge (own_c i j) = true := by rcases own_c_cases i j with q | q | q <;> first | exact absurd q.1 h | (rw [q.2]; rfl)
theorem own_c_geN {i j : Int} (h : i < j) : ifCond.holds .ge (own_c i j) = false := by rw [own_c_lt h]; rfl
theorem own_c_gtY {i j : Int} (h : j < i) : ifCond.holds .gt (own_c i j) = true := by rw [own_c_gt h]; rfl
theorem own_c_gtN {i j : Int} (h : ¬ j < i) : ifCond.holds .gt (own_c i j) = false := by rcases own_c_cases i j with q | q | q <;> first | exact absurd q.1 h | (rw [q.2]; rfl)
theorem own_c_leY {i j : Int} (h : ¬ j < i) : ifCond.holds .le (own_c i j) = true := by rcases own_c_cases i j with q | q | q <;> first | exact absurd q.1 h | (rw [q.2]; rfl)
theorem own_c_leN {i j : Int} (h : j < i) : ifCond.holds .le (own_c i j) = false := by rw [own_c_gt h]; rfl
theorem own_c_eqY {i j : Int} (h : i = j) : ifCond.holds .eq (own_c i j) = true := by rw [own_c_eq h]; rfl
theorem own_c_eqN {i j : Int} (h : ¬ i = j) : ifCond.holds .eq (own_c i j) = false := by rcases own_c_cases i j with q | q | q <;> first | exact absurd q.1 h | (rw [q.2]; rfl)
theorem own_c_neY {i j : Int} (h : ¬ i = j) : ifCond.holds .ne (own_c i j) = true := by rcases own_c_cases i j with q | q | q <;> first | exact absurd q.1 h | (rw [q.2]; rfl)
theorem own_c_neN {i j : Int} (h : i = j) : ifCond.holds .ne (own_c i j) = false := by rw [own_c_eq h]; rfl
theorem own_l_lt {i j : Int64} (h : i < j) : XT.cmpL i j = -1 := by
  rw [XT.cmpL, if_neg (fun q => Int64.lt_irrefl (Int64.lt_trans h q)), if_neg (fun q => Int64.lt_irrefl (q ▸ h))]
theorem own_l_eq {i j : Int64} (h : i = j) : XT.cmpL i j = 0 := by subst h; rw [XT.cmpL, if_neg Int64.lt_irrefl, if_pos rfl]
theorem own_l_gt {i j : Int64} (h : j < i) : XT.cmpL i j = 1 := by rw [XT.cmpL, if_pos h]
theorem own_l_cases (i j : Int64) : (i < j ∧ XT.cmpL i j = -1) ∨ (i = j ∧ XT.cmpL i j = 0) ∨ (j < i ∧ XT.cmpL i j = 1) := by
  by_cases h : i < j
  · exact Or.inl ⟨h, own_l_lt h⟩
  · by_cases h2 : i = j
    · exact Or.inr (Or.inl ⟨h2, own_l_eq h2⟩)
    · have h3 : j < i := by
        rw [Int64.lt_iff_toInt_lt] at h ⊢
        have h4 : i.toInt ≠ j.toInt := fun q => h2 (Int64.toInt_inj.mp q)
        omega
      exact Or.inr (Or.inr ⟨h3, own_l_gt h3⟩)
theorem own_l_ltY {i j : Int64} (h : i < j) : ifCond.holds .lt (XT.cmpL i j) = true := by rw [own_l_lt h]; rfl
theorem own_l_ltN {i j : Int64} (h : ¬ i < j) : ifCond.holds .lt (XT.cmpL i j) = false := by rcases own_l_cases i j with q | q | q <;> first | exact absurd q.1 h | (rw [q.2]; rfl)
theorem own_l_geY {i j : Int64} (h : ¬ i < j) : ifCond.holds .ge (XT.cmpL i j) = true := by rcases own_l_cases i j with q | q | q <;> first | exact absurd q.1 h | (rw [q.2]; rfl)
theorem own_l_geN {i j : Int64} (h : i < j) : ifCond.holds .ge (XT.cmpL i j) = false := by rw [own_l_lt h]; rfl
theorem own_l_gtY {i j : Int64} (h : j < i) : ifCond.holds .gt (XT.cmpL i j) = true := by rw [own_l_gt h]; rfl
theorem own_l_gtN {i j : Int64} (h : ¬ j < i) : ifCond.holds .gt (XT.cmpL i j) = false := by rcases own_l_cases i j with q | q | q <;> first | exact absurd q.1 h | (rw [q.2]; rfl)
theorem own_l_leY {i j : Int64} (h : ¬ j < i) : ifCond.holds .le (XT.cmpL i j) = true := by rcases own_l_cases i j with q | q | q <;> first | exact absurd q.1 h | (rw [q.2]; rfl)
theorem own_l_leN {i j : Int64} (h : j < i) : ifCond.holds .le (XT.cmpL i j) = false := by rw [own_l_gt h]; rfl
theorem own_l_eqY {i j : Int64} (h : i = j) : ifCond.holds .eq (XT.cmpL i j) = true := by rw [own_l_eq h]; rfl
theorem own_l_eqN {i j : Int64} (h : ¬ i = j) : ifCond.holds .eq (XT.cmpL i j) = false := by rcases own_l_cases i j with q | q | q <;> first | exact absurd q.1 h | (rw [q.2]; rfl)
theorem own_l_neY {i j : Int64} (h : ¬ i = j) : ifCond.holds .ne (XT.cmpL i j) = true := by rcases own_l_cases i j with q | q | q <;> first | exact absurd q.1 h | (rw [q.2]; rfl)
theorem own_l_neN {i j : Int64} (h : i = j) : ifCond.holds .ne (XT.cmpL i j) = false := by rw [own_l_eq h]; rfl
theorem own_ac_eq_Y {x y : Value} (h : x = y) : XT.acmp .eq x y = true := decide_eq_true h
theorem own_ac_eq_N {x y : Value} (h : ¬ x = y) : XT.acmp .eq x y = false := decide_eq_false h
theorem own_ac_ne_Y {x y : Value} (h : ¬ x = y) : XT.acmp .ne x y = true := decide_eq_true h
theorem own_ac_ne_N {x y : Value} (h : x = y) : XT.acmp .ne x y = false := decide_eq_false (fun q => q h)
theorem own_ar_eq_Y {x y : Addr} (h : x = y) : XT.acmp .eq (.ref x) (.ref y) = true := own_ac_eq_Y (congrArg Value.ref h)
theorem own_ar_eq_N {x y : Addr} (h : ¬ x = y) : XT.acmp .eq (.ref x) (.ref y) = false := own_ac_eq_N (fun q => h (Value.ref.inj q))
theorem own_ar_ne_Y {x y : Addr} (h : ¬ x = y) : XT.acmp .ne (.ref x) (.ref y) = true := own_ac_ne_Y (fun q => h (Value.ref.inj q))
theorem own_ar_ne_N {x y : Addr} (h : x = y) : XT.acmp .ne (.ref x) (.ref y) = false := own_ac_ne_N (congrArg Value.ref h)
/-- a static's object's field that the case names by a number -/
theorem own_ord {args : Array Value} {s : State} {t : Term} {C n d : String} {k : Int32} {x : Addr} (ev : t.eval args s none [] s = some (.ref x))
    (h : (Jvm.Cond.eq (Term.field t C n d) (Term.int k)).value args s none s [] = some true) : s.fieldOf? x C n d = some (.int k) := by
  obtain ⟨v, u, e1, e2, k1, k2⟩ := cmp_v (Or.inl h)
  have e3 : u = .int k := by have := (Term.int_eval (args := args) (first := s) (o := none) (idx := []) (s := s) k).symm.trans e2; exact (Option.some.inj this).symm
  subst e3
  obtain ⟨z, rfl⟩ := k2
  have q := gotT (Cond.eq_ints e1 e2) h
  rw [← fld_at ev, e1, q]
/-! doubles: exact values in units of the least double -/
def own_z (x : UInt64) : Int := FP.Core.zval FP.Core.b64 (FP.Core.val64 x)
theorem own_nn {i : Int} {x : UInt64} (h : FP.Core.DInt i x) : NoNaN64 x := Fl.val64_no.mpr (FP.Core.DInt_ne_nan h)
theorem own_cmpz {x y : UInt64} (hx : NoNaN64 x) (hy : NoNaN64 y) : FP.dcmp x y = some (compare (own_z x) (own_z y)) := FP.Core.dcmp_zval (Fl.val64_no.mp hx) (Fl.val64_no.mp hy)
theorem own_d0 : FP.Core.DInt 0 FP.dconst0 := by
  have h := FP.Core.l2d_int (a := 0) (by decide)
  rw [FP.Core.l2d_zero] at h; exact h
theorem own_d1 : FP.Core.DInt 1 FP.dconst1 := FP.Core.dint_one
theorem own_zi {i : Int} {x : UInt64} (h : FP.Core.DInt i x) : own_z x = i * (FP.Core.one64 : Int) := FP.Core.DInt_zval h
theorem own_fini {i : Int} {x : UInt64} (h : FP.Core.DInt i x) : Fin64 x := by
  have h' : FP.Core.Whole i (FP.Core.val64 x) := h
  cases hv : FP.Core.val64 x with
  | nan => rw [hv] at h'; exact h'.elim
  | inf s => rw [hv] at h'; exact h'.elim
  | fin s c q => exact Fl.fin64_core.mpr ⟨s, c, q, hv⟩
theorem own_one : (0 : Int) < (FP.Core.one64 : Int) := by have := FP.Core.one64_pos; omega
theorem own_nz {x : UInt64} (h : own_z x ≠ 0) : Nz64 x := Fl.nz64_core.mpr fun ⟨s, q, e⟩ => h (by
  show FP.Core.zval FP.Core.b64 (FP.Core.val64 x) = 0
  rw [e]; show FP.Core.signed s (0 * _) = 0; rw [Nat.zero_mul]; cases s <;> rfl)
theorem own_nzi {i : Int} {x : UInt64} (h : FP.Core.DInt i x) (hi : i ≠ 0) : Nz64 x := own_nz (by
  rw [own_zi h]; intro q; rcases Int.mul_eq_zero.mp q with r | r
  · exact hi r
  · have := own_one; omega)
theorem own_zn (x : UInt64) : (own_z x).natAbs = FP.Core.zmag FP.Core.b64 (FP.Core.val64 x) := FP.Core.natAbs_signed _ _
/-- the quotient, by the two values alone -/
theorem own_quot {x y : UInt64} (hx : Fin64 x) (hy : Fin64 y) (hz : own_z y ≠ 0) :
    FP.Core.val64 (FP.ddiv x y) = FP.Core.roundRatio FP.Core.b64 (FP.Core.sgn (FP.Core.val64 x) != FP.Core.sgn (FP.Core.val64 y)) (own_z x).natAbs (own_z y).natAbs 0 := by
  obtain ⟨s, c, q, ex⟩ := Fl.fin64_core.mp hx
  obtain ⟨t, d, r, ey⟩ := Fl.fin64_core.mp hy
  have fx : FP.Core.fits FP.Core.b64 (.fin s c q) := ex ▸ FP.Core.val64_fits x
  have fy : FP.Core.fits FP.Core.b64 (.fin t d r) := ey ▸ FP.Core.val64_fits y
  have hd : d ≠ 0 := fun h => hz (by
    show FP.Core.zval FP.Core.b64 (FP.Core.val64 y) = 0
    rw [ey, h]; show FP.Core.signed t (0 * _) = 0; rw [Nat.zero_mul]; cases t <;> rfl)
  rw [own_zn, own_zn, show FP.ddiv x y = FP.Core.ddiv x y from rfl, FP.Core.val64_ddiv, ex, ey]
  show (if d = 0 then _ else FP.Core.roundRatio FP.Core.b64 (s != t) c d (q - r)) = FP.Core.roundRatio FP.Core.b64 (s != t) (c * 2 ^ (q - FP.Core.b64.qmin).toNat) (d * 2 ^ (r - FP.Core.b64.qmin).toNat) 0
  rw [if_neg hd]
  refine FP.Core.roundRatio_congr (Nat.pos_of_ne_zero hd) (Nat.mul_pos (Nat.pos_of_ne_zero hd) (Nat.two_pow_pos _)) ?_
  have h1 := fx.2.1
  have h2 := fy.2.1
  have e1 : (r - FP.Core.b64.qmin).toNat + (q - r - 0).toNat = (q - FP.Core.b64.qmin).toNat + (0 - (q - r)).toNat := by omega
  calc c * (d * 2 ^ (r - FP.Core.b64.qmin).toNat) * 2 ^ (q - r - 0).toNat = c * d * (2 ^ (r - FP.Core.b64.qmin).toNat * 2 ^ (q - r - 0).toNat) := by
        rw [Nat.mul_assoc, Nat.mul_assoc, Nat.mul_assoc]
    _ = c * d * (2 ^ (q - FP.Core.b64.qmin).toNat * 2 ^ (0 - (q - r)).toNat) := by rw [← Nat.pow_add, ← Nat.pow_add, e1]
    _ = c * 2 ^ (q - FP.Core.b64.qmin).toNat * d * 2 ^ (0 - (q - r)).toNat := by
        rw [Nat.mul_right_comm c _ d, Nat.mul_assoc (c * d)]
theorem own_noNaN_of {x : UInt64} {s : Bool} {A B : Nat} {e : Int} (h : FP.Core.val64 x = FP.Core.roundRatio FP.Core.b64 s A B e) : NoNaN64 x :=
  Fl.val64_no.mpr (h ▸ FP.Core.roundRatio_ne_nan _ _ _ _ _)
theorem own_div_nn {x y : UInt64} (hx : Fin64 x) (hy : Fin64 y) (hz : own_z y ≠ 0) : NoNaN64 (FP.ddiv x y) := Fl.ddiv_out hx.noNaN hy (own_nz hz)
/-- what is rounded below (above) a double stays there -/
theorem own_rr_le {s : Bool} {A B : Nat} {V : UInt64} (hB : 0 < B) (hV : NoNaN64 V) (h : A * FP.Core.one64 ≤ (own_z V).natAbs * B) :
    FP.Core.zmag FP.Core.b64 (FP.Core.roundRatio FP.Core.b64 s A B 0) ≤ (own_z V).natAbs := by
  rw [own_zn] at h ⊢
  refine FP.Core.zmag_roundRatio_le FP.Core.good_b64 hB (FP.Core.val64_fits V) (Fl.val64_no.mp hV) (e0 := FP.Core.b64.qmin) (Int.le_refl _) (by decide +kernel) ?_
  rw [Int.sub_self]
  show A * 2 ^ (0 - FP.Core.b64.qmin).toNat ≤ _ * 1 * B
  rw [Nat.mul_one, Int.zero_sub, FP.Core.pow_qmin64]; exact h
theorem own_rr_ge {s : Bool} {A B : Nat} {V : UInt64} (hB : 0 < B) (h : (own_z V).natAbs * B ≤ A * FP.Core.one64) :
    (own_z V).natAbs ≤ FP.Core.zmag FP.Core.b64 (FP.Core.roundRatio FP.Core.b64 s A B 0) := by
  rw [own_zn] at h ⊢
  refine FP.Core.zmag_roundRatio_ge FP.Core.good_b64 hB (FP.Core.val64_fits V) (e0 := FP.Core.b64.qmin) (Int.le_refl _) (by decide +kernel) ?_
  rw [Int.sub_self]
  show _ * 1 * B ≤ A * 2 ^ (0 - FP.Core.b64.qmin).toNat
  rw [Nat.mul_one, Int.zero_sub, FP.Core.pow_qmin64]; exact h
theorem own_z_signed {x : UInt64} {s : Bool} {A B : Nat} (h : FP.Core.val64 x = FP.Core.roundRatio FP.Core.b64 s A B 0) :
    own_z x = FP.Core.signed s (FP.Core.zmag FP.Core.b64 (FP.Core.roundRatio FP.Core.b64 s A B 0)) := by
  show FP.Core.signed _ _ = _
  rw [h, FP.Core.sgn_roundRatio]
/-- a quotient of two that are not below nought -/
theorem own_div_ge0 {x y : UInt64} (hx : Fin64 x) (hy : Fin64 y) (hz : own_z y ≠ 0) (h0 : 0 ≤ own_z x) (h1 : 0 ≤ own_z y) : 0 ≤ own_z (FP.ddiv x y) := by
  have hq := own_quot hx hy hz
  rw [own_z_signed hq]
  cases hs : (FP.Core.sgn (FP.Core.val64 x) != FP.Core.sgn (FP.Core.val64 y)) with
  | false => exact Int.natCast_nonneg _
  | true =>
    have hy2 : FP.Core.sgn (FP.Core.val64 y) = false := by
      cases hs2 : FP.Core.sgn (FP.Core.val64 y) with
      | false => rfl
      | true =>
        exfalso; have : own_z y = -(FP.Core.zmag FP.Core.b64 (FP.Core.val64 y) : Int) := by show FP.Core.signed _ _ = _; rw [hs2]; rfl
        omega
    have hx2 : FP.Core.sgn (FP.Core.val64 x) = true := by rw [hy2] at hs; simpa using hs
    have hx3 : own_z x = -(FP.Core.zmag FP.Core.b64 (FP.Core.val64 x) : Int) := by show FP.Core.signed _ _ = _; rw [hx2]; rfl
    have hx4 : (own_z x).natAbs = 0 := by omega
    rw [hx4, FP.Core.roundRatio, if_pos rfl]
    show 0 ≤ FP.Core.signed true (0 * _); rw [Nat.zero_mul]; decide
theorem own_div_le {x y V : UInt64} (hx : Fin64 x) (hy : Fin64 y) (hz : own_z y ≠ 0) (hV : NoNaN64 V) (h0 : 0 ≤ own_z x) (h1 : 0 ≤ own_z y) (h2 : 0 ≤ own_z V)
    (h : own_z x * (FP.Core.one64 : Int) ≤ own_z V * own_z y) : own_z (FP.ddiv x y) ≤ own_z V := by
  have hq := own_quot hx hy hz
  have hge := own_div_ge0 hx hy hz h0 h1
  have hB : 0 < (own_z y).natAbs := by omega
  have h3 : (own_z x).natAbs * FP.Core.one64 ≤ (own_z V).natAbs * (own_z y).natAbs := by
    have e1 : ((own_z x).natAbs : Int) = own_z x := by omega
    have e2 : ((own_z y).natAbs : Int) = own_z y := by omega
    have e3 : ((own_z V).natAbs : Int) = own_z V := by omega
    have : (((own_z x).natAbs * FP.Core.one64 : Nat) : Int) ≤ (((own_z V).natAbs * (own_z y).natAbs : Nat) : Int) := by
      rw [Int.natCast_mul, Int.natCast_mul, e1, e2, e3]; exact h
    exact Int.ofNat_le.mp this
  have := own_rr_le (s := FP.Core.sgn (FP.Core.val64 x) != FP.Core.sgn (FP.Core.val64 y)) hB hV h3
  have h4 : (own_z (FP.ddiv x y)).natAbs ≤ (own_z V).natAbs := by rw [own_zn, hq]; exact this
  omega
/-- two doubles of the same whole value compare as equal -/
theorem own_eq0 {x y : UInt64} {i : Int} (o : CmpOp) (hx : FP.Core.DInt i x) (hy : FP.Core.DInt i y) : cmpValue (FP.dcmp x y) o = 0 := by
  rw [own_cE o (FP.Core.dcmp_int hx hy), own_c_eq rfl]
theorem own_mb {a b A B : Int} (h1 : -A ≤ a) (h2 : a ≤ A) (h3 : -B ≤ b) (h4 : b ≤ B) (h : A * B ≤ 9007199254740992) : (a * b).natAbs ≤ 2 ^ 53 := by
  rw [Int.natAbs_mul]
  have e1 : a.natAbs ≤ A.toNat := by omega
  have e2 : b.natAbs ≤ B.toNat := by omega
  have e3 : a.natAbs * b.natAbs ≤ A.toNat * B.toNat := Nat.mul_le_mul e1 e2
  have e4 : ((A.toNat * B.toNat : Nat) : Int) = A * B := by rw [Int.natCast_mul, Int.toNat_of_nonneg (by omega), Int.toNat_of_nonneg (by omega)]
  have e5 : (2 : Nat) ^ 53 = 9007199254740992 := by decide
  omega
theorem own_dl (a : Int64) {i : Int} (h : a.toInt = i) (hb : i.natAbs ≤ 2 ^ 53) : FP.Core.DInt i (FP.l2d a) := by subst h; exact FP.Core.l2d_int hb
theorem own_lm {a b : Int64} (h : (a.toInt * b.toInt).natAbs ≤ 2 ^ 53) : (a * b).toInt = a.toInt * b.toInt := by
  have e5 : (2 : Nat) ^ 53 = 9007199254740992 := by decide
  exact Jvm.Kit.i64_mul (by omega) (by omega)
theorem own_sgn_mul {s t : Bool} {b : Nat} {k : Int} (hb : 0 < b) (h : FP.Core.signed s (k.natAbs * b) = k * FP.Core.signed t b) : FP.Core.signed (s != t) k.natAbs = k := by
  have hb' : (0 : Int) < (b : Int) := by omega
  have e : ((k.natAbs * b : Nat) : Int) = (k.natAbs : Int) * (b : Int) := Int.natCast_mul _ _
  have key : ∀ z : Int, (k.natAbs : Int) * (b : Int) = z * (b : Int) → (k.natAbs : Int) = z := fun z q => Int.eq_of_mul_eq_mul_right (by omega) q
  cases s <;> cases t
  · show (k.natAbs : Int) = k
    apply key; rw [← e]; exact h
  · show -(k.natAbs : Int) = k
    have h' : ((k.natAbs * b : Nat) : Int) = k * -(b : Int) := h
    have := key (-k) (by rw [← e, h', Int.mul_neg, Int.neg_mul]); omega
  · show -(k.natAbs : Int) = k
    have h' : -((k.natAbs * b : Nat) : Int) = k * (b : Int) := h
    have := key (-k) (by rw [← e, Int.neg_mul, ← h', Int.neg_neg]); omega
  · show (k.natAbs : Int) = k
    have h' : -((k.natAbs * b : Nat) : Int) = k * -(b : Int) := h
    apply key; rw [← e]
    have : -((k.natAbs * b : Nat) : Int) = -(k * (b : Int)) := by rw [h', Int.mul_neg]
    omega
/-- a quotient of whole values that comes out even -/
theorem own_ddiv_int {k j : Int} {x y : UInt64} (hx : FP.Core.DInt (k * j) x) (hy : FP.Core.DInt j y) (hj : j ≠ 0) (hk : k.natAbs ≤ 2 ^ 53) : FP.Core.DInt k (FP.ddiv x y) := by
  have zx := own_zi hx
  have zy := own_zi hy
  have hz : own_z y ≠ 0 := by rw [zy]; exact Int.mul_ne_zero hj (by have := own_one; omega)
  have hq := own_quot (own_fini hx) (own_fini hy) hz
  have ha : (own_z x).natAbs = k.natAbs * (own_z y).natAbs := by rw [zx, zy, Int.mul_assoc, Int.natAbs_mul]
  have hb : 0 < (own_z y).natAbs := by omega
  show FP.Core.Whole k (FP.Core.val64 (FP.ddiv x y))
  rw [hq, ha, FP.Core.roundRatio_congr (A' := k.natAbs) (B' := 1) (e' := 0) hb (by decide) (by rw [Nat.mul_one])]
  refine FP.Core.whole_round FP.Core.good_b64 FP.Core.wide_b64 hk (d := .fin (FP.Core.sgn (FP.Core.val64 x) != FP.Core.sgn (FP.Core.val64 y)) k.natAbs 0) ?_
  show FP.Core.signed _ (k.natAbs * 1) = k * ((1 : Nat) : Int)
  rw [Nat.mul_one, show ((1 : Nat) : Int) = 1 from rfl, Int.mul_one]
  refine own_sgn_mul hb ?_
  have e1 : FP.Core.signed (FP.Core.sgn (FP.Core.val64 x)) (own_z x).natAbs = own_z x := by rw [own_zn]; rfl
  have e2 : FP.Core.signed (FP.Core.sgn (FP.Core.val64 y)) (own_z y).natAbs = own_z y := by rw [own_zn]; rfl
  rw [← ha, e1, e2, zx, zy, Int.mul_assoc]
theorem own_zmag_s (s : Bool) (A B : Nat) (e : Int) : FP.Core.zmag FP.Core.b64 (FP.Core.roundRatio FP.Core.b64 s A B e) = FP.Core.zmag FP.Core.b64 (FP.Core.roundRatio FP.Core.b64 false A B e) := by
  cases s with
  | false => rfl
  | true =>
    rw [show FP.Core.roundRatio FP.Core.b64 true A B e = FP.Core.negate (FP.Core.roundRatio FP.Core.b64 false A B e) from (FP.Core.negate_roundRatio FP.Core.b64 false A B e).symm]
    cases FP.Core.roundRatio FP.Core.b64 false A B e <;> rfl
theorem own_div_n {x y : UInt64} (hx : Fin64 x) (hy : Fin64 y) (hz : own_z y ≠ 0) : (own_z (FP.ddiv x y)).natAbs = FP.Core.zmag FP.Core.b64 (FP.Core.roundRatio FP.Core.b64 false (own_z x).natAbs (own_z y).natAbs 0) := by
  rw [own_zn, own_quot hx hy hz, own_zmag_s]
/-- two quotients of the same ratio, none below nought -/
theorem own_div_congr {x y x' y' : UInt64} (hx : Fin64 x) (hy : Fin64 y) (hz : own_z y ≠ 0) (hx' : Fin64 x') (hy' : Fin64 y') (hz' : own_z y' ≠ 0)
    (g1 : 0 ≤ own_z x) (g2 : 0 ≤ own_z y) (g3 : 0 ≤ own_z x') (g4 : 0 ≤ own_z y') (h : own_z x * own_z y' = own_z x' * own_z y) : own_z (FP.ddiv x y) = own_z (FP.ddiv x' y') := by
  have e1 := own_div_n hx hy hz
  have e2 := own_div_n hx' hy' hz'
  have k1 := own_div_ge0 hx hy hz g1 g2
  have k2 := own_div_ge0 hx' hy' hz' g3 g4
  have h' : (own_z x).natAbs * (own_z y').natAbs = (own_z x').natAbs * (own_z y).natAbs := by rw [← Int.natAbs_mul, ← Int.natAbs_mul, h]
  rw [FP.Core.roundRatio_congr (A' := (own_z x').natAbs) (B' := (own_z y').natAbs) (e' := 0) (by omega) (by omega) (by rw [h'])] at e1
  omega
/-- m * 2^k units is a double -/
theorem own_rep (m k : Nat) (hm : m < 2 ^ 53) (hk : k ≤ 2045) : ∃ V : UInt64, Fin64 V ∧ own_z V = ((m * 2 ^ k : Nat) : Int) := by
  have hq : FP.Core.b64.qmin = -1074 := FP.Core.qmin_b64
  have hq2 : FP.Core.b64.qmax = 971 := by decide
  obtain ⟨c, q, e1, e2⟩ := FP.Core.round_exact FP.Core.good_b64 false (c := m) (q := (k : Int) - 1074) hm (by rw [hq]; omega) (by rw [hq2]; omega)
  have hv : FP.Core.val64 (FP.Core.of64 (FP.Core.round FP.Core.b64 (.fin false m ((k : Int) - 1074)))) = .fin false c q := by
    rw [FP.Core.val64_of64 (FP.Core.round_fits FP.Core.good_b64 _), e1]
  refine ⟨_, Fl.fin64_core.mpr ⟨_, _, _, hv⟩, ?_⟩
  show FP.Core.zval FP.Core.b64 _ = _
  rw [hv]
  show ((FP.Core.inUnits c q FP.Core.b64.qmin : Nat) : Int) = _
  rw [e2, FP.Core.inUnits, hq, show ((k : Int) - 1074 - -1074).toNat = k by omega]
/-- a quotient that comes out even in some binary place -/
theorem own_div_exact {x y : UInt64} (hx : Fin64 x) (hy : Fin64 y) (hz : own_z y ≠ 0) (g1 : 0 ≤ own_z x) (g2 : 0 ≤ own_z y) (m k : Nat) (hm : m < 2 ^ 53) (hk : k ≤ 2045)
    (h : own_z x * (FP.Core.one64 : Int) = ((m * 2 ^ k : Nat) : Int) * own_z y) : own_z (FP.ddiv x y) = ((m * 2 ^ k : Nat) : Int) := by
  obtain ⟨V, fV, zV⟩ := own_rep m k hm hk
  have k1 := own_div_ge0 hx hy hz g1 g2
  have e1 := own_div_n hx hy hz
  have h3 : (own_z x).natAbs * FP.Core.one64 = (own_z V).natAbs * (own_z y).natAbs := by
    have := congrArg Int.natAbs h
    rw [Int.natAbs_mul, Int.natAbs_mul, ← zV] at this
    exact this
  have l1 := own_rr_le (s := false) (A := (own_z x).natAbs) (B := (own_z y).natAbs) (V := V) (by omega) fV.noNaN (Nat.le_of_eq h3)
  have l2 := own_rr_ge (s := false) (A := (own_z x).natAbs) (B := (own_z y).natAbs) (V := V) (by omega) (Nat.le_of_eq h3.symm)
  omega
theorem own_eqz {x y : UInt64} (o : CmpOp) (hx : NoNaN64 x) (hy : NoNaN64 y) (h : own_z x = own_z y) : cmpValue (FP.dcmp x y) o = 0 := by
  rw [own_cE o (own_cmpz hx hy), own_c_eq h]
theorem own_ge0 {x : UInt64} (h : 0 ≤ own_z x) : ¬ own_z x < own_z FP.dconst0 := by rw [own_zi own_d0, Int.zero_mul]; exact Int.not_lt.mpr h
theorem own_le1 {x : UInt64} (h : own_z x ≤ own_z FP.dconst1) : ¬ own_z FP.dconst1 < own_z x := Int.not_lt.mpr h
/-! arrays by the list of what they hold -/
def own_A (Z : State) (h : Heap) (a : Addr) (ty : FieldType) (vs : List Value) : Prop := ∃ c : Cell, Arr Z h a c ty ∧ c.slots.toList = vs
section OwnArr
variable {p : Program} {l : Launch} {e : Env} {R : Room} {s : State} {m : MethodId} {args : Array Value} {below : List Frame} {meth : Method} {c : Code} {T : State} {locs : List Loc} {cells slots : Nat} {Z : State} {h h' : Heap} {a b : Addr} {ty : FieldType} {vs : List Value} {sl : Nat} {v : Value} {ws : List Addr}
theorem own_A.lt (F : own_A Z h a ty vs) : a < h.size := by obtain ⟨c, A, -⟩ := F; exact A.lt
theorem own_A.ext (F : own_A Z h a ty vs) (E : Ext h h') : own_A Z h' a ty vs := by obtain ⟨c, A, r⟩ := F; exact ⟨c, A.ext E, r⟩
theorem own_A.other (F : own_A Z h b ty vs) (W : Wr h h' a sl v) (q : b ≠ a) : own_A Z h' b ty vs := by obtain ⟨c, A, r⟩ := F; exact ⟨c, A.other W q, r⟩
theorem own_A.keep (F : own_A Z h a ty vs) (K : Keep h h' ws) (q : a ∉ ws) : own_A Z h' a ty vs := by obtain ⟨c, A, r⟩ := F; exact ⟨c, ⟨K.2.1 a c A.1 q, A.2⟩, r⟩
theorem own_A.new {k : ClassId} {n : Int32} (A : Arr Z h a (newA k ty n) ty) : own_A Z h a ty (List.replicate n.toNatClampNeg (defaultValue ty)) := ⟨_, A, by simp [newA]⟩
theorem own_A.len (X : Stand p l e R s m args below meth c T locs cells slots) (hx : p.tables.exec = Jvm.exec) (hZ : Z.Warmed39 s.vm) (eT : T.heap = h) (F : own_A Z h a ty vs)
    {g : JFrame} (hg : g.method = m) {rest : List Value} (hs : g.stack = .ref a :: rest) (hd : decode c.code g.pc = .ok (.arraylength, 1)) (target : State)
    (hr : Steps p.tables e below (T.setTop { g with pc := g.pc + 1, stack := .int vs.length.toInt32 :: rest }) target) : Steps p.tables e below (T.setTop g) target := by
  obtain ⟨cl, A, rfl⟩ := F
  refine X.arraylength hx (cell := cl) (by rw [eT]; exact A.1) (State.isArrayOf_alike hZ.alike A.2.1) hg hs hd _ ?_
  rw [Array.length_toList] at hr; exact hr
theorem own_A.inb {cl : Cell} {j : Int32} (hj : ¬ j < 0) (hv : cl.slots.toList[j.toNatClampNeg]? = some v) : ¬ (j < 0 ∨ cl.slots.size ≤ j.toNatClampNeg) := by
  rintro (q | q)
  · exact hj q
  · rw [List.getElem?_eq_none (by rw [Array.length_toList]; exact q)] at hv; cases hv
theorem own_A.dld (X : Stand p l e R s m args below meth c T locs cells slots) (hx : p.tables.exec = Jvm.exec) (hZ : Z.Warmed39 s.vm) (eT : T.heap = h) (F : own_A Z h a .double vs) {j : Int32} (hj : ¬ j < 0) (hv : vs[j.toNatClampNeg]? = some v)
    {g : JFrame} (hg : g.method = m) {rest : List Value} (hs : g.stack = .int j :: .ref a :: rest) (hd : decode c.code g.pc = .ok (.daload, 1)) (target : State)
    (hr : Steps p.tables e below (T.setTop { g with pc := g.pc + 1, stack := v :: rest }) target) : Steps p.tables e below (T.setTop g) target := by
  obtain ⟨cl, A, rfl⟩ := F
  exact X.daload hx (by rw [eT]; exact A.1) (State.isArrayOf_alike hZ.alike A.2.1) A.2.2 (own_A.inb hj hv) (by rw [← Array.getElem?_toList]; exact hv) hg hs hd _ hr
theorem own_A.ild (X : Stand p l e R s m args below meth c T locs cells slots) (hx : p.tables.exec = Jvm.exec) (hZ : Z.Warmed39 s.vm) (eT : T.heap = h) (F : own_A Z h a .int vs) {j : Int32} (hj : ¬ j < 0) (hv : vs[j.toNatClampNeg]? = some v)
    {g : JFrame} (hg : g.method = m) {rest : List Value} (hs : g.stack = .int j :: .ref a :: rest) (hd : decode c.code g.pc = .ok (.iaload, 1)) (target : State)
    (hr : Steps p.tables e below (T.setTop { g with pc := g.pc + 1, stack := v :: rest }) target) : Steps p.tables e below (T.setTop g) target := by
  obtain ⟨cl, A, rfl⟩ := F
  exact X.iaload hx (by rw [eT]; exact A.1) (State.isArrayOf_alike hZ.alike A.2.1) A.2.2 (own_A.inb hj hv) (by rw [← Array.getElem?_toList]; exact hv) hg hs hd _ hr
theorem own_A.lld (X : Stand p l e R s m args below meth c T locs cells slots) (hx : p.tables.exec = Jvm.exec) (hZ : Z.Warmed39 s.vm) (eT : T.heap = h) (F : own_A Z h a .long vs) {j : Int32} (hj : ¬ j < 0) (hv : vs[j.toNatClampNeg]? = some v)
    {g : JFrame} (hg : g.method = m) {rest : List Value} (hs : g.stack = .int j :: .ref a :: rest) (hd : decode c.code g.pc = .ok (.laload, 1)) (target : State)
    (hr : Steps p.tables e below (T.setTop { g with pc := g.pc + 1, stack := v :: rest }) target) : Steps p.tables e below (T.setTop g) target := by
  obtain ⟨cl, A, rfl⟩ := F
  exact X.laload hx (by rw [eT]; exact A.1) (State.isArrayOf_alike hZ.alike A.2.1) A.2.2 (own_A.inb hj hv) (by rw [← Array.getElem?_toList]; exact hv) hg hs hd _ hr
theorem own_A.same {cl : Cell} (A : Arr Z h a cl ty) (W : Wr h h' a sl v) : own_A Z h' a ty (cl.slots.toList.set sl v) := ⟨_, A.same W, by simp [Cell.setSlot]⟩
theorem own_A.dst (X : Stand p l e R s m args below meth c T locs cells slots) (hx : p.tables.exec = Jvm.exec) (hZ : Z.Warmed39 s.vm) (eT : T.heap = h) (F : own_A Z h a .double vs) {j : Int32} {x : UInt64} (hj : ¬ j < 0) {o : Value} (hv : vs[j.toNatClampNeg]? = some o)
    {g : JFrame} (hg : g.method = m) {rest : List Value} (hs : g.stack = .double x :: .int j :: .ref a :: rest) (hd : decode c.code g.pc = .ok (.dastore, 1)) :
    ∃ T' h', Stand p l e R s m args below meth c T' (locs ++ [⟨a, j.toNatClampNeg⟩]) cells slots ∧ T'.heap = h' ∧ Wr h h' a j.toNatClampNeg (.double x) ∧ own_A Z h' a .double (vs.set j.toNatClampNeg (.double x)) ∧
      ∀ target, Steps p.tables e below (T'.setTop { g with pc := g.pc + 1, stack := rest }) target → Steps p.tables e below (T.setTop g) target := by
  obtain ⟨cl, A, rfl⟩ := F
  obtain ⟨T', h', X', e', W, st⟩ := stD X hx hZ eT A (own_A.inb hj hv) hg hs hd
  exact ⟨T', h', X', e', W, own_A.same A W, st⟩
theorem own_A.ist (X : Stand p l e R s m args below meth c T locs cells slots) (hx : p.tables.exec = Jvm.exec) (hZ : Z.Warmed39 s.vm) (eT : T.heap = h) (F : own_A Z h a .int vs) {j : Int32} {x : Int32} (hj : ¬ j < 0) {o : Value} (hv : vs[j.toNatClampNeg]? = some o)
    {g : JFrame} (hg : g.method = m) {rest : List Value} (hs : g.stack = .int x :: .int j :: .ref a :: rest) (hd : decode c.code g.pc = .ok (.iastore, 1)) :
    ∃ T' h', Stand p l e R s m args below meth c T' (locs ++ [⟨a, j.toNatClampNeg⟩]) cells slots ∧ T'.heap = h' ∧ Wr h h' a j.toNatClampNeg (.int x) ∧ own_A Z h' a .int (vs.set j.toNatClampNeg (.int x)) ∧
      ∀ target, Steps p.tables e below (T'.setTop { g with pc := g.pc + 1, stack := rest }) target → Steps p.tables e below (T.setTop g) target := by
  obtain ⟨cl, A, rfl⟩ := F
  obtain ⟨T', h', X', e', W, st⟩ := stI X hx hZ eT A (own_A.inb hj hv) hg hs hd
  exact ⟨T', h', X', e', W, own_A.same A W, st⟩
theorem own_A.lst (X : Stand p l e R s m args below meth c T locs cells slots) (hx : p.tables.exec = Jvm.exec) (hZ : Z.Warmed39 s.vm) (eT : T.heap = h) (F : own_A Z h a .long vs) {j : Int32} {x : Int64} (hj : ¬ j < 0) {o : Value} (hv : vs[j.toNatClampNeg]? = some o)
    {g : JFrame} (hg : g.method = m) {rest : List Value} (hs : g.stack = .long x :: .int j :: .ref a :: rest) (hd : decode c.code g.pc = .ok (.lastore, 1)) :
    ∃ T' h', Stand p l e R s m args below meth c T' (locs ++ [⟨a, j.toNatClampNeg⟩]) cells slots ∧ T'.heap = h' ∧ Wr h h' a j.toNatClampNeg (.long x) ∧ own_A Z h' a .long (vs.set j.toNatClampNeg (.long x)) ∧
      ∀ target, Steps p.tables e below (T'.setTop { g with pc := g.pc + 1, stack := rest }) target → Steps p.tables e below (T.setTop g) target := by
  obtain ⟨cl, A, rfl⟩ := F
  obtain ⟨T', h', X', e', W, st⟩ := stJ X hx hZ eT A (own_A.inb hj hv) hg hs hd
  exact ⟨T', h', X', e', W, own_A.same A W, st⟩
end OwnArr
def own_val (L : Int64) (k : Int32) : Int32 := if (((L >>> (k.toInt64 &&& 63)).toInt32).toInt16.toInt32) = 0 then 1 else (((L >>> (k.toInt64 &&& 63)).toInt32).toInt16.toInt32)
theorem own_valY {L : Int64} {k : Int32} (h : (((L >>> (k.toInt64 &&& 63)).toInt32).toInt16.toInt32) = 0) : (1 : Int32) = own_val L k := by rw [own_val, if_pos h]
theorem own_valN {L : Int64} {k : Int32} (h : ¬ (((L >>> (k.toInt64 &&& 63)).toInt32).toInt16.toInt32) = 0) : (((L >>> (k.toInt64 &&& 63)).toInt32).toInt16.toInt32) = own_val L k := by rw [own_val, if_neg h]
def own_ab (a : Int32) : Prop := -32768 ≤ a.toInt ∧ a.toInt ≤ 32767
theorem own_valb (L : Int64) (k : Int32) : own_ab (own_val L k) := by
  unfold own_val own_ab
  split
  · decide
  · have h1 := (((L >>> (k.toInt64 &&& 63)).toInt32).toInt16).le_toInt
    have h2 := (((L >>> (k.toInt64 &&& 63)).toInt32).toInt16).toInt_lt
    rw [Int16.toInt_toInt32]; omega
def own_pos (k q : Int32) : Int32 := if q = 0 then k else k + 1
theorem own_posY {k q : Int32} (h : q = 0) : k = own_pos k q := by rw [own_pos, if_pos h]
theorem own_posN {k q : Int32} (h : ¬ q = 0) : k + 1 = own_pos k q := by rw [own_pos, if_neg h]
def own_putL (L : List Value) (k q : Int32) (x : Value) : List Value := if q = 0 then L else L.set k.toNatClampNeg x
theorem own_putL_len {L : List Value} {k q : Int32} {x : Value} : (own_putL L k q x).length = L.length := by unfold own_putL; split <;> simp
theorem own_len6 (x : Value) : [x, x, x, x, x, x].length = 6 := rfl
def own_le (k : Int32) (n : Nat) : Prop := ¬ k < 0 ∧ k.toNatClampNeg ≤ n ∧ n ≤ 100
theorem own_pos_le {k : Int32} {n : Nat} (h : own_le k n) (q : Int32) (hn : n ≤ 99 := by decide) : own_le (own_pos k q) (n + 1) := by
  unfold own_pos
  split
  · exact ⟨h.1, Nat.le_succ_of_le h.2.1, by omega⟩
  · have h0 := h.1
    rw [Int32.lt_iff_toInt_lt] at h0
    have h0 : ¬ k.toInt < 0 := h0
    have e : k.toNatClampNeg = k.toInt.toNat := rfl
    have h1 := h.2.1; rw [e] at h1
    have h2 : (k + 1).toInt = k.toInt + 1 := Jvm.Kit.i32_add (q := 1) (by show _ ≤ _ + (1 : Int); omega) (by show _ + (1 : Int) < _; omega)
    refine ⟨?_, ?_, by omega⟩
    · rw [Int32.lt_iff_toInt_lt, h2]; show ¬ _ < (0 : Int); omega
    · show (k + 1).toInt.toNat ≤ _; rw [h2]; omega
theorem own_rg {k : Int32} {n : Nat} {L : List Value} (h : own_le k n) (hn : n < 6) (hl : L.length = 6) : k.toNatClampNeg < L.length := by have := h.2.1; omega
def own_tm (q u x : Int32) : Int64 := if q = 0 then 0 else u.toInt64 * x.toInt64
theorem own_tmY {q u x : Int32} (h : q = 0) : (0 : Int64) = own_tm q u x := by rw [own_tm, if_pos h]
theorem own_tmN {q u x : Int32} (h : ¬ q = 0) : u.toInt64 * x.toInt64 = own_tm q u x := by rw [own_tm, if_neg h]
def own_t (q u x : Int32) : Int := if q = 0 then 0 else u.toInt * x.toInt
theorem own_ux {u : Int32} (h : own_ab u) (x : Int32) : (u.toInt * x.toInt).natAbs ≤ 70368744177664 := by
  have a := x.toInt_lt; have b := x.le_toInt
  have h1 := h.1; have h2 := h.2
  rw [Int.natAbs_mul]
  exact Nat.mul_le_mul (show u.toInt.natAbs ≤ 32768 by omega) (show x.toInt.natAbs ≤ 2147483648 by omega)
theorem own_t_b {q u : Int32} (h : own_ab u) (x : Int32) : (own_t q u x).natAbs ≤ 70368744177664 := by
  unfold own_t; split
  · decide
  · exact own_ux h x
theorem own_tm_t {q u : Int32} (h : own_ab u) (x : Int32) : (own_tm q u x).toInt = own_t q u x := by
  unfold own_tm own_t; split
  · rfl
  · have b := own_ux h x
    have e5 : (2 : Nat) ^ 53 = 9007199254740992 := by decide
    rw [own_lm (by rw [Jvm.Kit.i64_of_i32, Jvm.Kit.i64_of_i32]; omega), Jvm.Kit.i64_of_i32, Jvm.Kit.i64_of_i32]
theorem own_tsum (q0 q1 q2 : Int32) {u0 u1 u2 : Int32} (h0 : own_ab u0) (h1 : own_ab u1) (h2 : own_ab u2) (x0 x1 x2 : Int32) :
    FP.Core.DInt (own_t q0 u0 x0 + own_t q1 u1 x1 + own_t q2 u2 x2) (FP.l2d ((own_tm q0 u0 x0 + own_tm q1 u1 x1) + own_tm q2 u2 x2)) := by
  have b0 := own_t_b (q := q0) h0 x0; have b1 := own_t_b (q := q1) h1 x1; have b2 := own_t_b (q := q2) h2 x2
  have t0 := own_tm_t (q := q0) h0 x0; have t1 := own_tm_t (q := q1) h1 x1; have t2 := own_tm_t (q := q2) h2 x2
  have e5 : (2 : Nat) ^ 53 = 9007199254740992 := by decide
  have s1 : (own_tm q0 u0 x0 + own_tm q1 u1 x1).toInt = own_t q0 u0 x0 + own_t q1 u1 x1 := by rw [Jvm.Kit.i64_add (by omega) (by omega), t0, t1]
  exact own_dl _ (by rw [Jvm.Kit.i64_add (by omega) (by omega), s1, t2]) (by omega)
/-- what lies at place e of the two lists: a column and a value; u is the value times the vector's there -/
def own_ent (LC LW vs : List Value) (e : Int32) (u : Int) : Prop := ∃ (ec : Int32) (ew ex : UInt64), ¬ e < 0 ∧ LC[e.toNatClampNeg]? = some (.int ec) ∧ LW[e.toNatClampNeg]? = some (.double ew) ∧ ¬ ec < 0 ∧ vs[ec.toNatClampNeg]? = some (.double ex) ∧ FP.Core.DInt u (FP.dmul ew ex) ∧ u.natAbs ≤ 140737488355328
/-- a row: the places from a to b (at most three) -/
def own_row (LC LW vs : List Value) (a b : Int32) (r : Int) : Prop :=
  (¬ a < b ∧ r = 0) ∨ (∃ u0, a < b ∧ ¬ a + 1 < b ∧ own_ent LC LW vs a u0 ∧ r = (0 + u0)) ∨ (∃ u0 u1, a < b ∧ a + 1 < b ∧ ¬ a + 1 + 1 < b ∧ own_ent LC LW vs a u0 ∧ own_ent LC LW vs (a + 1) u1 ∧ r = ((0 + u0) + u1)) ∨
  (∃ u0 u1 u2, a < b ∧ a + 1 < b ∧ a + 1 + 1 < b ∧ ¬ a + 1 + 1 + 1 < b ∧ own_ent LC LW vs a u0 ∧ own_ent LC LW vs (a + 1) u1 ∧ own_ent LC LW vs (a + 1 + 1) u2 ∧ r = (((0 + u0) + u1) + u2))
theorem own_B0 : (0 : Int).natAbs ≤ 0 := by decide
theorem own_acc {A u : Int} {n : Nat} (h1 : A.natAbs ≤ n) (h2 : u.natAbs ≤ 140737488355328) : (A + u).natAbs ≤ n + 140737488355328 := by omega
def own_f01 (f : Int32) : Prop := f = 0 ∨ f = 1
theorem own_dm {u : Int32} (h : own_ab u) (x : Int32) : FP.Core.DInt (u.toInt * x.toInt) (FP.dmul (FP.i2d u) (FP.i2d x)) := by
  have b := own_ux h x
  have e5 : (2 : Nat) ^ 53 = 9007199254740992 := by decide
  exact FP.Core.dmul_int (FP.Core.i2d_int u) (FP.Core.i2d_int x) (by omega)
theorem own_enti {LC LW vs : List Value} {e ec u x : Int32} (hu : own_ab u) (h0 : ¬ e < 0) (h1 : LC[e.toNatClampNeg]? = some (.int ec)) (h2 : LW[e.toNatClampNeg]? = some (.double (FP.i2d u))) (h3 : ¬ ec < 0) (h4 : vs[ec.toNatClampNeg]? = some (.double (FP.i2d x))) :
    own_ent LC LW vs e (u.toInt * x.toInt) := ⟨ec, _, _, h0, h1, h2, h3, h4, own_dm hu x, by have := own_ux hu x; omega⟩
theorem own_rc (p : Int32) {N : Int32} (h : N = ((XT.ushr p (6 : Int32)) &&& (3 : Int32)) % (3 : Int32)) : N = 0 ∨ N = 1 ∨ N = 2 := by
  have h1 := Jvm.Kit.i32_mask (XT.ushr p (6 : Int32)) 3 (k := 2) (by decide) (by decide)
  have h3 : N.toInt = ((XT.ushr p (6 : Int32)) &&& (3 : Int32)).toInt % 3 := by rw [h, Jvm.Kit.i32_rem_nonneg (by omega)]; rfl
  have h2 : N.toInt = 0 ∨ N.toInt = 1 ∨ N.toInt = 2 := by omega
  rcases h2 with q | q | q
  · exact Or.inl (Int32.toInt_inj.mp q)
  · exact Or.inr (Or.inl (Int32.toInt_inj.mp q))
  · exact Or.inr (Or.inr (Int32.toInt_inj.mp q))
theorem own_sum111 {u0 u1 u2 x0 x1 x2 : Int32} : own_t 1 u0 x0 + own_t 1 u1 x1 + own_t 1 u2 x2 = (((0 + u0.toInt * x0.toInt) + u1.toInt * x1.toInt) + u2.toInt * x2.toInt) := by simp [own_t]
theorem own_sum011 {u0 u1 u2 x0 x1 x2 : Int32} : own_t 0 u0 x0 + own_t 1 u1 x1 + own_t 1 u2 x2 = ((0 + u1.toInt * x1.toInt) + u2.toInt * x2.toInt) := by simp [own_t]
theorem own_sum101 {u0 u1 u2 x0 x1 x2 : Int32} : own_t 1 u0 x0 + own_t 0 u1 x1 + own_t 1 u2 x2 = ((0 + u0.toInt * x0.toInt) + u2.toInt * x2.toInt) := by simp [own_t]
theorem own_sum001 {u0 u1 u2 x0 x1 x2 : Int32} : own_t 0 u0 x0 + own_t 0 u1 x1 + own_t 1 u2 x2 = (0 + u2.toInt * x2.toInt) := by simp [own_t]
theorem own_sum110 {u0 u1 u2 x0 x1 x2 : Int32} : own_t 1 u0 x0 + own_t 1 u1 x1 + own_t 0 u2 x2 = ((0 + u0.toInt * x0.toInt) + u1.toInt * x1.toInt) := by simp [own_t]
theorem own_sum010 {u0 u1 u2 x0 x1 x2 : Int32} : own_t 0 u0 x0 + own_t 1 u1 x1 + own_t 0 u2 x2 = (0 + u1.toInt * x1.toInt) := by simp [own_t]
theorem own_sum100 {u0 u1 u2 x0 x1 x2 : Int32} : own_t 1 u0 x0 + own_t 0 u1 x1 + own_t 0 u2 x2 = (0 + u0.toInt * x0.toInt) := by simp [own_t]
theorem own_sum000 {u0 u1 u2 x0 x1 x2 : Int32} : own_t 0 u0 x0 + own_t 0 u1 x1 + own_t 0 u2 x2 = 0 := by simp [own_t]
set_option maxRecDepth 65536 in
set_option maxHeartbeats 40000000 in
theorem own_rows {f0 f1 f2 g0 g1 g2 : Int32} (hf0 : own_f01 f0) (hf1 : own_f01 f1) (hf2 : own_f01 f2) (hg0 : own_f01 g0) (hg1 : own_f01 g1) (hg2 : own_f01 g2) {a0 a1 a2 b0 b1 b2 : Int32} (ha0 : own_ab a0) (ha1 : own_ab a1) (ha2 : own_ab a2) (hb0 : own_ab b0) (hb1 : own_ab b1) (hb2 : own_ab b2) (x0 x1 x2 : Int32)
    {ps1 ps2 ps3 ps4 ps5 ps6 : Int32} (e1 : ps1 = own_pos (0 : Int32) f0) (e2 : ps2 = own_pos ps1 f1) (e3 : ps3 = own_pos ps2 f2) (e4 : ps4 = own_pos ps3 g0) (e5 : ps5 = own_pos ps4 g1) (e6 : ps6 = own_pos ps5 g2) {LC1 LW1 LC2 LW2 LC3 LW3 LC4 LW4 LC5 LW5 LC6 LW6 : List Value}
    (c1 : LC1 = own_putL [.int (0 : Int32), .int (0 : Int32), .int (0 : Int32), .int (0 : Int32), .int (0 : Int32), .int (0 : Int32)] (0 : Int32) f0 (.int (0 : Int32))) (d1 : LW1 = own_putL [.double (0 : UInt64), .double (0 : UInt64), .double (0 : UInt64), .double (0 : UInt64), .double (0 : UInt64), .double (0 : UInt64)] (0 : Int32) f0 (.double (FP.i2d a0)))
    (c2 : LC2 = own_putL LC1 ps1 f1 (.int (1 : Int32))) (d2 : LW2 = own_putL LW1 ps1 f1 (.double (FP.i2d a1))) (c3 : LC3 = own_putL LC2 ps2 f2 (.int (2 : Int32))) (d3 : LW3 = own_putL LW2 ps2 f2 (.double (FP.i2d a2)))
    (c4 : LC4 = own_putL LC3 ps3 g0 (.int (0 : Int32))) (d4 : LW4 = own_putL LW3 ps3 g0 (.double (FP.i2d b0))) (c5 : LC5 = own_putL LC4 ps4 g1 (.int (1 : Int32))) (d5 : LW5 = own_putL LW4 ps4 g1 (.double (FP.i2d b1))) (c6 : LC6 = own_putL LC5 ps5 g2 (.int (2 : Int32))) (d6 : LW6 = own_putL LW5 ps5 g2 (.double (FP.i2d b2))) :
    own_row LC6 LW6 [.double (FP.i2d x0), .double (FP.i2d x1), .double (FP.i2d x2)] (0 : Int32) ps3 (own_t f0 a0 x0 + own_t f1 a1 x1 + own_t f2 a2 x2) ∧ own_row LC6 LW6 [.double (FP.i2d x0), .double (FP.i2d x1), .double (FP.i2d x2)] ps3 ps6 (own_t g0 b0 x0 + own_t g1 b1 x1 + own_t g2 b2 x2) := by
  rcases hf0 with rfl | rfl
  · skip
    rcases hf1 with rfl | rfl
    · skip
      rcases hf2 with rfl | rfl
      · skip
        rcases hg0 with rfl | rfl
        · skip
          rcases hg1 with rfl | rfl
          · skip
            rcases hg2 with rfl | rfl
            · skip
              subst e1 e2 e3 e4 e5 e6 c1 d1 c2 d2 c3 d3 c4 d4 c5 d5 c6 d6
              exact ⟨Or.inl ⟨(by decide), own_sum000⟩, Or.inl ⟨(by decide), own_sum000⟩⟩
            · skip
              subst e1 e2 e3 e4 e5 e6 c1 d1 c2 d2 c3 d3 c4 d4 c5 d5 c6 d6
              exact ⟨Or.inl ⟨(by decide), own_sum000⟩, Or.inr (Or.inl ⟨(b2.toInt * x2.toInt), (by decide), (by decide), (own_enti hb2 (by decide) rfl rfl (by decide) rfl), own_sum001⟩)⟩
          · skip
            rcases hg2 with rfl | rfl
            · skip
              subst e1 e2 e3 e4 e5 e6 c1 d1 c2 d2 c3 d3 c4 d4 c5 d5 c6 d6
              exact ⟨Or.inl ⟨(by decide), own_sum000⟩, Or.inr (Or.inl ⟨(b1.toInt * x1.toInt), (by decide), (by decide), (own_enti hb1 (by decide) rfl rfl (by decide) rfl), own_sum010⟩)⟩
            · skip
              subst e1 e2 e3 e4 e5 e6 c1 d1 c2 d2 c3 d3 c4 d4 c5 d5 c6 d6
              exact ⟨Or.inl ⟨(by decide), own_sum000⟩, Or.inr (Or.inr (Or.inl ⟨(b1.toInt * x1.toInt), (b2.toInt * x2.toInt), (by decide), (by decide), (by decide), (own_enti hb1 (by decide) rfl rfl (by decide) rfl), (own_enti hb2 (by decide) rfl rfl (by decide) rfl), own_sum011⟩))⟩
        · skip
          rcases hg1 with rfl | rfl
          · skip
            rcases hg2 with rfl | rfl
            · skip
              subst e1 e2 e3 e4 e5 e6 c1 d1 c2 d2 c3 d3 c4 d4 c5 d5 c6 d6
              exact ⟨Or.inl ⟨(by decide), own_sum000⟩, Or.inr (Or.inl ⟨(b0.toInt * x0.toInt), (by decide), (by decide), (own_enti hb0 (by decide) rfl rfl (by decide) rfl), own_sum100⟩)⟩
            · skip
              subst e1 e2 e3 e4 e5 e6 c1 d1 c2 d2 c3 d3 c4 d4 c5 d5 c6 d6
              exact ⟨Or.inl ⟨(by decide), own_sum000⟩, Or.inr (Or.inr (Or.inl ⟨(b0.toInt * x0.toInt), (b2.toInt * x2.toInt), (by decide), (by decide), (by decide), (own_enti hb0 (by decide) rfl rfl (by decide) rfl), (own_enti hb2 (by decide) rfl rfl (by decide) rfl), own_sum101⟩))⟩
          · skip
            rcases hg2 with rfl | rfl
            · skip
              subst e1 e2 e3 e4 e5 e6 c1 d1 c2 d2 c3 d3 c4 d4 c5 d5 c6 d6
              exact ⟨Or.inl ⟨(by decide), own_sum000⟩, Or.inr (Or.inr (Or.inl ⟨(b0.toInt * x0.toInt), (b1.toInt * x1.toInt), (by decide), (by decide), (by decide), (own_enti hb0 (by decide) rfl rfl (by decide) rfl), (own_enti hb1 (by decide) rfl rfl (by decide) rfl), own_sum110⟩))⟩
            · skip
              subst e1 e2 e3 e4 e5 e6 c1 d1 c2 d2 c3 d3 c4 d4 c5 d5 c6 d6
              exact ⟨Or.inl ⟨(by decide), own_sum000⟩, Or.inr (Or.inr (Or.inr (⟨(b0.toInt * x0.toInt), (b1.toInt * x1.toInt), (b2.toInt * x2.toInt), (by decide), (by decide), (by decide), (by decide), (own_enti hb0 (by decide) rfl rfl (by decide) rfl), (own_enti hb1 (by decide) rfl rfl (by decide) rfl), (own_enti hb2 (by decide) rfl rfl (by decide) rfl), own_sum111⟩)))⟩
      · skip
        rcases hg0 with rfl | rfl
        · skip
          rcases hg1 with rfl | rfl
          · skip
            rcases hg2 with rfl | rfl
            · skip
              subst e1 e2 e3 e4 e5 e6 c1 d1 c2 d2 c3 d3 c4 d4 c5 d5 c6 d6
              exact ⟨Or.inr (Or.inl ⟨(a2.toInt * x2.toInt), (by decide), (by decide), (own_enti ha2 (by decide) rfl rfl (by decide) rfl), own_sum001⟩), Or.inl ⟨(by decide), own_sum000⟩⟩
            · skip
              subst e1 e2 e3 e4 e5 e6 c1 d1 c2 d2 c3 d3 c4 d4 c5 d5 c6 d6
              exact ⟨Or.inr (Or.inl ⟨(a2.toInt * x2.toInt), (by decide), (by decide), (own_enti ha2 (by decide) rfl rfl (by decide) rfl), own_sum001⟩), Or.inr (Or.inl ⟨(b2.toInt * x2.toInt), (by decide), (by decide), (own_enti hb2 (by decide) rfl rfl (by decide) rfl), own_sum001⟩)⟩
          · skip
            rcases hg2 with rfl | rfl
            · skip
              subst e1 e2 e3 e4 e5 e6 c1 d1 c2 d2 c3 d3 c4 d4 c5 d5 c6 d6
              exact ⟨Or.inr (Or.inl ⟨(a2.toInt * x2.toInt), (by decide), (by decide), (own_enti ha2 (by decide) rfl rfl (by decide) rfl), own_sum001⟩), Or.inr (Or.inl ⟨(b1.toInt * x1.toInt), (by decide), (by decide), (own_enti hb1 (by decide) rfl rfl (by decide) rfl), own_sum010⟩)⟩
            · skip
              subst e1 e2 e3 e4 e5 e6 c1 d1 c2 d2 c3 d3 c4 d4 c5 d5 c6 d6
              exact ⟨Or.inr (Or.inl ⟨(a2.toInt * x2.toInt), (by decide), (by decide), (own_enti ha2 (by decide) rfl rfl (by decide) rfl), own_sum001⟩), Or.inr (Or.inr (Or.inl ⟨(b1.toInt * x1.toInt), (b2.toInt * x2.toInt), (by decide), (by decide), (by decide), (own_enti hb1 (by decide) rfl rfl (by decide) rfl), (own_enti hb2 (by decide) rfl rfl (by decide) rfl), own_sum011⟩))⟩
        · skip
          rcases hg1 with rfl | rfl
          · skip
            rcases hg2 with rfl | rfl
            · skip
              subst e1 e2 e3 e4 e5 e6 c1 d1 c2 d2 c3 d3 c4 d4 c5 d5 c6 d6
              exact ⟨Or.inr (Or.inl ⟨(a2.toInt * x2.toInt), (by decide), (by decide), (own_enti ha2 (by decide) rfl rfl (by decide) rfl), own_sum001⟩), Or.inr (Or.inl ⟨(b0.toInt * x0.toInt), (by decide), (by decide), (own_enti hb0 (by decide) rfl rfl (by decide) rfl), own_sum100⟩)⟩
            · skip
              subst e1 e2 e3 e4 e5 e6 c1 d1 c2 d2 c3 d3 c4 d4 c5 d5 c6 d6
              exact ⟨Or.inr (Or.inl ⟨(a2.toInt * x2.toInt), (by decide), (by decide), (own_enti ha2 (by decide) rfl rfl (by decide) rfl), own_sum001⟩), Or.inr (Or.inr (Or.inl ⟨(b0.toInt * x0.toInt), (b2.toInt * x2.toInt), (by decide), (by decide), (by decide), (own_enti hb0 (by decide) rfl rfl (by decide) rfl), (own_enti hb2 (by decide) rfl rfl (by decide) rfl), own_sum101⟩))⟩
          · skip
            rcases hg2 with rfl | rfl
            · skip
              subst e1 e2 e3 e4 e5 e6 c1 d1 c2 d2 c3 d3 c4 d4 c5 d5 c6 d6
              exact ⟨Or.inr (Or.inl ⟨(a2.toInt * x2.toInt), (by decide), (by decide), (own_enti ha2 (by decide) rfl rfl (by decide) rfl), own_sum001⟩), Or.inr (Or.inr (Or.inl ⟨(b0.toInt * x0.toInt), (b1.toInt * x1.toInt), (by decide), (by decide), (by decide), (own_enti hb0 (by decide) rfl rfl (by decide) rfl), (own_enti hb1 (by decide) rfl rfl (by decide) rfl), own_sum110⟩))⟩
            · skip
              subst e1 e2 e3 e4 e5 e6 c1 d1 c2 d2 c3 d3 c4 d4 c5 d5 c6 d6
              exact ⟨Or.inr (Or.inl ⟨(a2.toInt * x2.toInt), (by decide), (by decide), (own_enti ha2 (by decide) rfl rfl (by decide) rfl), own_sum001⟩), Or.inr (Or.inr (Or.inr (⟨(b0.toInt * x0.toInt), (b1.toInt * x1.toInt), (b2.toInt * x2.toInt), (by decide), (by decide), (by decide), (by decide), (own_enti hb0 (by decide) rfl rfl (by decide) rfl), (own_enti hb1 (by decide) rfl rfl (by decide) rfl), (own_enti hb2 (by decide) rfl rfl (by decide) rfl), own_sum111⟩)))⟩
    · skip
      rcases hf2 with rfl | rfl
      · skip
        rcases hg0 with rfl | rfl
        · skip
          rcases hg1 with rfl | rfl
          · skip
            rcases hg2 with rfl | rfl
            · skip
              subst e1 e2 e3 e4 e5 e6 c1 d1 c2 d2 c3 d3 c4 d4 c5 d5 c6 d6
              exact ⟨Or.inr (Or.inl ⟨(a1.toInt * x1.toInt), (by decide), (by decide), (own_enti ha1 (by decide) rfl rfl (by decide) rfl), own_sum010⟩), Or.inl ⟨(by decide), own_sum000⟩⟩
            · skip
              subst e1 e2 e3 e4 e5 e6 c1 d1 c2 d2 c3 d3 c4 d4 c5 d5 c6 d6
              exact ⟨Or.inr (Or.inl ⟨(a1.toInt * x1.toInt), (by decide), (by decide), (own_enti ha1 (by decide) rfl rfl (by decide) rfl), own_sum010⟩), Or.inr (Or.inl ⟨(b2.toInt * x2.toInt), (by decide), (by decide), (own_enti hb2 (by decide) rfl rfl (by decide) rfl), own_sum001⟩)⟩
          · skip
            rcases hg2 with rfl | rfl
            · skip
              subst e1 e2 e3 e4 e5 e6 c1 d1 c2 d2 c3 d3 c4 d4 c5 d5 c6 d6
              exact ⟨Or.inr (Or.inl ⟨(a1.toInt * x1.toInt), (by decide), (by decide), (own_enti ha1 (by decide) rfl rfl (by decide) rfl), own_sum010⟩), Or.inr (Or.inl ⟨(b1.toInt * x1.toInt), (by decide), (by decide), (own_enti hb1 (by decide) rfl rfl (by decide) rfl), own_sum010⟩)⟩
            · skip
              subst e1 e2 e3 e4 e5 e6 c1 d1 c2 d2 c3 d3 c4 d4 c5 d5 c6 d6
              exact ⟨Or.inr (Or.inl ⟨(a1.toInt * x1.toInt), (by decide), (by decide), (own_enti ha1 (by decide) rfl rfl (by decide) rfl), own_sum010⟩), Or.inr (Or.inr (Or.inl ⟨(b1.toInt * x1.toInt), (b2.toInt * x2.toInt), (by decide), (by decide), (by decide), (own_enti hb1 (by decide) rfl rfl (by decide) rfl), (own_enti hb2 (by decide) rfl rfl (by decide) rfl), own_sum011⟩))⟩
        · skip
          rcases hg1 with rfl | rfl
          · skip
            rcases hg2 with rfl | rfl
            · skip
              subst e1 e2 e3 e4 e5 e6 c1 d1 c2 d2 c3 d3 c4 d4 c5 d5 c6 d6
              exact ⟨Or.inr (Or.inl ⟨(a1.toInt * x1.toInt), (by decide), (by decide), (own_enti ha1 (by decide) rfl rfl (by decide) rfl), own_sum010⟩), Or.inr (Or.inl ⟨(b0.toInt * x0.toInt), (by decide), (by decide), (own_enti hb0 (by decide) rfl rfl (by decide) rfl), own_sum100⟩)⟩
            · skip
              subst e1 e2 e3 e4 e5 e6 c1 d1 c2 d2 c3 d3 c4 d4 c5 d5 c6 d6
              exact ⟨Or.inr (Or.inl ⟨(a1.toInt * x1.toInt), (by decide), (by decide), (own_enti ha1 (by decide) rfl rfl (by decide) rfl), own_sum010⟩), Or.inr (Or.inr (Or.inl ⟨(b0.toInt * x0.toInt), (b2.toInt * x2.toInt), (by decide), (by decide), (by decide), (own_enti hb0 (by decide) rfl rfl (by decide) rfl), (own_enti hb2 (by decide) rfl rfl (by decide) rfl), own_sum101⟩))⟩
          · skip
            rcases hg2 with rfl | rfl
            · skip
              subst e1 e2 e3 e4 e5 e6 c1 d1 c2 d2 c3 d3 c4 d4 c5 d5 c6 d6
              exact ⟨Or.inr (Or.inl ⟨(a1.toInt * x1.toInt), (by decide), (by decide), (own_enti ha1 (by decide) rfl rfl (by decide) rfl), own_sum010⟩), Or.inr (Or.inr (Or.inl ⟨(b0.toInt * x0.toInt), (b1.toInt * x1.toInt), (by decide), (by decide), (by decide), (own_enti hb0 (by decide) rfl rfl (by decide) rfl), (own_enti hb1 (by decide) rfl rfl (by decide) rfl), own_sum110⟩))⟩
            · skip
              subst e1 e2 e3 e4 e5 e6 c1 d1 c2 d2 c3 d3 c4 d4 c5 d5 c6 d6
              exact ⟨Or.inr (Or.inl ⟨(a1.toInt * x1.toInt), (by decide), (by decide), (own_enti ha1 (by decide) rfl rfl (by decide) rfl), own_sum010⟩), Or.inr (Or.inr (Or.inr (⟨(b0.toInt * x0.toInt), (b1.toInt * x1.toInt), (b2.toInt * x2.toInt), (by decide), (by decide), (by decide), (by decide), (own_enti hb0 (by decide) rfl rfl (by decide) rfl), (own_enti hb1 (by decide) rfl rfl (by decide) rfl), (own_enti hb2 (by decide) rfl rfl (by decide) rfl), own_sum111⟩)))⟩
      · skip
        rcases hg0 with rfl | rfl
        · skip
          rcases hg1 with rfl | rfl
          · skip
            rcases hg2 with rfl | rfl
            · skip
              subst e1 e2 e3 e4 e5 e6 c1 d1 c2 d2 c3 d3 c4 d4 c5 d5 c6 d6
              exact ⟨Or.inr (Or.inr (Or.inl ⟨(a1.toInt * x1.toInt), (a2.toInt * x2.toInt), (by decide), (by decide), (by decide), (own_enti ha1 (by decide) rfl rfl (by decide) rfl), (own_enti ha2 (by decide) rfl rfl (by decide) rfl), own_sum011⟩)), Or.inl ⟨(by decide), own_sum000⟩⟩
            · skip
              subst e1 e2 e3 e4 e5 e6 c1 d1 c2 d2 c3 d3 c4 d4 c5 d5 c6 d6
              exact ⟨Or.inr (Or.inr (Or.inl ⟨(a1.toInt * x1.toInt), (a2.toInt * x2.toInt), (by decide), (by decide), (by decide), (own_enti ha1 (by decide) rfl rfl (by decide) rfl), (own_enti ha2 (by decide) rfl rfl (by decide) rfl), own_sum011⟩)), Or.inr (Or.inl ⟨(b2.toInt * x2.toInt), (by decide), (by decide), (own_enti hb2 (by decide) rfl rfl (by decide) rfl), own_sum001⟩)⟩
          · skip
            rcases hg2 with rfl | rfl
            · skip
              subst e1 e2 e3 e4 e5 e6 c1 d1 c2 d2 c3 d3 c4 d4 c5 d5 c6 d6
              exact ⟨Or.inr (Or.inr (Or.inl ⟨(a1.toInt * x1.toInt), (a2.toInt * x2.toInt), (by decide), (by decide), (by decide), (own_enti ha1 (by decide) rfl rfl (by decide) rfl), (own_enti ha2 (by decide) rfl rfl (by decide) rfl), own_sum011⟩)), Or.inr (Or.inl ⟨(b1.toInt * x1.toInt), (by decide), (by decide), (own_enti hb1 (by decide) rfl rfl (by decide) rfl), own_sum010⟩)⟩
            · skip
              subst e1 e2 e3 e4 e5 e6 c1 d1 c2 d2 c3 d3 c4 d4 c5 d5 c6 d6
              exact ⟨Or.inr (Or.inr (Or.inl ⟨(a1.toInt * x1.toInt), (a2.toInt * x2.toInt), (by decide), (by decide), (by decide), (own_enti ha1 (by decide) rfl rfl (by decide) rfl), (own_enti ha2 (by decide) rfl rfl (by decide) rfl), own_sum011⟩)), Or.inr (Or.inr (Or.inl ⟨(b1.toInt * x1.toInt), (b2.toInt * x2.toInt), (by decide), (by decide), (by decide), (own_enti hb1 (by decide) rfl rfl (by decide) rfl), (own_enti hb2 (by decide) rfl rfl (by decide) rfl), own_sum011⟩))⟩
        · skip
          rcases hg1 with rfl | rfl
          · skip
            rcases hg2 with rfl | rfl
            · skip
              subst e1 e2 e3 e4 e5 e6 c1 d1 c2 d2 c3 d3 c4 d4 c5 d5 c6 d6
              exact ⟨Or.inr (Or.inr (Or.inl ⟨(a1.toInt * x1.toInt), (a2.toInt * x2.toInt), (by decide), (by decide), (by decide), (own_enti ha1 (by decide) rfl rfl (by decide) rfl), (own_enti ha2 (by decide) rfl rfl (by decide) rfl), own_sum011⟩)), Or.inr (Or.inl ⟨(b0.toInt * x0.toInt), (by decide), (by decide), (own_enti hb0 (by decide) rfl rfl (by decide) rfl), own_sum100⟩)⟩
            · skip
              subst e1 e2 e3 e4 e5 e6 c1 d1 c2 d2 c3 d3 c4 d4 c5 d5 c6 d6
              exact ⟨Or.inr (Or.inr (Or.inl ⟨(a1.toInt * x1.toInt), (a2.toInt * x2.toInt), (by decide), (by decide), (by decide), (own_enti ha1 (by decide) rfl rfl (by decide) rfl), (own_enti ha2 (by decide) rfl rfl (by decide) rfl), own_sum011⟩)), Or.inr (Or.inr (Or.inl ⟨(b0.toInt * x0.toInt), (b2.toInt * x2.toInt), (by decide), (by decide), (by decide), (own_enti hb0 (by decide) rfl rfl (by decide) rfl), (own_enti hb2 (by decide) rfl rfl (by decide) rfl), own_sum101⟩))⟩
          · skip
            rcases hg2 with rfl | rfl
            · skip
              subst e1 e2 e3 e4 e5 e6 c1 d1 c2 d2 c3 d3 c4 d4 c5 d5 c6 d6
              exact ⟨Or.inr (Or.inr (Or.inl ⟨(a1.toInt * x1.toInt), (a2.toInt * x2.toInt), (by decide), (by decide), (by decide), (own_enti ha1 (by decide) rfl rfl (by decide) rfl), (own_enti ha2 (by decide) rfl rfl (by decide) rfl), own_sum011⟩)), Or.inr (Or.inr (Or.inl ⟨(b0.toInt * x0.toInt), (b1.toInt * x1.toInt), (by decide), (by decide), (by decide), (own_enti hb0 (by decide) rfl rfl (by decide) rfl), (own_enti hb1 (by decide) rfl rfl (by decide) rfl), own_sum110⟩))⟩
            · skip
              subst e1 e2 e3 e4 e5 e6 c1 d1 c2 d2 c3 d3 c4 d4 c5 d5 c6 d6
              exact ⟨Or.inr (Or.inr (Or.inl ⟨(a1.toInt * x1.toInt), (a2.toInt * x2.toInt), (by decide), (by decide), (by decide), (own_enti ha1 (by decide) rfl rfl (by decide) rfl), (own_enti ha2 (by decide) rfl rfl (by decide) rfl), own_sum011⟩)), Or.inr (Or.inr (Or.inr (⟨(b0.toInt * x0.toInt), (b1.toInt * x1.toInt), (b2.toInt * x2.toInt), (by decide), (by decide), (by decide), (by decide), (own_enti hb0 (by decide) rfl rfl (by decide) rfl), (own_enti hb1 (by decide) rfl rfl (by decide) rfl), (own_enti hb2 (by decide) rfl rfl (by decide) rfl), own_sum111⟩)))⟩
  · skip
    rcases hf1 with rfl | rfl
    · skip
      rcases hf2 with rfl | rfl
      · skip
        rcases hg0 with rfl | rfl
        · skip
          rcases hg1 with rfl | rfl
          · skip
            rcases hg2 with rfl | rfl
            · skip
              subst e1 e2 e3 e4 e5 e6 c1 d1 c2 d2 c3 d3 c4 d4 c5 d5 c6 d6
              exact ⟨Or.inr (Or.inl ⟨(a0.toInt * x0.toInt), (by decide), (by decide), (own_enti ha0 (by decide) rfl rfl (by decide) rfl), own_sum100⟩), Or.inl ⟨(by decide), own_sum000⟩⟩
            · skip
              subst e1 e2 e3 e4 e5 e6 c1 d1 c2 d2 c3 d3 c4 d4 c5 d5 c6 d6
              exact ⟨Or.inr (Or.inl ⟨(a0.toInt * x0.toInt), (by decide), (by decide), (own_enti ha0 (by decide) rfl rfl (by decide) rfl), own_sum100⟩), Or.inr (Or.inl ⟨(b2.toInt * x2.toInt), (by decide), (by decide), (own_enti hb2 (by decide) rfl rfl (by decide) rfl), own_sum001⟩)⟩
          · skip
            rcases hg2 with rfl | rfl
            · skip
              subst e1 e2 e3 e4 e5 e6 c1 d1 c2 d2 c3 d3 c4 d4 c5 d5 c6 d6
              exact ⟨Or.inr (Or.inl ⟨(a0.toInt * x0.toInt), (by decide), (by decide), (own_enti ha0 (by decide) rfl rfl (by decide) rfl), own_sum100⟩), Or.inr (Or.inl ⟨(b1.toInt * x1.toInt), (by decide), (by decide), (own_enti hb1 (by decide) rfl rfl (by decide) rfl), own_sum010⟩)⟩
            · skip
              subst e1 e2 e3 e4 e5 e6 c1 d1 c2 d2 c3 d3 c4 d4 c5 d5 c6 d6
              exact ⟨Or.inr (Or.inl ⟨(a0.toInt * x0.toInt), (by decide), (by decide), (own_enti ha0 (by decide) rfl rfl (by decide) rfl), own_sum100⟩), Or.inr (Or.inr (Or.inl ⟨(b1.toInt * x1.toInt), (b2.toInt * x2.toInt), (by decide), (by decide), (by decide), (own_enti hb1 (by decide) rfl rfl (by decide) rfl), (own_enti hb2 (by decide) rfl rfl (by decide) rfl), own_sum011⟩))⟩
        · skip
          rcases hg1 with rfl | rfl
          · skip
            rcases hg2 with rfl | rfl
            · skip
              subst e1 e2 e3 e4 e5 e6 c1 d1 c2 d2 c3 d3 c4 d4 c5 d5 c6 d6
              exact ⟨Or.inr (Or.inl ⟨(a0.toInt * x0.toInt), (by decide), (by decide), (own_enti ha0 (by decide) rfl rfl (by decide) rfl), own_sum100⟩), Or.inr (Or.inl ⟨(b0.toInt * x0.toInt), (by decide), (by decide), (own_enti hb0 (by decide) rfl rfl (by decide) rfl), own_sum100⟩)⟩
            · skip
              subst e1 e2 e3 e4 e5 e6 c1 d1 c2 d2 c3 d3 c4 d4 c5 d5 c6 d6
              exact ⟨Or.inr (Or.inl ⟨(a0.toInt * x0.toInt), (by decide), (by decide), (own_enti ha0 (by decide) rfl rfl (by decide) rfl), own_sum100⟩), Or.inr (Or.inr (Or.inl ⟨(b0.toInt * x0.toInt), (b2.toInt * x2.toInt), (by decide), (by decide), (by decide), (own_enti hb0 (by decide) rfl rfl (by decide) rfl), (own_enti hb2 (by decide) rfl rfl (by decide) rfl), own_sum101⟩))⟩
          · skip
            rcases hg2 with rfl | rfl
            · skip
              subst e1 e2 e3 e4 e5 e6 c1 d1 c2 d2 c3 d3 c4 d4 c5 d5 c6 d6
              exact ⟨Or.inr (Or.inl ⟨(a0.toInt * x0.toInt), (by decide), (by decide), (own_enti ha0 (by decide) rfl rfl (by decide) rfl), own_sum100⟩), Or.inr (Or.inr (Or.inl ⟨(b0.toInt * x0.toInt), (b1.toInt * x1.toInt), (by decide), (by decide), (by decide), (own_enti hb0 (by decide) rfl rfl (by decide) rfl), (own_enti hb1 (by decide) rfl rfl (by decide) rfl), own_sum110⟩))⟩
            · skip
              subst e1 e2 e3 e4 e5 e6 c1 d1 c2 d2 c3 d3 c4 d4 c5 d5 c6 d6
              exact ⟨Or.inr (Or.inl ⟨(a0.toInt * x0.toInt), (by decide), (by decide), (own_enti ha0 (by decide) rfl rfl (by decide) rfl), own_sum100⟩), Or.inr (Or.inr (Or.inr (⟨(b0.toInt * x0.toInt), (b1.toInt * x1.toInt), (b2.toInt * x2.toInt), (by decide), (by decide), (by decide), (by decide), (own_enti hb0 (by decide) rfl rfl (by decide) rfl), (own_enti hb1 (by decide) rfl rfl (by decide) rfl), (own_enti hb2 (by decide) rfl rfl (by decide) rfl), own_sum111⟩)))⟩
      · skip
        rcases hg0 with rfl | rfl
        · skip
          rcases hg1 with rfl | rfl
          · skip
            rcases hg2 with rfl | rfl
            · skip
              subst e1 e2 e3 e4 e5 e6 c1 d1 c2 d2 c3 d3 c4 d4 c5 d5 c6 d6
              exact ⟨Or.inr (Or.inr (Or.inl ⟨(a0.toInt * x0.toInt), (a2.toInt * x2.toInt), (by decide), (by decide), (by decide), (own_enti ha0 (by decide) rfl rfl (by decide) rfl), (own_enti ha2 (by decide) rfl rfl (by decide) rfl), own_sum101⟩)), Or.inl ⟨(by decide), own_sum000⟩⟩
            · skip
              subst e1 e2 e3 e4 e5 e6 c1 d1 c2 d2 c3 d3 c4 d4 c5 d5 c6 d6
              exact ⟨Or.inr (Or.inr (Or.inl ⟨(a0.toInt * x0.toInt), (a2.toInt * x2.toInt), (by decide), (by decide), (by decide), (own_enti ha0 (by decide) rfl rfl (by decide) rfl), (own_enti ha2 (by decide) rfl rfl (by decide) rfl), own_sum101⟩)), Or.inr (Or.inl ⟨(b2.toInt * x2.toInt), (by decide), (by decide), (own_enti hb2 (by decide) rfl rfl (by decide) rfl), own_sum001⟩)⟩
          · skip
            rcases hg2 with rfl | rfl
            · skip
              subst e1 e2 e3 e4 e5 e6 c1 d1 c2 d2 c3 d3 c4 d4 c5 d5 c6 d6
              exact ⟨Or.inr (Or.inr (Or.inl ⟨(a0.toInt * x0.toInt), (a2.toInt * x2.toInt), (by decide), (by decide), (by decide), (own_enti ha0 (by decide) rfl rfl (by decide) rfl), (own_enti ha2 (by decide) rfl rfl (by decide) rfl), own_sum101⟩)), Or.inr (Or.inl ⟨(b1.toInt * x1.toInt), (by decide), (by decide), (own_enti hb1 (by decide) rfl rfl (by decide) rfl), own_sum010⟩)⟩
            · skip
              subst e1 e2 e3 e4 e5 e6 c1 d1 c2 d2 c3 d3 c4 d4 c5 d5 c6 d6
              exact ⟨Or.inr (Or.inr (Or.inl ⟨(a0.toInt * x0.toInt), (a2.toInt * x2.toInt), (by decide), (by decide), (by decide), (own_enti ha0 (by decide) rfl rfl (by decide) rfl), (own_enti ha2 (by decide) rfl rfl (by decide) rfl), own_sum101⟩)), Or.inr (Or.inr (Or.inl ⟨(b1.toInt * x1.toInt), (b2.toInt * x2.toInt), (by decide), (by decide), (by decide), (own_enti hb1 (by decide) rfl rfl (by decide) rfl), (own_enti hb2 (by decide) rfl rfl (by decide) rfl), own_sum011⟩))⟩
        · skip
          rcases hg1 with rfl | rfl
          · skip
            rcases hg2 with rfl | rfl
            · skip
              subst e1 e2 e3 e4 e5 e6 c1 d1 c2 d2 c3 d3 c4 d4 c5 d5 c6 d6
              exact ⟨Or.inr (Or.inr (Or.inl ⟨(a0.toInt * x0.toInt), (a2.toInt * x2.toInt), (by decide), (by decide), (by decide), (own_enti ha0 (by decide) rfl rfl (by decide) rfl), (own_enti ha2 (by decide) rfl rfl (by decide) rfl), own_sum101⟩)), Or.inr (Or.inl ⟨(b0.toInt * x0.toInt), (by decide), (by decide), (own_enti hb0 (by decide) rfl rfl (by decide) rfl), own_sum100⟩)⟩
            · skip
              subst e1 e2 e3 e4 e5 e6 c1 d1 c2 d2 c3 d3 c4 d4 c5 d5 c6 d6
              exact ⟨Or.inr (Or.inr (Or.inl ⟨(a0.toInt * x0.toInt), (a2.toInt * x2.toInt), (by decide), (by decide), (by decide), (own_enti ha0 (by decide) rfl rfl (by decide) rfl), (own_enti ha2 (by decide) rfl rfl (by decide) rfl), own_sum101⟩)), Or.inr (Or.inr (Or.inl ⟨(b0.toInt * x0.toInt), (b2.toInt * x2.toInt), (by decide), (by decide), (by decide), (own_enti hb0 (by decide) rfl rfl (by decide) rfl), (own_enti hb2 (by decide) rfl rfl (by decide) rfl), own_sum101⟩))⟩
          · skip
            rcases hg2 with rfl | rfl
            · skip
              subst e1 e2 e3 e4 e5 e6 c1 d1 c2 d2 c3 d3 c4 d4 c5 d5 c6 d6
              exact ⟨Or.inr (Or.inr (Or.inl ⟨(a0.toInt * x0.toInt), (a2.toInt * x2.toInt), (by decide), (by decide), (by decide), (own_enti ha0 (by decide) rfl rfl (by decide) rfl), (own_enti ha2 (by decide) rfl rfl (by decide) rfl), own_sum101⟩)), Or.inr (Or.inr (Or.inl ⟨(b0.toInt * x0.toInt), (b1.toInt * x1.toInt), (by decide), (by decide), (by decide), (own_enti hb0 (by decide) rfl rfl (by decide) rfl), (own_enti hb1 (by decide) rfl rfl (by decide) rfl), own_sum110⟩))⟩
            · skip
              subst e1 e2 e3 e4 e5 e6 c1 d1 c2 d2 c3 d3 c4 d4 c5 d5 c6 d6
              exact ⟨Or.inr (Or.inr (Or.inl ⟨(a0.toInt * x0.toInt), (a2.toInt * x2.toInt), (by decide), (by decide), (by decide), (own_enti ha0 (by decide) rfl rfl (by decide) rfl), (own_enti ha2 (by decide) rfl rfl (by decide) rfl), own_sum101⟩)), Or.inr (Or.inr (Or.inr (⟨(b0.toInt * x0.toInt), (b1.toInt * x1.toInt), (b2.toInt * x2.toInt), (by decide), (by decide), (by decide), (by decide), (own_enti hb0 (by decide) rfl rfl (by decide) rfl), (own_enti hb1 (by decide) rfl rfl (by decide) rfl), (own_enti hb2 (by decide) rfl rfl (by decide) rfl), own_sum111⟩)))⟩
    · skip
      rcases hf2 with rfl | rfl
      · skip
        rcases hg0 with rfl | rfl
        · skip
          rcases hg1 with rfl | rfl
          · skip
            rcases hg2 with rfl | rfl
            · skip
              subst e1 e2 e3 e4 e5 e6 c1 d1 c2 d2 c3 d3 c4 d4 c5 d5 c6 d6
              exact ⟨Or.inr (Or.inr (Or.inl ⟨(a0.toInt * x0.toInt), (a1.toInt * x1.toInt), (by decide), (by decide), (by decide), (own_enti ha0 (by decide) rfl rfl (by decide) rfl), (own_enti ha1 (by decide) rfl rfl (by decide) rfl), own_sum110⟩)), Or.inl ⟨(by decide), own_sum000⟩⟩
            · skip
              subst e1 e2 e3 e4 e5 e6 c1 d1 c2 d2 c3 d3 c4 d4 c5 d5 c6 d6
              exact ⟨Or.inr (Or.inr (Or.inl ⟨(a0.toInt * x0.toInt), (a1.toInt * x1.toInt), (by decide), (by decide), (by decide), (own_enti ha0 (by decide) rfl rfl (by decide) rfl), (own_enti ha1 (by decide) rfl rfl (by decide) rfl), own_sum110⟩)), Or.inr (Or.inl ⟨(b2.toInt * x2.toInt), (by decide), (by decide), (own_enti hb2 (by decide) rfl rfl (by decide) rfl), own_sum001⟩)⟩
          · skip
            rcases hg2 with rfl | rfl
            · skip
              subst e1 e2 e3 e4 e5 e6 c1 d1 c2 d2 c3 d3 c4 d4 c5 d5 c6 d6
              exact ⟨Or.inr (Or.inr (Or.inl ⟨(a0.toInt * x0.toInt), (a1.toInt * x1.toInt), (by decide), (by decide), (by decide), (own_enti ha0 (by decide) rfl rfl (by decide) rfl), (own_enti ha1 (by decide) rfl rfl (by decide) rfl), own_sum110⟩)), Or.inr (Or.inl ⟨(b1.toInt * x1.toInt), (by decide), (by decide), (own_enti hb1 (by decide) rfl rfl (by decide) rfl), own_sum010⟩)⟩
            · skip
              subst e1 e2 e3 e4 e5 e6 c1 d1 c2 d2 c3 d3 c4 d4 c5 d5 c6 d6
              exact ⟨Or.inr (Or.inr (Or.inl ⟨(a0.toInt * x0.toInt), (a1.toInt * x1.toInt), (by decide), (by decide), (by decide), (own_enti ha0 (by decide) rfl rfl (by decide) rfl), (own_enti ha1 (by decide) rfl rfl (by decide) rfl), own_sum110⟩)), Or.inr (Or.inr (Or.inl ⟨(b1.toInt * x1.toInt), (b2.toInt * x2.toInt), (by decide), (by decide), (by decide), (own_enti hb1 (by decide) rfl rfl (by decide) rfl), (own_enti hb2 (by decide) rfl rfl (by decide) rfl), own_sum011⟩))⟩
        · skip
          rcases hg1 with rfl | rfl
          · skip
            rcases hg2 with rfl | rfl
            · skip
              subst e1 e2 e3 e4 e5 e6 c1 d1 c2 d2 c3 d3 c4 d4 c5 d5 c6 d6
              exact ⟨Or.inr (Or.inr (Or.inl ⟨(a0.toInt * x0.toInt), (a1.toInt * x1.toInt), (by decide), (by decide), (by decide), (own_enti ha0 (by decide) rfl rfl (by decide) rfl), (own_enti ha1 (by decide) rfl rfl (by decide) rfl), own_sum110⟩)), Or.inr (Or.inl ⟨(b0.toInt * x0.toInt), (by decide), (by decide), (own_enti hb0 (by decide) rfl rfl (by decide) rfl), own_sum100⟩)⟩
            · skip
              subst e1 e2 e3 e4 e5 e6 c1 d1 c2 d2 c3 d3 c4 d4 c5 d5 c6 d6
              exact ⟨Or.inr (Or.inr (Or.inl ⟨(a0.toInt * x0.toInt), (a1.toInt * x1.toInt), (by decide), (by decide), (by decide), (own_enti ha0 (by decide) rfl rfl (by decide) rfl), (own_enti ha1 (by decide) rfl rfl (by decide) rfl), own_sum110⟩)), Or.inr (Or.inr (Or.inl ⟨(b0.toInt * x0.toInt), (b2.toInt * x2.toInt), (by decide), (by decide), (by decide), (own_enti hb0 (by decide) rfl rfl (by decide) rfl), (own_enti hb2 (by decide) rfl rfl (by decide) rfl), own_sum101⟩))⟩
          · skip
            rcases hg2 with rfl | rfl
            · skip
              subst e1 e2 e3 e4 e5 e6 c1 d1 c2 d2 c3 d3 c4 d4 c5 d5 c6 d6
              exact ⟨Or.inr (Or.inr (Or.inl ⟨(a0.toInt * x0.toInt), (a1.toInt * x1.toInt), (by decide), (by decide), (by decide), (own_enti ha0 (by decide) rfl rfl (by decide) rfl), (own_enti ha1 (by decide) rfl rfl (by decide) rfl), own_sum110⟩)), Or.inr (Or.inr (Or.inl ⟨(b0.toInt * x0.toInt), (b1.toInt * x1.toInt), (by decide), (by decide), (by decide), (own_enti hb0 (by decide) rfl rfl (by decide) rfl), (own_enti hb1 (by decide) rfl rfl (by decide) rfl), own_sum110⟩))⟩
            · skip
              subst e1 e2 e3 e4 e5 e6 c1 d1 c2 d2 c3 d3 c4 d4 c5 d5 c6 d6
              exact ⟨Or.inr (Or.inr (Or.inl ⟨(a0.toInt * x0.toInt), (a1.toInt * x1.toInt), (by decide), (by decide), (by decide), (own_enti ha0 (by decide) rfl rfl (by decide) rfl), (own_enti ha1 (by decide) rfl rfl (by decide) rfl), own_sum110⟩)), Or.inr (Or.inr (Or.inr (⟨(b0.toInt * x0.toInt), (b1.toInt * x1.toInt), (b2.toInt * x2.toInt), (by decide), (by decide), (by decide), (by decide), (own_enti hb0 (by decide) rfl rfl (by decide) rfl), (own_enti hb1 (by decide) rfl rfl (by decide) rfl), (own_enti hb2 (by decide) rfl rfl (by decide) rfl), own_sum111⟩)))⟩
      · skip
        rcases hg0 with rfl | rfl
        · skip
          rcases hg1 with rfl | rfl
          · skip
            rcases hg2 with rfl | rfl
            · skip
              subst e1 e2 e3 e4 e5 e6 c1 d1 c2 d2 c3 d3 c4 d4 c5 d5 c6 d6
              exact ⟨Or.inr (Or.inr (Or.inr (⟨(a0.toInt * x0.toInt), (a1.toInt * x1.toInt), (a2.toInt * x2.toInt), (by decide), (by decide), (by decide), (by decide), (own_enti ha0 (by decide) rfl rfl (by decide) rfl), (own_enti ha1 (by decide) rfl rfl (by decide) rfl), (own_enti ha2 (by decide) rfl rfl (by decide) rfl), own_sum111⟩))), Or.inl ⟨(by decide), own_sum000⟩⟩
            · skip
              subst e1 e2 e3 e4 e5 e6 c1 d1 c2 d2 c3 d3 c4 d4 c5 d5 c6 d6
              exact ⟨Or.inr (Or.inr (Or.inr (⟨(a0.toInt * x0.toInt), (a1.toInt * x1.toInt), (a2.toInt * x2.toInt), (by decide), (by decide), (by decide), (by decide), (own_enti ha0 (by decide) rfl rfl (by decide) rfl), (own_enti ha1 (by decide) rfl rfl (by decide) rfl), (own_enti ha2 (by decide) rfl rfl (by decide) rfl), own_sum111⟩))), Or.inr (Or.inl ⟨(b2.toInt * x2.toInt), (by decide), (by decide), (own_enti hb2 (by decide) rfl rfl (by decide) rfl), own_sum001⟩)⟩
          · skip
            rcases hg2 with rfl | rfl
            · skip
              subst e1 e2 e3 e4 e5 e6 c1 d1 c2 d2 c3 d3 c4 d4 c5 d5 c6 d6
              exact ⟨Or.inr (Or.inr (Or.inr (⟨(a0.toInt * x0.toInt), (a1.toInt * x1.toInt), (a2.toInt * x2.toInt), (by decide), (by decide), (by decide), (by decide), (own_enti ha0 (by decide) rfl rfl (by decide) rfl), (own_enti ha1 (by decide) rfl rfl (by decide) rfl), (own_enti ha2 (by decide) rfl rfl (by decide) rfl), own_sum111⟩))), Or.inr (Or.inl ⟨(b1.toInt * x1.toInt), (by decide), (by decide), (own_enti hb1 (by decide) rfl rfl (by decide) rfl), own_sum010⟩)⟩
            · skip
              subst e1 e2 e3 e4 e5 e6 c1 d1 c2 d2 c3 d3 c4 d4 c5 d5 c6 d6
              exact ⟨Or.inr (Or.inr (Or.inr (⟨(a0.toInt * x0.toInt), (a1.toInt * x1.toInt), (a2.toInt * x2.toInt), (by decide), (by decide), (by decide), (by decide), (own_enti ha0 (by decide) rfl rfl (by decide) rfl), (own_enti ha1 (by decide) rfl rfl (by decide) rfl), (own_enti ha2 (by decide) rfl rfl (by decide) rfl), own_sum111⟩))), Or.inr (Or.inr (Or.inl ⟨(b1.toInt * x1.toInt), (b2.toInt * x2.toInt), (by decide), (by decide), (by decide), (own_enti hb1 (by decide) rfl rfl (by decide) rfl), (own_enti hb2 (by decide) rfl rfl (by decide) rfl), own_sum011⟩))⟩
        · skip
          rcases hg1 with rfl | rfl
          · skip
            rcases hg2 with rfl | rfl
            · skip
              subst e1 e2 e3 e4 e5 e6 c1 d1 c2 d2 c3 d3 c4 d4 c5 d5 c6 d6
              exact ⟨Or.inr (Or.inr (Or.inr (⟨(a0.toInt * x0.toInt), (a1.toInt * x1.toInt), (a2.toInt * x2.toInt), (by decide), (by decide), (by decide), (by decide), (own_enti ha0 (by decide) rfl rfl (by decide) rfl), (own_enti ha1 (by decide) rfl rfl (by decide) rfl), (own_enti ha2 (by decide) rfl rfl (by decide) rfl), own_sum111⟩))), Or.inr (Or.inl ⟨(b0.toInt * x0.toInt), (by decide), (by decide), (own_enti hb0 (by decide) rfl rfl (by decide) rfl), own_sum100⟩)⟩
            · skip
              subst e1 e2 e3 e4 e5 e6 c1 d1 c2 d2 c3 d3 c4 d4 c5 d5 c6 d6
              exact ⟨Or.inr (Or.inr (Or.inr (⟨(a0.toInt * x0.toInt), (a1.toInt * x1.toInt), (a2.toInt * x2.toInt), (by decide), (by decide), (by decide), (by decide), (own_enti ha0 (by decide) rfl rfl (by decide) rfl), (own_enti ha1 (by decide) rfl rfl (by decide) rfl), (own_enti ha2 (by decide) rfl rfl (by decide) rfl), own_sum111⟩))), Or.inr (Or.inr (Or.inl ⟨(b0.toInt * x0.toInt), (b2.toInt * x2.toInt), (by decide), (by decide), (by decide), (own_enti hb0 (by decide) rfl rfl (by decide) rfl), (own_enti hb2 (by decide) rfl rfl (by decide) rfl), own_sum101⟩))⟩
          · skip
            rcases hg2 with rfl | rfl
            · skip
              subst e1 e2 e3 e4 e5 e6 c1 d1 c2 d2 c3 d3 c4 d4 c5 d5 c6 d6
              exact ⟨Or.inr (Or.inr (Or.inr (⟨(a0.toInt * x0.toInt), (a1.toInt * x1.toInt), (a2.toInt * x2.toInt), (by decide), (by decide), (by decide), (by decide), (own_enti ha0 (by decide) rfl rfl (by decide) rfl), (own_enti ha1 (by decide) rfl rfl (by decide) rfl), (own_enti ha2 (by decide) rfl rfl (by decide) rfl), own_sum111⟩))), Or.inr (Or.inr (Or.inl ⟨(b0.toInt * x0.toInt), (b1.toInt * x1.toInt), (by decide), (by decide), (by decide), (own_enti hb0 (by decide) rfl rfl (by decide) rfl), (own_enti hb1 (by decide) rfl rfl (by decide) rfl), own_sum110⟩))⟩
            · skip
              subst e1 e2 e3 e4 e5 e6 c1 d1 c2 d2 c3 d3 c4 d4 c5 d5 c6 d6
              exact ⟨Or.inr (Or.inr (Or.inr (⟨(a0.toInt * x0.toInt), (a1.toInt * x1.toInt), (a2.toInt * x2.toInt), (by decide), (by decide), (by decide), (by decide), (own_enti ha0 (by decide) rfl rfl (by decide) rfl), (own_enti ha1 (by decide) rfl rfl (by decide) rfl), (own_enti ha2 (by decide) rfl rfl (by decide) rfl), own_sum111⟩))), Or.inr (Or.inr (Or.inr (⟨(b0.toInt * x0.toInt), (b1.toInt * x1.toInt), (b2.toInt * x2.toInt), (by decide), (by decide), (by decide), (by decide), (own_enti hb0 (by decide) rfl rfl (by decide) rfl), (own_enti hb1 (by decide) rfl rfl (by decide) rfl), (own_enti hb2 (by decide) rfl rfl (by decide) rfl), own_sum111⟩)))⟩

def QrmVal (Z : State) (pp : Int64) (k : Int32) (h0 : Heap) (n0 : Nat) (vQ : Option Value) (hQ : Heap) (LQ : List Loc) : Prop := vQ = some (.int (own_val pp k)) ∧ Fr n0 LQ ∧ hQ = h0
theorem ef_rmVal (m : MethodId) (pp : Int64) (k : Int32) : entryFrame m #[(.long pp), (.int k)] 4 = mkF m 0 #[vj pp, ss, vi k, uu] [] := by first | (simp [entryFrame, mkF, argsToLocals, Value.category]; done) | rfl
abbrev mn0 : MethodName := ⟨"com/example/velvet_postings/velvetpostings/search/SparseMatrixMultiplyPinLaw", "val", "(JI)I"⟩
theorem pn_com_example_velvet_postings_velvetpostings_search_SparseMatrixMultiplyPinLaw : plainName "com/example/velvet_postings/velvetpostings/search/SparseMatrixMultiplyPinLaw" = true := by first | (simp [plainName, overriddenIn]; done) | decide +kernel
theorem d_method_2_code_0 : decode method_2_code 0 = .ok (.lload_n 0, 1) := by decide +kernel
theorem d_method_2_code_1 : decode method_2_code 1 = .ok (.iload_n 2, 1) := by decide +kernel
theorem d_method_2_code_2 : decode method_2_code 2 = .ok (.lshr, 1) := by decide +kernel
theorem d_method_2_code_3 : decode method_2_code 3 = .ok (.l2i, 1) := by decide +kernel
theorem d_method_2_code_4 : decode method_2_code 4 = .ok (.i2s, 1) := by decide +kernel
theorem d_method_2_code_5 : decode method_2_code 5 = .ok (.istore_n 3, 1) := by decide +kernel
theorem d_method_2_code_6 : decode method_2_code 6 = .ok (.iload_n 3, 1) := by decide +kernel
theorem d_method_2_code_7 : decode method_2_code 7 = .ok (.ifCond .ne 7, 3) := by decide +kernel
theorem d_method_2_code_10 : decode method_2_code 10 = .ok (.iconst 1, 1) := by decide +kernel
theorem d_method_2_code_11 : decode method_2_code 11 = .ok (.goto 4, 3) := by decide +kernel
theorem d_method_2_code_15 : decode method_2_code 15 = .ok (.ireturn, 1) := by decide +kernel
theorem d_method_2_code_14 : decode method_2_code 14 = .ok (.iload_n 3, 1) := by decide +kernel
set_option maxRecDepth 65536 in
set_option maxHeartbeats 40000000 in
theorem rmVal (l : Launch) (Z : State) (a0 : Array Value) (hw : ∀ d ∈ tables_1, d.before a0 Z = true) (ws : List Jvm.Cond) (pp : Int64) (k : Int32) (h0 : Heap) (n0 : Nat) (Z0 : n0 ≤ h0.size)  :
    MetFree l mn0 (head1 (Jvm.Cond.code mn0 method_2_code 4 (some .int) :: ws) ({ frames := 0, cells := 0, slots := 0, locals := 0 } : Room)) (fun aA U => aA = #[(.long pp), (.int k)] ∧ Z.Warmed39 U.vm ∧ U.heap = h0) (fun _ _ _ _ _ => True) (fun _ U o U' => ∃ vR LR, o = .returned vR ∧ QrmVal Z pp k h0 n0 vR U'.heap LR ∧ FrameEnd U o U' LR ({ frames := 0, cells := 0, slots := 0, locals := 0 } : Room).cells ({ frames := 0, cells := 0, slots := 0, locals := 0 } : Room).slots) := by
  refine MetFree.of_bodySF (plainFor_of_name pn_com_example_velvet_postings_velvetpostings_search_SparseMatrixMultiplyPinLaw) hisR ?_
  intro p e s m args below meth c s₁ Bd hml0 hPre hKk
  obtain ⟨rfl, hZ, hh⟩ := hPre
  have hx := Bd.exec
  have hby := Bd.bytes
  skip
  have hml : c.maxLocals = 4 := hml0
  have hown : s.vm.findClass "com/example/velvet_postings/velvetpostings/search/SparseMatrixMultiplyPinLaw" = some m.cls := findClass_of_methodNamed Bd.named
  have hnm := (name_of_methodNamed Bd.named Bd.method).1
  have X0 : Stand p l e ({ frames := 0, cells := 0, slots := 0, locals := 0 } : Room) s m #[(.long pp), (.int k)] below meth c s₁ [] 0 0 := Stand.of_body Bd
  have e0 : s₁.heap = h0 := by rw [← hh, Bd.state]; rfl
  have N0 := Fr.nil n0
  obtain ⟨E0, hE0⟩ : ∃ zE : State, zE = s₁.setTop (entryFrame m #[(.long pp), (.int k)] 4) := ⟨_, rfl⟩
  have k0 : own_G p e below E0 s₁ (mkF m 0 #[vj pp, ss, vi k, uu] []) := fun tz kz => hE0 ▸ castTop (ef_rmVal m pp k) kz
  have k1 : own_G p e below E0 s₁ (mkF m 7 #[vj pp, ss, vi k, vi (((pp >>> (k.toInt64 &&& 63)).toInt32).toInt16.toInt32)] [(.int (((pp >>> (k.toInt64 &&& 63)).toInt32).toInt16.toInt32))]) := by
    intro tQ kk
    refine k0 tQ ?_
    refine XT.lloadN X0.here hx rfl (hb hby d_method_2_code_0) rfl ?_
    refine XS.iloadN X0.here hx rfl (hb hby d_method_2_code_1) rfl ?_
    refine XT.lshr X0.here hx rfl (hb hby d_method_2_code_2) rfl ?_
    refine XT.l2i X0.here hx rfl (hb hby d_method_2_code_3) rfl ?_
    show Steps p.tables e below (s₁.setTop (mkF m 4 #[vj pp, ss, vi k, uu] [(.int ((pp >>> (k.toInt64 &&& 63)).toInt32))])) tQ
    refine XT.i2s X0.here hx rfl (hb hby d_method_2_code_4) rfl ?_
    refine XS.istoreN X0.here hx rfl (hb hby d_method_2_code_5) rfl (l' := #[vj pp, ss, vi k, vi (((pp >>> (k.toInt64 &&& 63)).toInt32).toInt16.toInt32)]) rfl ?_
    refine XS.iloadN X0.here hx rfl (hb hby d_method_2_code_6) rfl ?_
    exact kk
  clear k0
  by_cases cv : (((pp >>> (k.toInt64 &&& 63)).toInt32).toInt16.toInt32) = 0
  · skip
    have k3 : own_G p e below E0 s₁ (mkF m 15 #[vj pp, ss, vi k, vi (((pp >>> (k.toInt64 &&& 63)).toInt32).toInt16.toInt32)] [(.int (1 : Int32))]) := by
      intro tQ kk
      refine k1 tQ ?_
      refine XS.ifNo X0.here hx rfl (hb hby d_method_2_code_7) rfl (own_if_neN cv) ?_
      refine XS.iconst X0.here hx rfl (hb hby d_method_2_code_10) ?_
      refine XS.goto X0.here hx rfl (pc0 := 11) (pc' := 15) rfl (hb hby d_method_2_code_11) (by decide) (by decide) ?_
      exact kk
    clear k1
    obtain ⟨fs, hr, hrun, hended, hW, hsame⟩ := X0.leave (v := some (.int (1 : Int32))) (fun h => by rw [Bd.returns] at h; cases h)
    have hrun0 := k3 _ (retOut X0 hx Bd.returns (t := .int) rfl (Or.inl ⟨rfl, Or.inl rfl, _, rfl⟩) (hb hby d_method_2_code_15) hr)
    subst hE0
    refine ⟨_, _, hrun0, hrun, hended, _, _, rfl, ?_, ⟨_, rfl⟩, hW, hsame.mono (by decide) (by decide)⟩
    show QrmVal Z pp k h0 n0 _ s₁.heap _
    rw [e0]
    exact ⟨(congrArg (fun z => some (Value.int z)) (own_valY cv)), N0, rfl⟩
  · skip
    have k4 : own_G p e below E0 s₁ (mkF m 15 #[vj pp, ss, vi k, vi (((pp >>> (k.toInt64 &&& 63)).toInt32).toInt16.toInt32)] [(.int (((pp >>> (k.toInt64 &&& 63)).toInt32).toInt16.toInt32))]) := by
      intro tQ kk
      refine k1 tQ ?_
      refine XS.ifYes X0.here hx rfl (pc0 := 7) (pc' := 14) rfl (hb hby d_method_2_code_7) rfl (own_if_neY cv) (by decide) (by decide) ?_
      refine XS.iloadN X0.here hx rfl (hb hby d_method_2_code_14) rfl ?_
      exact kk
    clear k1
    obtain ⟨fs, hr, hrun, hended, hW, hsame⟩ := X0.leave (v := some (.int (((pp >>> (k.toInt64 &&& 63)).toInt32).toInt16.toInt32))) (fun h => by rw [Bd.returns] at h; cases h)
    have hrun0 := k4 _ (retOut X0 hx Bd.returns (t := .int) rfl (Or.inl ⟨rfl, Or.inl rfl, _, rfl⟩) (hb hby d_method_2_code_15) hr)
    subst hE0
    refine ⟨_, _, hrun0, hrun, hended, _, _, rfl, ?_, ⟨_, rfl⟩, hW, hsame.mono (by decide) (by decide)⟩
    show QrmVal Z pp k h0 n0 _ s₁.heap _
    rw [e0]
    exact ⟨(congrArg (fun z => some (Value.int z)) (own_valN cv)), N0, rfl⟩
def QrmPut (Z : State) (a : Addr) (b : Addr) (k : Int32) (q : Int32) (col : Int32) (vl : Int32) (cv : List Value) (vv : List Value) (h0 : Heap) (n0 : Nat) (vQ : Option Value) (hQ : Heap) (LQ : List Loc) : Prop := vQ = some (.int (own_pos k q)) ∧ Fr n0 LQ ∧ Keep h0 hQ [a, b] ∧ (own_A Z hQ a .int (own_putL cv k q (.int col))) ∧ (own_A Z hQ b .double (own_putL vv k q (.double (FP.i2d vl))))
theorem ef_rmPut (m : MethodId) (a : Addr) (b : Addr) (k : Int32) (q : Int32) (col : Int32) (vl : Int32) (cv : List Value) (vv : List Value) : entryFrame m #[(.ref a), (.ref b), (.int k), (.int q), (.int col), (.int vl)] 6 = mkF m 0 #[vr a, vr b, vi k, vi q, vi col, vi vl] [] := by first | (simp [entryFrame, mkF, argsToLocals, Value.category]; done) | rfl
abbrev mn1 : MethodName := ⟨"com/example/velvet_postings/velvetpostings/search/SparseMatrixMultiplyPinLaw", "put", "([I[DIZII)I"⟩
theorem d_method_3_code_0 : decode method_3_code 0 = .ok (.iload_n 3, 1) := by decide +kernel
theorem d_method_3_code_1 : decode method_3_code 1 = .ok (.ifCond .eq 18, 3) := by decide +kernel
theorem d_method_3_code_19 : decode method_3_code 19 = .ok (.iload_n 2, 1) := by decide +kernel
theorem d_method_3_code_20 : decode method_3_code 20 = .ok (.ireturn, 1) := by decide +kernel
theorem d_method_3_code_4 : decode method_3_code 4 = .ok (.aload_n 0, 1) := by decide +kernel
theorem d_method_3_code_5 : decode method_3_code 5 = .ok (.iload_n 2, 1) := by decide +kernel
theorem d_method_3_code_6 : decode method_3_code 6 = .ok (.iload 4, 2) := by decide +kernel
theorem d_method_3_code_8 : decode method_3_code 8 = .ok (.iastore, 1) := by decide +kernel
theorem d_method_3_code_9 : decode method_3_code 9 = .ok (.aload_n 1, 1) := by decide +kernel
theorem d_method_3_code_10 : decode method_3_code 10 = .ok (.iload_n 2, 1) := by decide +kernel
theorem d_method_3_code_11 : decode method_3_code 11 = .ok (.iload 5, 2) := by decide +kernel
theorem d_method_3_code_13 : decode method_3_code 13 = .ok (.i2d, 1) := by decide +kernel
theorem d_method_3_code_14 : decode method_3_code 14 = .ok (.dastore, 1) := by decide +kernel
theorem d_method_3_code_15 : decode method_3_code 15 = .ok (.iload_n 2, 1) := by decide +kernel
theorem d_method_3_code_16 : decode method_3_code 16 = .ok (.iconst 1, 1) := by decide +kernel
theorem d_method_3_code_17 : decode method_3_code 17 = .ok (.iadd, 1) := by decide +kernel
theorem d_method_3_code_18 : decode method_3_code 18 = .ok (.ireturn, 1) := by decide +kernel
set_option maxRecDepth 65536 in
set_option maxHeartbeats 40000000 in
theorem rmPut (l : Launch) (Z : State) (a0 : Array Value) (hw : ∀ d ∈ tables_1, d.before a0 Z = true) (ws : List Jvm.Cond) (a : Addr) (b : Addr) (k : Int32) (q : Int32) (col : Int32) (vl : Int32) (cv : List Value) (vv : List Value) (h0 : Heap) (n0 : Nat) (Z0 : n0 ≤ h0.size) (A1 : own_A Z h0 a .int cv) (A2 : own_A Z h0 b .double vv) (nab : a ≠ b) (ge_a : n0 ≤ a) (ge_b : n0 ≤ b) (hk : ¬ k < 0) (h1 : k.toNatClampNeg < cv.length) (h2 : k.toNatClampNeg < vv.length) :
    MetFree l mn1 (head1 (Jvm.Cond.code mn1 method_3_code 6 (some .int) :: ws) ({ frames := 0, cells := 0, slots := 0, locals := 0 } : Room)) (fun aA U => aA = #[(.ref a), (.ref b), (.int k), (.int q), (.int col), (.int vl)] ∧ Z.Warmed39 U.vm ∧ U.heap = h0) (fun _ _ _ _ _ => True) (fun _ U o U' => ∃ vR LR, o = .returned vR ∧ QrmPut Z a b k q col vl cv vv h0 n0 vR U'.heap LR ∧ FrameEnd U o U' LR ({ frames := 0, cells := 0, slots := 0, locals := 0 } : Room).cells ({ frames := 0, cells := 0, slots := 0, locals := 0 } : Room).slots) := by
  refine MetFree.of_bodySF (plainFor_of_name pn_com_example_velvet_postings_velvetpostings_search_SparseMatrixMultiplyPinLaw) hisR ?_
  intro p e s m args below meth c s₁ Bd hml0 hPre hKk
  obtain ⟨rfl, hZ, hh⟩ := hPre
  have hx := Bd.exec
  have hby := Bd.bytes
  skip
  have hml : c.maxLocals = 6 := hml0
  have hown : s.vm.findClass "com/example/velvet_postings/velvetpostings/search/SparseMatrixMultiplyPinLaw" = some m.cls := findClass_of_methodNamed Bd.named
  have hnm := (name_of_methodNamed Bd.named Bd.method).1
  have X0 : Stand p l e ({ frames := 0, cells := 0, slots := 0, locals := 0 } : Room) s m #[(.ref a), (.ref b), (.int k), (.int q), (.int col), (.int vl)] below meth c s₁ [] 0 0 := Stand.of_body Bd
  have e0 : s₁.heap = h0 := by rw [← hh, Bd.state]; rfl
  have N0 := Fr.nil n0
  obtain ⟨E0, hE0⟩ : ∃ zE : State, zE = s₁.setTop (entryFrame m #[(.ref a), (.ref b), (.int k), (.int q), (.int col), (.int vl)] 6) := ⟨_, rfl⟩
  have k0 : own_G p e below E0 s₁ (mkF m 0 #[vr a, vr b, vi k, vi q, vi col, vi vl] []) := fun tz kz => hE0 ▸ castTop (ef_rmPut m a b k q col vl cv vv) kz
  have K0 : Keep h0 h0 [a, b] := Keep.refl _ _
  have k5 : own_G p e below E0 s₁ (mkF m 1 #[vr a, vr b, vi k, vi q, vi col, vi vl] [(.int q)]) := by
    intro tQ kk
    refine k0 tQ ?_
    refine XS.iloadN X0.here hx rfl (hb hby d_method_3_code_0) rfl ?_
    exact kk
  clear k0
  by_cases cq : q = 0
  · skip
    have k7 : own_G p e below E0 s₁ (mkF m 20 #[vr a, vr b, vi k, vi q, vi col, vi vl] [(.int k)]) := by
      intro tQ kk
      refine k5 tQ ?_
      refine XS.ifYes X0.here hx rfl (pc0 := 1) (pc' := 19) rfl (hb hby d_method_3_code_1) rfl (own_if_eqY cq) (by decide) (by decide) ?_
      refine XS.iloadN X0.here hx rfl (hb hby d_method_3_code_19) rfl ?_
      exact kk
    clear k5
    obtain ⟨fs, hr, hrun, hended, hW, hsame⟩ := X0.leave (v := some (.int k)) (fun h => by rw [Bd.returns] at h; cases h)
    have hrun0 := k7 _ (retOut X0 hx Bd.returns (t := .int) rfl (Or.inl ⟨rfl, Or.inl rfl, _, rfl⟩) (hb hby d_method_3_code_20) hr)
    subst hE0
    refine ⟨_, _, hrun0, hrun, hended, _, _, rfl, ?_, ⟨_, rfl⟩, hW, hsame.mono (by decide) (by decide)⟩
    show QrmPut Z a b k q col vl cv vv h0 n0 _ s₁.heap _
    rw [e0]
    exact ⟨(congrArg (fun z => some (Value.int z)) (own_posY cq)), N0, K0, (by rw [own_putL, if_pos cq]; exact A1), (by rw [own_putL, if_pos cq]; exact A2)⟩
  · skip
    have k8 : own_G p e below E0 s₁ (mkF m 8 #[vr a, vr b, vi k, vi q, vi col, vi vl] [(.int col), (.int k), (.ref a)]) := by
      intro tQ kk
      refine k5 tQ ?_
      refine XS.ifNo X0.here hx rfl (hb hby d_method_3_code_1) rfl (own_if_eqN cq) ?_
      refine XS.aloadN X0.here hx rfl (hb hby d_method_3_code_4) rfl rfl ?_
      refine XS.iloadN X0.here hx rfl (hb hby d_method_3_code_5) rfl ?_
      refine XS.iload X0.here hx rfl (hb hby d_method_3_code_6) rfl ?_
      exact kk
    clear k5
    obtain ⟨T9, h10, X11, e12, W13, F14, st15⟩ := own_A.ist X0 hx hZ e0 A1 (j := k) hk (List.getElem?_eq_getElem h1) (g := (mkF m 8 #[vr a, vr b, vi k, vi q, vi col, vi vl] [(.int col), (.int k), (.ref a)])) rfl rfl (hb hby d_method_3_code_8)
    have N16 := Fr.snoc X11 N0 ge_a
    have k17 : own_G p e below E0 T9 (mkF m 9 #[vr a, vr b, vi k, vi q, vi col, vi vl] []) := fun tQ kk => k8 tQ (st15 _ kk)
    clear k8 st15
    have F18 : own_A Z h10 b .double vv := A2.other W13 (fun q => nab q.symm)
    clear A2
    have Z19 : n0 ≤ h10.size := by rw [W13.size]; exact Z0
    have K20 : Keep h0 h10 [a, b] := K0.wr W13 (Or.inl (List.mem_of_getElem? (i := 0) rfl))
    have F21 : own_A Z h10 a .int (cv.set k.toNatClampNeg (.int col)) := F14
    have k22 : own_G p e below E0 T9 (mkF m 14 #[vr a, vr b, vi k, vi q, vi col, vi vl] [(.double (FP.i2d vl)), (.int k), (.ref b)]) := by
      intro tQ kk
      refine k17 tQ ?_
      refine XS.aloadN X11.here hx rfl (hb hby d_method_3_code_9) rfl rfl ?_
      refine XS.iloadN X11.here hx rfl (hb hby d_method_3_code_10) rfl ?_
      refine XS.iload X11.here hx rfl (hb hby d_method_3_code_11) rfl ?_
      refine XS.i2dS X11.here hx rfl (hb hby d_method_3_code_13) rfl rfl ?_
      exact kk
    clear k17
    obtain ⟨T23, h24, X25, e26, W27, F28, st29⟩ := own_A.dst X11 hx hZ e12 F18 (j := k) hk (List.getElem?_eq_getElem h2) (g := (mkF m 14 #[vr a, vr b, vi k, vi q, vi col, vi vl] [(.double (FP.i2d vl)), (.int k), (.ref b)])) rfl rfl (hb hby d_method_3_code_14)
    have N30 := Fr.snoc X25 N16 ge_b
    have k31 : own_G p e below E0 T23 (mkF m 15 #[vr a, vr b, vi k, vi q, vi col, vi vl] []) := fun tQ kk => k22 tQ (st29 _ kk)
    clear k22 st29
    have F32 : own_A Z h24 a .int (cv.set k.toNatClampNeg (.int col)) := F21.other W27 nab
    clear F21
    have Z33 : n0 ≤ h24.size := by rw [W27.size]; exact Z19
    clear Z19
    have K34 : Keep h0 h24 [a, b] := K20.wr W27 (Or.inl (List.mem_of_getElem? (i := 1) rfl))
    clear K20
    have F35 : own_A Z h24 b .double (vv.set k.toNatClampNeg (.double (FP.i2d vl))) := F28
    have k36 : own_G p e below E0 T23 (mkF m 18 #[vr a, vr b, vi k, vi q, vi col, vi vl] [(.int (k + (1 : Int32)))]) := by
      intro tQ kk
      refine k31 tQ ?_
      refine XS.iloadN X25.here hx rfl (hb hby d_method_3_code_15) rfl ?_
      refine XS.iconst X25.here hx rfl (hb hby d_method_3_code_16) ?_
      refine XS.iadd X25.here hx rfl (hb hby d_method_3_code_17) rfl ?_
      exact kk
    clear k31
    obtain ⟨fs, hr, hrun, hended, hW, hsame⟩ := X25.leave (v := some (.int (k + (1 : Int32)))) (fun h => by rw [Bd.returns] at h; cases h)
    have hrun0 := k36 _ (retOut X25 hx Bd.returns (t := .int) rfl (Or.inl ⟨rfl, Or.inl rfl, _, rfl⟩) (hb hby d_method_3_code_18) hr)
    subst hE0
    refine ⟨_, _, hrun0, hrun, hended, _, _, rfl, ?_, ⟨_, rfl⟩, hW, hsame.mono (by decide) (by decide)⟩
    show QrmPut Z a b k q col vl cv vv h0 n0 _ T23.heap _
    rw [e26]
    exact ⟨(congrArg (fun z => some (Value.int z)) (own_posN cq)), N30, K34, (by rw [own_putL, if_neg cq]; exact F32), (by rw [own_putL, if_neg cq]; exact F35)⟩
def QrmTe (Z : State) (q : Int32) (u : Int32) (x : Int32) (h0 : Heap) (n0 : Nat) (vQ : Option Value) (hQ : Heap) (LQ : List Loc) : Prop := vQ = some (.long (own_tm q u x)) ∧ Fr n0 LQ ∧ hQ = h0
theorem ef_rmTe (m : MethodId) (q : Int32) (u : Int32) (x : Int32) : entryFrame m #[(.int q), (.int u), (.int x)] 3 = mkF m 0 #[vi q, vi u, vi x] [] := by first | (simp [entryFrame, mkF, argsToLocals, Value.category]; done) | rfl
abbrev mn2 : MethodName := ⟨"com/example/velvet_postings/velvetpostings/search/SparseMatrixMultiplyPinLaw", "term", "(ZII)J"⟩
theorem d_method_4_code_0 : decode method_4_code 0 = .ok (.iload_n 0, 1) := by decide +kernel
theorem d_method_4_code_1 : decode method_4_code 1 = .ok (.ifCond .eq 11, 3) := by decide +kernel
theorem d_method_4_code_12 : decode method_4_code 12 = .ok (.lconst 0, 1) := by decide +kernel
theorem d_method_4_code_13 : decode method_4_code 13 = .ok (.lreturn, 1) := by decide +kernel
theorem d_method_4_code_4 : decode method_4_code 4 = .ok (.iload_n 1, 1) := by decide +kernel
theorem d_method_4_code_5 : decode method_4_code 5 = .ok (.i2l, 1) := by decide +kernel
theorem d_method_4_code_6 : decode method_4_code 6 = .ok (.iload_n 2, 1) := by decide +kernel
theorem d_method_4_code_7 : decode method_4_code 7 = .ok (.i2l, 1) := by decide +kernel
theorem d_method_4_code_8 : decode method_4_code 8 = .ok (.lmul, 1) := by decide +kernel
theorem d_method_4_code_9 : decode method_4_code 9 = .ok (.goto 4, 3) := by decide +kernel
set_option maxRecDepth 65536 in
set_option maxHeartbeats 40000000 in
theorem rmTe (l : Launch) (Z : State) (a0 : Array Value) (hw : ∀ d ∈ tables_1, d.before a0 Z = true) (ws : List Jvm.Cond) (q : Int32) (u : Int32) (x : Int32) (h0 : Heap) (n0 : Nat) (Z0 : n0 ≤ h0.size)  :
    MetFree l mn2 (head1 (Jvm.Cond.code mn2 method_4_code 3 (some .long) :: ws) ({ frames := 0, cells := 0, slots := 0, locals := 0 } : Room)) (fun aA U => aA = #[(.int q), (.int u), (.int x)] ∧ Z.Warmed39 U.vm ∧ U.heap = h0) (fun _ _ _ _ _ => True) (fun _ U o U' => ∃ vR LR, o = .returned vR ∧ QrmTe Z q u x h0 n0 vR U'.heap LR ∧ FrameEnd U o U' LR ({ frames := 0, cells := 0, slots := 0, locals := 0 } : Room).cells ({ frames := 0, cells := 0, slots := 0, locals := 0 } : Room).slots) := by
  refine MetFree.of_bodySF (plainFor_of_name pn_com_example_velvet_postings_velvetpostings_search_SparseMatrixMultiplyPinLaw) hisR ?_
  intro p e s m args below meth c s₁ Bd hml0 hPre hKk
  obtain ⟨rfl, hZ, hh⟩ := hPre
  have hx := Bd.exec
  have hby := Bd.bytes
  skip
  have hml : c.maxLocals = 3 := hml0
  have hown : s.vm.findClass "com/example/velvet_postings/velvetpostings/search/SparseMatrixMultiplyPinLaw" = some m.cls := findClass_of_methodNamed Bd.named
  have hnm := (name_of_methodNamed Bd.named Bd.method).1
  have X0 : Stand p l e ({ frames := 0, cells := 0, slots := 0, locals := 0 } : Room) s m #[(.int q), (.int u), (.int x)] below meth c s₁ [] 0 0 := Stand.of_body Bd
  have e0 : s₁.heap = h0 := by rw [← hh, Bd.state]; rfl
  have N0 := Fr.nil n0
  obtain ⟨E0, hE0⟩ : ∃ zE : State, zE = s₁.setTop (entryFrame m #[(.int q), (.int u), (.int x)] 3) := ⟨_, rfl⟩
  have k0 : own_G p e below E0 s₁ (mkF m 0 #[vi q, vi u, vi x] []) := fun tz kz => hE0 ▸ castTop (ef_rmTe m q u x) kz
  have k37 : own_G p e below E0 s₁ (mkF m 1 #[vi q, vi u, vi x] [(.int q)]) := by
    intro tQ kk
    refine k0 tQ ?_
    refine XS.iloadN X0.here hx rfl (hb hby d_method_4_code_0) rfl ?_
    exact kk
  clear k0
  by_cases cq : q = 0
  · skip
    have k39 : own_G p e below E0 s₁ (mkF m 13 #[vi q, vi u, vi x] [(.long (0 : Int64))]) := by
      intro tQ kk
      refine k37 tQ ?_
      refine XS.ifYes X0.here hx rfl (pc0 := 1) (pc' := 12) rfl (hb hby d_method_4_code_1) rfl (own_if_eqY cq) (by decide) (by decide) ?_
      refine XT.lconst X0.here hx rfl (hb hby d_method_4_code_12) ?_
      exact kk
    clear k37
    obtain ⟨fs, hr, hrun, hended, hW, hsame⟩ := X0.leave (v := some (.long (0 : Int64))) (fun h => by rw [Bd.returns] at h; cases h)
    have hrun0 := k39 _ (retOut X0 hx Bd.returns (t := .long) rfl (Or.inr (Or.inl ⟨rfl, rfl, _, rfl⟩)) (hb hby d_method_4_code_13) hr)
    subst hE0
    refine ⟨_, _, hrun0, hrun, hended, _, _, rfl, ?_, ⟨_, rfl⟩, hW, hsame.mono (by decide) (by decide)⟩
    show QrmTe Z q u x h0 n0 _ s₁.heap _
    rw [e0]
    exact ⟨(congrArg (fun z => some (Value.long z)) (own_tmY cq)), N0, rfl⟩
  · skip
    have k40 : own_G p e below E0 s₁ (mkF m 13 #[vi q, vi u, vi x] [(.long ((u.toInt64) * (x.toInt64)))]) := by
      intro tQ kk
      refine k37 tQ ?_
      refine XS.ifNo X0.here hx rfl (hb hby d_method_4_code_1) rfl (own_if_eqN cq) ?_
      refine XS.iloadN X0.here hx rfl (hb hby d_method_4_code_4) rfl ?_
      refine XT.i2l X0.here hx rfl (hb hby d_method_4_code_5) rfl ?_
      refine XS.iloadN X0.here hx rfl (hb hby d_method_4_code_6) rfl ?_
      show Steps p.tables e below (s₁.setTop (mkF m 7 #[vi q, vi u, vi x] [(.int x), (.long (u.toInt64))])) tQ
      refine XT.i2l X0.here hx rfl (hb hby d_method_4_code_7) rfl ?_
      refine XT.lmul X0.here hx rfl (hb hby d_method_4_code_8) rfl ?_
      refine XS.goto X0.here hx rfl (pc0 := 9) (pc' := 13) rfl (hb hby d_method_4_code_9) (by decide) (by decide) ?_
      exact kk
    clear k37
    obtain ⟨fs, hr, hrun, hended, hW, hsame⟩ := X0.leave (v := some (.long ((u.toInt64) * (x.toInt64)))) (fun h => by rw [Bd.returns] at h; cases h)
    have hrun0 := k40 _ (retOut X0 hx Bd.returns (t := .long) rfl (Or.inr (Or.inl ⟨rfl, rfl, _, rfl⟩)) (hb hby d_method_4_code_13) hr)
    subst hE0
    refine ⟨_, _, hrun0, hrun, hended, _, _, rfl, ?_, ⟨_, rfl⟩, hW, hsame.mono (by decide) (by decide)⟩
    show QrmTe Z q u x h0 n0 _ s₁.heap _
    rw [e0]
    exact ⟨(congrArg (fun z => some (Value.long z)) (own_tmN cq)), N0, rfl⟩
abbrev fd3 (Z : State) (h : Heap) (a : Addr) (v : Value) : Prop := Fld Z h a "com/example/velvet_postings/velvetpostings/search/SparseMatrix" "rowCount" "I" v
abbrev fd4 (Z : State) (h : Heap) (a : Addr) (v : Value) : Prop := Fld Z h a "com/example/velvet_postings/velvetpostings/search/SparseMatrix" "columnCount" "I" v
abbrev fd5 (Z : State) (h : Heap) (a : Addr) (v : Value) : Prop := Fld Z h a "com/example/velvet_postings/velvetpostings/search/SparseMatrix" "rowStarts" "[I" v
abbrev fd6 (Z : State) (h : Heap) (a : Addr) (v : Value) : Prop := Fld Z h a "com/example/velvet_postings/velvetpostings/search/SparseMatrix" "columns" "[I" v
abbrev fd7 (Z : State) (h : Heap) (a : Addr) (v : Value) : Prop := Fld Z h a "com/example/velvet_postings/velvetpostings/search/SparseMatrix" "values" "[D" v
def QrmI0 (Z : State) (a : Addr) (ros : Addr) (cos : Addr) (vas : Addr) (h0 : Heap) (n0 : Nat) (vQ : Option Value) (hQ : Heap) (LQ : List Loc) : Prop := vQ = none ∧ Fr n0 LQ ∧ Keep h0 hQ [a] ∧ (fd3 Z hQ a (.int (0 : Int32))) ∧ (fd4 Z hQ a (.int (3 : Int32))) ∧ (fd5 Z hQ a (.ref ros)) ∧ (fd6 Z hQ a (.ref cos)) ∧ (fd7 Z hQ a (.ref vas))
theorem ef_rmI0 (m : MethodId) (a : Addr) (ros : Addr) (cos : Addr) (vas : Addr) : entryFrame m #[(.ref a), (.int (0 : Int32)), (.int (3 : Int32)), (.ref ros), (.ref cos), (.ref vas)] 6 = mkF m 0 #[vr a, vi (0 : Int32), vi (3 : Int32), vr ros, vr cos, vr vas] [] := by first | (simp [entryFrame, mkF, argsToLocals, Value.category]; done) | rfl
abbrev xa8 (Z : State) (h : Heap) (a : Addr) : Prop := Exa Z h a "com/example/velvet_postings/velvetpostings/search/SparseMatrix"
abbrev mn9 : MethodName := ⟨"com/example/velvet_postings/velvetpostings/search/SparseMatrix", "<init>", "(II[I[I[D)V"⟩
theorem pn_com_example_velvet_postings_velvetpostings_search_SparseMatrix : plainName "com/example/velvet_postings/velvetpostings/search/SparseMatrix" = true := by first | (simp [plainName, overriddenIn]; done) | decide +kernel
theorem d_prog_93_method_1_code_0 : decode prog_93_method_1_code 0 = .ok (.aload_n 0, 1) := by decide +kernel
theorem d_prog_93_method_1_code_1 : decode prog_93_method_1_code 1 = .ok (.invokespecial 1, 3) := by decide +kernel
def tw15 {Z : State} {a0 : Array Value} (hw : ∀ d ∈ tables_1, d.before a0 Z = true) := hw _ (List.mem_of_getElem? (i := 15) rfl)
def tw16 {Z : State} {a0 : Array Value} (hw : ∀ d ∈ tables_1, d.before a0 Z = true) := hw _ (List.mem_of_getElem? (i := 16) rfl)
def tw17 {Z : State} {a0 : Array Value} (hw : ∀ d ∈ tables_1, d.before a0 Z = true) := hw _ (List.mem_of_getElem? (i := 17) rfl)
theorem d_prog_93_method_1_code_4 : decode prog_93_method_1_code 4 = .ok (.aload_n 0, 1) := by decide +kernel
theorem d_prog_93_method_1_code_5 : decode prog_93_method_1_code 5 = .ok (.iload_n 1, 1) := by decide +kernel
theorem d_prog_93_method_1_code_6 : decode prog_93_method_1_code 6 = .ok (.putfield 7, 3) := by decide +kernel
def tw18 {Z : State} {a0 : Array Value} (hw : ∀ d ∈ tables_1, d.before a0 Z = true) := hw _ (List.mem_of_getElem? (i := 18) rfl)
def tw10 {Z : State} {a0 : Array Value} (hw : ∀ d ∈ tables_1, d.before a0 Z = true) := hw _ (List.mem_of_getElem? (i := 10) rfl)
def tw19 {Z : State} {a0 : Array Value} (hw : ∀ d ∈ tables_1, d.before a0 Z = true) := hw _ (List.mem_of_getElem? (i := 19) rfl)
def tw21 {Z : State} {a0 : Array Value} (hw : ∀ d ∈ tables_1, d.before a0 Z = true) := hw _ (List.mem_of_getElem? (i := 21) rfl)
def tw23 {Z : State} {a0 : Array Value} (hw : ∀ d ∈ tables_1, d.before a0 Z = true) := hw _ (List.mem_of_getElem? (i := 23) rfl)
def tw25 {Z : State} {a0 : Array Value} (hw : ∀ d ∈ tables_1, d.before a0 Z = true) := hw _ (List.mem_of_getElem? (i := 25) rfl)
def tw27 {Z : State} {a0 : Array Value} (hw : ∀ d ∈ tables_1, d.before a0 Z = true) := hw _ (List.mem_of_getElem? (i := 27) rfl)
theorem d_prog_93_method_1_code_9 : decode prog_93_method_1_code 9 = .ok (.aload_n 0, 1) := by decide +kernel
theorem d_prog_93_method_1_code_10 : decode prog_93_method_1_code 10 = .ok (.iload_n 2, 1) := by decide +kernel
theorem d_prog_93_method_1_code_11 : decode prog_93_method_1_code 11 = .ok (.putfield 13, 3) := by decide +kernel
def tw20 {Z : State} {a0 : Array Value} (hw : ∀ d ∈ tables_1, d.before a0 Z = true) := hw _ (List.mem_of_getElem? (i := 20) rfl)
theorem d_prog_93_method_1_code_14 : decode prog_93_method_1_code 14 = .ok (.aload_n 0, 1) := by decide +kernel
theorem d_prog_93_method_1_code_15 : decode prog_93_method_1_code 15 = .ok (.aload_n 3, 1) := by decide +kernel
theorem d_prog_93_method_1_code_16 : decode prog_93_method_1_code 16 = .ok (.putfield 16, 3) := by decide +kernel
def tw22 {Z : State} {a0 : Array Value} (hw : ∀ d ∈ tables_1, d.before a0 Z = true) := hw _ (List.mem_of_getElem? (i := 22) rfl)
theorem d_prog_93_method_1_code_19 : decode prog_93_method_1_code 19 = .ok (.aload_n 0, 1) := by decide +kernel
theorem d_prog_93_method_1_code_20 : decode prog_93_method_1_code 20 = .ok (.aload 4, 2) := by decide +kernel
theorem d_prog_93_method_1_code_22 : decode prog_93_method_1_code 22 = .ok (.putfield 20, 3) := by decide +kernel
def tw24 {Z : State} {a0 : Array Value} (hw : ∀ d ∈ tables_1, d.before a0 Z = true) := hw _ (List.mem_of_getElem? (i := 24) rfl)
theorem d_prog_93_method_1_code_25 : decode prog_93_method_1_code 25 = .ok (.aload_n 0, 1) := by decide +kernel
theorem d_prog_93_method_1_code_26 : decode prog_93_method_1_code 26 = .ok (.aload 5, 2) := by decide +kernel
theorem d_prog_93_method_1_code_28 : decode prog_93_method_1_code 28 = .ok (.putfield 23, 3) := by decide +kernel
def tw26 {Z : State} {a0 : Array Value} (hw : ∀ d ∈ tables_1, d.before a0 Z = true) := hw _ (List.mem_of_getElem? (i := 26) rfl)
theorem d_prog_93_method_1_code_31 : decode prog_93_method_1_code 31 = .ok (.return_, 1) := by decide +kernel
set_option maxRecDepth 65536 in
set_option maxHeartbeats 40000000 in
theorem rmI0 (l : Launch) (Z : State) (a0 : Array Value) (hw : ∀ d ∈ tables_1, d.before a0 Z = true) (ws : List Jvm.Cond) (a : Addr) (ros : Addr) (cos : Addr) (vas : Addr) (h0 : Heap) (n0 : Nat) (Z0 : n0 ≤ h0.size) (E1 : xa8 Z h0 a) (F0 : fd3 Z h0 a (.int (0 : Int32))) (F1 : fd4 Z h0 a (.int (0 : Int32))) (F2 : fd5 Z h0 a .null) (F3 : fd6 Z h0 a .null) (F4 : fd7 Z h0 a .null) (ge_a : n0 ≤ a) :
    MetFree l mn9 (head1 (Jvm.Cond.code mn9 prog_93_method_1_code 6 none :: ws) ({ frames := 1, cells := 0, slots := 0, locals := 12 } : Room)) (fun aA U => aA = #[(.ref a), (.int (0 : Int32)), (.int (3 : Int32)), (.ref ros), (.ref cos), (.ref vas)] ∧ Z.Warmed39 U.vm ∧ U.heap = h0) (fun _ _ _ _ _ => True) (fun _ U o U' => ∃ vR LR, o = .returned vR ∧ QrmI0 Z a ros cos vas h0 n0 vR U'.heap LR ∧ FrameEnd U o U' LR ({ frames := 1, cells := 0, slots := 0, locals := 12 } : Room).cells ({ frames := 1, cells := 0, slots := 0, locals := 12 } : Room).slots) := by
  refine MetFree.of_bodySF (plainFor_of_name pn_com_example_velvet_postings_velvetpostings_search_SparseMatrix) hisR ?_
  intro p e s m args below meth c s₁ Bd hml0 hPre hKk
  obtain ⟨rfl, hZ, hh⟩ := hPre
  have hx := Bd.exec
  have hby := Bd.bytes
  skip
  have hml : c.maxLocals = 6 := hml0
  have hown : s.vm.findClass "com/example/velvet_postings/velvetpostings/search/SparseMatrix" = some m.cls := findClass_of_methodNamed Bd.named
  have hnm := (name_of_methodNamed Bd.named Bd.method).1
  have X0 : Stand p l e ({ frames := 1, cells := 0, slots := 0, locals := 12 } : Room) s m #[(.ref a), (.int (0 : Int32)), (.int (3 : Int32)), (.ref ros), (.ref cos), (.ref vas)] below meth c s₁ [] 0 0 := Stand.of_body Bd
  have e0 : s₁.heap = h0 := by rw [← hh, Bd.state]; rfl
  have N0 := Fr.nil n0
  obtain ⟨E0, hE0⟩ : ∃ zE : State, zE = s₁.setTop (entryFrame m #[(.ref a), (.int (0 : Int32)), (.int (3 : Int32)), (.ref ros), (.ref cos), (.ref vas)] 6) := ⟨_, rfl⟩
  have k0 : own_G p e below E0 s₁ (mkF m 0 #[vr a, vi (0 : Int32), vi (3 : Int32), vr ros, vr cos, vr vas] []) := fun tz kz => hE0 ▸ castTop (ef_rmI0 m a ros cos vas) kz
  have K0 : Keep h0 h0 [a] := Keep.refl _ _
  have k41 : own_G p e below E0 s₁ (mkF m 1 #[vr a, vi (0 : Int32), vi (3 : Int32), vr ros, vr cos, vr vas] [(.ref a)]) := by
    intro tQ kk
    refine k0 tQ ?_
    refine XS.aloadN X0.here hx rfl (hb hby d_prog_93_method_1_code_0) rfl rfl ?_
    exact kk
  clear k0
  obtain ⟨T42, X43, e44, st45⟩ := initO X0 hx hZ hown (tw15 hw) (tw16 hw) (tw17 hw) e0 (g := (mkF m 1 #[vr a, vi (0 : Int32), vi (3 : Int32), vr ros, vr cos, vr vas] [(.ref a)])) rfl (by rw [hml]; rfl) rfl (hb hby d_prog_93_method_1_code_1) (by decide) (W := 0) (by show 2 * 0 + _ ≤ _; exact Nat.le_of_eq rfl) (by decide)
  have k46 : own_G p e below E0 T42 (mkF m 4 #[vr a, vi (0 : Int32), vi (3 : Int32), vr ros, vr cos, vr vas] []) := fun tQ kk => k41 tQ (st45 _ kk)
  clear k41 st45
  have k47 : own_G p e below E0 T42 (mkF m 6 #[vr a, vi (0 : Int32), vi (3 : Int32), vr ros, vr cos, vr vas] [(.int (0 : Int32)), (.ref a)]) := by
    intro tQ kk
    refine k46 tQ ?_
    refine XS.aloadN X43.here hx rfl (hb hby d_prog_93_method_1_code_4) rfl rfl ?_
    refine XS.iloadN X43.here hx rfl (hb hby d_prog_93_method_1_code_5) rfl ?_
    exact kk
  clear k46
  obtain ⟨T48, h49, X50, e51, W52, st53⟩ := putF X43 hx hZ hown (host := "") (Or.inl (tw18 hw)) Via.refl e44 F0 E1 (Or.inr ⟨(tw19 hw), rfl, hnm⟩) (tw10 hw) (ty := .int) (by decide) rfl rfl (g := (mkF m 6 #[vr a, vi (0 : Int32), vi (3 : Int32), vr ros, vr cos, vr vas] [(.int (0 : Int32)), (.ref a)])) rfl rfl (hb hby d_prog_93_method_1_code_6)
  have N54 := Fr.snoc X50 N0 ge_a
  have k55 : own_G p e below E0 T48 (mkF m 9 #[vr a, vi (0 : Int32), vi (3 : Int32), vr ros, vr cos, vr vas] []) := fun tQ kk => k47 tQ (st53 _ kk)
  clear k47 st53
  have F56 : xa8 Z h49 a := E1.wr W52
  clear E1
  have F57 : fd3 Z h49 a (.int (0 : Int32)) := F0.same W52
  clear F0
  have F58 : fd4 Z h49 a (.int (0 : Int32)) := F1.other W52 (Or.inr (slot_ne (C := "com/example/velvet_postings/velvetpostings/search/SparseMatrix") (Or.inr (tw21 hw)) (Or.inr (tw19 hw)) (by decide) (t := .int) (t' := .int) (by decide) (by decide)))
  clear F1
  have F59 : fd5 Z h49 a .null := F2.other W52 (Or.inr (slot_ne (C := "com/example/velvet_postings/velvetpostings/search/SparseMatrix") (Or.inr (tw23 hw)) (Or.inr (tw19 hw)) (by decide) (t := (.array .int)) (t' := .int) (by decide) (by decide)))
  clear F2
  have F60 : fd6 Z h49 a .null := F3.other W52 (Or.inr (slot_ne (C := "com/example/velvet_postings/velvetpostings/search/SparseMatrix") (Or.inr (tw25 hw)) (Or.inr (tw19 hw)) (by decide) (t := (.array .int)) (t' := .int) (by decide) (by decide)))
  clear F3
  have F61 : fd7 Z h49 a .null := F4.other W52 (Or.inr (slot_ne (C := "com/example/velvet_postings/velvetpostings/search/SparseMatrix") (Or.inr (tw27 hw)) (Or.inr (tw19 hw)) (by decide) (t := (.array .double)) (t' := .int) (by decide) (by decide)))
  clear F4
  have Z62 : n0 ≤ h49.size := by rw [W52.size]; exact Z0
  have K63 : Keep h0 h49 [a] := K0.wr W52 (Or.inl (List.mem_of_getElem? (i := 0) rfl))
  have k64 : own_G p e below E0 T48 (mkF m 11 #[vr a, vi (0 : Int32), vi (3 : Int32), vr ros, vr cos, vr vas] [(.int (3 : Int32)), (.ref a)]) := by
    intro tQ kk
    refine k55 tQ ?_
    refine XS.aloadN X50.here hx rfl (hb hby d_prog_93_method_1_code_9) rfl rfl ?_
    refine XS.iloadN X50.here hx rfl (hb hby d_prog_93_method_1_code_10) rfl ?_
    exact kk
  clear k55
  obtain ⟨T65, h66, X67, e68, W69, st70⟩ := putF X50 hx hZ hown (host := "") (Or.inl (tw20 hw)) Via.refl e51 F58 F56 (Or.inr ⟨(tw21 hw), rfl, hnm⟩) (tw10 hw) (ty := .int) (by decide) rfl rfl (g := (mkF m 11 #[vr a, vi (0 : Int32), vi (3 : Int32), vr ros, vr cos, vr vas] [(.int (3 : Int32)), (.ref a)])) rfl rfl (hb hby d_prog_93_method_1_code_11)
  have N71 := Fr.snoc X67 N54 ge_a
  have k72 : own_G p e below E0 T65 (mkF m 14 #[vr a, vi (0 : Int32), vi (3 : Int32), vr ros, vr cos, vr vas] []) := fun tQ kk => k64 tQ (st70 _ kk)
  clear k64 st70
  have F73 : xa8 Z h66 a := F56.wr W69
  clear F56
  have F74 : fd3 Z h66 a (.int (0 : Int32)) := F57.other W69 (Or.inr (slot_ne (C := "com/example/velvet_postings/velvetpostings/search/SparseMatrix") (Or.inr (tw19 hw)) (Or.inr (tw21 hw)) (by decide) (t := .int) (t' := .int) (by decide) (by decide)))
  clear F57
  have F75 : fd4 Z h66 a (.int (3 : Int32)) := F58.same W69
  clear F58
  have F76 : fd5 Z h66 a .null := F59.other W69 (Or.inr (slot_ne (C := "com/example/velvet_postings/velvetpostings/search/SparseMatrix") (Or.inr (tw23 hw)) (Or.inr (tw21 hw)) (by decide) (t := (.array .int)) (t' := .int) (by decide) (by decide)))
  clear F59
  have F77 : fd6 Z h66 a .null := F60.other W69 (Or.inr (slot_ne (C := "com/example/velvet_postings/velvetpostings/search/SparseMatrix") (Or.inr (tw25 hw)) (Or.inr (tw21 hw)) (by decide) (t := (.array .int)) (t' := .int) (by decide) (by decide)))
  clear F60
  have F78 : fd7 Z h66 a .null := F61.other W69 (Or.inr (slot_ne (C := "com/example/velvet_postings/velvetpostings/search/SparseMatrix") (Or.inr (tw27 hw)) (Or.inr (tw21 hw)) (by decide) (t := (.array .double)) (t' := .int) (by decide) (by decide)))
  clear F61
  have Z79 : n0 ≤ h66.size := by rw [W69.size]; exact Z62
  clear Z62
  have K80 : Keep h0 h66 [a] := K63.wr W69 (Or.inl (List.mem_of_getElem? (i := 0) rfl))
  clear K63
  have k81 : own_G p e below E0 T65 (mkF m 16 #[vr a, vi (0 : Int32), vi (3 : Int32), vr ros, vr cos, vr vas] [(.ref ros), (.ref a)]) := by
    intro tQ kk
    refine k72 tQ ?_
    refine XS.aloadN X67.here hx rfl (hb hby d_prog_93_method_1_code_14) rfl rfl ?_
    refine XS.aloadN X67.here hx rfl (hb hby d_prog_93_method_1_code_15) rfl rfl ?_
    exact kk
  clear k72
  obtain ⟨T82, h83, X84, e85, W86, st87⟩ := putF X67 hx hZ hown (host := "") (Or.inl (tw22 hw)) Via.refl e68 F76 F73 (Or.inr ⟨(tw23 hw), rfl, hnm⟩) (tw10 hw) (ty := (.array .int)) (by decide) rfl rfl (g := (mkF m 16 #[vr a, vi (0 : Int32), vi (3 : Int32), vr ros, vr cos, vr vas] [(.ref ros), (.ref a)])) rfl rfl (hb hby d_prog_93_method_1_code_16)
  have N88 := Fr.snoc X84 N71 ge_a
  have k89 : own_G p e below E0 T82 (mkF m 19 #[vr a, vi (0 : Int32), vi (3 : Int32), vr ros, vr cos, vr vas] []) := fun tQ kk => k81 tQ (st87 _ kk)
  clear k81 st87
  have F90 : xa8 Z h83 a := F73.wr W86
  clear F73
  have F91 : fd3 Z h83 a (.int (0 : Int32)) := F74.other W86 (Or.inr (slot_ne (C := "com/example/velvet_postings/velvetpostings/search/SparseMatrix") (Or.inr (tw19 hw)) (Or.inr (tw23 hw)) (by decide) (t := .int) (t' := (.array .int)) (by decide) (by decide)))
  clear F74
  have F92 : fd4 Z h83 a (.int (3 : Int32)) := F75.other W86 (Or.inr (slot_ne (C := "com/example/velvet_postings/velvetpostings/search/SparseMatrix") (Or.inr (tw21 hw)) (Or.inr (tw23 hw)) (by decide) (t := .int) (t' := (.array .int)) (by decide) (by decide)))
  clear F75
  have F93 : fd5 Z h83 a (.ref ros) := F76.same W86
  clear F76
  have F94 : fd6 Z h83 a .null := F77.other W86 (Or.inr (slot_ne (C := "com/example/velvet_postings/velvetpostings/search/SparseMatrix") (Or.inr (tw25 hw)) (Or.inr (tw23 hw)) (by decide) (t := (.array .int)) (t' := (.array .int)) (by decide) (by decide)))
  clear F77
  have F95 : fd7 Z h83 a .null := F78.other W86 (Or.inr (slot_ne (C := "com/example/velvet_postings/velvetpostings/search/SparseMatrix") (Or.inr (tw27 hw)) (Or.inr (tw23 hw)) (by decide) (t := (.array .double)) (t' := (.array .int)) (by decide) (by decide)))
  clear F78
  have Z96 : n0 ≤ h83.size := by rw [W86.size]; exact Z79
  clear Z79
  have K97 : Keep h0 h83 [a] := K80.wr W86 (Or.inl (List.mem_of_getElem? (i := 0) rfl))
  clear K80
  have k98 : own_G p e below E0 T82 (mkF m 22 #[vr a, vi (0 : Int32), vi (3 : Int32), vr ros, vr cos, vr vas] [(.ref cos), (.ref a)]) := by
    intro tQ kk
    refine k89 tQ ?_
    refine XS.aloadN X84.here hx rfl (hb hby d_prog_93_method_1_code_19) rfl rfl ?_
    refine XS.aload X84.here hx rfl (hb hby d_prog_93_method_1_code_20) rfl rfl ?_
    exact kk
  clear k89
  obtain ⟨T99, h100, X101, e102, W103, st104⟩ := putF X84 hx hZ hown (host := "") (Or.inl (tw24 hw)) Via.refl e85 F94 F90 (Or.inr ⟨(tw25 hw), rfl, hnm⟩) (tw10 hw) (ty := (.array .int)) (by decide) rfl rfl (g := (mkF m 22 #[vr a, vi (0 : Int32), vi (3 : Int32), vr ros, vr cos, vr vas] [(.ref cos), (.ref a)])) rfl rfl (hb hby d_prog_93_method_1_code_22)
  have N105 := Fr.snoc X101 N88 ge_a
  have k106 : own_G p e below E0 T99 (mkF m 25 #[vr a, vi (0 : Int32), vi (3 : Int32), vr ros, vr cos, vr vas] []) := fun tQ kk => k98 tQ (st104 _ kk)
  clear k98 st104
  have F107 : xa8 Z h100 a := F90.wr W103
  clear F90
  have F108 : fd3 Z h100 a (.int (0 : Int32)) := F91.other W103 (Or.inr (slot_ne (C := "com/example/velvet_postings/velvetpostings/search/SparseMatrix") (Or.inr (tw19 hw)) (Or.inr (tw25 hw)) (by decide) (t := .int) (t' := (.array .int)) (by decide) (by decide)))
  clear F91
  have F109 : fd4 Z h100 a (.int (3 : Int32)) := F92.other W103 (Or.inr (slot_ne (C := "com/example/velvet_postings/velvetpostings/search/SparseMatrix") (Or.inr (tw21 hw)) (Or.inr (tw25 hw)) (by decide) (t := .int) (t' := (.array .int)) (by decide) (by decide)))
  clear F92
  have F110 : fd5 Z h100 a (.ref ros) := F93.other W103 (Or.inr (slot_ne (C := "com/example/velvet_postings/velvetpostings/search/SparseMatrix") (Or.inr (tw23 hw)) (Or.inr (tw25 hw)) (by decide) (t := (.array .int)) (t' := (.array .int)) (by decide) (by decide)))
  clear F93
  have F111 : fd6 Z h100 a (.ref cos) := F94.same W103
  clear F94
  have F112 : fd7 Z h100 a .null := F95.other W103 (Or.inr (slot_ne (C := "com/example/velvet_postings/velvetpostings/search/SparseMatrix") (Or.inr (tw27 hw)) (Or.inr (tw25 hw)) (by decide) (t := (.array .double)) (t' := (.array .int)) (by decide) (by decide)))
  clear F95
  have Z113 : n0 ≤ h100.size := by rw [W103.size]; exact Z96
  clear Z96
  have K114 : Keep h0 h100 [a] := K97.wr W103 (Or.inl (List.mem_of_getElem? (i := 0) rfl))
  clear K97
  have k115 : own_G p e below E0 T99 (mkF m 28 #[vr a, vi (0 : Int32), vi (3 : Int32), vr ros, vr cos, vr vas] [(.ref vas), (.ref a)]) := by
    intro tQ kk
    refine k106 tQ ?_
    refine XS.aloadN X101.here hx rfl (hb hby d_prog_93_method_1_code_25) rfl rfl ?_
    refine XS.aload X101.here hx rfl (hb hby d_prog_93_method_1_code_26) rfl rfl ?_
    exact kk
  clear k106
  obtain ⟨T116, h117, X118, e119, W120, st121⟩ := putF X101 hx hZ hown (host := "") (Or.inl (tw26 hw)) Via.refl e102 F112 F107 (Or.inr ⟨(tw27 hw), rfl, hnm⟩) (tw10 hw) (ty := (.array .double)) (by decide) rfl rfl (g := (mkF m 28 #[vr a, vi (0 : Int32), vi (3 : Int32), vr ros, vr cos, vr vas] [(.ref vas), (.ref a)])) rfl rfl (hb hby d_prog_93_method_1_code_28)
  have N122 := Fr.snoc X118 N105 ge_a
  have k123 : own_G p e below E0 T116 (mkF m 31 #[vr a, vi (0 : Int32), vi (3 : Int32), vr ros, vr cos, vr vas] []) := fun tQ kk => k115 tQ (st121 _ kk)
  clear k115 st121
  have F124 : xa8 Z h117 a := F107.wr W120
  clear F107
  have F125 : fd3 Z h117 a (.int (0 : Int32)) := F108.other W120 (Or.inr (slot_ne (C := "com/example/velvet_postings/velvetpostings/search/SparseMatrix") (Or.inr (tw19 hw)) (Or.inr (tw27 hw)) (by decide) (t := .int) (t' := (.array .double)) (by decide) (by decide)))
  clear F108
  have F126 : fd4 Z h117 a (.int (3 : Int32)) := F109.other W120 (Or.inr (slot_ne (C := "com/example/velvet_postings/velvetpostings/search/SparseMatrix") (Or.inr (tw21 hw)) (Or.inr (tw27 hw)) (by decide) (t := .int) (t' := (.array .double)) (by decide) (by decide)))
  clear F109
  have F127 : fd5 Z h117 a (.ref ros) := F110.other W120 (Or.inr (slot_ne (C := "com/example/velvet_postings/velvetpostings/search/SparseMatrix") (Or.inr (tw23 hw)) (Or.inr (tw27 hw)) (by decide) (t := (.array .int)) (t' := (.array .double)) (by decide) (by decide)))
  clear F110
  have F128 : fd6 Z h117 a (.ref cos) := F111.other W120 (Or.inr (slot_ne (C := "com/example/velvet_postings/velvetpostings/search/SparseMatrix") (Or.inr (tw25 hw)) (Or.inr (tw27 hw)) (by decide) (t := (.array .int)) (t' := (.array .double)) (by decide) (by decide)))
  clear F111
  have F129 : fd7 Z h117 a (.ref vas) := F112.same W120
  clear F112
  have Z130 : n0 ≤ h117.size := by rw [W120.size]; exact Z113
  clear Z113
  have K131 : Keep h0 h117 [a] := K114.wr W120 (Or.inl (List.mem_of_getElem? (i := 0) rfl))
  clear K114
  obtain ⟨fs, hr, hrun, hended, hW, hsame⟩ := X118.leave (v := none) (fun _ => rfl)
  have hrun0 := k123 _ (X118.returnOut hx Bd.returns (hb hby d_prog_93_method_1_code_31) hr)
  subst hE0
  refine ⟨_, _, hrun0, hrun, hended, _, _, rfl, ?_, ⟨_, rfl⟩, hW, hsame.mono (by decide) (by decide)⟩
  show QrmI0 Z a ros cos vas h0 n0 _ T116.heap _
  rw [e119]
  exact ⟨rfl, N122, K131, F125, F126, F127, F128, F129⟩
def QrmI1 (Z : State) (a : Addr) (ros : Addr) (cos : Addr) (vas : Addr) (h0 : Heap) (n0 : Nat) (vQ : Option Value) (hQ : Heap) (LQ : List Loc) : Prop := vQ = none ∧ Fr n0 LQ ∧ Keep h0 hQ [a] ∧ (fd3 Z hQ a (.int (1 : Int32))) ∧ (fd4 Z hQ a (.int (3 : Int32))) ∧ (fd5 Z hQ a (.ref ros)) ∧ (fd6 Z hQ a (.ref cos)) ∧ (fd7 Z hQ a (.ref vas))
theorem ef_rmI1 (m : MethodId) (a : Addr) (ros : Addr) (cos : Addr) (vas : Addr) : entryFrame m #[(.ref a), (.int (1 : Int32)), (.int (3 : Int32)), (.ref ros), (.ref cos), (.ref vas)] 6 = mkF m 0 #[vr a, vi (1 : Int32), vi (3 : Int32), vr ros, vr cos, vr vas] [] := by first | (simp [entryFrame, mkF, argsToLocals, Value.category]; done) | rfl
set_option maxRecDepth 65536 in
set_option maxHeartbeats 40000000 in
theorem rmI1 (l : Launch) (Z : State) (a0 : Array Value) (hw : ∀ d ∈ tables_1, d.before a0 Z = true) (ws : List Jvm.Cond) (a : Addr) (ros : Addr) (cos : Addr) (vas : Addr) (h0 : Heap) (n0 : Nat) (Z0 : n0 ≤ h0.size) (E1 : xa8 Z h0 a) (F0 : fd3 Z h0 a (.int (0 : Int32))) (F1 : fd4 Z h0 a (.int (0 : Int32))) (F2 : fd5 Z h0 a .null) (F3 : fd6 Z h0 a .null) (F4 : fd7 Z h0 a .null) (ge_a : n0 ≤ a) :
    MetFree l mn9 (head1 (Jvm.Cond.code mn9 prog_93_method_1_code 6 none :: ws) ({ frames := 1, cells := 0, slots := 0, locals := 12 } : Room)) (fun aA U => aA = #[(.ref a), (.int (1 : Int32)), (.int (3 : Int32)), (.ref ros), (.ref cos), (.ref vas)] ∧ Z.Warmed39 U.vm ∧ U.heap = h0) (fun _ _ _ _ _ => True) (fun _ U o U' => ∃ vR LR, o = .returned vR ∧ QrmI1 Z a ros cos vas h0 n0 vR U'.heap LR ∧ FrameEnd U o U' LR ({ frames := 1, cells := 0, slots := 0, locals := 12 } : Room).cells ({ frames := 1, cells := 0, slots := 0, locals := 12 } : Room).slots) := by
  refine MetFree.of_bodySF (plainFor_of_name pn_com_example_velvet_postings_velvetpostings_search_SparseMatrix) hisR ?_
  intro p e s m args below meth c s₁ Bd hml0 hPre hKk
  obtain ⟨rfl, hZ, hh⟩ := hPre
  have hx := Bd.exec
  have hby := Bd.bytes
  skip
  have hml : c.maxLocals = 6 := hml0
  have hown : s.vm.findClass "com/example/velvet_postings/velvetpostings/search/SparseMatrix" = some m.cls := findClass_of_methodNamed Bd.named
  have hnm := (name_of_methodNamed Bd.named Bd.method).1
  have X0 : Stand p l e ({ frames := 1, cells := 0, slots := 0, locals := 12 } : Room) s m #[(.ref a), (.int (1 : Int32)), (.int (3 : Int32)), (.ref ros), (.ref cos), (.ref vas)] below meth c s₁ [] 0 0 := Stand.of_body Bd
  have e0 : s₁.heap = h0 := by rw [← hh, Bd.state]; rfl
  have N0 := Fr.nil n0
  obtain ⟨E0, hE0⟩ : ∃ zE : State, zE = s₁.setTop (entryFrame m #[(.ref a), (.int (1 : Int32)), (.int (3 : Int32)), (.ref ros), (.ref cos), (.ref vas)] 6) := ⟨_, rfl⟩
  have k0 : own_G p e below E0 s₁ (mkF m 0 #[vr a, vi (1 : Int32), vi (3 : Int32), vr ros, vr cos, vr vas] []) := fun tz kz => hE0 ▸ castTop (ef_rmI1 m a ros cos vas) kz
  have K0 : Keep h0 h0 [a] := Keep.refl _ _
  have k132 : own_G p e below E0 s₁ (mkF m 1 #[vr a, vi (1 : Int32), vi (3 : Int32), vr ros, vr cos, vr vas] [(.ref a)]) := by
    intro tQ kk
    refine k0 tQ ?_
    refine XS.aloadN X0.here hx rfl (hb hby d_prog_93_method_1_code_0) rfl rfl ?_
    exact kk
  clear k0
  obtain ⟨T133, X134, e135, st136⟩ := initO X0 hx hZ hown (tw15 hw) (tw16 hw) (tw17 hw) e0 (g := (mkF m 1 #[vr a, vi (1 : Int32), vi (3 : Int32), vr ros, vr cos, vr vas] [(.ref a)])) rfl (by rw [hml]; rfl) rfl (hb hby d_prog_93_method_1_code_1) (by decide) (W := 0) (by show 2 * 0 + _ ≤ _; exact Nat.le_of_eq rfl) (by decide)
  have k137 : own_G p e below E0 T133 (mkF m 4 #[vr a, vi (1 : Int32), vi (3 : Int32), vr ros, vr cos, vr vas] []) := fun tQ kk => k132 tQ (st136 _ kk)
  clear k132 st136
  have k138 : own_G p e below E0 T133 (mkF m 6 #[vr a, vi (1 : Int32), vi (3 : Int32), vr ros, vr cos, vr vas] [(.int (1 : Int32)), (.ref a)]) := by
    intro tQ kk
    refine k137 tQ ?_
    refine XS.aloadN X134.here hx rfl (hb hby d_prog_93_method_1_code_4) rfl rfl ?_
    refine XS.iloadN X134.here hx rfl (hb hby d_prog_93_method_1_code_5) rfl ?_
    exact kk
  clear k137
  obtain ⟨T139, h140, X141, e142, W143, st144⟩ := putF X134 hx hZ hown (host := "") (Or.inl (tw18 hw)) Via.refl e135 F0 E1 (Or.inr ⟨(tw19 hw), rfl, hnm⟩) (tw10 hw) (ty := .int) (by decide) rfl rfl (g := (mkF m 6 #[vr a, vi (1 : Int32), vi (3 : Int32), vr ros, vr cos, vr vas] [(.int (1 : Int32)), (.ref a)])) rfl rfl (hb hby d_prog_93_method_1_code_6)
  have N145 := Fr.snoc X141 N0 ge_a
  have k146 : own_G p e below E0 T139 (mkF m 9 #[vr a, vi (1 : Int32), vi (3 : Int32), vr ros, vr cos, vr vas] []) := fun tQ kk => k138 tQ (st144 _ kk)
  clear k138 st144
  have F147 : xa8 Z h140 a := E1.wr W143
  clear E1
  have F148 : fd3 Z h140 a (.int (1 : Int32)) := F0.same W143
  clear F0
  have F149 : fd4 Z h140 a (.int (0 : Int32)) := F1.other W143 (Or.inr (slot_ne (C := "com/example/velvet_postings/velvetpostings/search/SparseMatrix") (Or.inr (tw21 hw)) (Or.inr (tw19 hw)) (by decide) (t := .int) (t' := .int) (by decide) (by decide)))
  clear F1
  have F150 : fd5 Z h140 a .null := F2.other W143 (Or.inr (slot_ne (C := "com/example/velvet_postings/velvetpostings/search/SparseMatrix") (Or.inr (tw23 hw)) (Or.inr (tw19 hw)) (by decide) (t := (.array .int)) (t' := .int) (by decide) (by decide)))
  clear F2
  have F151 : fd6 Z h140 a .null := F3.other W143 (Or.inr (slot_ne (C := "com/example/velvet_postings/velvetpostings/search/SparseMatrix") (Or.inr (tw25 hw)) (Or.inr (tw19 hw)) (by decide) (t := (.array .int)) (t' := .int) (by decide) (by decide)))
  clear F3
  have F152 : fd7 Z h140 a .null := F4.other W143 (Or.inr (slot_ne (C := "com/example/velvet_postings/velvetpostings/search/SparseMatrix") (Or.inr (tw27 hw)) (Or.inr (tw19 hw)) (by decide) (t := (.array .double)) (t' := .int) (by decide) (by decide)))
  clear F4
  have Z153 : n0 ≤ h140.size := by rw [W143.size]; exact Z0
  have K154 : Keep h0 h140 [a] := K0.wr W143 (Or.inl (List.mem_of_getElem? (i := 0) rfl))
  have k155 : own_G p e below E0 T139 (mkF m 11 #[vr a, vi (1 : Int32), vi (3 : Int32), vr ros, vr cos, vr vas] [(.int (3 : Int32)), (.ref a)]) := by
    intro tQ kk
    refine k146 tQ ?_
    refine XS.aloadN X141.here hx rfl (hb hby d_prog_93_method_1_code_9) rfl rfl ?_
    refine XS.iloadN X141.here hx rfl (hb hby d_prog_93_method_1_code_10) rfl ?_
    exact kk
  clear k146
  obtain ⟨T156, h157, X158, e159, W160, st161⟩ := putF X141 hx hZ hown (host := "") (Or.inl (tw20 hw)) Via.refl e142 F149 F147 (Or.inr ⟨(tw21 hw), rfl, hnm⟩) (tw10 hw) (ty := .int) (by decide) rfl rfl (g := (mkF m 11 #[vr a, vi (1 : Int32), vi (3 : Int32), vr ros, vr cos, vr vas] [(.int (3 : Int32)), (.ref a)])) rfl rfl (hb hby d_prog_93_method_1_code_11)
  have N162 := Fr.snoc X158 N145 ge_a
  have k163 : own_G p e below E0 T156 (mkF m 14 #[vr a, vi (1 : Int32), vi (3 : Int32), vr ros, vr cos, vr vas] []) := fun tQ kk => k155 tQ (st161 _ kk)
  clear k155 st161
  have F164 : xa8 Z h157 a := F147.wr W160
  clear F147
  have F165 : fd3 Z h157 a (.int (1 : Int32)) := F148.other W160 (Or.inr (slot_ne (C := "com/example/velvet_postings/velvetpostings/search/SparseMatrix") (Or.inr (tw19 hw)) (Or.inr (tw21 hw)) (by decide) (t := .int) (t' := .int) (by decide) (by decide)))
  clear F148
  have F166 : fd4 Z h157 a (.int (3 : Int32)) := F149.same W160
  clear F149
  have F167 : fd5 Z h157 a .null := F150.other W160 (Or.inr (slot_ne (C := "com/example/velvet_postings/velvetpostings/search/SparseMatrix") (Or.inr (tw23 hw)) (Or.inr (tw21 hw)) (by decide) (t := (.array .int)) (t' := .int) (by decide) (by decide)))
  clear F150
  have F168 : fd6 Z h157 a .null := F151.other W160 (Or.inr (slot_ne (C := "com/example/velvet_postings/velvetpostings/search/SparseMatrix") (Or.inr (tw25 hw)) (Or.inr (tw21 hw)) (by decide) (t := (.array .int)) (t' := .int) (by decide) (by decide)))
  clear F151
  have F169 : fd7 Z h157 a .null := F152.other W160 (Or.inr (slot_ne (C := "com/example/velvet_postings/velvetpostings/search/SparseMatrix") (Or.inr (tw27 hw)) (Or.inr (tw21 hw)) (by decide) (t := (.array .double)) (t' := .int) (by decide) (by decide)))
  clear F152
  have Z170 : n0 ≤ h157.size := by rw [W160.size]; exact Z153
  clear Z153
  have K171 : Keep h0 h157 [a] := K154.wr W160 (Or.inl (List.mem_of_getElem? (i := 0) rfl))
  clear K154
  have k172 : own_G p e below E0 T156 (mkF m 16 #[vr a, vi (1 : Int32), vi (3 : Int32), vr ros, vr cos, vr vas] [(.ref ros), (.ref a)]) := by
    intro tQ kk
    refine k163 tQ ?_
    refine XS.aloadN X158.here hx rfl (hb hby d_prog_93_method_1_code_14) rfl rfl ?_
    refine XS.aloadN X158.here hx rfl (hb hby d_prog_93_method_1_code_15) rfl rfl ?_
    exact kk
  clear k163
  obtain ⟨T173, h174, X175, e176, W177, st178⟩ := putF X158 hx hZ hown (host := "") (Or.inl (tw22 hw)) Via.refl e159 F167 F164 (Or.inr ⟨(tw23 hw), rfl, hnm⟩) (tw10 hw) (ty := (.array .int)) (by decide) rfl rfl (g := (mkF m 16 #[vr a, vi (1 : Int32), vi (3 : Int32), vr ros, vr cos, vr vas] [(.ref ros), (.ref a)])) rfl rfl (hb hby d_prog_93_method_1_code_16)
  have N179 := Fr.snoc X175 N162 ge_a
  have k180 : own_G p e below E0 T173 (mkF m 19 #[vr a, vi (1 : Int32), vi (3 : Int32), vr ros, vr cos, vr vas] []) := fun tQ kk => k172 tQ (st178 _ kk)
  clear k172 st178
  have F181 : xa8 Z h174 a := F164.wr W177
  clear F164
  have F182 : fd3 Z h174 a (.int (1 : Int32)) := F165.other W177 (Or.inr (slot_ne (C := "com/example/velvet_postings/velvetpostings/search/SparseMatrix") (Or.inr (tw19 hw)) (Or.inr (tw23 hw)) (by decide) (t := .int) (t' := (.array .int)) (by decide) (by decide)))
  clear F165
  have F183 : fd4 Z h174 a (.int (3 : Int32)) := F166.other W177 (Or.inr (slot_ne (C := "com/example/velvet_postings/velvetpostings/search/SparseMatrix") (Or.inr (tw21 hw)) (Or.inr (tw23 hw)) (by decide) (t := .int) (t' := (.array .int)) (by decide) (by decide)))
  clear F166
  have F184 : fd5 Z h174 a (.ref ros) := F167.same W177
  clear F167
  have F185 : fd6 Z h174 a .null := F168.other W177 (Or.inr (slot_ne (C := "com/example/velvet_postings/velvetpostings/search/SparseMatrix") (Or.inr (tw25 hw)) (Or.inr (tw23 hw)) (by decide) (t := (.array .int)) (t' := (.array .int)) (by decide) (by decide)))
  clear F168
  have F186 : fd7 Z h174 a .null := F169.other W177 (Or.inr (slot_ne (C := "com/example/velvet_postings/velvetpostings/search/SparseMatrix") (Or.inr (tw27 hw)) (Or.inr (tw23 hw)) (by decide) (t := (.array .double)) (t' := (.array .int)) (by decide) (by decide)))
  clear F169
  have Z187 : n0 ≤ h174.size := by rw [W177.size]; exact Z170
  clear Z170
  have K188 : Keep h0 h174 [a] := K171.wr W177 (Or.inl (List.mem_of_getElem? (i := 0) rfl))
  clear K171
  have k189 : own_G p e below E0 T173 (mkF m 22 #[vr a, vi (1 : Int32), vi (3 : Int32), vr ros, vr cos, vr vas] [(.ref cos), (.ref a)]) := by
    intro tQ kk
    refine k180 tQ ?_
    refine XS.aloadN X175.here hx rfl (hb hby d_prog_93_method_1_code_19) rfl rfl ?_
    refine XS.aload X175.here hx rfl (hb hby d_prog_93_method_1_code_20) rfl rfl ?_
    exact kk
  clear k180
  obtain ⟨T190, h191, X192, e193, W194, st195⟩ := putF X175 hx hZ hown (host := "") (Or.inl (tw24 hw)) Via.refl e176 F185 F181 (Or.inr ⟨(tw25 hw), rfl, hnm⟩) (tw10 hw) (ty := (.array .int)) (by decide) rfl rfl (g := (mkF m 22 #[vr a, vi (1 : Int32), vi (3 : Int32), vr ros, vr cos, vr vas] [(.ref cos), (.ref a)])) rfl rfl (hb hby d_prog_93_method_1_code_22)
  have N196 := Fr.snoc X192 N179 ge_a
  have k197 : own_G p e below E0 T190 (mkF m 25 #[vr a, vi (1 : Int32), vi (3 : Int32), vr ros, vr cos, vr vas] []) := fun tQ kk => k189 tQ (st195 _ kk)
  clear k189 st195
  have F198 : xa8 Z h191 a := F181.wr W194
  clear F181
  have F199 : fd3 Z h191 a (.int (1 : Int32)) := F182.other W194 (Or.inr (slot_ne (C := "com/example/velvet_postings/velvetpostings/search/SparseMatrix") (Or.inr (tw19 hw)) (Or.inr (tw25 hw)) (by decide) (t := .int) (t' := (.array .int)) (by decide) (by decide)))
  clear F182
  have F200 : fd4 Z h191 a (.int (3 : Int32)) := F183.other W194 (Or.inr (slot_ne (C := "com/example/velvet_postings/velvetpostings/search/SparseMatrix") (Or.inr (tw21 hw)) (Or.inr (tw25 hw)) (by decide) (t := .int) (t' := (.array .int)) (by decide) (by decide)))
  clear F183
  have F201 : fd5 Z h191 a (.ref ros) := F184.other W194 (Or.inr (slot_ne (C := "com/example/velvet_postings/velvetpostings/search/SparseMatrix") (Or.inr (tw23 hw)) (Or.inr (tw25 hw)) (by decide) (t := (.array .int)) (t' := (.array .int)) (by decide) (by decide)))
  clear F184
  have F202 : fd6 Z h191 a (.ref cos) := F185.same W194
  clear F185
  have F203 : fd7 Z h191 a .null := F186.other W194 (Or.inr (slot_ne (C := "com/example/velvet_postings/velvetpostings/search/SparseMatrix") (Or.inr (tw27 hw)) (Or.inr (tw25 hw)) (by decide) (t := (.array .double)) (t' := (.array .int)) (by decide) (by decide)))
  clear F186
  have Z204 : n0 ≤ h191.size := by rw [W194.size]; exact Z187
  clear Z187
  have K205 : Keep h0 h191 [a] := K188.wr W194 (Or.inl (List.mem_of_getElem? (i := 0) rfl))
  clear K188
  have k206 : own_G p e below E0 T190 (mkF m 28 #[vr a, vi (1 : Int32), vi (3 : Int32), vr ros, vr cos, vr vas] [(.ref vas), (.ref a)]) := by
    intro tQ kk
    refine k197 tQ ?_
    refine XS.aloadN X192.here hx rfl (hb hby d_prog_93_method_1_code_25) rfl rfl ?_
    refine XS.aload X192.here hx rfl (hb hby d_prog_93_method_1_code_26) rfl rfl ?_
    exact kk
  clear k197
  obtain ⟨T207, h208, X209, e210, W211, st212⟩ := putF X192 hx hZ hown (host := "") (Or.inl (tw26 hw)) Via.refl e193 F203 F198 (Or.inr ⟨(tw27 hw), rfl, hnm⟩) (tw10 hw) (ty := (.array .double)) (by decide) rfl rfl (g := (mkF m 28 #[vr a, vi (1 : Int32), vi (3 : Int32), vr ros, vr cos, vr vas] [(.ref vas), (.ref a)])) rfl rfl (hb hby d_prog_93_method_1_code_28)
  have N213 := Fr.snoc X209 N196 ge_a
  have k214 : own_G p e below E0 T207 (mkF m 31 #[vr a, vi (1 : Int32), vi (3 : Int32), vr ros, vr cos, vr vas] []) := fun tQ kk => k206 tQ (st212 _ kk)
  clear k206 st212
  have F215 : xa8 Z h208 a := F198.wr W211
  clear F198
  have F216 : fd3 Z h208 a (.int (1 : Int32)) := F199.other W211 (Or.inr (slot_ne (C := "com/example/velvet_postings/velvetpostings/search/SparseMatrix") (Or.inr (tw19 hw)) (Or.inr (tw27 hw)) (by decide) (t := .int) (t' := (.array .double)) (by decide) (by decide)))
  clear F199
  have F217 : fd4 Z h208 a (.int (3 : Int32)) := F200.other W211 (Or.inr (slot_ne (C := "com/example/velvet_postings/velvetpostings/search/SparseMatrix") (Or.inr (tw21 hw)) (Or.inr (tw27 hw)) (by decide) (t := .int) (t' := (.array .double)) (by decide) (by decide)))
  clear F200
  have F218 : fd5 Z h208 a (.ref ros) := F201.other W211 (Or.inr (slot_ne (C := "com/example/velvet_postings/velvetpostings/search/SparseMatrix") (Or.inr (tw23 hw)) (Or.inr (tw27 hw)) (by decide) (t := (.array .int)) (t' := (.array .double)) (by decide) (by decide)))
  clear F201
  have F219 : fd6 Z h208 a (.ref cos) := F202.other W211 (Or.inr (slot_ne (C := "com/example/velvet_postings/velvetpostings/search/SparseMatrix") (Or.inr (tw25 hw)) (Or.inr (tw27 hw)) (by decide) (t := (.array .int)) (t' := (.array .double)) (by decide) (by decide)))
  clear F202
  have F220 : fd7 Z h208 a (.ref vas) := F203.same W211
  clear F203
  have Z221 : n0 ≤ h208.size := by rw [W211.size]; exact Z204
  clear Z204
  have K222 : Keep h0 h208 [a] := K205.wr W211 (Or.inl (List.mem_of_getElem? (i := 0) rfl))
  clear K205
  obtain ⟨fs, hr, hrun, hended, hW, hsame⟩ := X209.leave (v := none) (fun _ => rfl)
  have hrun0 := k214 _ (X209.returnOut hx Bd.returns (hb hby d_prog_93_method_1_code_31) hr)
  subst hE0
  refine ⟨_, _, hrun0, hrun, hended, _, _, rfl, ?_, ⟨_, rfl⟩, hW, hsame.mono (by decide) (by decide)⟩
  show QrmI1 Z a ros cos vas h0 n0 _ T207.heap _
  rw [e210]
  exact ⟨rfl, N213, K222, F216, F217, F218, F219, F220⟩
def QrmI2 (Z : State) (a : Addr) (ros : Addr) (cos : Addr) (vas : Addr) (h0 : Heap) (n0 : Nat) (vQ : Option Value) (hQ : Heap) (LQ : List Loc) : Prop := vQ = none ∧ Fr n0 LQ ∧ Keep h0 hQ [a] ∧ (fd3 Z hQ a (.int (2 : Int32))) ∧ (fd4 Z hQ a (.int (3 : Int32))) ∧ (fd5 Z hQ a (.ref ros)) ∧ (fd6 Z hQ a (.ref cos)) ∧ (fd7 Z hQ a (.ref vas))
theorem ef_rmI2 (m : MethodId) (a : Addr) (ros : Addr) (cos : Addr) (vas : Addr) : entryFrame m #[(.ref a), (.int (2 : Int32)), (.int (3 : Int32)), (.ref ros), (.ref cos), (.ref vas)] 6 = mkF m 0 #[vr a, vi (2 : Int32), vi (3 : Int32), vr ros, vr cos, vr vas] [] := by first | (simp [entryFrame, mkF, argsToLocals, Value.category]; done) | rfl
set_option maxRecDepth 65536 in
set_option maxHeartbeats 40000000 in
theorem rmI2 (l : Launch) (Z : State) (a0 : Array Value) (hw : ∀ d ∈ tables_1, d.before a0 Z = true) (ws : List Jvm.Cond) (a : Addr) (ros : Addr) (cos : Addr) (vas : Addr) (h0 : Heap) (n0 : Nat) (Z0 : n0 ≤ h0.size) (E1 : xa8 Z h0 a) (F0 : fd3 Z h0 a (.int (0 : Int32))) (F1 : fd4 Z h0 a (.int (0 : Int32))) (F2 : fd5 Z h0 a .null) (F3 : fd6 Z h0 a .null) (F4 : fd7 Z h0 a .null) (ge_a : n0 ≤ a) :
    MetFree l mn9 (head1 (Jvm.Cond.code mn9 prog_93_method_1_code 6 none :: ws) ({ frames := 1, cells := 0, slots := 0, locals := 12 } : Room)) (fun aA U => aA = #[(.ref a), (.int (2 : Int32)), (.int (3 : Int32)), (.ref ros), (.ref cos), (.ref vas)] ∧ Z.Warmed39 U.vm ∧ U.heap = h0) (fun _ _ _ _ _ => True) (fun _ U o U' => ∃ vR LR, o = .returned vR ∧ QrmI2 Z a ros cos vas h0 n0 vR U'.heap LR ∧ FrameEnd U o U' LR ({ frames := 1, cells := 0, slots := 0, locals := 12 } : Room).cells ({ frames := 1, cells := 0, slots := 0, locals := 12 } : Room).slots) := by
  refine MetFree.of_bodySF (plainFor_of_name pn_com_example_velvet_postings_velvetpostings_search_SparseMatrix) hisR ?_
  intro p e s m args below meth c s₁ Bd hml0 hPre hKk
  obtain ⟨rfl, hZ, hh⟩ := hPre
  have hx := Bd.exec
  have hby := Bd.bytes
  skip
  have hml : c.maxLocals = 6 := hml0
  have hown : s.vm.findClass "com/example/velvet_postings/velvetpostings/search/SparseMatrix" = some m.cls := findClass_of_methodNamed Bd.named
  have hnm := (name_of_methodNamed Bd.named Bd.method).1
  have X0 : Stand p l e ({ frames := 1, cells := 0, slots := 0, locals := 12 } : Room) s m #[(.ref a), (.int (2 : Int32)), (.int (3 : Int32)), (.ref ros), (.ref cos), (.ref vas)] below meth c s₁ [] 0 0 := Stand.of_body Bd
  have e0 : s₁.heap = h0 := by rw [← hh, Bd.state]; rfl
  have N0 := Fr.nil n0
  obtain ⟨E0, hE0⟩ : ∃ zE : State, zE = s₁.setTop (entryFrame m #[(.ref a), (.int (2 : Int32)), (.int (3 : Int32)), (.ref ros), (.ref cos), (.ref vas)] 6) := ⟨_, rfl⟩
  have k0 : own_G p e below E0 s₁ (mkF m 0 #[vr a, vi (2 : Int32), vi (3 : Int32), vr ros, vr cos, vr vas] []) := fun tz kz => hE0 ▸ castTop (ef_rmI2 m a ros cos vas) kz
  have K0 : Keep h0 h0 [a] := Keep.refl _ _
  have k223 : own_G p e below E0 s₁ (mkF m 1 #[vr a, vi (2 : Int32), vi (3 : Int32), vr ros, vr cos, vr vas] [(.ref a)]) := by
    intro tQ kk
    refine k0 tQ ?_
    refine XS.aloadN X0.here hx rfl (hb hby d_prog_93_method_1_code_0) rfl rfl ?_
    exact kk
  clear k0
  obtain ⟨T224, X225, e226, st227⟩ := initO X0 hx hZ hown (tw15 hw) (tw16 hw) (tw17 hw) e0 (g := (mkF m 1 #[vr a, vi (2 : Int32), vi (3 : Int32), vr ros, vr cos, vr vas] [(.ref a)])) rfl (by rw [hml]; rfl) rfl (hb hby d_prog_93_method_1_code_1) (by decide) (W := 0) (by show 2 * 0 + _ ≤ _; exact Nat.le_of_eq rfl) (by decide)
  have k228 : own_G p e below E0 T224 (mkF m 4 #[vr a, vi (2 : Int32), vi (3 : Int32), vr ros, vr cos, vr vas] []) := fun tQ kk => k223 tQ (st227 _ kk)
  clear k223 st227
  have k229 : own_G p e below E0 T224 (mkF m 6 #[vr a, vi (2 : Int32), vi (3 : Int32), vr ros, vr cos, vr vas] [(.int (2 : Int32)), (.ref a)]) := by
    intro tQ kk
    refine k228 tQ ?_
    refine XS.aloadN X225.here hx rfl (hb hby d_prog_93_method_1_code_4) rfl rfl ?_
    refine XS.iloadN X225.here hx rfl (hb hby d_prog_93_method_1_code_5) rfl ?_
    exact kk
  clear k228
  obtain ⟨T230, h231, X232, e233, W234, st235⟩ := putF X225 hx hZ hown (host := "") (Or.inl (tw18 hw)) Via.refl e226 F0 E1 (Or.inr ⟨(tw19 hw), rfl, hnm⟩) (tw10 hw) (ty := .int) (by decide) rfl rfl (g := (mkF m 6 #[vr a, vi (2 : Int32), vi (3 : Int32), vr ros, vr cos, vr vas] [(.int (2 : Int32)), (.ref a)])) rfl rfl (hb hby d_prog_93_method_1_code_6)
  have N236 := Fr.snoc X232 N0 ge_a
  have k237 : own_G p e below E0 T230 (mkF m 9 #[vr a, vi (2 : Int32), vi (3 : Int32), vr ros, vr cos, vr vas] []) := fun tQ kk => k229 tQ (st235 _ kk)
  clear k229 st235
  have F238 : xa8 Z h231 a := E1.wr W234
  clear E1
  have F239 : fd3 Z h231 a (.int (2 : Int32)) := F0.same W234
  clear F0
  have F240 : fd4 Z h231 a (.int (0 : Int32)) := F1.other W234 (Or.inr (slot_ne (C := "com/example/velvet_postings/velvetpostings/search/SparseMatrix") (Or.inr (tw21 hw)) (Or.inr (tw19 hw)) (by decide) (t := .int) (t' := .int) (by decide) (by decide)))
  clear F1
  have F241 : fd5 Z h231 a .null := F2.other W234 (Or.inr (slot_ne (C := "com/example/velvet_postings/velvetpostings/search/SparseMatrix") (Or.inr (tw23 hw)) (Or.inr (tw19 hw)) (by decide) (t := (.array .int)) (t' := .int) (by decide) (by decide)))
  clear F2
  have F242 : fd6 Z h231 a .null := F3.other W234 (Or.inr (slot_ne (C := "com/example/velvet_postings/velvetpostings/search/SparseMatrix") (Or.inr (tw25 hw)) (Or.inr (tw19 hw)) (by decide) (t := (.array .int)) (t' := .int) (by decide) (by decide)))
  clear F3
  have F243 : fd7 Z h231 a .null := F4.other W234 (Or.inr (slot_ne (C := "com/example/velvet_postings/velvetpostings/search/SparseMatrix") (Or.inr (tw27 hw)) (Or.inr (tw19 hw)) (by decide) (t := (.array .double)) (t' := .int) (by decide) (by decide)))
  clear F4
  have Z244 : n0 ≤ h231.size := by rw [W234.size]; exact Z0
  have K245 : Keep h0 h231 [a] := K0.wr W234 (Or.inl (List.mem_of_getElem? (i := 0) rfl))
  have k246 : own_G p e below E0 T230 (mkF m 11 #[vr a, vi (2 : Int32), vi (3 : Int32), vr ros, vr cos, vr vas] [(.int (3 : Int32)), (.ref a)]) := by
    intro tQ kk
    refine k237 tQ ?_
    refine XS.aloadN X232.here hx rfl (hb hby d_prog_93_method_1_code_9) rfl rfl ?_
    refine XS.iloadN X232.here hx rfl (hb hby d_prog_93_method_1_code_10) rfl ?_
    exact kk
  clear k237
  obtain ⟨T247, h248, X249, e250, W251, st252⟩ := putF X232 hx hZ hown (host := "") (Or.inl (tw20 hw)) Via.refl e233 F240 F238 (Or.inr ⟨(tw21 hw), rfl, hnm⟩) (tw10 hw) (ty := .int) (by decide) rfl rfl (g := (mkF m 11 #[vr a, vi (2 : Int32), vi (3 : Int32), vr ros, vr cos, vr vas] [(.int (3 : Int32)), (.ref a)])) rfl rfl (hb hby d_prog_93_method_1_code_11)
  have N253 := Fr.snoc X249 N236 ge_a
  have k254 : own_G p e below E0 T247 (mkF m 14 #[vr a, vi (2 : Int32), vi (3 : Int32), vr ros, vr cos, vr vas] []) := fun tQ kk => k246 tQ (st252 _ kk)
  clear k246 st252
  have F255 : xa8 Z h248 a := F238.wr W251
  clear F238
  have F256 : fd3 Z h248 a (.int (2 : Int32)) := F239.other W251 (Or.inr (slot_ne (C := "com/example/velvet_postings/velvetpostings/search/SparseMatrix") (Or.inr (tw19 hw)) (Or.inr (tw21 hw)) (by decide) (t := .int) (t' := .int) (by decide) (by decide)))
  clear F239
  have F257 : fd4 Z h248 a (.int (3 : Int32)) := F240.same W251
  clear F240
  have F258 : fd5 Z h248 a .null := F241.other W251 (Or.inr (slot_ne (C := "com/example/velvet_postings/velvetpostings/search/SparseMatrix") (Or.inr (tw23 hw)) (Or.inr (tw21 hw)) (by decide) (t := (.array .int)) (t' := .int) (by decide) (by decide)))
  clear F241
  have F259 : fd6 Z h248 a .null := F242.other W251 (Or.inr (slot_ne (C := "com/example/velvet_postings/velvetpostings/search/SparseMatrix") (Or.inr (tw25 hw)) (Or.inr (tw21 hw)) (by decide) (t := (.array .int)) (t' := .int) (by decide) (by decide)))
  clear F242
  have F260 : fd7 Z h248 a .null := F243.other W251 (Or.inr (slot_ne (C := "com/example/velvet_postings/velvetpostings/search/SparseMatrix") (Or.inr (tw27 hw)) (Or.inr (tw21 hw)) (by decide) (t := (.array .double)) (t' := .int) (by decide) (by decide)))
  clear F243
  have Z261 : n0 ≤ h248.size := by rw [W251.size]; exact Z244
  clear Z244
  have K262 : Keep h0 h248 [a] := K245.wr W251 (Or.inl (List.mem_of_getElem? (i := 0) rfl))
  clear K245
  have k263 : own_G p e below E0 T247 (mkF m 16 #[vr a, vi (2 : Int32), vi (3 : Int32), vr ros, vr cos, vr vas] [(.ref ros), (.ref a)]) := by
    intro tQ kk
    refine k254 tQ ?_
    refine XS.aloadN X249.here hx rfl (hb hby d_prog_93_method_1_code_14) rfl rfl ?_
    refine XS.aloadN X249.here hx rfl (hb hby d_prog_93_method_1_code_15) rfl rfl ?_
    exact kk
  clear k254
  obtain ⟨T264, h265, X266, e267, W268, st269⟩ := putF X249 hx hZ hown (host := "") (Or.inl (tw22 hw)) Via.refl e250 F258 F255 (Or.inr ⟨(tw23 hw), rfl, hnm⟩) (tw10 hw) (ty := (.array .int)) (by decide) rfl rfl (g := (mkF m 16 #[vr a, vi (2 : Int32), vi (3 : Int32), vr ros, vr cos, vr vas] [(.ref ros), (.ref a)])) rfl rfl (hb hby d_prog_93_method_1_code_16)
  have N270 := Fr.snoc X266 N253 ge_a
  have k271 : own_G p e below E0 T264 (mkF m 19 #[vr a, vi (2 : Int32), vi (3 : Int32), vr ros, vr cos, vr vas] []) := fun tQ kk => k263 tQ (st269 _ kk)
  clear k263 st269
  have F272 : xa8 Z h265 a := F255.wr W268
  clear F255
  have F273 : fd3 Z h265 a (.int (2 : Int32)) := F256.other W268 (Or.inr (slot_ne (C := "com/example/velvet_postings/velvetpostings/search/SparseMatrix") (Or.inr (tw19 hw)) (Or.inr (tw23 hw)) (by decide) (t := .int) (t' := (.array .int)) (by decide) (by decide)))
  clear F256
  have F274 : fd4 Z h265 a (.int (3 : Int32)) := F257.other W268 (Or.inr (slot_ne (C := "com/example/velvet_postings/velvetpostings/search/SparseMatrix") (Or.inr (tw21 hw)) (Or.inr (tw23 hw)) (by decide) (t := .int) (t' := (.array .int)) (by decide) (by decide)))
  clear F257
  have F275 : fd5 Z h265 a (.ref ros) := F258.same W268
  clear F258
  have F276 : fd6 Z h265 a .null := F259.other W268 (Or.inr (slot_ne (C := "com/example/velvet_postings/velvetpostings/search/SparseMatrix") (Or.inr (tw25 hw)) (Or.inr (tw23 hw)) (by decide) (t := (.array .int)) (t' := (.array .int)) (by decide) (by decide)))
  clear F259
  have F277 : fd7 Z h265 a .null := F260.other W268 (Or.inr (slot_ne (C := "com/example/velvet_postings/velvetpostings/search/SparseMatrix") (Or.inr (tw27 hw)) (Or.inr (tw23 hw)) (by decide) (t := (.array .double)) (t' := (.array .int)) (by decide) (by decide)))
  clear F260
  have Z278 : n0 ≤ h265.size := by rw [W268.size]; exact Z261
  clear Z261
  have K279 : Keep h0 h265 [a] := K262.wr W268 (Or.inl (List.mem_of_getElem? (i := 0) rfl))
  clear K262
  have k280 : own_G p e below E0 T264 (mkF m 22 #[vr a, vi (2 : Int32), vi (3 : Int32), vr ros, vr cos, vr vas] [(.ref cos), (.ref a)]) := by
    intro tQ kk
    refine k271 tQ ?_
    refine XS.aloadN X266.here hx rfl (hb hby d_prog_93_method_1_code_19) rfl rfl ?_
    refine XS.aload X266.here hx rfl (hb hby d_prog_93_method_1_code_20) rfl rfl ?_
    exact kk
  clear k271
  obtain ⟨T281, h282, X283, e284, W285, st286⟩ := putF X266 hx hZ hown (host := "") (Or.inl (tw24 hw)) Via.refl e267 F276 F272 (Or.inr ⟨(tw25 hw), rfl, hnm⟩) (tw10 hw) (ty := (.array .int)) (by decide) rfl rfl (g := (mkF m 22 #[vr a, vi (2 : Int32), vi (3 : Int32), vr ros, vr cos, vr vas] [(.ref cos), (.ref a)])) rfl rfl (hb hby d_prog_93_method_1_code_22)
  have N287 := Fr.snoc X283 N270 ge_a
  have k288 : own_G p e below E0 T281 (mkF m 25 #[vr a, vi (2 : Int32), vi (3 : Int32), vr ros, vr cos, vr vas] []) := fun tQ kk => k280 tQ (st286 _ kk)
  clear k280 st286
  have F289 : xa8 Z h282 a := F272.wr W285
  clear F272
  have F290 : fd3 Z h282 a (.int (2 : Int32)) := F273.other W285 (Or.inr (slot_ne (C := "com/example/velvet_postings/velvetpostings/search/SparseMatrix") (Or.inr (tw19 hw)) (Or.inr (tw25 hw)) (by decide) (t := .int) (t' := (.array .int)) (by decide) (by decide)))
  clear F273
  have F291 : fd4 Z h282 a (.int (3 : Int32)) := F274.other W285 (Or.inr (slot_ne (C := "com/example/velvet_postings/velvetpostings/search/SparseMatrix") (Or.inr (tw21 hw)) (Or.inr (tw25 hw)) (by decide) (t := .int) (t' := (.array .int)) (by decide) (by decide)))
  clear F274
  have F292 : fd5 Z h282 a (.ref ros) := F275.other W285 (Or.inr (slot_ne (C := "com/example/velvet_postings/velvetpostings/search/SparseMatrix") (Or.inr (tw23 hw)) (Or.inr (tw25 hw)) (by decide) (t := (.array .int)) (t' := (.array .int)) (by decide) (by decide)))
  clear F275
  have F293 : fd6 Z h282 a (.ref cos) := F276.same W285
  clear F276
  have F294 : fd7 Z h282 a .null := F277.other W285 (Or.inr (slot_ne (C := "com/example/velvet_postings/velvetpostings/search/SparseMatrix") (Or.inr (tw27 hw)) (Or.inr (tw25 hw)) (by decide) (t := (.array .double)) (t' := (.array .int)) (by decide) (by decide)))
  clear F277
  have Z295 : n0 ≤ h282.size := by rw [W285.size]; exact Z278
  clear Z278
  have K296 : Keep h0 h282 [a] := K279.wr W285 (Or.inl (List.mem_of_getElem? (i := 0) rfl))
  clear K279
  have k297 : own_G p e below E0 T281 (mkF m 28 #[vr a, vi (2 : Int32), vi (3 : Int32), vr ros, vr cos, vr vas] [(.ref vas), (.ref a)]) := by
    intro tQ kk
    refine k288 tQ ?_
    refine XS.aloadN X283.here hx rfl (hb hby d_prog_93_method_1_code_25) rfl rfl ?_
    refine XS.aload X283.here hx rfl (hb hby d_prog_93_method_1_code_26) rfl rfl ?_
    exact kk
  clear k288
  obtain ⟨T298, h299, X300, e301, W302, st303⟩ := putF X283 hx hZ hown (host := "") (Or.inl (tw26 hw)) Via.refl e284 F294 F289 (Or.inr ⟨(tw27 hw), rfl, hnm⟩) (tw10 hw) (ty := (.array .double)) (by decide) rfl rfl (g := (mkF m 28 #[vr a, vi (2 : Int32), vi (3 : Int32), vr ros, vr cos, vr vas] [(.ref vas), (.ref a)])) rfl rfl (hb hby d_prog_93_method_1_code_28)
  have N304 := Fr.snoc X300 N287 ge_a
  have k305 : own_G p e below E0 T298 (mkF m 31 #[vr a, vi (2 : Int32), vi (3 : Int32), vr ros, vr cos, vr vas] []) := fun tQ kk => k297 tQ (st303 _ kk)
  clear k297 st303
  have F306 : xa8 Z h299 a := F289.wr W302
  clear F289
  have F307 : fd3 Z h299 a (.int (2 : Int32)) := F290.other W302 (Or.inr (slot_ne (C := "com/example/velvet_postings/velvetpostings/search/SparseMatrix") (Or.inr (tw19 hw)) (Or.inr (tw27 hw)) (by decide) (t := .int) (t' := (.array .double)) (by decide) (by decide)))
  clear F290
  have F308 : fd4 Z h299 a (.int (3 : Int32)) := F291.other W302 (Or.inr (slot_ne (C := "com/example/velvet_postings/velvetpostings/search/SparseMatrix") (Or.inr (tw21 hw)) (Or.inr (tw27 hw)) (by decide) (t := .int) (t' := (.array .double)) (by decide) (by decide)))
  clear F291
  have F309 : fd5 Z h299 a (.ref ros) := F292.other W302 (Or.inr (slot_ne (C := "com/example/velvet_postings/velvetpostings/search/SparseMatrix") (Or.inr (tw23 hw)) (Or.inr (tw27 hw)) (by decide) (t := (.array .int)) (t' := (.array .double)) (by decide) (by decide)))
  clear F292
  have F310 : fd6 Z h299 a (.ref cos) := F293.other W302 (Or.inr (slot_ne (C := "com/example/velvet_postings/velvetpostings/search/SparseMatrix") (Or.inr (tw25 hw)) (Or.inr (tw27 hw)) (by decide) (t := (.array .int)) (t' := (.array .double)) (by decide) (by decide)))
  clear F293
  have F311 : fd7 Z h299 a (.ref vas) := F294.same W302
  clear F294
  have Z312 : n0 ≤ h299.size := by rw [W302.size]; exact Z295
  clear Z295
  have K313 : Keep h0 h299 [a] := K296.wr W302 (Or.inl (List.mem_of_getElem? (i := 0) rfl))
  clear K296
  obtain ⟨fs, hr, hrun, hended, hW, hsame⟩ := X300.leave (v := none) (fun _ => rfl)
  have hrun0 := k305 _ (X300.returnOut hx Bd.returns (hb hby d_prog_93_method_1_code_31) hr)
  subst hE0
  refine ⟨_, _, hrun0, hrun, hended, _, _, rfl, ?_, ⟨_, rfl⟩, hW, hsame.mono (by decide) (by decide)⟩
  show QrmI2 Z a ros cos vas h0 n0 _ T298.heap _
  rw [e301]
  exact ⟨rfl, N304, K313, F307, F308, F309, F310, F311⟩
def QrmM0 (Z : State) (a : Addr) (vec : Addr) (prod : Addr) (ros : Addr) (cos : Addr) (vas : Addr) (LC : List Value) (LW : List Value) (x0 : UInt64) (x1 : UInt64) (x2 : UInt64) (bg0 : Int32) (h0 : Heap) (n0 : Nat) (vQ : Option Value) (hQ : Heap) (LQ : List Loc) : Prop := vQ = none ∧ Fr n0 LQ ∧ hQ = h0
theorem ef_rmM0 (m : MethodId) (a : Addr) (vec : Addr) (prod : Addr) (ros : Addr) (cos : Addr) (vas : Addr) (LC : List Value) (LW : List Value) (x0 : UInt64) (x1 : UInt64) (x2 : UInt64) (bg0 : Int32) : entryFrame m #[(.ref a), (.ref vec), (.ref prod)] 7 = mkF m 0 #[vr a, vr vec, vr prod, uu, uu, uu, uu] [] := by first | (simp [entryFrame, mkF, argsToLocals, Value.category]; done) | rfl
abbrev mn10 : MethodName := ⟨"com/example/velvet_postings/velvetpostings/search/SparseMatrix", "multiply", "([D[D)V"⟩
theorem d_prog_93_method_4_code_0 : decode prog_93_method_4_code 0 = .ok (.iconst 0, 1) := by decide +kernel
theorem d_prog_93_method_4_code_1 : decode prog_93_method_4_code 1 = .ok (.istore_n 3, 1) := by decide +kernel
theorem d_prog_93_method_4_code_2 : decode prog_93_method_4_code 2 = .ok (.iload_n 3, 1) := by decide +kernel
theorem d_prog_93_method_4_code_3 : decode prog_93_method_4_code 3 = .ok (.aload_n 0, 1) := by decide +kernel
theorem d_prog_93_method_4_code_4 : decode prog_93_method_4_code 4 = .ok (.getfield 7, 3) := by decide +kernel
theorem d_prog_93_method_4_code_7 : decode prog_93_method_4_code 7 = .ok (.if_icmp .ge 66, 3) := by decide +kernel
theorem d_prog_93_method_4_code_73 : decode prog_93_method_4_code 73 = .ok (.return_, 1) := by decide +kernel
set_option maxRecDepth 65536 in
set_option maxHeartbeats 40000000 in
theorem rmM0 (l : Launch) (Z : State) (a0 : Array Value) (hw : ∀ d ∈ tables_1, d.before a0 Z = true) (ws : List Jvm.Cond) (a : Addr) (vec : Addr) (prod : Addr) (ros : Addr) (cos : Addr) (vas : Addr) (LC : List Value) (LW : List Value) (x0 : UInt64) (x1 : UInt64) (x2 : UInt64) (bg0 : Int32) (h0 : Heap) (n0 : Nat) (Z0 : n0 ≤ h0.size) (F0 : fd3 Z h0 a (.int (0 : Int32))) (F1 : fd4 Z h0 a (.int (3 : Int32))) (F2 : fd5 Z h0 a (.ref ros)) (F3 : fd6 Z h0 a (.ref cos)) (F4 : fd7 Z h0 a (.ref vas)) (A1 : own_A Z h0 ros .int [(.int bg0)]) (A2 : own_A Z h0 cos .int LC) (A3 : own_A Z h0 vas .double LW) (A4 : own_A Z h0 vec .double [(.double x0), (.double x1), (.double x2)]) (A5 : own_A Z h0 prod .double []) :
    MetFree l mn10 (head1 (Jvm.Cond.code mn10 prog_93_method_4_code 7 none :: ws) ({ frames := 0, cells := 0, slots := 0, locals := 0 } : Room)) (fun aA U => aA = #[(.ref a), (.ref vec), (.ref prod)] ∧ Z.Warmed39 U.vm ∧ U.heap = h0) (fun _ _ _ _ _ => True) (fun _ U o U' => ∃ vR LR, o = .returned vR ∧ QrmM0 Z a vec prod ros cos vas LC LW x0 x1 x2 bg0 h0 n0 vR U'.heap LR ∧ FrameEnd U o U' LR ({ frames := 0, cells := 0, slots := 0, locals := 0 } : Room).cells ({ frames := 0, cells := 0, slots := 0, locals := 0 } : Room).slots) := by
  refine MetFree.of_bodySF (plainFor_of_name pn_com_example_velvet_postings_velvetpostings_search_SparseMatrix) hisR ?_
  intro p e s m args below meth c s₁ Bd hml0 hPre hKk
  obtain ⟨rfl, hZ, hh⟩ := hPre
  have hx := Bd.exec
  have hby := Bd.bytes
  skip
  have hml : c.maxLocals = 7 := hml0
  have hown : s.vm.findClass "com/example/velvet_postings/velvetpostings/search/SparseMatrix" = some m.cls := findClass_of_methodNamed Bd.named
  have hnm := (name_of_methodNamed Bd.named Bd.method).1
  have X0 : Stand p l e ({ frames := 0, cells := 0, slots := 0, locals := 0 } : Room) s m #[(.ref a), (.ref vec), (.ref prod)] below meth c s₁ [] 0 0 := Stand.of_body Bd
  have e0 : s₁.heap = h0 := by rw [← hh, Bd.state]; rfl
  have N0 := Fr.nil n0
  obtain ⟨E0, hE0⟩ : ∃ zE : State, zE = s₁.setTop (entryFrame m #[(.ref a), (.ref vec), (.ref prod)] 7) := ⟨_, rfl⟩
  have k0 : own_G p e below E0 s₁ (mkF m 0 #[vr a, vr vec, vr prod, uu, uu, uu, uu] []) := fun tz kz => hE0 ▸ castTop (ef_rmM0 m a vec prod ros cos vas LC LW x0 x1 x2 bg0) kz
  have k314 : own_G p e below E0 s₁ (mkF m 4 #[vr a, vr vec, vr prod, vi (0 : Int32), uu, uu, uu] [(.ref a), (.int (0 : Int32))]) := by
    intro tQ kk
    refine k0 tQ ?_
    refine XS.iconst X0.here hx rfl (hb hby d_prog_93_method_4_code_0) ?_
    refine XS.istoreN X0.here hx rfl (hb hby d_prog_93_method_4_code_1) rfl (l' := #[vr a, vr vec, vr prod, vi (0 : Int32), uu, uu, uu]) rfl ?_
    refine XS.iloadN X0.here hx rfl (hb hby d_prog_93_method_4_code_2) rfl ?_
    refine XS.aloadN X0.here hx rfl (hb hby d_prog_93_method_4_code_3) rfl rfl ?_
    exact kk
  clear k0
  obtain ⟨T315, X316, e317, st318⟩ := getF X0 hx hZ hown (host := "") (Or.inl (tw18 hw)) Via.refl e0 F0 (g := (mkF m 4 #[vr a, vr vec, vr prod, vi (0 : Int32), uu, uu, uu] [(.ref a), (.int (0 : Int32))])) rfl rfl (hb hby d_prog_93_method_4_code_4)
  have k319 : own_G p e below E0 T315 (mkF m 7 #[vr a, vr vec, vr prod, vi (0 : Int32), uu, uu, uu] [(.int (0 : Int32)), (.int (0 : Int32))]) := fun tQ kk => k314 tQ (st318 _ kk)
  clear k314 st318
  have k320 : own_G p e below E0 T315 (mkF m 73 #[vr a, vr vec, vr prod, vi (0 : Int32), uu, uu, uu] []) := by
    intro tQ kk
    refine k319 tQ ?_
    refine XS.icmpYes X316.here hx rfl (pc0 := 7) (pc' := 73) rfl (hb hby d_prog_93_method_4_code_7) rfl (own_ic_geY (by decide)) (by decide) (by decide) ?_
    exact kk
  clear k319
  obtain ⟨fs, hr, hrun, hended, hW, hsame⟩ := X316.leave (v := none) (fun _ => rfl)
  have hrun0 := k320 _ (X316.returnOut hx Bd.returns (hb hby d_prog_93_method_4_code_73) hr)
  subst hE0
  refine ⟨_, _, hrun0, hrun, hended, _, _, rfl, ?_, ⟨_, rfl⟩, hW, hsame.mono (by decide) (by decide)⟩
  show QrmM0 Z a vec prod ros cos vas LC LW x0 x1 x2 bg0 h0 n0 _ T315.heap _
  rw [e317]
  exact ⟨rfl, N0, rfl⟩
def QrmM1 (Z : State) (a : Addr) (vec : Addr) (prod : Addr) (ros : Addr) (cos : Addr) (vas : Addr) (LC : List Value) (LW : List Value) (x0 : UInt64) (x1 : UInt64) (x2 : UInt64) (bg0 : Int32) (ed0 : Int32) (r0 : Int) (pr0 : UInt64) (h0 : Heap) (n0 : Nat) (vQ : Option Value) (hQ : Heap) (LQ : List Loc) : Prop := ∃ (s0 : UInt64), vQ = none ∧ Fr n0 LQ ∧ Keep h0 hQ [prod] ∧ (own_A Z hQ prod .double [(.double s0)]) ∧ (FP.Core.DInt r0 s0)
theorem ef_rmM1 (m : MethodId) (a : Addr) (vec : Addr) (prod : Addr) (ros : Addr) (cos : Addr) (vas : Addr) (LC : List Value) (LW : List Value) (x0 : UInt64) (x1 : UInt64) (x2 : UInt64) (bg0 : Int32) (ed0 : Int32) (r0 : Int) (pr0 : UInt64) : entryFrame m #[(.ref a), (.ref vec), (.ref prod)] 7 = mkF m 0 #[vr a, vr vec, vr prod, uu, uu, uu, uu] [] := by first | (simp [entryFrame, mkF, argsToLocals, Value.category]; done) | rfl
theorem d_prog_93_method_4_code_10 : decode prog_93_method_4_code 10 = .ok (.dconst 0, 1) := by decide +kernel
theorem d_prog_93_method_4_code_11 : decode prog_93_method_4_code 11 = .ok (.dstore 4, 2) := by decide +kernel
theorem d_prog_93_method_4_code_13 : decode prog_93_method_4_code 13 = .ok (.aload_n 0, 1) := by decide +kernel
theorem d_prog_93_method_4_code_14 : decode prog_93_method_4_code 14 = .ok (.getfield 16, 3) := by decide +kernel
theorem d_prog_93_method_4_code_17 : decode prog_93_method_4_code 17 = .ok (.iload_n 3, 1) := by decide +kernel
theorem d_prog_93_method_4_code_18 : decode prog_93_method_4_code 18 = .ok (.iaload, 1) := by decide +kernel
theorem d_prog_93_method_4_code_19 : decode prog_93_method_4_code 19 = .ok (.istore 6, 2) := by decide +kernel
theorem d_prog_93_method_4_code_21 : decode prog_93_method_4_code 21 = .ok (.iload 6, 2) := by decide +kernel
theorem d_prog_93_method_4_code_23 : decode prog_93_method_4_code 23 = .ok (.aload_n 0, 1) := by decide +kernel
theorem d_prog_93_method_4_code_24 : decode prog_93_method_4_code 24 = .ok (.getfield 16, 3) := by decide +kernel
theorem d_prog_93_method_4_code_27 : decode prog_93_method_4_code 27 = .ok (.iload_n 3, 1) := by decide +kernel
theorem d_prog_93_method_4_code_28 : decode prog_93_method_4_code 28 = .ok (.iconst 1, 1) := by decide +kernel
theorem d_prog_93_method_4_code_29 : decode prog_93_method_4_code 29 = .ok (.iadd, 1) := by decide +kernel
theorem d_prog_93_method_4_code_30 : decode prog_93_method_4_code 30 = .ok (.iaload, 1) := by decide +kernel
theorem d_prog_93_method_4_code_31 : decode prog_93_method_4_code 31 = .ok (.if_icmp .ge 31, 3) := by decide +kernel
theorem d_prog_93_method_4_code_34 : decode prog_93_method_4_code 34 = .ok (.dload 4, 2) := by decide +kernel
theorem d_prog_93_method_4_code_36 : decode prog_93_method_4_code 36 = .ok (.aload_n 0, 1) := by decide +kernel
theorem d_prog_93_method_4_code_37 : decode prog_93_method_4_code 37 = .ok (.getfield 23, 3) := by decide +kernel
theorem d_prog_93_method_4_code_40 : decode prog_93_method_4_code 40 = .ok (.iload 6, 2) := by decide +kernel
theorem d_prog_93_method_4_code_42 : decode prog_93_method_4_code 42 = .ok (.daload, 1) := by decide +kernel
theorem d_prog_93_method_4_code_43 : decode prog_93_method_4_code 43 = .ok (.aload_n 1, 1) := by decide +kernel
theorem d_prog_93_method_4_code_44 : decode prog_93_method_4_code 44 = .ok (.aload_n 0, 1) := by decide +kernel
theorem d_prog_93_method_4_code_45 : decode prog_93_method_4_code 45 = .ok (.getfield 20, 3) := by decide +kernel
theorem d_prog_93_method_4_code_48 : decode prog_93_method_4_code 48 = .ok (.iload 6, 2) := by decide +kernel
theorem d_prog_93_method_4_code_50 : decode prog_93_method_4_code 50 = .ok (.iaload, 1) := by decide +kernel
theorem d_prog_93_method_4_code_51 : decode prog_93_method_4_code 51 = .ok (.daload, 1) := by decide +kernel
theorem d_prog_93_method_4_code_52 : decode prog_93_method_4_code 52 = .ok (.dmul, 1) := by decide +kernel
theorem d_prog_93_method_4_code_53 : decode prog_93_method_4_code 53 = .ok (.dadd, 1) := by decide +kernel
theorem d_prog_93_method_4_code_54 : decode prog_93_method_4_code 54 = .ok (.dstore 4, 2) := by decide +kernel
theorem d_prog_93_method_4_code_56 : decode prog_93_method_4_code 56 = .ok (.iinc 6 1, 3) := by decide +kernel
theorem d_prog_93_method_4_code_59 : decode prog_93_method_4_code 59 = .ok (.goto (-38), 3) := by decide +kernel
theorem d_prog_93_method_4_code_62 : decode prog_93_method_4_code 62 = .ok (.aload_n 2, 1) := by decide +kernel
theorem d_prog_93_method_4_code_63 : decode prog_93_method_4_code 63 = .ok (.iload_n 3, 1) := by decide +kernel
theorem d_prog_93_method_4_code_64 : decode prog_93_method_4_code 64 = .ok (.dload 4, 2) := by decide +kernel
theorem d_prog_93_method_4_code_66 : decode prog_93_method_4_code 66 = .ok (.dastore, 1) := by decide +kernel
theorem d_prog_93_method_4_code_67 : decode prog_93_method_4_code 67 = .ok (.iinc 3 1, 3) := by decide +kernel
theorem d_prog_93_method_4_code_70 : decode prog_93_method_4_code 70 = .ok (.goto (-68), 3) := by decide +kernel
set_option maxRecDepth 65536 in
set_option maxHeartbeats 40000000 in
theorem rmM1 (l : Launch) (Z : State) (a0 : Array Value) (hw : ∀ d ∈ tables_1, d.before a0 Z = true) (ws : List Jvm.Cond) (a : Addr) (vec : Addr) (prod : Addr) (ros : Addr) (cos : Addr) (vas : Addr) (LC : List Value) (LW : List Value) (x0 : UInt64) (x1 : UInt64) (x2 : UInt64) (bg0 : Int32) (ed0 : Int32) (r0 : Int) (pr0 : UInt64) (h0 : Heap) (n0 : Nat) (Z0 : n0 ≤ h0.size) (F0 : fd3 Z h0 a (.int (1 : Int32))) (F1 : fd4 Z h0 a (.int (3 : Int32))) (F2 : fd5 Z h0 a (.ref ros)) (F3 : fd6 Z h0 a (.ref cos)) (F4 : fd7 Z h0 a (.ref vas)) (A1 : own_A Z h0 ros .int [(.int bg0), (.int ed0)]) (A2 : own_A Z h0 cos .int LC) (A3 : own_A Z h0 vas .double LW) (A4 : own_A Z h0 vec .double [(.double x0), (.double x1), (.double x2)]) (A5 : own_A Z h0 prod .double [(.double pr0)]) (ne0 : prod ≠ a) (ne1 : prod ≠ ros) (ne2 : prod ≠ cos) (ne3 : prod ≠ vas) (ne4 : prod ≠ vec) (ge_prod : n0 ≤ prod) (hR0 : own_row LC LW [.double x0, .double x1, .double x2] bg0 ed0 r0) :
    MetFree l mn10 (head1 (Jvm.Cond.code mn10 prog_93_method_4_code 7 none :: ws) ({ frames := 0, cells := 0, slots := 0, locals := 0 } : Room)) (fun aA U => aA = #[(.ref a), (.ref vec), (.ref prod)] ∧ Z.Warmed39 U.vm ∧ U.heap = h0) (fun _ _ _ _ _ => True) (fun _ U o U' => ∃ vR LR, o = .returned vR ∧ QrmM1 Z a vec prod ros cos vas LC LW x0 x1 x2 bg0 ed0 r0 pr0 h0 n0 vR U'.heap LR ∧ FrameEnd U o U' LR ({ frames := 0, cells := 0, slots := 0, locals := 0 } : Room).cells ({ frames := 0, cells := 0, slots := 0, locals := 0 } : Room).slots) := by
  refine MetFree.of_bodySF (plainFor_of_name pn_com_example_velvet_postings_velvetpostings_search_SparseMatrix) hisR ?_
  intro p e s m args below meth c s₁ Bd hml0 hPre hKk
  obtain ⟨rfl, hZ, hh⟩ := hPre
  have hx := Bd.exec
  have hby := Bd.bytes
  skip
  have hml : c.maxLocals = 7 := hml0
  have hown : s.vm.findClass "com/example/velvet_postings/velvetpostings/search/SparseMatrix" = some m.cls := findClass_of_methodNamed Bd.named
  have hnm := (name_of_methodNamed Bd.named Bd.method).1
  have X0 : Stand p l e ({ frames := 0, cells := 0, slots := 0, locals := 0 } : Room) s m #[(.ref a), (.ref vec), (.ref prod)] below meth c s₁ [] 0 0 := Stand.of_body Bd
  have e0 : s₁.heap = h0 := by rw [← hh, Bd.state]; rfl
  have N0 := Fr.nil n0
  obtain ⟨E0, hE0⟩ : ∃ zE : State, zE = s₁.setTop (entryFrame m #[(.ref a), (.ref vec), (.ref prod)] 7) := ⟨_, rfl⟩
  have k0 : own_G p e below E0 s₁ (mkF m 0 #[vr a, vr vec, vr prod, uu, uu, uu, uu] []) := fun tz kz => hE0 ▸ castTop (ef_rmM1 m a vec prod ros cos vas LC LW x0 x1 x2 bg0 ed0 r0 pr0) kz
  have K0 : Keep h0 h0 [prod] := Keep.refl _ _
  have k321 : own_G p e below E0 s₁ (mkF m 4 #[vr a, vr vec, vr prod, vi (0 : Int32), uu, uu, uu] [(.ref a), (.int (0 : Int32))]) := by
    intro tQ kk
    refine k0 tQ ?_
    refine XS.iconst X0.here hx rfl (hb hby d_prog_93_method_4_code_0) ?_
    refine XS.istoreN X0.here hx rfl (hb hby d_prog_93_method_4_code_1) rfl (l' := #[vr a, vr vec, vr prod, vi (0 : Int32), uu, uu, uu]) rfl ?_
    refine XS.iloadN X0.here hx rfl (hb hby d_prog_93_method_4_code_2) rfl ?_
    refine XS.aloadN X0.here hx rfl (hb hby d_prog_93_method_4_code_3) rfl rfl ?_
    exact kk
  clear k0
  obtain ⟨T322, X323, e324, st325⟩ := getF X0 hx hZ hown (host := "") (Or.inl (tw18 hw)) Via.refl e0 F0 (g := (mkF m 4 #[vr a, vr vec, vr prod, vi (0 : Int32), uu, uu, uu] [(.ref a), (.int (0 : Int32))])) rfl rfl (hb hby d_prog_93_method_4_code_4)
  have k326 : own_G p e below E0 T322 (mkF m 7 #[vr a, vr vec, vr prod, vi (0 : Int32), uu, uu, uu] [(.int (1 : Int32)), (.int (0 : Int32))]) := fun tQ kk => k321 tQ (st325 _ kk)
  clear k321 st325
  have k327 : own_G p e below E0 T322 (mkF m 14 #[vr a, vr vec, vr prod, vi (0 : Int32), vd FP.dconst0, ss, uu] [(.ref a)]) := by
    intro tQ kk
    refine k326 tQ ?_
    refine XS.icmpNo X323.here hx rfl (hb hby d_prog_93_method_4_code_7) rfl (own_ic_geN (by decide)) ?_
    refine XS.dconst0 X323.here hx rfl (hb hby d_prog_93_method_4_code_10) rfl ?_
    refine XS.dstore X323.here hx rfl (hb hby d_prog_93_method_4_code_11) rfl (l' := #[vr a, vr vec, vr prod, vi (0 : Int32), vd FP.dconst0, ss, uu]) rfl ?_
    refine XS.aloadN X323.here hx rfl (hb hby d_prog_93_method_4_code_13) rfl rfl ?_
    exact kk
  clear k326
  obtain ⟨T328, X329, e330, st331⟩ := getF X323 hx hZ hown (host := "") (Or.inl (tw22 hw)) Via.refl e324 F2 (g := (mkF m 14 #[vr a, vr vec, vr prod, vi (0 : Int32), vd FP.dconst0, ss, uu] [(.ref a)])) rfl rfl (hb hby d_prog_93_method_4_code_14)
  have k332 : own_G p e below E0 T328 (mkF m 17 #[vr a, vr vec, vr prod, vi (0 : Int32), vd FP.dconst0, ss, uu] [(.ref ros)]) := fun tQ kk => k327 tQ (st331 _ kk)
  clear k327 st331
  have k333 : own_G p e below E0 T328 (mkF m 18 #[vr a, vr vec, vr prod, vi (0 : Int32), vd FP.dconst0, ss, uu] [(.int (0 : Int32)), (.ref ros)]) := by
    intro tQ kk
    refine k332 tQ ?_
    refine XS.iloadN X329.here hx rfl (hb hby d_prog_93_method_4_code_17) rfl ?_
    exact kk
  clear k332
  have st334 := fun tQ => own_A.ild X329 hx hZ e330 A1 (j := (0 : Int32)) (v := (.int bg0)) (by decide) rfl (g := (mkF m 18 #[vr a, vr vec, vr prod, vi (0 : Int32), vd FP.dconst0, ss, uu] [(.int (0 : Int32)), (.ref ros)])) rfl rfl (hb hby d_prog_93_method_4_code_18) tQ
  have k335 : own_G p e below E0 T328 (mkF m 19 #[vr a, vr vec, vr prod, vi (0 : Int32), vd FP.dconst0, ss, uu] [(.int bg0)]) := fun tQ kk => k333 tQ (st334 _ kk)
  clear k333 st334
  have k336 : own_G p e below E0 T328 (mkF m 21 #[vr a, vr vec, vr prod, vi (0 : Int32), vd FP.dconst0, ss, vi bg0] []) := by
    intro tQ kk
    refine k335 tQ ?_
    refine XS.istore X329.here hx rfl (hb hby d_prog_93_method_4_code_19) rfl (l' := #[vr a, vr vec, vr prod, vi (0 : Int32), vd FP.dconst0, ss, vi bg0]) rfl ?_
    exact kk
  clear k335
  have jn562 : ∃ (T558 : State), ∃ (sR0 : UInt64), ∃ (j557 : Int32), (FP.Core.DInt r0 sR0) ∧ (Stand p l e ({ frames := 0, cells := 0, slots := 0, locals := 0 } : Room) s m #[(.ref a), (.ref vec), (.ref prod)] below meth c T558 [] 0 0) ∧ (T558.heap = h0) ∧ (own_G p e below E0 T558 (mkF m 62 #[vr a, vr vec, vr prod, vi (0 : Int32), vd sR0, ss, vi j557] [])) := by
    rcases hR0 with ⟨bb0_0, hr0⟩ | ⟨u0_0, bb0_0, bb0_1, en0_0, hr0⟩ | ⟨u0_0, u0_1, bb0_0, bb0_1, bb0_2, en0_0, en0_1, hr0⟩ | ⟨u0_0, u0_1, u0_2, bb0_0, bb0_1, bb0_2, bb0_3, en0_0, en0_1, en0_2, hr0⟩
    · skip
      have k337 : own_G p e below E0 T328 (mkF m 24 #[vr a, vr vec, vr prod, vi (0 : Int32), vd FP.dconst0, ss, vi bg0] [(.ref a), (.int bg0)]) := by
        intro tQ kk
        refine k336 tQ ?_
        refine XS.iload X329.here hx rfl (hb hby d_prog_93_method_4_code_21) rfl ?_
        refine XS.aloadN X329.here hx rfl (hb hby d_prog_93_method_4_code_23) rfl rfl ?_
        exact kk
      clear k336
      obtain ⟨T338, X339, e340, st341⟩ := getF X329 hx hZ hown (host := "") (Or.inl (tw22 hw)) Via.refl e330 F2 (g := (mkF m 24 #[vr a, vr vec, vr prod, vi (0 : Int32), vd FP.dconst0, ss, vi bg0] [(.ref a), (.int bg0)])) rfl rfl (hb hby d_prog_93_method_4_code_24)
      have k342 : own_G p e below E0 T338 (mkF m 27 #[vr a, vr vec, vr prod, vi (0 : Int32), vd FP.dconst0, ss, vi bg0] [(.ref ros), (.int bg0)]) := fun tQ kk => k337 tQ (st341 _ kk)
      clear k337 st341
      have k343 : own_G p e below E0 T338 (mkF m 30 #[vr a, vr vec, vr prod, vi (0 : Int32), vd FP.dconst0, ss, vi bg0] [(.int (1 : Int32)), (.ref ros), (.int bg0)]) := by
        intro tQ kk
        refine k342 tQ ?_
        refine XS.iloadN X339.here hx rfl (hb hby d_prog_93_method_4_code_27) rfl ?_
        refine XS.iconst X339.here hx rfl (hb hby d_prog_93_method_4_code_28) ?_
        refine XS.iadd X339.here hx rfl (hb hby d_prog_93_method_4_code_29) rfl ?_
        exact kk
      clear k342
      have st344 := fun tQ => own_A.ild X339 hx hZ e340 A1 (j := (1 : Int32)) (v := (.int ed0)) (by decide) rfl (g := (mkF m 30 #[vr a, vr vec, vr prod, vi (0 : Int32), vd FP.dconst0, ss, vi bg0] [(.int (1 : Int32)), (.ref ros), (.int bg0)])) rfl rfl (hb hby d_prog_93_method_4_code_30) tQ
      have k345 : own_G p e below E0 T338 (mkF m 31 #[vr a, vr vec, vr prod, vi (0 : Int32), vd FP.dconst0, ss, vi bg0] [(.int ed0), (.int bg0)]) := fun tQ kk => k343 tQ (st344 _ kk)
      clear k343 st344
      have k346 : own_G p e below E0 T338 (mkF m 62 #[vr a, vr vec, vr prod, vi (0 : Int32), vd FP.dconst0, ss, vi bg0] []) := by
        intro tQ kk
        refine k345 tQ ?_
        refine XS.icmpYes X339.here hx rfl (pc0 := 31) (pc' := 62) rfl (hb hby d_prog_93_method_4_code_31) rfl (own_ic_geY bb0_0) (by decide) (by decide) ?_
        exact kk
      clear k345
      exact ⟨T338, FP.dconst0, bg0, ((by rw [hr0]; exact own_d0)), X339, e340, k346⟩
    · skip
      have k347 : own_G p e below E0 T328 (mkF m 24 #[vr a, vr vec, vr prod, vi (0 : Int32), vd FP.dconst0, ss, vi bg0] [(.ref a), (.int bg0)]) := by
        intro tQ kk
        refine k336 tQ ?_
        refine XS.iload X329.here hx rfl (hb hby d_prog_93_method_4_code_21) rfl ?_
        refine XS.aloadN X329.here hx rfl (hb hby d_prog_93_method_4_code_23) rfl rfl ?_
        exact kk
      clear k336
      obtain ⟨T348, X349, e350, st351⟩ := getF X329 hx hZ hown (host := "") (Or.inl (tw22 hw)) Via.refl e330 F2 (g := (mkF m 24 #[vr a, vr vec, vr prod, vi (0 : Int32), vd FP.dconst0, ss, vi bg0] [(.ref a), (.int bg0)])) rfl rfl (hb hby d_prog_93_method_4_code_24)
      have k352 : own_G p e below E0 T348 (mkF m 27 #[vr a, vr vec, vr prod, vi (0 : Int32), vd FP.dconst0, ss, vi bg0] [(.ref ros), (.int bg0)]) := fun tQ kk => k347 tQ (st351 _ kk)
      clear k347 st351
      have k353 : own_G p e below E0 T348 (mkF m 30 #[vr a, vr vec, vr prod, vi (0 : Int32), vd FP.dconst0, ss, vi bg0] [(.int (1 : Int32)), (.ref ros), (.int bg0)]) := by
        intro tQ kk
        refine k352 tQ ?_
        refine XS.iloadN X349.here hx rfl (hb hby d_prog_93_method_4_code_27) rfl ?_
        refine XS.iconst X349.here hx rfl (hb hby d_prog_93_method_4_code_28) ?_
        refine XS.iadd X349.here hx rfl (hb hby d_prog_93_method_4_code_29) rfl ?_
        exact kk
      clear k352
      have st354 := fun tQ => own_A.ild X349 hx hZ e350 A1 (j := (1 : Int32)) (v := (.int ed0)) (by decide) rfl (g := (mkF m 30 #[vr a, vr vec, vr prod, vi (0 : Int32), vd FP.dconst0, ss, vi bg0] [(.int (1 : Int32)), (.ref ros), (.int bg0)])) rfl rfl (hb hby d_prog_93_method_4_code_30) tQ
      have k355 : own_G p e below E0 T348 (mkF m 31 #[vr a, vr vec, vr prod, vi (0 : Int32), vd FP.dconst0, ss, vi bg0] [(.int ed0), (.int bg0)]) := fun tQ kk => k353 tQ (st354 _ kk)
      clear k353 st354
      obtain ⟨ec0_0, ew0_0, ex0_0, qa0_0, qb0_0, qc0_0, qd0_0, qe0_0, qf0_0, qg0_0⟩ := en0_0
      have k356 : own_G p e below E0 T348 (mkF m 37 #[vr a, vr vec, vr prod, vi (0 : Int32), vd FP.dconst0, ss, vi bg0] [(.ref a), (.double FP.dconst0)]) := by
        intro tQ kk
        refine k355 tQ ?_
        refine XS.icmpNo X349.here hx rfl (hb hby d_prog_93_method_4_code_31) rfl (own_ic_geN bb0_0) ?_
        refine XS.dload X349.here hx rfl (hb hby d_prog_93_method_4_code_34) rfl ?_
        refine XS.aloadN X349.here hx rfl (hb hby d_prog_93_method_4_code_36) rfl rfl ?_
        exact kk
      clear k355
      obtain ⟨T357, X358, e359, st360⟩ := getF X349 hx hZ hown (host := "") (Or.inl (tw26 hw)) Via.refl e350 F4 (g := (mkF m 37 #[vr a, vr vec, vr prod, vi (0 : Int32), vd FP.dconst0, ss, vi bg0] [(.ref a), (.double FP.dconst0)])) rfl rfl (hb hby d_prog_93_method_4_code_37)
      have k361 : own_G p e below E0 T357 (mkF m 40 #[vr a, vr vec, vr prod, vi (0 : Int32), vd FP.dconst0, ss, vi bg0] [(.ref vas), (.double FP.dconst0)]) := fun tQ kk => k356 tQ (st360 _ kk)
      clear k356 st360
      have k362 : own_G p e below E0 T357 (mkF m 42 #[vr a, vr vec, vr prod, vi (0 : Int32), vd FP.dconst0, ss, vi bg0] [(.int bg0), (.ref vas), (.double FP.dconst0)]) := by
        intro tQ kk
        refine k361 tQ ?_
        refine XS.iload X358.here hx rfl (hb hby d_prog_93_method_4_code_40) rfl ?_
        exact kk
      clear k361
      have st363 := fun tQ => own_A.dld X358 hx hZ e359 A3 (j := bg0) (v := (.double ew0_0)) qa0_0 qc0_0 (g := (mkF m 42 #[vr a, vr vec, vr prod, vi (0 : Int32), vd FP.dconst0, ss, vi bg0] [(.int bg0), (.ref vas), (.double FP.dconst0)])) rfl rfl (hb hby d_prog_93_method_4_code_42) tQ
      have k364 : own_G p e below E0 T357 (mkF m 43 #[vr a, vr vec, vr prod, vi (0 : Int32), vd FP.dconst0, ss, vi bg0] [(.double ew0_0), (.double FP.dconst0)]) := fun tQ kk => k362 tQ (st363 _ kk)
      clear k362 st363
      have k365 : own_G p e below E0 T357 (mkF m 45 #[vr a, vr vec, vr prod, vi (0 : Int32), vd FP.dconst0, ss, vi bg0] [(.ref a), (.ref vec), (.double ew0_0), (.double FP.dconst0)]) := by
        intro tQ kk
        refine k364 tQ ?_
        refine XS.aloadN X358.here hx rfl (hb hby d_prog_93_method_4_code_43) rfl rfl ?_
        refine XS.aloadN X358.here hx rfl (hb hby d_prog_93_method_4_code_44) rfl rfl ?_
        exact kk
      clear k364
      obtain ⟨T366, X367, e368, st369⟩ := getF X358 hx hZ hown (host := "") (Or.inl (tw24 hw)) Via.refl e359 F3 (g := (mkF m 45 #[vr a, vr vec, vr prod, vi (0 : Int32), vd FP.dconst0, ss, vi bg0] [(.ref a), (.ref vec), (.double ew0_0), (.double FP.dconst0)])) rfl rfl (hb hby d_prog_93_method_4_code_45)
      have k370 : own_G p e below E0 T366 (mkF m 48 #[vr a, vr vec, vr prod, vi (0 : Int32), vd FP.dconst0, ss, vi bg0] [(.ref cos), (.ref vec), (.double ew0_0), (.double FP.dconst0)]) := fun tQ kk => k365 tQ (st369 _ kk)
      clear k365 st369
      have k371 : own_G p e below E0 T366 (mkF m 50 #[vr a, vr vec, vr prod, vi (0 : Int32), vd FP.dconst0, ss, vi bg0] [(.int bg0), (.ref cos), (.ref vec), (.double ew0_0), (.double FP.dconst0)]) := by
        intro tQ kk
        refine k370 tQ ?_
        refine XS.iload X367.here hx rfl (hb hby d_prog_93_method_4_code_48) rfl ?_
        exact kk
      clear k370
      have st372 := fun tQ => own_A.ild X367 hx hZ e368 A2 (j := bg0) (v := (.int ec0_0)) qa0_0 qb0_0 (g := (mkF m 50 #[vr a, vr vec, vr prod, vi (0 : Int32), vd FP.dconst0, ss, vi bg0] [(.int bg0), (.ref cos), (.ref vec), (.double ew0_0), (.double FP.dconst0)])) rfl rfl (hb hby d_prog_93_method_4_code_50) tQ
      have k373 : own_G p e below E0 T366 (mkF m 51 #[vr a, vr vec, vr prod, vi (0 : Int32), vd FP.dconst0, ss, vi bg0] [(.int ec0_0), (.ref vec), (.double ew0_0), (.double FP.dconst0)]) := fun tQ kk => k371 tQ (st372 _ kk)
      clear k371 st372
      have st374 := fun tQ => own_A.dld X367 hx hZ e368 A4 (j := ec0_0) (v := (.double ex0_0)) qd0_0 qe0_0 (g := (mkF m 51 #[vr a, vr vec, vr prod, vi (0 : Int32), vd FP.dconst0, ss, vi bg0] [(.int ec0_0), (.ref vec), (.double ew0_0), (.double FP.dconst0)])) rfl rfl (hb hby d_prog_93_method_4_code_51) tQ
      have k375 : own_G p e below E0 T366 (mkF m 52 #[vr a, vr vec, vr prod, vi (0 : Int32), vd FP.dconst0, ss, vi bg0] [(.double ex0_0), (.double ew0_0), (.double FP.dconst0)]) := fun tQ kk => k373 tQ (st374 _ kk)
      clear k373 st374
      have BA0_0 := own_acc own_B0 qg0_0
      have k376 : own_G p e below E0 T366 (mkF m 53 #[vr a, vr vec, vr prod, vi (0 : Int32), vd FP.dconst0, ss, vi bg0] [(.double (FP.dmul ew0_0 ex0_0)), (.double FP.dconst0)]) := by
        intro tQ kk
        refine k375 tQ ?_
        refine XS.dmulS X367.here hx rfl (hb hby d_prog_93_method_4_code_52) rfl (own_nn qf0_0) rfl ?_
        exact kk
      clear k375
      obtain ⟨sm0_0, hsm0_0⟩ : ∃ vA, FP.dadd FP.dconst0 (FP.dmul ew0_0 ex0_0) = vA := ⟨_, rfl⟩
      have DS0_0 : FP.Core.DInt ((0 + u0_0)) sm0_0 := hsm0_0 ▸ FP.Core.dadd_int own_d0 qf0_0 (Nat.le_trans BA0_0 (by decide))
      have k377 : own_G p e below E0 T366 (mkF m 24 #[vr a, vr vec, vr prod, vi (0 : Int32), vd sm0_0, ss, vi (bg0 + (1 : Int32))] [(.ref a), (.int (bg0 + (1 : Int32)))]) := by
        intro tQ kk
        refine k376 tQ ?_
        refine XS.daddS X367.here hx rfl (hb hby d_prog_93_method_4_code_53) rfl (own_nn (FP.Core.dadd_int own_d0 qf0_0 (Nat.le_trans BA0_0 (by decide)))) hsm0_0 ?_
        refine XS.dstore X367.here hx rfl (hb hby d_prog_93_method_4_code_54) rfl (l' := #[vr a, vr vec, vr prod, vi (0 : Int32), vd sm0_0, ss, vi bg0]) rfl ?_
        refine XS.iinc X367.here hx rfl (hb hby d_prog_93_method_4_code_56) rfl (l' := #[vr a, vr vec, vr prod, vi (0 : Int32), vd sm0_0, ss, vi (bg0 + (1 : Int32))]) rfl ?_
        refine XS.goto X367.here hx rfl (pc0 := 59) (pc' := 21) rfl (hb hby d_prog_93_method_4_code_59) (by decide) (by decide) ?_
        show Steps p.tables e below (T366.setTop (mkF m 21 #[vr a, vr vec, vr prod, vi (0 : Int32), vd sm0_0, ss, vi (bg0 + (1 : Int32))] [])) tQ
        refine XS.iload X367.here hx rfl (hb hby d_prog_93_method_4_code_21) rfl ?_
        refine XS.aloadN X367.here hx rfl (hb hby d_prog_93_method_4_code_23) rfl rfl ?_
        exact kk
      clear k376
      obtain ⟨T378, X379, e380, st381⟩ := getF X367 hx hZ hown (host := "") (Or.inl (tw22 hw)) Via.refl e368 F2 (g := (mkF m 24 #[vr a, vr vec, vr prod, vi (0 : Int32), vd sm0_0, ss, vi (bg0 + (1 : Int32))] [(.ref a), (.int (bg0 + (1 : Int32)))])) rfl rfl (hb hby d_prog_93_method_4_code_24)
      have k382 : own_G p e below E0 T378 (mkF m 27 #[vr a, vr vec, vr prod, vi (0 : Int32), vd sm0_0, ss, vi (bg0 + (1 : Int32))] [(.ref ros), (.int (bg0 + (1 : Int32)))]) := fun tQ kk => k377 tQ (st381 _ kk)
      clear k377 st381
      have k383 : own_G p e below E0 T378 (mkF m 30 #[vr a, vr vec, vr prod, vi (0 : Int32), vd sm0_0, ss, vi (bg0 + (1 : Int32))] [(.int (1 : Int32)), (.ref ros), (.int (bg0 + (1 : Int32)))]) := by
        intro tQ kk
        refine k382 tQ ?_
        refine XS.iloadN X379.here hx rfl (hb hby d_prog_93_method_4_code_27) rfl ?_
        refine XS.iconst X379.here hx rfl (hb hby d_prog_93_method_4_code_28) ?_
        refine XS.iadd X379.here hx rfl (hb hby d_prog_93_method_4_code_29) rfl ?_
        exact kk
      clear k382
      have st384 := fun tQ => own_A.ild X379 hx hZ e380 A1 (j := (1 : Int32)) (v := (.int ed0)) (by decide) rfl (g := (mkF m 30 #[vr a, vr vec, vr prod, vi (0 : Int32), vd sm0_0, ss, vi (bg0 + (1 : Int32))] [(.int (1 : Int32)), (.ref ros), (.int (bg0 + (1 : Int32)))])) rfl rfl (hb hby d_prog_93_method_4_code_30) tQ
      have k385 : own_G p e below E0 T378 (mkF m 31 #[vr a, vr vec, vr prod, vi (0 : Int32), vd sm0_0, ss, vi (bg0 + (1 : Int32))] [(.int ed0), (.int (bg0 + (1 : Int32)))]) := fun tQ kk => k383 tQ (st384 _ kk)
      clear k383 st384
      have k386 : own_G p e below E0 T378 (mkF m 62 #[vr a, vr vec, vr prod, vi (0 : Int32), vd sm0_0, ss, vi (bg0 + (1 : Int32))] []) := by
        intro tQ kk
        refine k385 tQ ?_
        refine XS.icmpYes X379.here hx rfl (pc0 := 31) (pc' := 62) rfl (hb hby d_prog_93_method_4_code_31) rfl (own_ic_geY bb0_1) (by decide) (by decide) ?_
        exact kk
      clear k385
      exact ⟨T378, sm0_0, (bg0 + (1 : Int32)), ((by rw [hr0]; exact DS0_0)), X379, e380, k386⟩
    · skip
      have k387 : own_G p e below E0 T328 (mkF m 24 #[vr a, vr vec, vr prod, vi (0 : Int32), vd FP.dconst0, ss, vi bg0] [(.ref a), (.int bg0)]) := by
        intro tQ kk
        refine k336 tQ ?_
        refine XS.iload X329.here hx rfl (hb hby d_prog_93_method_4_code_21) rfl ?_
        refine XS.aloadN X329.here hx rfl (hb hby d_prog_93_method_4_code_23) rfl rfl ?_
        exact kk
      clear k336
      obtain ⟨T388, X389, e390, st391⟩ := getF X329 hx hZ hown (host := "") (Or.inl (tw22 hw)) Via.refl e330 F2 (g := (mkF m 24 #[vr a, vr vec, vr prod, vi (0 : Int32), vd FP.dconst0, ss, vi bg0] [(.ref a), (.int bg0)])) rfl rfl (hb hby d_prog_93_method_4_code_24)
      have k392 : own_G p e below E0 T388 (mkF m 27 #[vr a, vr vec, vr prod, vi (0 : Int32), vd FP.dconst0, ss, vi bg0] [(.ref ros), (.int bg0)]) := fun tQ kk => k387 tQ (st391 _ kk)
      clear k387 st391
      have k393 : own_G p e below E0 T388 (mkF m 30 #[vr a, vr vec, vr prod, vi (0 : Int32), vd FP.dconst0, ss, vi bg0] [(.int (1 : Int32)), (.ref ros), (.int bg0)]) := by
        intro tQ kk
        refine k392 tQ ?_
        refine XS.iloadN X389.here hx rfl (hb hby d_prog_93_method_4_code_27) rfl ?_
        refine XS.iconst X389.here hx rfl (hb hby d_prog_93_method_4_code_28) ?_
        refine XS.iadd X389.here hx rfl (hb hby d_prog_93_method_4_code_29) rfl ?_
        exact kk
      clear k392
      have st394 := fun tQ => own_A.ild X389 hx hZ e390 A1 (j := (1 : Int32)) (v := (.int ed0)) (by decide) rfl (g := (mkF m 30 #[vr a, vr vec, vr prod, vi (0 : Int32), vd FP.dconst0, ss, vi bg0] [(.int (1 : Int32)), (.ref ros), (.int bg0)])) rfl rfl (hb hby d_prog_93_method_4_code_30) tQ
      have k395 : own_G p e below E0 T388 (mkF m 31 #[vr a, vr vec, vr prod, vi (0 : Int32), vd FP.dconst0, ss, vi bg0] [(.int ed0), (.int bg0)]) := fun tQ kk => k393 tQ (st394 _ kk)
      clear k393 st394
      obtain ⟨ec0_0, ew0_0, ex0_0, qa0_0, qb0_0, qc0_0, qd0_0, qe0_0, qf0_0, qg0_0⟩ := en0_0
      have k396 : own_G p e below E0 T388 (mkF m 37 #[vr a, vr vec, vr prod, vi (0 : Int32), vd FP.dconst0, ss, vi bg0] [(.ref a), (.double FP.dconst0)]) := by
        intro tQ kk
        refine k395 tQ ?_
        refine XS.icmpNo X389.here hx rfl (hb hby d_prog_93_method_4_code_31) rfl (own_ic_geN bb0_0) ?_
        refine XS.dload X389.here hx rfl (hb hby d_prog_93_method_4_code_34) rfl ?_
        refine XS.aloadN X389.here hx rfl (hb hby d_prog_93_method_4_code_36) rfl rfl ?_
        exact kk
      clear k395
      obtain ⟨T397, X398, e399, st400⟩ := getF X389 hx hZ hown (host := "") (Or.inl (tw26 hw)) Via.refl e390 F4 (g := (mkF m 37 #[vr a, vr vec, vr prod, vi (0 : Int32), vd FP.dconst0, ss, vi bg0] [(.ref a), (.double FP.dconst0)])) rfl rfl (hb hby d_prog_93_method_4_code_37)
      have k401 : own_G p e below E0 T397 (mkF m 40 #[vr a, vr vec, vr prod, vi (0 : Int32), vd FP.dconst0, ss, vi bg0] [(.ref vas), (.double FP.dconst0)]) := fun tQ kk => k396 tQ (st400 _ kk)
      clear k396 st400
      have k402 : own_G p e below E0 T397 (mkF m 42 #[vr a, vr vec, vr prod, vi (0 : Int32), vd FP.dconst0, ss, vi bg0] [(.int bg0), (.ref vas), (.double FP.dconst0)]) := by
        intro tQ kk
        refine k401 tQ ?_
        refine XS.iload X398.here hx rfl (hb hby d_prog_93_method_4_code_40) rfl ?_
        exact kk
      clear k401
      have st403 := fun tQ => own_A.dld X398 hx hZ e399 A3 (j := bg0) (v := (.double ew0_0)) qa0_0 qc0_0 (g := (mkF m 42 #[vr a, vr vec, vr prod, vi (0 : Int32), vd FP.dconst0, ss, vi bg0] [(.int bg0), (.ref vas), (.double FP.dconst0)])) rfl rfl (hb hby d_prog_93_method_4_code_42) tQ
      have k404 : own_G p e below E0 T397 (mkF m 43 #[vr a, vr vec, vr prod, vi (0 : Int32), vd FP.dconst0, ss, vi bg0] [(.double ew0_0), (.double FP.dconst0)]) := fun tQ kk => k402 tQ (st403 _ kk)
      clear k402 st403
      have k405 : own_G p e below E0 T397 (mkF m 45 #[vr a, vr vec, vr prod, vi (0 : Int32), vd FP.dconst0, ss, vi bg0] [(.ref a), (.ref vec), (.double ew0_0), (.double FP.dconst0)]) := by
        intro tQ kk
        refine k404 tQ ?_
        refine XS.aloadN X398.here hx rfl (hb hby d_prog_93_method_4_code_43) rfl rfl ?_
        refine XS.aloadN X398.here hx rfl (hb hby d_prog_93_method_4_code_44) rfl rfl ?_
        exact kk
      clear k404
      obtain ⟨T406, X407, e408, st409⟩ := getF X398 hx hZ hown (host := "") (Or.inl (tw24 hw)) Via.refl e399 F3 (g := (mkF m 45 #[vr a, vr vec, vr prod, vi (0 : Int32), vd FP.dconst0, ss, vi bg0] [(.ref a), (.ref vec), (.double ew0_0), (.double FP.dconst0)])) rfl rfl (hb hby d_prog_93_method_4_code_45)
      have k410 : own_G p e below E0 T406 (mkF m 48 #[vr a, vr vec, vr prod, vi (0 : Int32), vd FP.dconst0, ss, vi bg0] [(.ref cos), (.ref vec), (.double ew0_0), (.double FP.dconst0)]) := fun tQ kk => k405 tQ (st409 _ kk)
      clear k405 st409
      have k411 : own_G p e below E0 T406 (mkF m 50 #[vr a, vr vec, vr prod, vi (0 : Int32), vd FP.dconst0, ss, vi bg0] [(.int bg0), (.ref cos), (.ref vec), (.double ew0_0), (.double FP.dconst0)]) := by
        intro tQ kk
        refine k410 tQ ?_
        refine XS.iload X407.here hx rfl (hb hby d_prog_93_method_4_code_48) rfl ?_
        exact kk
      clear k410
      have st412 := fun tQ => own_A.ild X407 hx hZ e408 A2 (j := bg0) (v := (.int ec0_0)) qa0_0 qb0_0 (g := (mkF m 50 #[vr a, vr vec, vr prod, vi (0 : Int32), vd FP.dconst0, ss, vi bg0] [(.int bg0), (.ref cos), (.ref vec), (.double ew0_0), (.double FP.dconst0)])) rfl rfl (hb hby d_prog_93_method_4_code_50) tQ
      have k413 : own_G p e below E0 T406 (mkF m 51 #[vr a, vr vec, vr prod, vi (0 : Int32), vd FP.dconst0, ss, vi bg0] [(.int ec0_0), (.ref vec), (.double ew0_0), (.double FP.dconst0)]) := fun tQ kk => k411 tQ (st412 _ kk)
      clear k411 st412
      have st414 := fun tQ => own_A.dld X407 hx hZ e408 A4 (j := ec0_0) (v := (.double ex0_0)) qd0_0 qe0_0 (g := (mkF m 51 #[vr a, vr vec, vr prod, vi (0 : Int32), vd FP.dconst0, ss, vi bg0] [(.int ec0_0), (.ref vec), (.double ew0_0), (.double FP.dconst0)])) rfl rfl (hb hby d_prog_93_method_4_code_51) tQ
      have k415 : own_G p e below E0 T406 (mkF m 52 #[vr a, vr vec, vr prod, vi (0 : Int32), vd FP.dconst0, ss, vi bg0] [(.double ex0_0), (.double ew0_0), (.double FP.dconst0)]) := fun tQ kk => k413 tQ (st414 _ kk)
      clear k413 st414
      have BA0_0 := own_acc own_B0 qg0_0
      have k416 : own_G p e below E0 T406 (mkF m 53 #[vr a, vr vec, vr prod, vi (0 : Int32), vd FP.dconst0, ss, vi bg0] [(.double (FP.dmul ew0_0 ex0_0)), (.double FP.dconst0)]) := by
        intro tQ kk
        refine k415 tQ ?_
        refine XS.dmulS X407.here hx rfl (hb hby d_prog_93_method_4_code_52) rfl (own_nn qf0_0) rfl ?_
        exact kk
      clear k415
      obtain ⟨sm0_0, hsm0_0⟩ : ∃ vA, FP.dadd FP.dconst0 (FP.dmul ew0_0 ex0_0) = vA := ⟨_, rfl⟩
      have DS0_0 : FP.Core.DInt ((0 + u0_0)) sm0_0 := hsm0_0 ▸ FP.Core.dadd_int own_d0 qf0_0 (Nat.le_trans BA0_0 (by decide))
      have k417 : own_G p e below E0 T406 (mkF m 24 #[vr a, vr vec, vr prod, vi (0 : Int32), vd sm0_0, ss, vi (bg0 + (1 : Int32))] [(.ref a), (.int (bg0 + (1 : Int32)))]) := by
        intro tQ kk
        refine k416 tQ ?_
        refine XS.daddS X407.here hx rfl (hb hby d_prog_93_method_4_code_53) rfl (own_nn (FP.Core.dadd_int own_d0 qf0_0 (Nat.le_trans BA0_0 (by decide)))) hsm0_0 ?_
        refine XS.dstore X407.here hx rfl (hb hby d_prog_93_method_4_code_54) rfl (l' := #[vr a, vr vec, vr prod, vi (0 : Int32), vd sm0_0, ss, vi bg0]) rfl ?_
        refine XS.iinc X407.here hx rfl (hb hby d_prog_93_method_4_code_56) rfl (l' := #[vr a, vr vec, vr prod, vi (0 : Int32), vd sm0_0, ss, vi (bg0 + (1 : Int32))]) rfl ?_
        refine XS.goto X407.here hx rfl (pc0 := 59) (pc' := 21) rfl (hb hby d_prog_93_method_4_code_59) (by decide) (by decide) ?_
        show Steps p.tables e below (T406.setTop (mkF m 21 #[vr a, vr vec, vr prod, vi (0 : Int32), vd sm0_0, ss, vi (bg0 + (1 : Int32))] [])) tQ
        refine XS.iload X407.here hx rfl (hb hby d_prog_93_method_4_code_21) rfl ?_
        refine XS.aloadN X407.here hx rfl (hb hby d_prog_93_method_4_code_23) rfl rfl ?_
        exact kk
      clear k416
      obtain ⟨T418, X419, e420, st421⟩ := getF X407 hx hZ hown (host := "") (Or.inl (tw22 hw)) Via.refl e408 F2 (g := (mkF m 24 #[vr a, vr vec, vr prod, vi (0 : Int32), vd sm0_0, ss, vi (bg0 + (1 : Int32))] [(.ref a), (.int (bg0 + (1 : Int32)))])) rfl rfl (hb hby d_prog_93_method_4_code_24)
      have k422 : own_G p e below E0 T418 (mkF m 27 #[vr a, vr vec, vr prod, vi (0 : Int32), vd sm0_0, ss, vi (bg0 + (1 : Int32))] [(.ref ros), (.int (bg0 + (1 : Int32)))]) := fun tQ kk => k417 tQ (st421 _ kk)
      clear k417 st421
      have k423 : own_G p e below E0 T418 (mkF m 30 #[vr a, vr vec, vr prod, vi (0 : Int32), vd sm0_0, ss, vi (bg0 + (1 : Int32))] [(.int (1 : Int32)), (.ref ros), (.int (bg0 + (1 : Int32)))]) := by
        intro tQ kk
        refine k422 tQ ?_
        refine XS.iloadN X419.here hx rfl (hb hby d_prog_93_method_4_code_27) rfl ?_
        refine XS.iconst X419.here hx rfl (hb hby d_prog_93_method_4_code_28) ?_
        refine XS.iadd X419.here hx rfl (hb hby d_prog_93_method_4_code_29) rfl ?_
        exact kk
      clear k422
      have st424 := fun tQ => own_A.ild X419 hx hZ e420 A1 (j := (1 : Int32)) (v := (.int ed0)) (by decide) rfl (g := (mkF m 30 #[vr a, vr vec, vr prod, vi (0 : Int32), vd sm0_0, ss, vi (bg0 + (1 : Int32))] [(.int (1 : Int32)), (.ref ros), (.int (bg0 + (1 : Int32)))])) rfl rfl (hb hby d_prog_93_method_4_code_30) tQ
      have k425 : own_G p e below E0 T418 (mkF m 31 #[vr a, vr vec, vr prod, vi (0 : Int32), vd sm0_0, ss, vi (bg0 + (1 : Int32))] [(.int ed0), (.int (bg0 + (1 : Int32)))]) := fun tQ kk => k423 tQ (st424 _ kk)
      clear k423 st424
      obtain ⟨ec0_1, ew0_1, ex0_1, qa0_1, qb0_1, qc0_1, qd0_1, qe0_1, qf0_1, qg0_1⟩ := en0_1
      have k426 : own_G p e below E0 T418 (mkF m 37 #[vr a, vr vec, vr prod, vi (0 : Int32), vd sm0_0, ss, vi (bg0 + (1 : Int32))] [(.ref a), (.double sm0_0)]) := by
        intro tQ kk
        refine k425 tQ ?_
        refine XS.icmpNo X419.here hx rfl (hb hby d_prog_93_method_4_code_31) rfl (own_ic_geN bb0_1) ?_
        refine XS.dload X419.here hx rfl (hb hby d_prog_93_method_4_code_34) rfl ?_
        refine XS.aloadN X419.here hx rfl (hb hby d_prog_93_method_4_code_36) rfl rfl ?_
        exact kk
      clear k425
      obtain ⟨T427, X428, e429, st430⟩ := getF X419 hx hZ hown (host := "") (Or.inl (tw26 hw)) Via.refl e420 F4 (g := (mkF m 37 #[vr a, vr vec, vr prod, vi (0 : Int32), vd sm0_0, ss, vi (bg0 + (1 : Int32))] [(.ref a), (.double sm0_0)])) rfl rfl (hb hby d_prog_93_method_4_code_37)
      have k431 : own_G p e below E0 T427 (mkF m 40 #[vr a, vr vec, vr prod, vi (0 : Int32), vd sm0_0, ss, vi (bg0 + (1 : Int32))] [(.ref vas), (.double sm0_0)]) := fun tQ kk => k426 tQ (st430 _ kk)
      clear k426 st430
      have k432 : own_G p e below E0 T427 (mkF m 42 #[vr a, vr vec, vr prod, vi (0 : Int32), vd sm0_0, ss, vi (bg0 + (1 : Int32))] [(.int (bg0 + (1 : Int32))), (.ref vas), (.double sm0_0)]) := by
        intro tQ kk
        refine k431 tQ ?_
        refine XS.iload X428.here hx rfl (hb hby d_prog_93_method_4_code_40) rfl ?_
        exact kk
      clear k431
      have st433 := fun tQ => own_A.dld X428 hx hZ e429 A3 (j := (bg0 + (1 : Int32))) (v := (.double ew0_1)) qa0_1 qc0_1 (g := (mkF m 42 #[vr a, vr vec, vr prod, vi (0 : Int32), vd sm0_0, ss, vi (bg0 + (1 : Int32))] [(.int (bg0 + (1 : Int32))), (.ref vas), (.double sm0_0)])) rfl rfl (hb hby d_prog_93_method_4_code_42) tQ
      have k434 : own_G p e below E0 T427 (mkF m 43 #[vr a, vr vec, vr prod, vi (0 : Int32), vd sm0_0, ss, vi (bg0 + (1 : Int32))] [(.double ew0_1), (.double sm0_0)]) := fun tQ kk => k432 tQ (st433 _ kk)
      clear k432 st433
      have k435 : own_G p e below E0 T427 (mkF m 45 #[vr a, vr vec, vr prod, vi (0 : Int32), vd sm0_0, ss, vi (bg0 + (1 : Int32))] [(.ref a), (.ref vec), (.double ew0_1), (.double sm0_0)]) := by
        intro tQ kk
        refine k434 tQ ?_
        refine XS.aloadN X428.here hx rfl (hb hby d_prog_93_method_4_code_43) rfl rfl ?_
        refine XS.aloadN X428.here hx rfl (hb hby d_prog_93_method_4_code_44) rfl rfl ?_
        exact kk
      clear k434
      obtain ⟨T436, X437, e438, st439⟩ := getF X428 hx hZ hown (host := "") (Or.inl (tw24 hw)) Via.refl e429 F3 (g := (mkF m 45 #[vr a, vr vec, vr prod, vi (0 : Int32), vd sm0_0, ss, vi (bg0 + (1 : Int32))] [(.ref a), (.ref vec), (.double ew0_1), (.double sm0_0)])) rfl rfl (hb hby d_prog_93_method_4_code_45)
      have k440 : own_G p e below E0 T436 (mkF m 48 #[vr a, vr vec, vr prod, vi (0 : Int32), vd sm0_0, ss, vi (bg0 + (1 : Int32))] [(.ref cos), (.ref vec), (.double ew0_1), (.double sm0_0)]) := fun tQ kk => k435 tQ (st439 _ kk)
      clear k435 st439
      have k441 : own_G p e below E0 T436 (mkF m 50 #[vr a, vr vec, vr prod, vi (0 : Int32), vd sm0_0, ss, vi (bg0 + (1 : Int32))] [(.int (bg0 + (1 : Int32))), (.ref cos), (.ref vec), (.double ew0_1), (.double sm0_0)]) := by
        intro tQ kk
        refine k440 tQ ?_
        refine XS.iload X437.here hx rfl (hb hby d_prog_93_method_4_code_48) rfl ?_
        exact kk
      clear k440
      have st442 := fun tQ => own_A.ild X437 hx hZ e438 A2 (j := (bg0 + (1 : Int32))) (v := (.int ec0_1)) qa0_1 qb0_1 (g := (mkF m 50 #[vr a, vr vec, vr prod, vi (0 : Int32), vd sm0_0, ss, vi (bg0 + (1 : Int32))] [(.int (bg0 + (1 : Int32))), (.ref cos), (.ref vec), (.double ew0_1), (.double sm0_0)])) rfl rfl (hb hby d_prog_93_method_4_code_50) tQ
      have k443 : own_G p e below E0 T436 (mkF m 51 #[vr a, vr vec, vr prod, vi (0 : Int32), vd sm0_0, ss, vi (bg0 + (1 : Int32))] [(.int ec0_1), (.ref vec), (.double ew0_1), (.double sm0_0)]) := fun tQ kk => k441 tQ (st442 _ kk)
      clear k441 st442
      have st444 := fun tQ => own_A.dld X437 hx hZ e438 A4 (j := ec0_1) (v := (.double ex0_1)) qd0_1 qe0_1 (g := (mkF m 51 #[vr a, vr vec, vr prod, vi (0 : Int32), vd sm0_0, ss, vi (bg0 + (1 : Int32))] [(.int ec0_1), (.ref vec), (.double ew0_1), (.double sm0_0)])) rfl rfl (hb hby d_prog_93_method_4_code_51) tQ
      have k445 : own_G p e below E0 T436 (mkF m 52 #[vr a, vr vec, vr prod, vi (0 : Int32), vd sm0_0, ss, vi (bg0 + (1 : Int32))] [(.double ex0_1), (.double ew0_1), (.double sm0_0)]) := fun tQ kk => k443 tQ (st444 _ kk)
      clear k443 st444
      have BA0_1 := own_acc BA0_0 qg0_1
      have k446 : own_G p e below E0 T436 (mkF m 53 #[vr a, vr vec, vr prod, vi (0 : Int32), vd sm0_0, ss, vi (bg0 + (1 : Int32))] [(.double (FP.dmul ew0_1 ex0_1)), (.double sm0_0)]) := by
        intro tQ kk
        refine k445 tQ ?_
        refine XS.dmulS X437.here hx rfl (hb hby d_prog_93_method_4_code_52) rfl (own_nn qf0_1) rfl ?_
        exact kk
      clear k445
      obtain ⟨sm0_1, hsm0_1⟩ : ∃ vA, FP.dadd sm0_0 (FP.dmul ew0_1 ex0_1) = vA := ⟨_, rfl⟩
      have DS0_1 : FP.Core.DInt (((0 + u0_0) + u0_1)) sm0_1 := hsm0_1 ▸ FP.Core.dadd_int DS0_0 qf0_1 (Nat.le_trans BA0_1 (by decide))
      have k447 : own_G p e below E0 T436 (mkF m 24 #[vr a, vr vec, vr prod, vi (0 : Int32), vd sm0_1, ss, vi ((bg0 + (1 : Int32)) + (1 : Int32))] [(.ref a), (.int ((bg0 + (1 : Int32)) + (1 : Int32)))]) := by
        intro tQ kk
        refine k446 tQ ?_
        refine XS.daddS X437.here hx rfl (hb hby d_prog_93_method_4_code_53) rfl (own_nn (FP.Core.dadd_int DS0_0 qf0_1 (Nat.le_trans BA0_1 (by decide)))) hsm0_1 ?_
        refine XS.dstore X437.here hx rfl (hb hby d_prog_93_method_4_code_54) rfl (l' := #[vr a, vr vec, vr prod, vi (0 : Int32), vd sm0_1, ss, vi (bg0 + (1 : Int32))]) rfl ?_
        refine XS.iinc X437.here hx rfl (hb hby d_prog_93_method_4_code_56) rfl (l' := #[vr a, vr vec, vr prod, vi (0 : Int32), vd sm0_1, ss, vi ((bg0 + (1 : Int32)) + (1 : Int32))]) rfl ?_
        refine XS.goto X437.here hx rfl (pc0 := 59) (pc' := 21) rfl (hb hby d_prog_93_method_4_code_59) (by decide) (by decide) ?_
        show Steps p.tables e below (T436.setTop (mkF m 21 #[vr a, vr vec, vr prod, vi (0 : Int32), vd sm0_1, ss, vi ((bg0 + (1 : Int32)) + (1 : Int32))] [])) tQ
        refine XS.iload X437.here hx rfl (hb hby d_prog_93_method_4_code_21) rfl ?_
        refine XS.aloadN X437.here hx rfl (hb hby d_prog_93_method_4_code_23) rfl rfl ?_
        exact kk
      clear k446
      obtain ⟨T448, X449, e450, st451⟩ := getF X437 hx hZ hown (host := "") (Or.inl (tw22 hw)) Via.refl e438 F2 (g := (mkF m 24 #[vr a, vr vec, vr prod, vi (0 : Int32), vd sm0_1, ss, vi ((bg0 + (1 : Int32)) + (1 : Int32))] [(.ref a), (.int ((bg0 + (1 : Int32)) + (1 : Int32)))])) rfl rfl (hb hby d_prog_93_method_4_code_24)
      have k452 : own_G p e below E0 T448 (mkF m 27 #[vr a, vr vec, vr prod, vi (0 : Int32), vd sm0_1, ss, vi ((bg0 + (1 : Int32)) + (1 : Int32))] [(.ref ros), (.int ((bg0 + (1 : Int32)) + (1 : Int32)))]) := fun tQ kk => k447 tQ (st451 _ kk)
      clear k447 st451
      have k453 : own_G p e below E0 T448 (mkF m 30 #[vr a, vr vec, vr prod, vi (0 : Int32), vd sm0_1, ss, vi ((bg0 + (1 : Int32)) + (1 : Int32))] [(.int (1 : Int32)), (.ref ros), (.int ((bg0 + (1 : Int32)) + (1 : Int32)))]) := by
        intro tQ kk
        refine k452 tQ ?_
        refine XS.iloadN X449.here hx rfl (hb hby d_prog_93_method_4_code_27) rfl ?_
        refine XS.iconst X449.here hx rfl (hb hby d_prog_93_method_4_code_28) ?_
        refine XS.iadd X449.here hx rfl (hb hby d_prog_93_method_4_code_29) rfl ?_
        exact kk
      clear k452
      have st454 := fun tQ => own_A.ild X449 hx hZ e450 A1 (j := (1 : Int32)) (v := (.int ed0)) (by decide) rfl (g := (mkF m 30 #[vr a, vr vec, vr prod, vi (0 : Int32), vd sm0_1, ss, vi ((bg0 + (1 : Int32)) + (1 : Int32))] [(.int (1 : Int32)), (.ref ros), (.int ((bg0 + (1 : Int32)) + (1 : Int32)))])) rfl rfl (hb hby d_prog_93_method_4_code_30) tQ
      have k455 : own_G p e below E0 T448 (mkF m 31 #[vr a, vr vec, vr prod, vi (0 : Int32), vd sm0_1, ss, vi ((bg0 + (1 : Int32)) + (1 : Int32))] [(.int ed0), (.int ((bg0 + (1 : Int32)) + (1 : Int32)))]) := fun tQ kk => k453 tQ (st454 _ kk)
      clear k453 st454
      have k456 : own_G p e below E0 T448 (mkF m 62 #[vr a, vr vec, vr prod, vi (0 : Int32), vd sm0_1, ss, vi ((bg0 + (1 : Int32)) + (1 : Int32))] []) := by
        intro tQ kk
        refine k455 tQ ?_
        refine XS.icmpYes X449.here hx rfl (pc0 := 31) (pc' := 62) rfl (hb hby d_prog_93_method_4_code_31) rfl (own_ic_geY bb0_2) (by decide) (by decide) ?_
        exact kk
      clear k455
      exact ⟨T448, sm0_1, ((bg0 + (1 : Int32)) + (1 : Int32)), ((by rw [hr0]; exact DS0_1)), X449, e450, k456⟩
    · skip
      have k457 : own_G p e below E0 T328 (mkF m 24 #[vr a, vr vec, vr prod, vi (0 : Int32), vd FP.dconst0, ss, vi bg0] [(.ref a), (.int bg0)]) := by
        intro tQ kk
        refine k336 tQ ?_
        refine XS.iload X329.here hx rfl (hb hby d_prog_93_method_4_code_21) rfl ?_
        refine XS.aloadN X329.here hx rfl (hb hby d_prog_93_method_4_code_23) rfl rfl ?_
        exact kk
      clear k336
      obtain ⟨T458, X459, e460, st461⟩ := getF X329 hx hZ hown (host := "") (Or.inl (tw22 hw)) Via.refl e330 F2 (g := (mkF m 24 #[vr a, vr vec, vr prod, vi (0 : Int32), vd FP.dconst0, ss, vi bg0] [(.ref a), (.int bg0)])) rfl rfl (hb hby d_prog_93_method_4_code_24)
      have k462 : own_G p e below E0 T458 (mkF m 27 #[vr a, vr vec, vr prod, vi (0 : Int32), vd FP.dconst0, ss, vi bg0] [(.ref ros), (.int bg0)]) := fun tQ kk => k457 tQ (st461 _ kk)
      clear k457 st461
      have k463 : own_G p e below E0 T458 (mkF m 30 #[vr a, vr vec, vr prod, vi (0 : Int32), vd FP.dconst0, ss, vi bg0] [(.int (1 : Int32)), (.ref ros), (.int bg0)]) := by
        intro tQ kk
        refine k462 tQ ?_
        refine XS.iloadN X459.here hx rfl (hb hby d_prog_93_method_4_code_27) rfl ?_
        refine XS.iconst X459.here hx rfl (hb hby d_prog_93_method_4_code_28) ?_
        refine XS.iadd X459.here hx rfl (hb hby d_prog_93_method_4_code_29) rfl ?_
        exact kk
      clear k462
      have st464 := fun tQ => own_A.ild X459 hx hZ e460 A1 (j := (1 : Int32)) (v := (.int ed0)) (by decide) rfl (g := (mkF m 30 #[vr a, vr vec, vr prod, vi (0 : Int32), vd FP.dconst0, ss, vi bg0] [(.int (1 : Int32)), (.ref ros), (.int bg0)])) rfl rfl (hb hby d_prog_93_method_4_code_30) tQ
      have k465 : own_G p e below E0 T458 (mkF m 31 #[vr a, vr vec, vr prod, vi (0 : Int32), vd FP.dconst0, ss, vi bg0] [(.int ed0), (.int bg0)]) := fun tQ kk => k463 tQ (st464 _ kk)
      clear k463 st464
      obtain ⟨ec0_0, ew0_0, ex0_0, qa0_0, qb0_0, qc0_0, qd0_0, qe0_0, qf0_0, qg0_0⟩ := en0_0
      have k466 : own_G p e below E0 T458 (mkF m 37 #[vr a, vr vec, vr prod, vi (0 : Int32), vd FP.dconst0, ss, vi bg0] [(.ref a), (.double FP.dconst0)]) := by
        intro tQ kk
        refine k465 tQ ?_
        refine XS.icmpNo X459.here hx rfl (hb hby d_prog_93_method_4_code_31) rfl (own_ic_geN bb0_0) ?_
        refine XS.dload X459.here hx rfl (hb hby d_prog_93_method_4_code_34) rfl ?_
        refine XS.aloadN X459.here hx rfl (hb hby d_prog_93_method_4_code_36) rfl rfl ?_
        exact kk
      clear k465
      obtain ⟨T467, X468, e469, st470⟩ := getF X459 hx hZ hown (host := "") (Or.inl (tw26 hw)) Via.refl e460 F4 (g := (mkF m 37 #[vr a, vr vec, vr prod, vi (0 : Int32), vd FP.dconst0, ss, vi bg0] [(.ref a), (.double FP.dconst0)])) rfl rfl (hb hby d_prog_93_method_4_code_37)
      have k471 : own_G p e below E0 T467 (mkF m 40 #[vr a, vr vec, vr prod, vi (0 : Int32), vd FP.dconst0, ss, vi bg0] [(.ref vas), (.double FP.dconst0)]) := fun tQ kk => k466 tQ (st470 _ kk)
      clear k466 st470
      have k472 : own_G p e below E0 T467 (mkF m 42 #[vr a, vr vec, vr prod, vi (0 : Int32), vd FP.dconst0, ss, vi bg0] [(.int bg0), (.ref vas), (.double FP.dconst0)]) := by
        intro tQ kk
        refine k471 tQ ?_
        refine XS.iload X468.here hx rfl (hb hby d_prog_93_method_4_code_40) rfl ?_
        exact kk
      clear k471
      have st473 := fun tQ => own_A.dld X468 hx hZ e469 A3 (j := bg0) (v := (.double ew0_0)) qa0_0 qc0_0 (g := (mkF m 42 #[vr a, vr vec, vr prod, vi (0 : Int32), vd FP.dconst0, ss, vi bg0] [(.int bg0), (.ref vas), (.double FP.dconst0)])) rfl rfl (hb hby d_prog_93_method_4_code_42) tQ
      have k474 : own_G p e below E0 T467 (mkF m 43 #[vr a, vr vec, vr prod, vi (0 : Int32), vd FP.dconst0, ss, vi bg0] [(.double ew0_0), (.double FP.dconst0)]) := fun tQ kk => k472 tQ (st473 _ kk)
      clear k472 st473
      have k475 : own_G p e below E0 T467 (mkF m 45 #[vr a, vr vec, vr prod, vi (0 : Int32), vd FP.dconst0, ss, vi bg0] [(.ref a), (.ref vec), (.double ew0_0), (.double FP.dconst0)]) := by
        intro tQ kk
        refine k474 tQ ?_
        refine XS.aloadN X468.here hx rfl (hb hby d_prog_93_method_4_code_43) rfl rfl ?_
        refine XS.aloadN X468.here hx rfl (hb hby d_prog_93_method_4_code_44) rfl rfl ?_
        exact kk
      clear k474
      obtain ⟨T476, X477, e478, st479⟩ := getF X468 hx hZ hown (host := "") (Or.inl (tw24 hw)) Via.refl e469 F3 (g := (mkF m 45 #[vr a, vr vec, vr prod, vi (0 : Int32), vd FP.dconst0, ss, vi bg0] [(.ref a), (.ref vec), (.double ew0_0), (.double FP.dconst0)])) rfl rfl (hb hby d_prog_93_method_4_code_45)
      have k480 : own_G p e below E0 T476 (mkF m 48 #[vr a, vr vec, vr prod, vi (0 : Int32), vd FP.dconst0, ss, vi bg0] [(.ref cos), (.ref vec), (.double ew0_0), (.double FP.dconst0)]) := fun tQ kk => k475 tQ (st479 _ kk)
      clear k475 st479
      have k481 : own_G p e below E0 T476 (mkF m 50 #[vr a, vr vec, vr prod, vi (0 : Int32), vd FP.dconst0, ss, vi bg0] [(.int bg0), (.ref cos), (.ref vec), (.double ew0_0), (.double FP.dconst0)]) := by
        intro tQ kk
        refine k480 tQ ?_
        refine XS.iload X477.here hx rfl (hb hby d_prog_93_method_4_code_48) rfl ?_
        exact kk
      clear k480
      have st482 := fun tQ => own_A.ild X477 hx hZ e478 A2 (j := bg0) (v := (.int ec0_0)) qa0_0 qb0_0 (g := (mkF m 50 #[vr a, vr vec, vr prod, vi (0 : Int32), vd FP.dconst0, ss, vi bg0] [(.int bg0), (.ref cos), (.ref vec), (.double ew0_0), (.double FP.dconst0)])) rfl rfl (hb hby d_prog_93_method_4_code_50) tQ
      have k483 : own_G p e below E0 T476 (mkF m 51 #[vr a, vr vec, vr prod, vi (0 : Int32), vd FP.dconst0, ss, vi bg0] [(.int ec0_0), (.ref vec), (.double ew0_0), (.double FP.dconst0)]) := fun tQ kk => k481 tQ (st482 _ kk)
      clear k481 st482
      have st484 := fun tQ => own_A.dld X477 hx hZ e478 A4 (j := ec0_0) (v := (.double ex0_0)) qd0_0 qe0_0 (g := (mkF m 51 #[vr a, vr vec, vr prod, vi (0 : Int32), vd FP.dconst0, ss, vi bg0] [(.int ec0_0), (.ref vec), (.double ew0_0), (.double FP.dconst0)])) rfl rfl (hb hby d_prog_93_method_4_code_51) tQ
      have k485 : own_G p e below E0 T476 (mkF m 52 #[vr a, vr vec, vr prod, vi (0 : Int32), vd FP.dconst0, ss, vi bg0] [(.double ex0_0), (.double ew0_0), (.double FP.dconst0)]) := fun tQ kk => k483 tQ (st484 _ kk)
      clear k483 st484
      have BA0_0 := own_acc own_B0 qg0_0
      have k486 : own_G p e below E0 T476 (mkF m 53 #[vr a, vr vec, vr prod, vi (0 : Int32), vd FP.dconst0, ss, vi bg0] [(.double (FP.dmul ew0_0 ex0_0)), (.double FP.dconst0)]) := by
        intro tQ kk
        refine k485 tQ ?_
        refine XS.dmulS X477.here hx rfl (hb hby d_prog_93_method_4_code_52) rfl (own_nn qf0_0) rfl ?_
        exact kk
      clear k485
      obtain ⟨sm0_0, hsm0_0⟩ : ∃ vA, FP.dadd FP.dconst0 (FP.dmul ew0_0 ex0_0) = vA := ⟨_, rfl⟩
      have DS0_0 : FP.Core.DInt ((0 + u0_0)) sm0_0 := hsm0_0 ▸ FP.Core.dadd_int own_d0 qf0_0 (Nat.le_trans BA0_0 (by decide))
      have k487 : own_G p e below E0 T476 (mkF m 24 #[vr a, vr vec, vr prod, vi (0 : Int32), vd sm0_0, ss, vi (bg0 + (1 : Int32))] [(.ref a), (.int (bg0 + (1 : Int32)))]) := by
        intro tQ kk
        refine k486 tQ ?_
        refine XS.daddS X477.here hx rfl (hb hby d_prog_93_method_4_code_53) rfl (own_nn (FP.Core.dadd_int own_d0 qf0_0 (Nat.le_trans BA0_0 (by decide)))) hsm0_0 ?_
        refine XS.dstore X477.here hx rfl (hb hby d_prog_93_method_4_code_54) rfl (l' := #[vr a, vr vec, vr prod, vi (0 : Int32), vd sm0_0, ss, vi bg0]) rfl ?_
        refine XS.iinc X477.here hx rfl (hb hby d_prog_93_method_4_code_56) rfl (l' := #[vr a, vr vec, vr prod, vi (0 : Int32), vd sm0_0, ss, vi (bg0 + (1 : Int32))]) rfl ?_
        refine XS.goto X477.here hx rfl (pc0 := 59) (pc' := 21) rfl (hb hby d_prog_93_method_4_code_59) (by decide) (by decide) ?_
        show Steps p.tables e below (T476.setTop (mkF m 21 #[vr a, vr vec, vr prod, vi (0 : Int32), vd sm0_0, ss, vi (bg0 + (1 : Int32))] [])) tQ
        refine XS.iload X477.here hx rfl (hb hby d_prog_93_method_4_code_21) rfl ?_
        refine XS.aloadN X477.here hx rfl (hb hby d_prog_93_method_4_code_23) rfl rfl ?_
        exact kk
      clear k486
      obtain ⟨T488, X489, e490, st491⟩ := getF X477 hx hZ hown (host := "") (Or.inl (tw22 hw)) Via.refl e478 F2 (g := (mkF m 24 #[vr a, vr vec, vr prod, vi (0 : Int32), vd sm0_0, ss, vi (bg0 + (1 : Int32))] [(.ref a), (.int (bg0 + (1 : Int32)))])) rfl rfl (hb hby d_prog_93_method_4_code_24)
      have k492 : own_G p e below E0 T488 (mkF m 27 #[vr a, vr vec, vr prod, vi (0 : Int32), vd sm0_0, ss, vi (bg0 + (1 : Int32))] [(.ref ros), (.int (bg0 + (1 : Int32)))]) := fun tQ kk => k487 tQ (st491 _ kk)
      clear k487 st491
      have k493 : own_G p e below E0 T488 (mkF m 30 #[vr a, vr vec, vr prod, vi (0 : Int32), vd sm0_0, ss, vi (bg0 + (1 : Int32))] [(.int (1 : Int32)), (.ref ros), (.int (bg0 + (1 : Int32)))]) := by
        intro tQ kk
        refine k492 tQ ?_
        refine XS.iloadN X489.here hx rfl (hb hby d_prog_93_method_4_code_27) rfl ?_
        refine XS.iconst X489.here hx rfl (hb hby d_prog_93_method_4_code_28) ?_
        refine XS.iadd X489.here hx rfl (hb hby d_prog_93_method_4_code_29) rfl ?_
        exact kk
      clear k492
      have st494 := fun tQ => own_A.ild X489 hx hZ e490 A1 (j := (1 : Int32)) (v := (.int ed0)) (by decide) rfl (g := (mkF m 30 #[vr a, vr vec, vr prod, vi (0 : Int32), vd sm0_0, ss, vi (bg0 + (1 : Int32))] [(.int (1 : Int32)), (.ref ros), (.int (bg0 + (1 : Int32)))])) rfl rfl (hb hby d_prog_93_method_4_code_30) tQ
      have k495 : own_G p e below E0 T488 (mkF m 31 #[vr a, vr vec, vr prod, vi (0 : Int32), vd sm0_0, ss, vi (bg0 + (1 : Int32))] [(.int ed0), (.int (bg0 + (1 : Int32)))]) := fun tQ kk => k493 tQ (st494 _ kk)
      clear k493 st494
      obtain ⟨ec0_1, ew0_1, ex0_1, qa0_1, qb0_1, qc0_1, qd0_1, qe0_1, qf0_1, qg0_1⟩ := en0_1
      have k496 : own_G p e below E0 T488 (mkF m 37 #[vr a, vr vec, vr prod, vi (0 : Int32), vd sm0_0, ss, vi (bg0 + (1 : Int32))] [(.ref a), (.double sm0_0)]) := by
        intro tQ kk
        refine k495 tQ ?_
        refine XS.icmpNo X489.here hx rfl (hb hby d_prog_93_method_4_code_31) rfl (own_ic_geN bb0_1) ?_
        refine XS.dload X489.here hx rfl (hb hby d_prog_93_method_4_code_34) rfl ?_
        refine XS.aloadN X489.here hx rfl (hb hby d_prog_93_method_4_code_36) rfl rfl ?_
        exact kk
      clear k495
      obtain ⟨T497, X498, e499, st500⟩ := getF X489 hx hZ hown (host := "") (Or.inl (tw26 hw)) Via.refl e490 F4 (g := (mkF m 37 #[vr a, vr vec, vr prod, vi (0 : Int32), vd sm0_0, ss, vi (bg0 + (1 : Int32))] [(.ref a), (.double sm0_0)])) rfl rfl (hb hby d_prog_93_method_4_code_37)
      have k501 : own_G p e below E0 T497 (mkF m 40 #[vr a, vr vec, vr prod, vi (0 : Int32), vd sm0_0, ss, vi (bg0 + (1 : Int32))] [(.ref vas), (.double sm0_0)]) := fun tQ kk => k496 tQ (st500 _ kk)
      clear k496 st500
      have k502 : own_G p e below E0 T497 (mkF m 42 #[vr a, vr vec, vr prod, vi (0 : Int32), vd sm0_0, ss, vi (bg0 + (1 : Int32))] [(.int (bg0 + (1 : Int32))), (.ref vas), (.double sm0_0)]) := by
        intro tQ kk
        refine k501 tQ ?_
        refine XS.iload X498.here hx rfl (hb hby d_prog_93_method_4_code_40) rfl ?_
        exact kk
      clear k501
      have st503 := fun tQ => own_A.dld X498 hx hZ e499 A3 (j := (bg0 + (1 : Int32))) (v := (.double ew0_1)) qa0_1 qc0_1 (g := (mkF m 42 #[vr a, vr vec, vr prod, vi (0 : Int32), vd sm0_0, ss, vi (bg0 + (1 : Int32))] [(.int (bg0 + (1 : Int32))), (.ref vas), (.double sm0_0)])) rfl rfl (hb hby d_prog_93_method_4_code_42) tQ
      have k504 : own_G p e below E0 T497 (mkF m 43 #[vr a, vr vec, vr prod, vi (0 : Int32), vd sm0_0, ss, vi (bg0 + (1 : Int32))] [(.double ew0_1), (.double sm0_0)]) := fun tQ kk => k502 tQ (st503 _ kk)
      clear k502 st503
      have k505 : own_G p e below E0 T497 (mkF m 45 #[vr a, vr vec, vr prod, vi (0 : Int32), vd sm0_0, ss, vi (bg0 + (1 : Int32))] [(.ref a), (.ref vec), (.double ew0_1), (.double sm0_0)]) := by
        intro tQ kk
        refine k504 tQ ?_
        refine XS.aloadN X498.here hx rfl (hb hby d_prog_93_method_4_code_43) rfl rfl ?_
        refine XS.aloadN X498.here hx rfl (hb hby d_prog_93_method_4_code_44) rfl rfl ?_
        exact kk
      clear k504
      obtain ⟨T506, X507, e508, st509⟩ := getF X498 hx hZ hown (host := "") (Or.inl (tw24 hw)) Via.refl e499 F3 (g := (mkF m 45 #[vr a, vr vec, vr prod, vi (0 : Int32), vd sm0_0, ss, vi (bg0 + (1 : Int32))] [(.ref a), (.ref vec), (.double ew0_1), (.double sm0_0)])) rfl rfl (hb hby d_prog_93_method_4_code_45)
      have k510 : own_G p e below E0 T506 (mkF m 48 #[vr a, vr vec, vr prod, vi (0 : Int32), vd sm0_0, ss, vi (bg0 + (1 : Int32))] [(.ref cos), (.ref vec), (.double ew0_1), (.double sm0_0)]) := fun tQ kk => k505 tQ (st509 _ kk)
      clear k505 st509
      have k511 : own_G p e below E0 T506 (mkF m 50 #[vr a, vr vec, vr prod, vi (0 : Int32), vd sm0_0, ss, vi (bg0 + (1 : Int32))] [(.int (bg0 + (1 : Int32))), (.ref cos), (.ref vec), (.double ew0_1), (.double sm0_0)]) := by
        intro tQ kk
        refine k510 tQ ?_
        refine XS.iload X507.here hx rfl (hb hby d_prog_93_method_4_code_48) rfl ?_
        exact kk
      clear k510
      have st512 := fun tQ => own_A.ild X507 hx hZ e508 A2 (j := (bg0 + (1 : Int32))) (v := (.int ec0_1)) qa0_1 qb0_1 (g := (mkF m 50 #[vr a, vr vec, vr prod, vi (0 : Int32), vd sm0_0, ss, vi (bg0 + (1 : Int32))] [(.int (bg0 + (1 : Int32))), (.ref cos), (.ref vec), (.double ew0_1), (.double sm0_0)])) rfl rfl (hb hby d_prog_93_method_4_code_50) tQ
      have k513 : own_G p e below E0 T506 (mkF m 51 #[vr a, vr vec, vr prod, vi (0 : Int32), vd sm0_0, ss, vi (bg0 + (1 : Int32))] [(.int ec0_1), (.ref vec), (.double ew0_1), (.double sm0_0)]) := fun tQ kk => k511 tQ (st512 _ kk)
      clear k511 st512
      have st514 := fun tQ => own_A.dld X507 hx hZ e508 A4 (j := ec0_1) (v := (.double ex0_1)) qd0_1 qe0_1 (g := (mkF m 51 #[vr a, vr vec, vr prod, vi (0 : Int32), vd sm0_0, ss, vi (bg0 + (1 : Int32))] [(.int ec0_1), (.ref vec), (.double ew0_1), (.double sm0_0)])) rfl rfl (hb hby d_prog_93_method_4_code_51) tQ
      have k515 : own_G p e below E0 T506 (mkF m 52 #[vr a, vr vec, vr prod, vi (0 : Int32), vd sm0_0, ss, vi (bg0 + (1 : Int32))] [(.double ex0_1), (.double ew0_1), (.double sm0_0)]) := fun tQ kk => k513 tQ (st514 _ kk)
      clear k513 st514
      have BA0_1 := own_acc BA0_0 qg0_1
      have k516 : own_G p e below E0 T506 (mkF m 53 #[vr a, vr vec, vr prod, vi (0 : Int32), vd sm0_0, ss, vi (bg0 + (1 : Int32))] [(.double (FP.dmul ew0_1 ex0_1)), (.double sm0_0)]) := by
        intro tQ kk
        refine k515 tQ ?_
        refine XS.dmulS X507.here hx rfl (hb hby d_prog_93_method_4_code_52) rfl (own_nn qf0_1) rfl ?_
        exact kk
      clear k515
      obtain ⟨sm0_1, hsm0_1⟩ : ∃ vA, FP.dadd sm0_0 (FP.dmul ew0_1 ex0_1) = vA := ⟨_, rfl⟩
      have DS0_1 : FP.Core.DInt (((0 + u0_0) + u0_1)) sm0_1 := hsm0_1 ▸ FP.Core.dadd_int DS0_0 qf0_1 (Nat.le_trans BA0_1 (by decide))
      have k517 : own_G p e below E0 T506 (mkF m 24 #[vr a, vr vec, vr prod, vi (0 : Int32), vd sm0_1, ss, vi ((bg0 + (1 : Int32)) + (1 : Int32))] [(.ref a), (.int ((bg0 + (1 : Int32)) + (1 : Int32)))]) := by
        intro tQ kk
        refine k516 tQ ?_
        refine XS.daddS X507.here hx rfl (hb hby d_prog_93_method_4_code_53) rfl (own_nn (FP.Core.dadd_int DS0_0 qf0_1 (Nat.le_trans BA0_1 (by decide)))) hsm0_1 ?_
        refine XS.dstore X507.here hx rfl (hb hby d_prog_93_method_4_code_54) rfl (l' := #[vr a, vr vec, vr prod, vi (0 : Int32), vd sm0_1, ss, vi (bg0 + (1 : Int32))]) rfl ?_
        refine XS.iinc X507.here hx rfl (hb hby d_prog_93_method_4_code_56) rfl (l' := #[vr a, vr vec, vr prod, vi (0 : Int32), vd sm0_1, ss, vi ((bg0 + (1 : Int32)) + (1 : Int32))]) rfl ?_
        refine XS.goto X507.here hx rfl (pc0 := 59) (pc' := 21) rfl (hb hby d_prog_93_method_4_code_59) (by decide) (by decide) ?_
        show Steps p.tables e below (T506.setTop (mkF m 21 #[vr a, vr vec, vr prod, vi (0 : Int32), vd sm0_1, ss, vi ((bg0 + (1 : Int32)) + (1 : Int32))] [])) tQ
        refine XS.iload X507.here hx rfl (hb hby d_prog_93_method_4_code_21) rfl ?_
        refine XS.aloadN X507.here hx rfl (hb hby d_prog_93_method_4_code_23) rfl rfl ?_
        exact kk
      clear k516
      obtain ⟨T518, X519, e520, st521⟩ := getF X507 hx hZ hown (host := "") (Or.inl (tw22 hw)) Via.refl e508 F2 (g := (mkF m 24 #[vr a, vr vec, vr prod, vi (0 : Int32), vd sm0_1, ss, vi ((bg0 + (1 : Int32)) + (1 : Int32))] [(.ref a), (.int ((bg0 + (1 : Int32)) + (1 : Int32)))])) rfl rfl (hb hby d_prog_93_method_4_code_24)
      have k522 : own_G p e below E0 T518 (mkF m 27 #[vr a, vr vec, vr prod, vi (0 : Int32), vd sm0_1, ss, vi ((bg0 + (1 : Int32)) + (1 : Int32))] [(.ref ros), (.int ((bg0 + (1 : Int32)) + (1 : Int32)))]) := fun tQ kk => k517 tQ (st521 _ kk)
      clear k517 st521
      have k523 : own_G p e below E0 T518 (mkF m 30 #[vr a, vr vec, vr prod, vi (0 : Int32), vd sm0_1, ss, vi ((bg0 + (1 : Int32)) + (1 : Int32))] [(.int (1 : Int32)), (.ref ros), (.int ((bg0 + (1 : Int32)) + (1 : Int32)))]) := by
        intro tQ kk
        refine k522 tQ ?_
        refine XS.iloadN X519.here hx rfl (hb hby d_prog_93_method_4_code_27) rfl ?_
        refine XS.iconst X519.here hx rfl (hb hby d_prog_93_method_4_code_28) ?_
        refine XS.iadd X519.here hx rfl (hb hby d_prog_93_method_4_code_29) rfl ?_
        exact kk
      clear k522
      have st524 := fun tQ => own_A.ild X519 hx hZ e520 A1 (j := (1 : Int32)) (v := (.int ed0)) (by decide) rfl (g := (mkF m 30 #[vr a, vr vec, vr prod, vi (0 : Int32), vd sm0_1, ss, vi ((bg0 + (1 : Int32)) + (1 : Int32))] [(.int (1 : Int32)), (.ref ros), (.int ((bg0 + (1 : Int32)) + (1 : Int32)))])) rfl rfl (hb hby d_prog_93_method_4_code_30) tQ
      have k525 : own_G p e below E0 T518 (mkF m 31 #[vr a, vr vec, vr prod, vi (0 : Int32), vd sm0_1, ss, vi ((bg0 + (1 : Int32)) + (1 : Int32))] [(.int ed0), (.int ((bg0 + (1 : Int32)) + (1 : Int32)))]) := fun tQ kk => k523 tQ (st524 _ kk)
      clear k523 st524
      obtain ⟨ec0_2, ew0_2, ex0_2, qa0_2, qb0_2, qc0_2, qd0_2, qe0_2, qf0_2, qg0_2⟩ := en0_2
      have k526 : own_G p e below E0 T518 (mkF m 37 #[vr a, vr vec, vr prod, vi (0 : Int32), vd sm0_1, ss, vi ((bg0 + (1 : Int32)) + (1 : Int32))] [(.ref a), (.double sm0_1)]) := by
        intro tQ kk
        refine k525 tQ ?_
        refine XS.icmpNo X519.here hx rfl (hb hby d_prog_93_method_4_code_31) rfl (own_ic_geN bb0_2) ?_
        refine XS.dload X519.here hx rfl (hb hby d_prog_93_method_4_code_34) rfl ?_
        refine XS.aloadN X519.here hx rfl (hb hby d_prog_93_method_4_code_36) rfl rfl ?_
        exact kk
      clear k525
      obtain ⟨T527, X528, e529, st530⟩ := getF X519 hx hZ hown (host := "") (Or.inl (tw26 hw)) Via.refl e520 F4 (g := (mkF m 37 #[vr a, vr vec, vr prod, vi (0 : Int32), vd sm0_1, ss, vi ((bg0 + (1 : Int32)) + (1 : Int32))] [(.ref a), (.double sm0_1)])) rfl rfl (hb hby d_prog_93_method_4_code_37)
      have k531 : own_G p e below E0 T527 (mkF m 40 #[vr a, vr vec, vr prod, vi (0 : Int32), vd sm0_1, ss, vi ((bg0 + (1 : Int32)) + (1 : Int32))] [(.ref vas), (.double sm0_1)]) := fun tQ kk => k526 tQ (st530 _ kk)
      clear k526 st530
      have k532 : own_G p e below E0 T527 (mkF m 42 #[vr a, vr vec, vr prod, vi (0 : Int32), vd sm0_1, ss, vi ((bg0 + (1 : Int32)) + (1 : Int32))] [(.int ((bg0 + (1 : Int32)) + (1 : Int32))), (.ref vas), (.double sm0_1)]) := by
        intro tQ kk
        refine k531 tQ ?_
        refine XS.iload X528.here hx rfl (hb hby d_prog_93_method_4_code_40) rfl ?_
        exact kk
      clear k531
      have st533 := fun tQ => own_A.dld X528 hx hZ e529 A3 (j := ((bg0 + (1 : Int32)) + (1 : Int32))) (v := (.double ew0_2)) qa0_2 qc0_2 (g := (mkF m 42 #[vr a, vr vec, vr prod, vi (0 : Int32), vd sm0_1, ss, vi ((bg0 + (1 : Int32)) + (1 : Int32))] [(.int ((bg0 + (1 : Int32)) + (1 : Int32))), (.ref vas), (.double sm0_1)])) rfl rfl (hb hby d_prog_93_method_4_code_42) tQ
      have k534 : own_G p e below E0 T527 (mkF m 43 #[vr a, vr vec, vr prod, vi (0 : Int32), vd sm0_1, ss, vi ((bg0 + (1 : Int32)) + (1 : Int32))] [(.double ew0_2), (.double sm0_1)]) := fun tQ kk => k532 tQ (st533 _ kk)
      clear k532 st533
      have k535 : own_G p e below E0 T527 (mkF m 45 #[vr a, vr vec, vr prod, vi (0 : Int32), vd sm0_1, ss, vi ((bg0 + (1 : Int32)) + (1 : Int32))] [(.ref a), (.ref vec), (.double ew0_2), (.double sm0_1)]) := by
        intro tQ kk
        refine k534 tQ ?_
        refine XS.aloadN X528.here hx rfl (hb hby d_prog_93_method_4_code_43) rfl rfl ?_
        refine XS.aloadN X528.here hx rfl (hb hby d_prog_93_method_4_code_44) rfl rfl ?_
        exact kk
      clear k534
      obtain ⟨T536, X537, e538, st539⟩ := getF X528 hx hZ hown (host := "") (Or.inl (tw24 hw)) Via.refl e529 F3 (g := (mkF m 45 #[vr a, vr vec, vr prod, vi (0 : Int32), vd sm0_1, ss, vi ((bg0 + (1 : Int32)) + (1 : Int32))] [(.ref a), (.ref vec), (.double ew0_2), (.double sm0_1)])) rfl rfl (hb hby d_prog_93_method_4_code_45)
      have k540 : own_G p e below E0 T536 (mkF m 48 #[vr a, vr vec, vr prod, vi (0 : Int32), vd sm0_1, ss, vi ((bg0 + (1 : Int32)) + (1 : Int32))] [(.ref cos), (.ref vec), (.double ew0_2), (.double sm0_1)]) := fun tQ kk => k535 tQ (st539 _ kk)
      clear k535 st539
      have k541 : own_G p e below E0 T536 (mkF m 50 #[vr a, vr vec, vr prod, vi (0 : Int32), vd sm0_1, ss, vi ((bg0 + (1 : Int32)) + (1 : Int32))] [(.int ((bg0 + (1 : Int32)) + (1 : Int32))), (.ref cos), (.ref vec), (.double ew0_2), (.double sm0_1)]) := by
        intro tQ kk
        refine k540 tQ ?_
        refine XS.iload X537.here hx rfl (hb hby d_prog_93_method_4_code_48) rfl ?_
        exact kk
      clear k540
      have st542 := fun tQ => own_A.ild X537 hx hZ e538 A2 (j := ((bg0 + (1 : Int32)) + (1 : Int32))) (v := (.int ec0_2)) qa0_2 qb0_2 (g := (mkF m 50 #[vr a, vr vec, vr prod, vi (0 : Int32), vd sm0_1, ss, vi ((bg0 + (1 : Int32)) + (1 : Int32))] [(.int ((bg0 + (1 : Int32)) + (1 : Int32))), (.ref cos), (.ref vec), (.double ew0_2), (.double sm0_1)])) rfl rfl (hb hby d_prog_93_method_4_code_50) tQ
      have k543 : own_G p e below E0 T536 (mkF m 51 #[vr a, vr vec, vr prod, vi (0 : Int32), vd sm0_1, ss, vi ((bg0 + (1 : Int32)) + (1 : Int32))] [(.int ec0_2), (.ref vec), (.double ew0_2), (.double sm0_1)]) := fun tQ kk => k541 tQ (st542 _ kk)
      clear k541 st542
      have st544 := fun tQ => own_A.dld X537 hx hZ e538 A4 (j := ec0_2) (v := (.double ex0_2)) qd0_2 qe0_2 (g := (mkF m 51 #[vr a, vr vec, vr prod, vi (0 : Int32), vd sm0_1, ss, vi ((bg0 + (1 : Int32)) + (1 : Int32))] [(.int ec0_2), (.ref vec), (.double ew0_2), (.double sm0_1)])) rfl rfl (hb hby d_prog_93_method_4_code_51) tQ
      have k545 : own_G p e below E0 T536 (mkF m 52 #[vr a, vr vec, vr prod, vi (0 : Int32), vd sm0_1, ss, vi ((bg0 + (1 : Int32)) + (1 : Int32))] [(.double ex0_2), (.double ew0_2), (.double sm0_1)]) := fun tQ kk => k543 tQ (st544 _ kk)
      clear k543 st544
      have BA0_2 := own_acc BA0_1 qg0_2
      have k546 : own_G p e below E0 T536 (mkF m 53 #[vr a, vr vec, vr prod, vi (0 : Int32), vd sm0_1, ss, vi ((bg0 + (1 : Int32)) + (1 : Int32))] [(.double (FP.dmul ew0_2 ex0_2)), (.double sm0_1)]) := by
        intro tQ kk
        refine k545 tQ ?_
        refine XS.dmulS X537.here hx rfl (hb hby d_prog_93_method_4_code_52) rfl (own_nn qf0_2) rfl ?_
        exact kk
      clear k545
      obtain ⟨sm0_2, hsm0_2⟩ : ∃ vA, FP.dadd sm0_1 (FP.dmul ew0_2 ex0_2) = vA := ⟨_, rfl⟩
      have DS0_2 : FP.Core.DInt ((((0 + u0_0) + u0_1) + u0_2)) sm0_2 := hsm0_2 ▸ FP.Core.dadd_int DS0_1 qf0_2 (Nat.le_trans BA0_2 (by decide))
      have k547 : own_G p e below E0 T536 (mkF m 24 #[vr a, vr vec, vr prod, vi (0 : Int32), vd sm0_2, ss, vi (((bg0 + (1 : Int32)) + (1 : Int32)) + (1 : Int32))] [(.ref a), (.int (((bg0 + (1 : Int32)) + (1 : Int32)) + (1 : Int32)))]) := by
        intro tQ kk
        refine k546 tQ ?_
        refine XS.daddS X537.here hx rfl (hb hby d_prog_93_method_4_code_53) rfl (own_nn (FP.Core.dadd_int DS0_1 qf0_2 (Nat.le_trans BA0_2 (by decide)))) hsm0_2 ?_
        refine XS.dstore X537.here hx rfl (hb hby d_prog_93_method_4_code_54) rfl (l' := #[vr a, vr vec, vr prod, vi (0 : Int32), vd sm0_2, ss, vi ((bg0 + (1 : Int32)) + (1 : Int32))]) rfl ?_
        refine XS.iinc X537.here hx rfl (hb hby d_prog_93_method_4_code_56) rfl (l' := #[vr a, vr vec, vr prod, vi (0 : Int32), vd sm0_2, ss, vi (((bg0 + (1 : Int32)) + (1 : Int32)) + (1 : Int32))]) rfl ?_
        refine XS.goto X537.here hx rfl (pc0 := 59) (pc' := 21) rfl (hb hby d_prog_93_method_4_code_59) (by decide) (by decide) ?_
        show Steps p.tables e below (T536.setTop (mkF m 21 #[vr a, vr vec, vr prod, vi (0 : Int32), vd sm0_2, ss, vi (((bg0 + (1 : Int32)) + (1 : Int32)) + (1 : Int32))] [])) tQ
        refine XS.iload X537.here hx rfl (hb hby d_prog_93_method_4_code_21) rfl ?_
        refine XS.aloadN X537.here hx rfl (hb hby d_prog_93_method_4_code_23) rfl rfl ?_
        exact kk
      clear k546
      obtain ⟨T548, X549, e550, st551⟩ := getF X537 hx hZ hown (host := "") (Or.inl (tw22 hw)) Via.refl e538 F2 (g := (mkF m 24 #[vr a, vr vec, vr prod, vi (0 : Int32), vd sm0_2, ss, vi (((bg0 + (1 : Int32)) + (1 : Int32)) + (1 : Int32))] [(.ref a), (.int (((bg0 + (1 : Int32)) + (1 : Int32)) + (1 : Int32)))])) rfl rfl (hb hby d_prog_93_method_4_code_24)
      have k552 : own_G p e below E0 T548 (mkF m 27 #[vr a, vr vec, vr prod, vi (0 : Int32), vd sm0_2, ss, vi (((bg0 + (1 : Int32)) + (1 : Int32)) + (1 : Int32))] [(.ref ros), (.int (((bg0 + (1 : Int32)) + (1 : Int32)) + (1 : Int32)))]) := fun tQ kk => k547 tQ (st551 _ kk)
      clear k547 st551
      have k553 : own_G p e below E0 T548 (mkF m 30 #[vr a, vr vec, vr prod, vi (0 : Int32), vd sm0_2, ss, vi (((bg0 + (1 : Int32)) + (1 : Int32)) + (1 : Int32))] [(.int (1 : Int32)), (.ref ros), (.int (((bg0 + (1 : Int32)) + (1 : Int32)) + (1 : Int32)))]) := by
        intro tQ kk
        refine k552 tQ ?_
        refine XS.iloadN X549.here hx rfl (hb hby d_prog_93_method_4_code_27) rfl ?_
        refine XS.iconst X549.here hx rfl (hb hby d_prog_93_method_4_code_28) ?_
        refine XS.iadd X549.here hx rfl (hb hby d_prog_93_method_4_code_29) rfl ?_
        exact kk
      clear k552
      have st554 := fun tQ => own_A.ild X549 hx hZ e550 A1 (j := (1 : Int32)) (v := (.int ed0)) (by decide) rfl (g := (mkF m 30 #[vr a, vr vec, vr prod, vi (0 : Int32), vd sm0_2, ss, vi (((bg0 + (1 : Int32)) + (1 : Int32)) + (1 : Int32))] [(.int (1 : Int32)), (.ref ros), (.int (((bg0 + (1 : Int32)) + (1 : Int32)) + (1 : Int32)))])) rfl rfl (hb hby d_prog_93_method_4_code_30) tQ
      have k555 : own_G p e below E0 T548 (mkF m 31 #[vr a, vr vec, vr prod, vi (0 : Int32), vd sm0_2, ss, vi (((bg0 + (1 : Int32)) + (1 : Int32)) + (1 : Int32))] [(.int ed0), (.int (((bg0 + (1 : Int32)) + (1 : Int32)) + (1 : Int32)))]) := fun tQ kk => k553 tQ (st554 _ kk)
      clear k553 st554
      have k556 : own_G p e below E0 T548 (mkF m 62 #[vr a, vr vec, vr prod, vi (0 : Int32), vd sm0_2, ss, vi (((bg0 + (1 : Int32)) + (1 : Int32)) + (1 : Int32))] []) := by
        intro tQ kk
        refine k555 tQ ?_
        refine XS.icmpYes X549.here hx rfl (pc0 := 31) (pc' := 62) rfl (hb hby d_prog_93_method_4_code_31) rfl (own_ic_geY bb0_3) (by decide) (by decide) ?_
        exact kk
      clear k555
      exact ⟨T548, sm0_2, (((bg0 + (1 : Int32)) + (1 : Int32)) + (1 : Int32)), ((by rw [hr0]; exact DS0_2)), X549, e550, k556⟩
  obtain ⟨T558, sR0, j557, hD563, X559, e560, k561⟩ := jn562
  have k564 : own_G p e below E0 T558 (mkF m 66 #[vr a, vr vec, vr prod, vi (0 : Int32), vd sR0, ss, vi j557] [(.double sR0), (.int (0 : Int32)), (.ref prod)]) := by
    intro tQ kk
    refine k561 tQ ?_
    refine XS.aloadN X559.here hx rfl (hb hby d_prog_93_method_4_code_62) rfl rfl ?_
    refine XS.iloadN X559.here hx rfl (hb hby d_prog_93_method_4_code_63) rfl ?_
    refine XS.dload X559.here hx rfl (hb hby d_prog_93_method_4_code_64) rfl ?_
    exact kk
  clear k561
  obtain ⟨T565, h566, X567, e568, W569, F570, st571⟩ := own_A.dst X559 hx hZ e560 A5 (j := (0 : Int32)) (by decide) rfl (g := (mkF m 66 #[vr a, vr vec, vr prod, vi (0 : Int32), vd sR0, ss, vi j557] [(.double sR0), (.int (0 : Int32)), (.ref prod)])) rfl rfl (hb hby d_prog_93_method_4_code_66)
  have N572 := Fr.snoc X567 N0 ge_prod
  have k573 : own_G p e below E0 T565 (mkF m 67 #[vr a, vr vec, vr prod, vi (0 : Int32), vd sR0, ss, vi j557] []) := fun tQ kk => k564 tQ (st571 _ kk)
  clear k564 st571
  have F574 : fd3 Z h566 a (.int (1 : Int32)) := F0.other W569 (Or.inl (fun q => ne0 q.symm))
  clear F0
  have F575 : fd4 Z h566 a (.int (3 : Int32)) := F1.other W569 (Or.inl (fun q => ne0 q.symm))
  clear F1
  have F576 : fd5 Z h566 a (.ref ros) := F2.other W569 (Or.inl (fun q => ne0 q.symm))
  clear F2
  have F577 : fd6 Z h566 a (.ref cos) := F3.other W569 (Or.inl (fun q => ne0 q.symm))
  clear F3
  have F578 : fd7 Z h566 a (.ref vas) := F4.other W569 (Or.inl (fun q => ne0 q.symm))
  clear F4
  have F579 : own_A Z h566 ros .int [(.int bg0), (.int ed0)] := A1.other W569 (fun q => ne1 q.symm)
  clear A1
  have F580 : own_A Z h566 cos .int LC := A2.other W569 (fun q => ne2 q.symm)
  clear A2
  have F581 : own_A Z h566 vas .double LW := A3.other W569 (fun q => ne3 q.symm)
  clear A3
  have F582 : own_A Z h566 vec .double [(.double x0), (.double x1), (.double x2)] := A4.other W569 (fun q => ne4 q.symm)
  clear A4
  have Z583 : n0 ≤ h566.size := by rw [W569.size]; exact Z0
  have K584 : Keep h0 h566 [prod] := K0.wr W569 (Or.inl (List.mem_of_getElem? (i := 0) rfl))
  have F585 : own_A Z h566 prod .double [(.double sR0)] := F570
  have k586 : own_G p e below E0 T565 (mkF m 4 #[vr a, vr vec, vr prod, vi (1 : Int32), vd sR0, ss, vi j557] [(.ref a), (.int (1 : Int32))]) := by
    intro tQ kk
    refine k573 tQ ?_
    refine XS.iinc X567.here hx rfl (hb hby d_prog_93_method_4_code_67) rfl (l' := #[vr a, vr vec, vr prod, vi (1 : Int32), vd sR0, ss, vi j557]) rfl ?_
    refine XS.goto X567.here hx rfl (pc0 := 70) (pc' := 2) rfl (hb hby d_prog_93_method_4_code_70) (by decide) (by decide) ?_
    refine XS.iloadN X567.here hx rfl (hb hby d_prog_93_method_4_code_2) rfl ?_
    refine XS.aloadN X567.here hx rfl (hb hby d_prog_93_method_4_code_3) rfl rfl ?_
    exact kk
  clear k573
  obtain ⟨T587, X588, e589, st590⟩ := getF X567 hx hZ hown (host := "") (Or.inl (tw18 hw)) Via.refl e568 F574 (g := (mkF m 4 #[vr a, vr vec, vr prod, vi (1 : Int32), vd sR0, ss, vi j557] [(.ref a), (.int (1 : Int32))])) rfl rfl (hb hby d_prog_93_method_4_code_4)
  have k591 : own_G p e below E0 T587 (mkF m 7 #[vr a, vr vec, vr prod, vi (1 : Int32), vd sR0, ss, vi j557] [(.int (1 : Int32)), (.int (1 : Int32))]) := fun tQ kk => k586 tQ (st590 _ kk)
  clear k586 st590
  have k592 : own_G p e below E0 T587 (mkF m 73 #[vr a, vr vec, vr prod, vi (1 : Int32), vd sR0, ss, vi j557] []) := by
    intro tQ kk
    refine k591 tQ ?_
    refine XS.icmpYes X588.here hx rfl (pc0 := 7) (pc' := 73) rfl (hb hby d_prog_93_method_4_code_7) rfl (own_ic_geY (by decide)) (by decide) (by decide) ?_
    exact kk
  clear k591
  obtain ⟨fs, hr, hrun, hended, hW, hsame⟩ := X588.leave (v := none) (fun _ => rfl)
  have hrun0 := k592 _ (X588.returnOut hx Bd.returns (hb hby d_prog_93_method_4_code_73) hr)
  subst hE0
  refine ⟨_, _, hrun0, hrun, hended, _, _, rfl, ?_, ⟨_, rfl⟩, hW, hsame.mono (by decide) (by decide)⟩
  show QrmM1 Z a vec prod ros cos vas LC LW x0 x1 x2 bg0 ed0 r0 pr0 h0 n0 _ T587.heap _
  rw [e589]
  exact ⟨sR0, rfl, N572, K584, F585, hD563⟩
def QrmM2 (Z : State) (a : Addr) (vec : Addr) (prod : Addr) (ros : Addr) (cos : Addr) (vas : Addr) (LC : List Value) (LW : List Value) (x0 : UInt64) (x1 : UInt64) (x2 : UInt64) (bg0 : Int32) (ed0 : Int32) (ed1 : Int32) (r0 : Int) (r1 : Int) (pr0 : UInt64) (pr1 : UInt64) (h0 : Heap) (n0 : Nat) (vQ : Option Value) (hQ : Heap) (LQ : List Loc) : Prop := ∃ (s0 : UInt64), ∃ (s1 : UInt64), vQ = none ∧ Fr n0 LQ ∧ Keep h0 hQ [prod] ∧ (own_A Z hQ prod .double [(.double s0), (.double s1)]) ∧ (FP.Core.DInt r0 s0) ∧ (FP.Core.DInt r1 s1)
theorem ef_rmM2 (m : MethodId) (a : Addr) (vec : Addr) (prod : Addr) (ros : Addr) (cos : Addr) (vas : Addr) (LC : List Value) (LW : List Value) (x0 : UInt64) (x1 : UInt64) (x2 : UInt64) (bg0 : Int32) (ed0 : Int32) (ed1 : Int32) (r0 : Int) (r1 : Int) (pr0 : UInt64) (pr1 : UInt64) : entryFrame m #[(.ref a), (.ref vec), (.ref prod)] 7 = mkF m 0 #[vr a, vr vec, vr prod, uu, uu, uu, uu] [] := by first | (simp [entryFrame, mkF, argsToLocals, Value.category]; done) | rfl
set_option maxRecDepth 65536 in
set_option maxHeartbeats 40000000 in
theorem rmM2 (l : Launch) (Z : State) (a0 : Array Value) (hw : ∀ d ∈ tables_1, d.before a0 Z = true) (ws : List Jvm.Cond) (a : Addr) (vec : Addr) (prod : Addr) (ros : Addr) (cos : Addr) (vas : Addr) (LC : List Value) (LW : List Value) (x0 : UInt64) (x1 : UInt64) (x2 : UInt64) (bg0 : Int32) (ed0 : Int32) (ed1 : Int32) (r0 : Int) (r1 : Int) (pr0 : UInt64) (pr1 : UInt64) (h0 : Heap) (n0 : Nat) (Z0 : n0 ≤ h0.size) (F0 : fd3 Z h0 a (.int (2 : Int32))) (F1 : fd4 Z h0 a (.int (3 : Int32))) (F2 : fd5 Z h0 a (.ref ros)) (F3 : fd6 Z h0 a (.ref cos)) (F4 : fd7 Z h0 a (.ref vas)) (A1 : own_A Z h0 ros .int [(.int bg0), (.int ed0), (.int ed1)]) (A2 : own_A Z h0 cos .int LC) (A3 : own_A Z h0 vas .double LW) (A4 : own_A Z h0 vec .double [(.double x0), (.double x1), (.double x2)]) (A5 : own_A Z h0 prod .double [(.double pr0), (.double pr1)]) (ne0 : prod ≠ a) (ne1 : prod ≠ ros) (ne2 : prod ≠ cos) (ne3 : prod ≠ vas) (ne4 : prod ≠ vec) (ge_prod : n0 ≤ prod) (hR0 : own_row LC LW [.double x0, .double x1, .double x2] bg0 ed0 r0) (hR1 : own_row LC LW [.double x0, .double x1, .double x2] ed0 ed1 r1) :
    MetFree l mn10 (head1 (Jvm.Cond.code mn10 prog_93_method_4_code 7 none :: ws) ({ frames := 0, cells := 0, slots := 0, locals := 0 } : Room)) (fun aA U => aA = #[(.ref a), (.ref vec), (.ref prod)] ∧ Z.Warmed39 U.vm ∧ U.heap = h0) (fun _ _ _ _ _ => True) (fun _ U o U' => ∃ vR LR, o = .returned vR ∧ QrmM2 Z a vec prod ros cos vas LC LW x0 x1 x2 bg0 ed0 ed1 r0 r1 pr0 pr1 h0 n0 vR U'.heap LR ∧ FrameEnd U o U' LR ({ frames := 0, cells := 0, slots := 0, locals := 0 } : Room).cells ({ frames := 0, cells := 0, slots := 0, locals := 0 } : Room).slots) := by
  refine MetFree.of_bodySF (plainFor_of_name pn_com_example_velvet_postings_velvetpostings_search_SparseMatrix) hisR ?_
  intro p e s m args below meth c s₁ Bd hml0 hPre hKk
  obtain ⟨rfl, hZ, hh⟩ := hPre
  have hx := Bd.exec
  have hby := Bd.bytes
  skip
  have hml : c.maxLocals = 7 := hml0
  have hown : s.vm.findClass "com/example/velvet_postings/velvetpostings/search/SparseMatrix" = some m.cls := findClass_of_methodNamed Bd.named
  have hnm := (name_of_methodNamed Bd.named Bd.method).1
  have X0 : Stand p l e ({ frames := 0, cells := 0, slots := 0, locals := 0 } : Room) s m #[(.ref a), (.ref vec), (.ref prod)] below meth c s₁ [] 0 0 := Stand.of_body Bd
  have e0 : s₁.heap = h0 := by rw [← hh, Bd.state]; rfl
  have N0 := Fr.nil n0
  obtain ⟨E0, hE0⟩ : ∃ zE : State, zE = s₁.setTop (entryFrame m #[(.ref a), (.ref vec), (.ref prod)] 7) := ⟨_, rfl⟩
  have k0 : own_G p e below E0 s₁ (mkF m 0 #[vr a, vr vec, vr prod, uu, uu, uu, uu] []) := fun tz kz => hE0 ▸ castTop (ef_rmM2 m a vec prod ros cos vas LC LW x0 x1 x2 bg0 ed0 ed1 r0 r1 pr0 pr1) kz
  have K0 : Keep h0 h0 [prod] := Keep.refl _ _
  have k593 : own_G p e below E0 s₁ (mkF m 4 #[vr a, vr vec, vr prod, vi (0 : Int32), uu, uu, uu] [(.ref a), (.int (0 : Int32))]) := by
    intro tQ kk
    refine k0 tQ ?_
    refine XS.iconst X0.here hx rfl (hb hby d_prog_93_method_4_code_0) ?_
    refine XS.istoreN X0.here hx rfl (hb hby d_prog_93_method_4_code_1) rfl (l' := #[vr a, vr vec, vr prod, vi (0 : Int32), uu, uu, uu]) rfl ?_
    refine XS.iloadN X0.here hx rfl (hb hby d_prog_93_method_4_code_2) rfl ?_
    refine XS.aloadN X0.here hx rfl (hb hby d_prog_93_method_4_code_3) rfl rfl ?_
    exact kk
  clear k0
  obtain ⟨T594, X595, e596, st597⟩ := getF X0 hx hZ hown (host := "") (Or.inl (tw18 hw)) Via.refl e0 F0 (g := (mkF m 4 #[vr a, vr vec, vr prod, vi (0 : Int32), uu, uu, uu] [(.ref a), (.int (0 : Int32))])) rfl rfl (hb hby d_prog_93_method_4_code_4)
  have k598 : own_G p e below E0 T594 (mkF m 7 #[vr a, vr vec, vr prod, vi (0 : Int32), uu, uu, uu] [(.int (2 : Int32)), (.int (0 : Int32))]) := fun tQ kk => k593 tQ (st597 _ kk)
  clear k593 st597
  have k599 : own_G p e below E0 T594 (mkF m 14 #[vr a, vr vec, vr prod, vi (0 : Int32), vd FP.dconst0, ss, uu] [(.ref a)]) := by
    intro tQ kk
    refine k598 tQ ?_
    refine XS.icmpNo X595.here hx rfl (hb hby d_prog_93_method_4_code_7) rfl (own_ic_geN (by decide)) ?_
    refine XS.dconst0 X595.here hx rfl (hb hby d_prog_93_method_4_code_10) rfl ?_
    refine XS.dstore X595.here hx rfl (hb hby d_prog_93_method_4_code_11) rfl (l' := #[vr a, vr vec, vr prod, vi (0 : Int32), vd FP.dconst0, ss, uu]) rfl ?_
    refine XS.aloadN X595.here hx rfl (hb hby d_prog_93_method_4_code_13) rfl rfl ?_
    exact kk
  clear k598
  obtain ⟨T600, X601, e602, st603⟩ := getF X595 hx hZ hown (host := "") (Or.inl (tw22 hw)) Via.refl e596 F2 (g := (mkF m 14 #[vr a, vr vec, vr prod, vi (0 : Int32), vd FP.dconst0, ss, uu] [(.ref a)])) rfl rfl (hb hby d_prog_93_method_4_code_14)
  have k604 : own_G p e below E0 T600 (mkF m 17 #[vr a, vr vec, vr prod, vi (0 : Int32), vd FP.dconst0, ss, uu] [(.ref ros)]) := fun tQ kk => k599 tQ (st603 _ kk)
  clear k599 st603
  have k605 : own_G p e below E0 T600 (mkF m 18 #[vr a, vr vec, vr prod, vi (0 : Int32), vd FP.dconst0, ss, uu] [(.int (0 : Int32)), (.ref ros)]) := by
    intro tQ kk
    refine k604 tQ ?_
    refine XS.iloadN X601.here hx rfl (hb hby d_prog_93_method_4_code_17) rfl ?_
    exact kk
  clear k604
  have st606 := fun tQ => own_A.ild X601 hx hZ e602 A1 (j := (0 : Int32)) (v := (.int bg0)) (by decide) rfl (g := (mkF m 18 #[vr a, vr vec, vr prod, vi (0 : Int32), vd FP.dconst0, ss, uu] [(.int (0 : Int32)), (.ref ros)])) rfl rfl (hb hby d_prog_93_method_4_code_18) tQ
  have k607 : own_G p e below E0 T600 (mkF m 19 #[vr a, vr vec, vr prod, vi (0 : Int32), vd FP.dconst0, ss, uu] [(.int bg0)]) := fun tQ kk => k605 tQ (st606 _ kk)
  clear k605 st606
  have k608 : own_G p e below E0 T600 (mkF m 21 #[vr a, vr vec, vr prod, vi (0 : Int32), vd FP.dconst0, ss, vi bg0] []) := by
    intro tQ kk
    refine k607 tQ ?_
    refine XS.istore X601.here hx rfl (hb hby d_prog_93_method_4_code_19) rfl (l' := #[vr a, vr vec, vr prod, vi (0 : Int32), vd FP.dconst0, ss, vi bg0]) rfl ?_
    exact kk
  clear k607
  have jn834 : ∃ (T830 : State), ∃ (sR0 : UInt64), ∃ (j829 : Int32), (FP.Core.DInt r0 sR0) ∧ (Stand p l e ({ frames := 0, cells := 0, slots := 0, locals := 0 } : Room) s m #[(.ref a), (.ref vec), (.ref prod)] below meth c T830 [] 0 0) ∧ (T830.heap = h0) ∧ (own_G p e below E0 T830 (mkF m 62 #[vr a, vr vec, vr prod, vi (0 : Int32), vd sR0, ss, vi j829] [])) := by
    rcases hR0 with ⟨bb0_0, hr0⟩ | ⟨u0_0, bb0_0, bb0_1, en0_0, hr0⟩ | ⟨u0_0, u0_1, bb0_0, bb0_1, bb0_2, en0_0, en0_1, hr0⟩ | ⟨u0_0, u0_1, u0_2, bb0_0, bb0_1, bb0_2, bb0_3, en0_0, en0_1, en0_2, hr0⟩
    · skip
      have k609 : own_G p e below E0 T600 (mkF m 24 #[vr a, vr vec, vr prod, vi (0 : Int32), vd FP.dconst0, ss, vi bg0] [(.ref a), (.int bg0)]) := by
        intro tQ kk
        refine k608 tQ ?_
        refine XS.iload X601.here hx rfl (hb hby d_prog_93_method_4_code_21) rfl ?_
        refine XS.aloadN X601.here hx rfl (hb hby d_prog_93_method_4_code_23) rfl rfl ?_
        exact kk
      clear k608
      obtain ⟨T610, X611, e612, st613⟩ := getF X601 hx hZ hown (host := "") (Or.inl (tw22 hw)) Via.refl e602 F2 (g := (mkF m 24 #[vr a, vr vec, vr prod, vi (0 : Int32), vd FP.dconst0, ss, vi bg0] [(.ref a), (.int bg0)])) rfl rfl (hb hby d_prog_93_method_4_code_24)
      have k614 : own_G p e below E0 T610 (mkF m 27 #[vr a, vr vec, vr prod, vi (0 : Int32), vd FP.dconst0, ss, vi bg0] [(.ref ros), (.int bg0)]) := fun tQ kk => k609 tQ (st613 _ kk)
      clear k609 st613
      have k615 : own_G p e below E0 T610 (mkF m 30 #[vr a, vr vec, vr prod, vi (0 : Int32), vd FP.dconst0, ss, vi bg0] [(.int (1 : Int32)), (.ref ros), (.int bg0)]) := by
        intro tQ kk
        refine k614 tQ ?_
        refine XS.iloadN X611.here hx rfl (hb hby d_prog_93_method_4_code_27) rfl ?_
        refine XS.iconst X611.here hx rfl (hb hby d_prog_93_method_4_code_28) ?_
        refine XS.iadd X611.here hx rfl (hb hby d_prog_93_method_4_code_29) rfl ?_
        exact kk
      clear k614
      have st616 := fun tQ => own_A.ild X611 hx hZ e612 A1 (j := (1 : Int32)) (v := (.int ed0)) (by decide) rfl (g := (mkF m 30 #[vr a, vr vec, vr prod, vi (0 : Int32), vd FP.dconst0, ss, vi bg0] [(.int (1 : Int32)), (.ref ros), (.int bg0)])) rfl rfl (hb hby d_prog_93_method_4_code_30) tQ
      have k617 : own_G p e below E0 T610 (mkF m 31 #[vr a, vr vec, vr prod, vi (0 : Int32), vd FP.dconst0, ss, vi bg0] [(.int ed0), (.int bg0)]) := fun tQ kk => k615 tQ (st616 _ kk)
      clear k615 st616
      have k618 : own_G p e below E0 T610 (mkF m 62 #[vr a, vr vec, vr prod, vi (0 : Int32), vd FP.dconst0, ss, vi bg0] []) := by
        intro tQ kk
        refine k617 tQ ?_
        refine XS.icmpYes X611.here hx rfl (pc0 := 31) (pc' := 62) rfl (hb hby d_prog_93_method_4_code_31) rfl (own_ic_geY bb0_0) (by decide) (by decide) ?_
        exact kk
      clear k617
      exact ⟨T610, FP.dconst0, bg0, ((by rw [hr0]; exact own_d0)), X611, e612, k618⟩
    · skip
      have k619 : own_G p e below E0 T600 (mkF m 24 #[vr a, vr vec, vr prod, vi (0 : Int32), vd FP.dconst0, ss, vi bg0] [(.ref a), (.int bg0)]) := by
        intro tQ kk
        refine k608 tQ ?_
        refine XS.iload X601.here hx rfl (hb hby d_prog_93_method_4_code_21) rfl ?_
        refine XS.aloadN X601.here hx rfl (hb hby d_prog_93_method_4_code_23) rfl rfl ?_
        exact kk
      clear k608
      obtain ⟨T620, X621, e622, st623⟩ := getF X601 hx hZ hown (host := "") (Or.inl (tw22 hw)) Via.refl e602 F2 (g := (mkF m 24 #[vr a, vr vec, vr prod, vi (0 : Int32), vd FP.dconst0, ss, vi bg0] [(.ref a), (.int bg0)])) rfl rfl (hb hby d_prog_93_method_4_code_24)
      have k624 : own_G p e below E0 T620 (mkF m 27 #[vr a, vr vec, vr prod, vi (0 : Int32), vd FP.dconst0, ss, vi bg0] [(.ref ros), (.int bg0)]) := fun tQ kk => k619 tQ (st623 _ kk)
      clear k619 st623
      have k625 : own_G p e below E0 T620 (mkF m 30 #[vr a, vr vec, vr prod, vi (0 : Int32), vd FP.dconst0, ss, vi bg0] [(.int (1 : Int32)), (.ref ros), (.int bg0)]) := by
        intro tQ kk
        refine k624 tQ ?_
        refine XS.iloadN X621.here hx rfl (hb hby d_prog_93_method_4_code_27) rfl ?_
        refine XS.iconst X621.here hx rfl (hb hby d_prog_93_method_4_code_28) ?_
        refine XS.iadd X621.here hx rfl (hb hby d_prog_93_method_4_code_29) rfl ?_
        exact kk
      clear k624
      have st626 := fun tQ => own_A.ild X621 hx hZ e622 A1 (j := (1 : Int32)) (v := (.int ed0)) (by decide) rfl (g := (mkF m 30 #[vr a, vr vec, vr prod, vi (0 : Int32), vd FP.dconst0, ss, vi bg0] [(.int (1 : Int32)), (.ref ros), (.int bg0)])) rfl rfl (hb hby d_prog_93_method_4_code_30) tQ
      have k627 : own_G p e below E0 T620 (mkF m 31 #[vr a, vr vec, vr prod, vi (0 : Int32), vd FP.dconst0, ss, vi bg0] [(.int ed0), (.int bg0)]) := fun tQ kk => k625 tQ (st626 _ kk)
      clear k625 st626
      obtain ⟨ec0_0, ew0_0, ex0_0, qa0_0, qb0_0, qc0_0, qd0_0, qe0_0, qf0_0, qg0_0⟩ := en0_0
      have k628 : own_G p e below E0 T620 (mkF m 37 #[vr a, vr vec, vr prod, vi (0 : Int32), vd FP.dconst0, ss, vi bg0] [(.ref a), (.double FP.dconst0)]) := by
        intro tQ kk
        refine k627 tQ ?_
        refine XS.icmpNo X621.here hx rfl (hb hby d_prog_93_method_4_code_31) rfl (own_ic_geN bb0_0) ?_
        refine XS.dload X621.here hx rfl (hb hby d_prog_93_method_4_code_34) rfl ?_
        refine XS.aloadN X621.here hx rfl (hb hby d_prog_93_method_4_code_36) rfl rfl ?_
        exact kk
      clear k627
      obtain ⟨T629, X630, e631, st632⟩ := getF X621 hx hZ hown (host := "") (Or.inl (tw26 hw)) Via.refl e622 F4 (g := (mkF m 37 #[vr a, vr vec, vr prod, vi (0 : Int32), vd FP.dconst0, ss, vi bg0] [(.ref a), (.double FP.dconst0)])) rfl rfl (hb hby d_prog_93_method_4_code_37)
      have k633 : own_G p e below E0 T629 (mkF m 40 #[vr a, vr vec, vr prod, vi (0 : Int32), vd FP.dconst0, ss, vi bg0] [(.ref vas), (.double FP.dconst0)]) := fun tQ kk => k628 tQ (st632 _ kk)
      clear k628 st632
      have k634 : own_G p e below E0 T629 (mkF m 42 #[vr a, vr vec, vr prod, vi (0 : Int32), vd FP.dconst0, ss, vi bg0] [(.int bg0), (.ref vas), (.double FP.dconst0)]) := by
        intro tQ kk
        refine k633 tQ ?_
        refine XS.iload X630.here hx rfl (hb hby d_prog_93_method_4_code_40) rfl ?_
        exact kk
      clear k633
      have st635 := fun tQ => own_A.dld X630 hx hZ e631 A3 (j := bg0) (v := (.double ew0_0)) qa0_0 qc0_0 (g := (mkF m 42 #[vr a, vr vec, vr prod, vi (0 : Int32), vd FP.dconst0, ss, vi bg0] [(.int bg0), (.ref vas), (.double FP.dconst0)])) rfl rfl (hb hby d_prog_93_method_4_code_42) tQ
      have k636 : own_G p e below E0 T629 (mkF m 43 #[vr a, vr vec, vr prod, vi (0 : Int32), vd FP.dconst0, ss, vi bg0] [(.double ew0_0), (.double FP.dconst0)]) := fun tQ kk => k634 tQ (st635 _ kk)
      clear k634 st635
      have k637 : own_G p e below E0 T629 (mkF m 45 #[vr a, vr vec, vr prod, vi (0 : Int32), vd FP.dconst0, ss, vi bg0] [(.ref a), (.ref vec), (.double ew0_0), (.double FP.dconst0)]) := by
        intro tQ kk
        refine k636 tQ ?_
        refine XS.aloadN X630.here hx rfl (hb hby d_prog_93_method_4_code_43) rfl rfl ?_
        refine XS.aloadN X630.here hx rfl (hb hby d_prog_93_method_4_code_44) rfl rfl ?_
        exact kk
      clear k636
      obtain ⟨T638, X639, e640, st641⟩ := getF X630 hx hZ hown (host := "") (Or.inl (tw24 hw)) Via.refl e631 F3 (g := (mkF m 45 #[vr a, vr vec, vr prod, vi (0 : Int32), vd FP.dconst0, ss, vi bg0] [(.ref a), (.ref vec), (.double ew0_0), (.double FP.dconst0)])) rfl rfl (hb hby d_prog_93_method_4_code_45)
      have k642 : own_G p e below E0 T638 (mkF m 48 #[vr a, vr vec, vr prod, vi (0 : Int32), vd FP.dconst0, ss, vi bg0] [(.ref cos), (.ref vec), (.double ew0_0), (.double FP.dconst0)]) := fun tQ kk => k637 tQ (st641 _ kk)
      clear k637 st641
      have k643 : own_G p e below E0 T638 (mkF m 50 #[vr a, vr vec, vr prod, vi (0 : Int32), vd FP.dconst0, ss, vi bg0] [(.int bg0), (.ref cos), (.ref vec), (.double ew0_0), (.double FP.dconst0)]) := by
        intro tQ kk
        refine k642 tQ ?_
        refine XS.iload X639.here hx rfl (hb hby d_prog_93_method_4_code_48) rfl ?_
        exact kk
      clear k642
      have st644 := fun tQ => own_A.ild X639 hx hZ e640 A2 (j := bg0) (v := (.int ec0_0)) qa0_0 qb0_0 (g := (mkF m 50 #[vr a, vr vec, vr prod, vi (0 : Int32), vd FP.dconst0, ss, vi bg0] [(.int bg0), (.ref cos), (.ref vec), (.double ew0_0), (.double FP.dconst0)])) rfl rfl (hb hby d_prog_93_method_4_code_50) tQ
      have k645 : own_G p e below E0 T638 (mkF m 51 #[vr a, vr vec, vr prod, vi (0 : Int32), vd FP.dconst0, ss, vi bg0] [(.int ec0_0), (.ref vec), (.double ew0_0), (.double FP.dconst0)]) := fun tQ kk => k643 tQ (st644 _ kk)
      clear k643 st644
      have st646 := fun tQ => own_A.dld X639 hx hZ e640 A4 (j := ec0_0) (v := (.double ex0_0)) qd0_0 qe0_0 (g := (mkF m 51 #[vr a, vr vec, vr prod, vi (0 : Int32), vd FP.dconst0, ss, vi bg0] [(.int ec0_0), (.ref vec), (.double ew0_0), (.double FP.dconst0)])) rfl rfl (hb hby d_prog_93_method_4_code_51) tQ
      have k647 : own_G p e below E0 T638 (mkF m 52 #[vr a, vr vec, vr prod, vi (0 : Int32), vd FP.dconst0, ss, vi bg0] [(.double ex0_0), (.double ew0_0), (.double FP.dconst0)]) := fun tQ kk => k645 tQ (st646 _ kk)
      clear k645 st646
      have BA0_0 := own_acc own_B0 qg0_0
      have k648 : own_G p e below E0 T638 (mkF m 53 #[vr a, vr vec, vr prod, vi (0 : Int32), vd FP.dconst0, ss, vi bg0] [(.double (FP.dmul ew0_0 ex0_0)), (.double FP.dconst0)]) := by
        intro tQ kk
        refine k647 tQ ?_
        refine XS.dmulS X639.here hx rfl (hb hby d_prog_93_method_4_code_52) rfl (own_nn qf0_0) rfl ?_
        exact kk
      clear k647
      obtain ⟨sm0_0, hsm0_0⟩ : ∃ vA, FP.dadd FP.dconst0 (FP.dmul ew0_0 ex0_0) = vA := ⟨_, rfl⟩
      have DS0_0 : FP.Core.DInt ((0 + u0_0)) sm0_0 := hsm0_0 ▸ FP.Core.dadd_int own_d0 qf0_0 (Nat.le_trans BA0_0 (by decide))
      have k649 : own_G p e below E0 T638 (mkF m 24 #[vr a, vr vec, vr prod, vi (0 : Int32), vd sm0_0, ss, vi (bg0 + (1 : Int32))] [(.ref a), (.int (bg0 + (1 : Int32)))]) := by
        intro tQ kk
        refine k648 tQ ?_
        refine XS.daddS X639.here hx rfl (hb hby d_prog_93_method_4_code_53) rfl (own_nn (FP.Core.dadd_int own_d0 qf0_0 (Nat.le_trans BA0_0 (by decide)))) hsm0_0 ?_
        refine XS.dstore X639.here hx rfl (hb hby d_prog_93_method_4_code_54) rfl (l' := #[vr a, vr vec, vr prod, vi (0 : Int32), vd sm0_0, ss, vi bg0]) rfl ?_
        refine XS.iinc X639.here hx rfl (hb hby d_prog_93_method_4_code_56) rfl (l' := #[vr a, vr vec, vr prod, vi (0 : Int32), vd sm0_0, ss, vi (bg0 + (1 : Int32))]) rfl ?_
        refine XS.goto X639.here hx rfl (pc0 := 59) (pc' := 21) rfl (hb hby d_prog_93_method_4_code_59) (by decide) (by decide) ?_
        show Steps p.tables e below (T638.setTop (mkF m 21 #[vr a, vr vec, vr prod, vi (0 : Int32), vd sm0_0, ss, vi (bg0 + (1 : Int32))] [])) tQ
        refine XS.iload X639.here hx rfl (hb hby d_prog_93_method_4_code_21) rfl ?_
        refine XS.aloadN X639.here hx rfl (hb hby d_prog_93_method_4_code_23) rfl rfl ?_
        exact kk
      clear k648
      obtain ⟨T650, X651, e652, st653⟩ := getF X639 hx hZ hown (host := "") (Or.inl (tw22 hw)) Via.refl e640 F2 (g := (mkF m 24 #[vr a, vr vec, vr prod, vi (0 : Int32), vd sm0_0, ss, vi (bg0 + (1 : Int32))] [(.ref a), (.int (bg0 + (1 : Int32)))])) rfl rfl (hb hby d_prog_93_method_4_code_24)
      have k654 : own_G p e below E0 T650 (mkF m 27 #[vr a, vr vec, vr prod, vi (0 : Int32), vd sm0_0, ss, vi (bg0 + (1 : Int32))] [(.ref ros), (.int (bg0 + (1 : Int32)))]) := fun tQ kk => k649 tQ (st653 _ kk)
      clear k649 st653
      have k655 : own_G p e below E0 T650 (mkF m 30 #[vr a, vr vec, vr prod, vi (0 : Int32), vd sm0_0, ss, vi (bg0 + (1 : Int32))] [(.int (1 : Int32)), (.ref ros), (.int (bg0 + (1 : Int32)))]) := by
        intro tQ kk
        refine k654 tQ ?_
        refine XS.iloadN X651.here hx rfl (hb hby d_prog_93_method_4_code_27) rfl ?_
        refine XS.iconst X651.here hx rfl (hb hby d_prog_93_method_4_code_28) ?_
        refine XS.iadd X651.here hx rfl (hb hby d_prog_93_method_4_code_29) rfl ?_
        exact kk
      clear k654
      have st656 := fun tQ => own_A.ild X651 hx hZ e652 A1 (j := (1 : Int32)) (v := (.int ed0)) (by decide) rfl (g := (mkF m 30 #[vr a, vr vec, vr prod, vi (0 : Int32), vd sm0_0, ss, vi (bg0 + (1 : Int32))] [(.int (1 : Int32)), (.ref ros), (.int (bg0 + (1 : Int32)))])) rfl rfl (hb hby d_prog_93_method_4_code_30) tQ
      have k657 : own_G p e below E0 T650 (mkF m 31 #[vr a, vr vec, vr prod, vi (0 : Int32), vd sm0_0, ss, vi (bg0 + (1 : Int32))] [(.int ed0), (.int (bg0 + (1 : Int32)))]) := fun tQ kk => k655 tQ (st656 _ kk)
      clear k655 st656
      have k658 : own_G p e below E0 T650 (mkF m 62 #[vr a, vr vec, vr prod, vi (0 : Int32), vd sm0_0, ss, vi (bg0 + (1 : Int32))] []) := by
        intro tQ kk
        refine k657 tQ ?_
        refine XS.icmpYes X651.here hx rfl (pc0 := 31) (pc' := 62) rfl (hb hby d_prog_93_method_4_code_31) rfl (own_ic_geY bb0_1) (by decide) (by decide) ?_
        exact kk
      clear k657
      exact ⟨T650, sm0_0, (bg0 + (1 : Int32)), ((by rw [hr0]; exact DS0_0)), X651, e652, k658⟩
    · skip
      have k659 : own_G p e below E0 T600 (mkF m 24 #[vr a, vr vec, vr prod, vi (0 : Int32), vd FP.dconst0, ss, vi bg0] [(.ref a), (.int bg0)]) := by
        intro tQ kk
        refine k608 tQ ?_
        refine XS.iload X601.here hx rfl (hb hby d_prog_93_method_4_code_21) rfl ?_
        refine XS.aloadN X601.here hx rfl (hb hby d_prog_93_method_4_code_23) rfl rfl ?_
        exact kk
      clear k608
      obtain ⟨T660, X661, e662, st663⟩ := getF X601 hx hZ hown (host := "") (Or.inl (tw22 hw)) Via.refl e602 F2 (g := (mkF m 24 #[vr a, vr vec, vr prod, vi (0 : Int32), vd FP.dconst0, ss, vi bg0] [(.ref a), (.int bg0)])) rfl rfl (hb hby d_prog_93_method_4_code_24)
      have k664 : own_G p e below E0 T660 (mkF m 27 #[vr a, vr vec, vr prod, vi (0 : Int32), vd FP.dconst0, ss, vi bg0] [(.ref ros), (.int bg0)]) := fun tQ kk => k659 tQ (st663 _ kk)
      clear k659 st663
      have k665 : own_G p e below E0 T660 (mkF m 30 #[vr a, vr vec, vr prod, vi (0 : Int32), vd FP.dconst0, ss, vi bg0] [(.int (1 : Int32)), (.ref ros), (.int bg0)]) := by
        intro tQ kk
        refine k664 tQ ?_
        refine XS.iloadN X661.here hx rfl (hb hby d_prog_93_method_4_code_27) rfl ?_
        refine XS.iconst X661.here hx rfl (hb hby d_prog_93_method_4_code_28) ?_
        refine XS.iadd X661.here hx rfl (hb hby d_prog_93_method_4_code_29) rfl ?_
        exact kk
      clear k664
      have st666 := fun tQ => own_A.ild X661 hx hZ e662 A1 (j := (1 : Int32)) (v := (.int ed0)) (by decide) rfl (g := (mkF m 30 #[vr a, vr vec, vr prod, vi (0 : Int32), vd FP.dconst0, ss, vi bg0] [(.int (1 : Int32)), (.ref ros), (.int bg0)])) rfl rfl (hb hby d_prog_93_method_4_code_30) tQ
      have k667 : own_G p e below E0 T660 (mkF m 31 #[vr a, vr vec, vr prod, vi (0 : Int32), vd FP.dconst0, ss, vi bg0] [(.int ed0), (.int bg0)]) := fun tQ kk => k665 tQ (st666 _ kk)
      clear k665 st666
      obtain ⟨ec0_0, ew0_0, ex0_0, qa0_0, qb0_0, qc0_0, qd0_0, qe0_0, qf0_0, qg0_0⟩ := en0_0
      have k668 : own_G p e below E0 T660 (mkF m 37 #[vr a, vr vec, vr prod, vi (0 : Int32), vd FP.dconst0, ss, vi bg0] [(.ref a), (.double FP.dconst0)]) := by
        intro tQ kk
        refine k667 tQ ?_
        refine XS.icmpNo X661.here hx rfl (hb hby d_prog_93_method_4_code_31) rfl (own_ic_geN bb0_0) ?_
        refine XS.dload X661.here hx rfl (hb hby d_prog_93_method_4_code_34) rfl ?_
        refine XS.aloadN X661.here hx rfl (hb hby d_prog_93_method_4_code_36) rfl rfl ?_
        exact kk
      clear k667
      obtain ⟨T669, X670, e671, st672⟩ := getF X661 hx hZ hown (host := "") (Or.inl (tw26 hw)) Via.refl e662 F4 (g := (mkF m 37 #[vr a, vr vec, vr prod, vi (0 : Int32), vd FP.dconst0, ss, vi bg0] [(.ref a), (.double FP.dconst0)])) rfl rfl (hb hby d_prog_93_method_4_code_37)
      have k673 : own_G p e below E0 T669 (mkF m 40 #[vr a, vr vec, vr prod, vi (0 : Int32), vd FP.dconst0, ss, vi bg0] [(.ref vas), (.double FP.dconst0)]) := fun tQ kk => k668 tQ (st672 _ kk)
      clear k668 st672
      have k674 : own_G p e below E0 T669 (mkF m 42 #[vr a, vr vec, vr prod, vi (0 : Int32), vd FP.dconst0, ss, vi bg0] [(.int bg0), (.ref vas), (.double FP.dconst0)]) := by
        intro tQ kk
        refine k673 tQ ?_
        refine XS.iload X670.here hx rfl (hb hby d_prog_93_method_4_code_40) rfl ?_
        exact kk
      clear k673
      have st675 := fun tQ => own_A.dld X670 hx hZ e671 A3 (j := bg0) (v := (.double ew0_0)) qa0_0 qc0_0 (g := (mkF m 42 #[vr a, vr vec, vr prod, vi (0 : Int32), vd FP.dconst0, ss, vi bg0] [(.int bg0), (.ref vas), (.double FP.dconst0)])) rfl rfl (hb hby d_prog_93_method_4_code_42) tQ
      have k676 : own_G p e below E0 T669 (mkF m 43 #[vr a, vr vec, vr prod, vi (0 : Int32), vd FP.dconst0, ss, vi bg0] [(.double ew0_0), (.double FP.dconst0)]) := fun tQ kk => k674 tQ (st675 _ kk)
      clear k674 st675
      have k677 : own_G p e below E0 T669 (mkF m 45 #[vr a, vr vec, vr prod, vi (0 : Int32), vd FP.dconst0, ss, vi bg0] [(.ref a), (.ref vec), (.double ew0_0), (.double FP.dconst0)]) := by
        intro tQ kk
        refine k676 tQ ?_
        refine XS.aloadN X670.here hx rfl (hb hby d_prog_93_method_4_code_43) rfl rfl ?_
        refine XS.aloadN X670.here hx rfl (hb hby d_prog_93_method_4_code_44) rfl rfl ?_
        exact kk
      clear k676
      obtain ⟨T678, X679, e680, st681⟩ := getF X670 hx hZ hown (host := "") (Or.inl (tw24 hw)) Via.refl e671 F3 (g := (mkF m 45 #[vr a, vr vec, vr prod, vi (0 : Int32), vd FP.dconst0, ss, vi bg0] [(.ref a), (.ref vec), (.double ew0_0), (.double FP.dconst0)])) rfl rfl (hb hby d_prog_93_method_4_code_45)
      have k682 : own_G p e below E0 T678 (mkF m 48 #[vr a, vr vec, vr prod, vi (0 : Int32), vd FP.dconst0, ss, vi bg0] [(.ref cos), (.ref vec), (.double ew0_0), (.double FP.dconst0)]) := fun tQ kk => k677 tQ (st681 _ kk)
      clear k677 st681
      have k683 : own_G p e below E0 T678 (mkF m 50 #[vr a, vr vec, vr prod, vi (0 : Int32), vd FP.dconst0, ss, vi bg0] [(.int bg0), (.ref cos), (.ref vec), (.double ew0_0), (.double FP.dconst0)]) := by
        intro tQ kk
        refine k682 tQ ?_
        refine XS.iload X679.here hx rfl (hb hby d_prog_93_method_4_code_48) rfl ?_
        exact kk
      clear k682
      have st684 := fun tQ => own_A.ild X679 hx hZ e680 A2 (j := bg0) (v := (.int ec0_0)) qa0_0 qb0_0 (g := (mkF m 50 #[vr a, vr vec, vr prod, vi (0 : Int32), vd FP.dconst0, ss, vi bg0] [(.int bg0), (.ref cos), (.ref vec), (.double ew0_0), (.double FP.dconst0)])) rfl rfl (hb hby d_prog_93_method_4_code_50) tQ
      have k685 : own_G p e below E0 T678 (mkF m 51 #[vr a, vr vec, vr prod, vi (0 : Int32), vd FP.dconst0, ss, vi bg0] [(.int ec0_0), (.ref vec), (.double ew0_0), (.double FP.dconst0)]) := fun tQ kk => k683 tQ (st684 _ kk)
      clear k683 st684
      have st686 := fun tQ => own_A.dld X679 hx hZ e680 A4 (j := ec0_0) (v := (.double ex0_0)) qd0_0 qe0_0 (g := (mkF m 51 #[vr a, vr vec, vr prod, vi (0 : Int32), vd FP.dconst0, ss, vi bg0] [(.int ec0_0), (.ref vec), (.double ew0_0), (.double FP.dconst0)])) rfl rfl (hb hby d_prog_93_method_4_code_51) tQ
      have k687 : own_G p e below E0 T678 (mkF m 52 #[vr a, vr vec, vr prod, vi (0 : Int32), vd FP.dconst0, ss, vi bg0] [(.double ex0_0), (.double ew0_0), (.double FP.dconst0)]) := fun tQ kk => k685 tQ (st686 _ kk)
      clear k685 st686
      have BA0_0 := own_acc own_B0 qg0_0
      have k688 : own_G p e below E0 T678 (mkF m 53 #[vr a, vr vec, vr prod, vi (0 : Int32), vd FP.dconst0, ss, vi bg0] [(.double (FP.dmul ew0_0 ex0_0)), (.double FP.dconst0)]) := by
        intro tQ kk
        refine k687 tQ ?_
        refine XS.dmulS X679.here hx rfl (hb hby d_prog_93_method_4_code_52) rfl (own_nn qf0_0) rfl ?_
        exact kk
      clear k687
      obtain ⟨sm0_0, hsm0_0⟩ : ∃ vA, FP.dadd FP.dconst0 (FP.dmul ew0_0 ex0_0) = vA := ⟨_, rfl⟩
      have DS0_0 : FP.Core.DInt ((0 + u0_0)) sm0_0 := hsm0_0 ▸ FP.Core.dadd_int own_d0 qf0_0 (Nat.le_trans BA0_0 (by decide))
      have k689 : own_G p e below E0 T678 (mkF m 24 #[vr a, vr vec, vr prod, vi (0 : Int32), vd sm0_0, ss, vi (bg0 + (1 : Int32))] [(.ref a), (.int (bg0 + (1 : Int32)))]) := by
        intro tQ kk
        refine k688 tQ ?_
        refine XS.daddS X679.here hx rfl (hb hby d_prog_93_method_4_code_53) rfl (own_nn (FP.Core.dadd_int own_d0 qf0_0 (Nat.le_trans BA0_0 (by decide)))) hsm0_0 ?_
        refine XS.dstore X679.here hx rfl (hb hby d_prog_93_method_4_code_54) rfl (l' := #[vr a, vr vec, vr prod, vi (0 : Int32), vd sm0_0, ss, vi bg0]) rfl ?_
        refine XS.iinc X679.here hx rfl (hb hby d_prog_93_method_4_code_56) rfl (l' := #[vr a, vr vec, vr prod, vi (0 : Int32), vd sm0_0, ss, vi (bg0 + (1 : Int32))]) rfl ?_
        refine XS.goto X679.here hx rfl (pc0 := 59) (pc' := 21) rfl (hb hby d_prog_93_method_4_code_59) (by decide) (by decide) ?_
        show Steps p.tables e below (T678.setTop (mkF m 21 #[vr a, vr vec, vr prod, vi (0 : Int32), vd sm0_0, ss, vi (bg0 + (1 : Int32))] [])) tQ
        refine XS.iload X679.here hx rfl (hb hby d_prog_93_method_4_code_21) rfl ?_
        refine XS.aloadN X679.here hx rfl (hb hby d_prog_93_method_4_code_23) rfl rfl ?_
        exact kk
      clear k688
      obtain ⟨T690, X691, e692, st693⟩ := getF X679 hx hZ hown (host := "") (Or.inl (tw22 hw)) Via.refl e680 F2 (g := (mkF m 24 #[vr a, vr vec, vr prod, vi (0 : Int32), vd sm0_0, ss, vi (bg0 + (1 : Int32))] [(.ref a), (.int (bg0 + (1 : Int32)))])) rfl rfl (hb hby d_prog_93_method_4_code_24)
      have k694 : own_G p e below E0 T690 (mkF m 27 #[vr a, vr vec, vr prod, vi (0 : Int32), vd sm0_0, ss, vi (bg0 + (1 : Int32))] [(.ref ros), (.int (bg0 + (1 : Int32)))]) := fun tQ kk => k689 tQ (st693 _ kk)
      clear k689 st693
      have k695 : own_G p e below E0 T690 (mkF m 30 #[vr a, vr vec, vr prod, vi (0 : Int32), vd sm0_0, ss, vi (bg0 + (1 : Int32))] [(.int (1 : Int32)), (.ref ros), (.int (bg0 + (1 : Int32)))]) := by
        intro tQ kk
        refine k694 tQ ?_
        refine XS.iloadN X691.here hx rfl (hb hby d_prog_93_method_4_code_27) rfl ?_
        refine XS.iconst X691.here hx rfl (hb hby d_prog_93_method_4_code_28) ?_
        refine XS.iadd X691.here hx rfl (hb hby d_prog_93_method_4_code_29) rfl ?_
        exact kk
      clear k694
      have st696 := fun tQ => own_A.ild X691 hx hZ e692 A1 (j := (1 : Int32)) (v := (.int ed0)) (by decide) rfl (g := (mkF m 30 #[vr a, vr vec, vr prod, vi (0 : Int32), vd sm0_0, ss, vi (bg0 + (1 : Int32))] [(.int (1 : Int32)), (.ref ros), (.int (bg0 + (1 : Int32)))])) rfl rfl (hb hby d_prog_93_method_4_code_30) tQ
      have k697 : own_G p e below E0 T690 (mkF m 31 #[vr a, vr vec, vr prod, vi (0 : Int32), vd sm0_0, ss, vi (bg0 + (1 : Int32))] [(.int ed0), (.int (bg0 + (1 : Int32)))]) := fun tQ kk => k695 tQ (st696 _ kk)
      clear k695 st696
      obtain ⟨ec0_1, ew0_1, ex0_1, qa0_1, qb0_1, qc0_1, qd0_1, qe0_1, qf0_1, qg0_1⟩ := en0_1
      have k698 : own_G p e below E0 T690 (mkF m 37 #[vr a, vr vec, vr prod, vi (0 : Int32), vd sm0_0, ss, vi (bg0 + (1 : Int32))] [(.ref a), (.double sm0_0)]) := by
        intro tQ kk
        refine k697 tQ ?_
        refine XS.icmpNo X691.here hx rfl (hb hby d_prog_93_method_4_code_31) rfl (own_ic_geN bb0_1) ?_
        refine XS.dload X691.here hx rfl (hb hby d_prog_93_method_4_code_34) rfl ?_
        refine XS.aloadN X691.here hx rfl (hb hby d_prog_93_method_4_code_36) rfl rfl ?_
        exact kk
      clear k697
      obtain ⟨T699, X700, e701, st702⟩ := getF X691 hx hZ hown (host := "") (Or.inl (tw26 hw)) Via.refl e692 F4 (g := (mkF m 37 #[vr a, vr vec, vr prod, vi (0 : Int32), vd sm0_0, ss, vi (bg0 + (1 : Int32))] [(.ref a), (.double sm0_0)])) rfl rfl (hb hby d_prog_93_method_4_code_37)
      have k703 : own_G p e below E0 T699 (mkF m 40 #[vr a, vr vec, vr prod, vi (0 : Int32), vd sm0_0, ss, vi (bg0 + (1 : Int32))] [(.ref vas), (.double sm0_0)]) := fun tQ kk => k698 tQ (st702 _ kk)
      clear k698 st702
      have k704 : own_G p e below E0 T699 (mkF m 42 #[vr a, vr vec, vr prod, vi (0 : Int32), vd sm0_0, ss, vi (bg0 + (1 : Int32))] [(.int (bg0 + (1 : Int32))), (.ref vas), (.double sm0_0)]) := by
        intro tQ kk
        refine k703 tQ ?_
        refine XS.iload X700.here hx rfl (hb hby d_prog_93_method_4_code_40) rfl ?_
        exact kk
      clear k703
      have st705 := fun tQ => own_A.dld X700 hx hZ e701 A3 (j := (bg0 + (1 : Int32))) (v := (.double ew0_1)) qa0_1 qc0_1 (g := (mkF m 42 #[vr a, vr vec, vr prod, vi (0 : Int32), vd sm0_0, ss, vi (bg0 + (1 : Int32))] [(.int (bg0 + (1 : Int32))), (.ref vas), (.double sm0_0)])) rfl rfl (hb hby d_prog_93_method_4_code_42) tQ
      have k706 : own_G p e below E0 T699 (mkF m 43 #[vr a, vr vec, vr prod, vi (0 : Int32), vd sm0_0, ss, vi (bg0 + (1 : Int32))] [(.double ew0_1), (.double sm0_0)]) := fun tQ kk => k704 tQ (st705 _ kk)
      clear k704 st705
      have k707 : own_G p e below E0 T699 (mkF m 45 #[vr a, vr vec, vr prod, vi (0 : Int32), vd sm0_0, ss, vi (bg0 + (1 : Int32))] [(.ref a), (.ref vec), (.double ew0_1), (.double sm0_0)]) := by
        intro tQ kk
        refine k706 tQ ?_
        refine XS.aloadN X700.here hx rfl (hb hby d_prog_93_method_4_code_43) rfl rfl ?_
        refine XS.aloadN X700.here hx rfl (hb hby d_prog_93_method_4_code_44) rfl rfl ?_
        exact kk
      clear k706
      obtain ⟨T708, X709, e710, st711⟩ := getF X700 hx hZ hown (host := "") (Or.inl (tw24 hw)) Via.refl e701 F3 (g := (mkF m 45 #[vr a, vr vec, vr prod, vi (0 : Int32), vd sm0_0, ss, vi (bg0 + (1 : Int32))] [(.ref a), (.ref vec), (.double ew0_1), (.double sm0_0)])) rfl rfl (hb hby d_prog_93_method_4_code_45)
      have k712 : own_G p e below E0 T708 (mkF m 48 #[vr a, vr vec, vr prod, vi (0 : Int32), vd sm0_0, ss, vi (bg0 + (1 : Int32))] [(.ref cos), (.ref vec), (.double ew0_1), (.double sm0_0)]) := fun tQ kk => k707 tQ (st711 _ kk)
      clear k707 st711
      have k713 : own_G p e below E0 T708 (mkF m 50 #[vr a, vr vec, vr prod, vi (0 : Int32), vd sm0_0, ss, vi (bg0 + (1 : Int32))] [(.int (bg0 + (1 : Int32))), (.ref cos), (.ref vec), (.double ew0_1), (.double sm0_0)]) := by
        intro tQ kk
        refine k712 tQ ?_
        refine XS.iload X709.here hx rfl (hb hby d_prog_93_method_4_code_48) rfl ?_
        exact kk
      clear k712
      have st714 := fun tQ => own_A.ild X709 hx hZ e710 A2 (j := (bg0 + (1 : Int32))) (v := (.int ec0_1)) qa0_1 qb0_1 (g := (mkF m 50 #[vr a, vr vec, vr prod, vi (0 : Int32), vd sm0_0, ss, vi (bg0 + (1 : Int32))] [(.int (bg0 + (1 : Int32))), (.ref cos), (.ref vec), (.double ew0_1), (.double sm0_0)])) rfl rfl (hb hby d_prog_93_method_4_code_50) tQ
      have k715 : own_G p e below E0 T708 (mkF m 51 #[vr a, vr vec, vr prod, vi (0 : Int32), vd sm0_0, ss, vi (bg0 + (1 : Int32))] [(.int ec0_1), (.ref vec), (.double ew0_1), (.double sm0_0)]) := fun tQ kk => k713 tQ (st714 _ kk)
      clear k713 st714
      have st716 := fun tQ => own_A.dld X709 hx hZ e710 A4 (j := ec0_1) (v := (.double ex0_1)) qd0_1 qe0_1 (g := (mkF m 51 #[vr a, vr vec, vr prod, vi (0 : Int32), vd sm0_0, ss, vi (bg0 + (1 : Int32))] [(.int ec0_1), (.ref vec), (.double ew0_1), (.double sm0_0)])) rfl rfl (hb hby d_prog_93_method_4_code_51) tQ
      have k717 : own_G p e below E0 T708 (mkF m 52 #[vr a, vr vec, vr prod, vi (0 : Int32), vd sm0_0, ss, vi (bg0 + (1 : Int32))] [(.double ex0_1), (.double ew0_1), (.double sm0_0)]) := fun tQ kk => k715 tQ (st716 _ kk)
      clear k715 st716
      have BA0_1 := own_acc BA0_0 qg0_1
      have k718 : own_G p e below E0 T708 (mkF m 53 #[vr a, vr vec, vr prod, vi (0 : Int32), vd sm0_0, ss, vi (bg0 + (1 : Int32))] [(.double (FP.dmul ew0_1 ex0_1)), (.double sm0_0)]) := by
        intro tQ kk
        refine k717 tQ ?_
        refine XS.dmulS X709.here hx rfl (hb hby d_prog_93_method_4_code_52) rfl (own_nn qf0_1) rfl ?_
        exact kk
      clear k717
      obtain ⟨sm0_1, hsm0_1⟩ : ∃ vA, FP.dadd sm0_0 (FP.dmul ew0_1 ex0_1) = vA := ⟨_, rfl⟩
      have DS0_1 : FP.Core.DInt (((0 + u0_0) + u0_1)) sm0_1 := hsm0_1 ▸ FP.Core.dadd_int DS0_0 qf0_1 (Nat.le_trans BA0_1 (by decide))
      have k719 : own_G p e below E0 T708 (mkF m 24 #[vr a, vr vec, vr prod, vi (0 : Int32), vd sm0_1, ss, vi ((bg0 + (1 : Int32)) + (1 : Int32))] [(.ref a), (.int ((bg0 + (1 : Int32)) + (1 : Int32)))]) := by
        intro tQ kk
        refine k718 tQ ?_
        refine XS.daddS X709.here hx rfl (hb hby d_prog_93_method_4_code_53) rfl (own_nn (FP.Core.dadd_int DS0_0 qf0_1 (Nat.le_trans BA0_1 (by decide)))) hsm0_1 ?_
        refine XS.dstore X709.here hx rfl (hb hby d_prog_93_method_4_code_54) rfl (l' := #[vr a, vr vec, vr prod, vi (0 : Int32), vd sm0_1, ss, vi (bg0 + (1 : Int32))]) rfl ?_
        refine XS.iinc X709.here hx rfl (hb hby d_prog_93_method_4_code_56) rfl (l' := #[vr a, vr vec, vr prod, vi (0 : Int32), vd sm0_1, ss, vi ((bg0 + (1 : Int32)) + (1 : Int32))]) rfl ?_
        refine XS.goto X709.here hx rfl (pc0 := 59) (pc' := 21) rfl (hb hby d_prog_93_method_4_code_59) (by decide) (by decide) ?_
        show Steps p.tables e below (T708.setTop (mkF m 21 #[vr a, vr vec, vr prod, vi (0 : Int32), vd sm0_1, ss, vi ((bg0 + (1 : Int32)) + (1 : Int32))] [])) tQ
        refine XS.iload X709.here hx rfl (hb hby d_prog_93_method_4_code_21) rfl ?_
        refine XS.aloadN X709.here hx rfl (hb hby d_prog_93_method_4_code_23) rfl rfl ?_
        exact kk
      clear k718
      obtain ⟨T720, X721, e722, st723⟩ := getF X709 hx hZ hown (host := "") (Or.inl (tw22 hw)) Via.refl e710 F2 (g := (mkF m 24 #[vr a, vr vec, vr prod, vi (0 : Int32), vd sm0_1, ss, vi ((bg0 + (1 : Int32)) + (1 : Int32))] [(.ref a), (.int ((bg0 + (1 : Int32)) + (1 : Int32)))])) rfl rfl (hb hby d_prog_93_method_4_code_24)
      have k724 : own_G p e below E0 T720 (mkF m 27 #[vr a, vr vec, vr prod, vi (0 : Int32), vd sm0_1, ss, vi ((bg0 + (1 : Int32)) + (1 : Int32))] [(.ref ros), (.int ((bg0 + (1 : Int32)) + (1 : Int32)))]) := fun tQ kk => k719 tQ (st723 _ kk)
      clear k719 st723
      have k725 : own_G p e below E0 T720 (mkF m 30 #[vr a, vr vec, vr prod, vi (0 : Int32), vd sm0_1, ss, vi ((bg0 + (1 : Int32)) + (1 : Int32))] [(.int (1 : Int32)), (.ref ros), (.int ((bg0 + (1 : Int32)) + (1 : Int32)))]) := by
        intro tQ kk
        refine k724 tQ ?_
        refine XS.iloadN X721.here hx rfl (hb hby d_prog_93_method_4_code_27) rfl ?_
        refine XS.iconst X721.here hx rfl (hb hby d_prog_93_method_4_code_28) ?_
        refine XS.iadd X721.here hx rfl (hb hby d_prog_93_method_4_code_29) rfl ?_
        exact kk
      clear k724
      have st726 := fun tQ => own_A.ild X721 hx hZ e722 A1 (j := (1 : Int32)) (v := (.int ed0)) (by decide) rfl (g := (mkF m 30 #[vr a, vr vec, vr prod, vi (0 : Int32), vd sm0_1, ss, vi ((bg0 + (1 : Int32)) + (1 : Int32))] [(.int (1 : Int32)), (.ref ros), (.int ((bg0 + (1 : Int32)) + (1 : Int32)))])) rfl rfl (hb hby d_prog_93_method_4_code_30) tQ
      have k727 : own_G p e below E0 T720 (mkF m 31 #[vr a, vr vec, vr prod, vi (0 : Int32), vd sm0_1, ss, vi ((bg0 + (1 : Int32)) + (1 : Int32))] [(.int ed0), (.int ((bg0 + (1 : Int32)) + (1 : Int32)))]) := fun tQ kk => k725 tQ (st726 _ kk)
      clear k725 st726
      have k728 : own_G p e below E0 T720 (mkF m 62 #[vr a, vr vec, vr prod, vi (0 : Int32), vd sm0_1, ss, vi ((bg0 + (1 : Int32)) + (1 : Int32))] []) := by
        intro tQ kk
        refine k727 tQ ?_
        refine XS.icmpYes X721.here hx rfl (pc0 := 31) (pc' := 62) rfl (hb hby d_prog_93_method_4_code_31) rfl (own_ic_geY bb0_2) (by decide) (by decide) ?_
        exact kk
      clear k727
      exact ⟨T720, sm0_1, ((bg0 + (1 : Int32)) + (1 : Int32)), ((by rw [hr0]; exact DS0_1)), X721, e722, k728⟩
    · skip
      have k729 : own_G p e below E0 T600 (mkF m 24 #[vr a, vr vec, vr prod, vi (0 : Int32), vd FP.dconst0, ss, vi bg0] [(.ref a), (.int bg0)]) := by
        intro tQ kk
        refine k608 tQ ?_
        refine XS.iload X601.here hx rfl (hb hby d_prog_93_method_4_code_21) rfl ?_
        refine XS.aloadN X601.here hx rfl (hb hby d_prog_93_method_4_code_23) rfl rfl ?_
        exact kk
      clear k608
      obtain ⟨T730, X731, e732, st733⟩ := getF X601 hx hZ hown (host := "") (Or.inl (tw22 hw)) Via.refl e602 F2 (g := (mkF m 24 #[vr a, vr vec, vr prod, vi (0 : Int32), vd FP.dconst0, ss, vi bg0] [(.ref a), (.int bg0)])) rfl rfl (hb hby d_prog_93_method_4_code_24)
      have k734 : own_G p e below E0 T730 (mkF m 27 #[vr a, vr vec, vr prod, vi (0 : Int32), vd FP.dconst0, ss, vi bg0] [(.ref ros), (.int bg0)]) := fun tQ kk => k729 tQ (st733 _ kk)
      clear k729 st733
      have k735 : own_G p e below E0 T730 (mkF m 30 #[vr a, vr vec, vr prod, vi (0 : Int32), vd FP.dconst0, ss, vi bg0] [(.int (1 : Int32)), (.ref ros), (.int bg0)]) := by
        intro tQ kk
        refine k734 tQ ?_
        refine XS.iloadN X731.here hx rfl (hb hby d_prog_93_method_4_code_27) rfl ?_
        refine XS.iconst X731.here hx rfl (hb hby d_prog_93_method_4_code_28) ?_
        refine XS.iadd X731.here hx rfl (hb hby d_prog_93_method_4_code_29) rfl ?_
        exact kk
      clear k734
      have st736 := fun tQ => own_A.ild X731 hx hZ e732 A1 (j := (1 : Int32)) (v := (.int ed0)) (by decide) rfl (g := (mkF m 30 #[vr a, vr vec, vr prod, vi (0 : Int32), vd FP.dconst0, ss, vi bg0] [(.int (1 : Int32)), (.ref ros), (.int bg0)])) rfl rfl (hb hby d_prog_93_method_4_code_30) tQ
      have k737 : own_G p e below E0 T730 (mkF m 31 #[vr a, vr vec, vr prod, vi (0 : Int32), vd FP.dconst0, ss, vi bg0] [(.int ed0), (.int bg0)]) := fun tQ kk => k735 tQ (st736 _ kk)
      clear k735 st736
      obtain ⟨ec0_0, ew0_0, ex0_0, qa0_0, qb0_0, qc0_0, qd0_0, qe0_0, qf0_0, qg0_0⟩ := en0_0
      have k738 : own_G p e below E0 T730 (mkF m 37 #[vr a, vr vec, vr prod, vi (0 : Int32), vd FP.dconst0, ss, vi bg0] [(.ref a), (.double FP.dconst0)]) := by
        intro tQ kk
        refine k737 tQ ?_
        refine XS.icmpNo X731.here hx rfl (hb hby d_prog_93_method_4_code_31) rfl (own_ic_geN bb0_0) ?_
        refine XS.dload X731.here hx rfl (hb hby d_prog_93_method_4_code_34) rfl ?_
        refine XS.aloadN X731.here hx rfl (hb hby d_prog_93_method_4_code_36) rfl rfl ?_
        exact kk
      clear k737
      obtain ⟨T739, X740, e741, st742⟩ := getF X731 hx hZ hown (host := "") (Or.inl (tw26 hw)) Via.refl e732 F4 (g := (mkF m 37 #[vr a, vr vec, vr prod, vi (0 : Int32), vd FP.dconst0, ss, vi bg0] [(.ref a), (.double FP.dconst0)])) rfl rfl (hb hby d_prog_93_method_4_code_37)
      have k743 : own_G p e below E0 T739 (mkF m 40 #[vr a, vr vec, vr prod, vi (0 : Int32), vd FP.dconst0, ss, vi bg0] [(.ref vas), (.double FP.dconst0)]) := fun tQ kk => k738 tQ (st742 _ kk)
      clear k738 st742
      have k744 : own_G p e below E0 T739 (mkF m 42 #[vr a, vr vec, vr prod, vi (0 : Int32), vd FP.dconst0, ss, vi bg0] [(.int bg0), (.ref vas), (.double FP.dconst0)]) := by
        intro tQ kk
        refine k743 tQ ?_
        refine XS.iload X740.here hx rfl (hb hby d_prog_93_method_4_code_40) rfl ?_
        exact kk
      clear k743
      have st745 := fun tQ => own_A.dld X740 hx hZ e741 A3 (j := bg0) (v := (.double ew0_0)) qa0_0 qc0_0 (g := (mkF m 42 #[vr a, vr vec, vr prod, vi (0 : Int32), vd FP.dconst0, ss, vi bg0] [(.int bg0), (.ref vas), (.double FP.dconst0)])) rfl rfl (hb hby d_prog_93_method_4_code_42) tQ
      have k746 : own_G p e below E0 T739 (mkF m 43 #[vr a, vr vec, vr prod, vi (0 : Int32), vd FP.dconst0, ss, vi bg0] [(.double ew0_0), (.double FP.dconst0)]) := fun tQ kk => k744 tQ (st745 _ kk)
      clear k744 st745
      have k747 : own_G p e below E0 T739 (mkF m 45 #[vr a, vr vec, vr prod, vi (0 : Int32), vd FP.dconst0, ss, vi bg0] [(.ref a), (.ref vec), (.double ew0_0), (.double FP.dconst0)]) := by
        intro tQ kk
        refine k746 tQ ?_
        refine XS.aloadN X740.here hx rfl (hb hby d_prog_93_method_4_code_43) rfl rfl ?_
        refine XS.aloadN X740.here hx rfl (hb hby d_prog_93_method_4_code_44) rfl rfl ?_
        exact kk
      clear k746
      obtain ⟨T748, X749, e750, st751⟩ := getF X740 hx hZ hown (host := "") (Or.inl (tw24 hw)) Via.refl e741 F3 (g := (mkF m 45 #[vr a, vr vec, vr prod, vi (0 : Int32), vd FP.dconst0, ss, vi bg0] [(.ref a), (.ref vec), (.double ew0_0), (.double FP.dconst0)])) rfl rfl (hb hby d_prog_93_method_4_code_45)
      have k752 : own_G p e below E0 T748 (mkF m 48 #[vr a, vr vec, vr prod, vi (0 : Int32), vd FP.dconst0, ss, vi bg0] [(.ref cos), (.ref vec), (.double ew0_0), (.double FP.dconst0)]) := fun tQ kk => k747 tQ (st751 _ kk)
      clear k747 st751
      have k753 : own_G p e below E0 T748 (mkF m 50 #[vr a, vr vec, vr prod, vi (0 : Int32), vd FP.dconst0, ss, vi bg0] [(.int bg0), (.ref cos), (.ref vec), (.double ew0_0), (.double FP.dconst0)]) := by
        intro tQ kk
        refine k752 tQ ?_
        refine XS.iload X749.here hx rfl (hb hby d_prog_93_method_4_code_48) rfl ?_
        exact kk
      clear k752
      have st754 := fun tQ => own_A.ild X749 hx hZ e750 A2 (j := bg0) (v := (.int ec0_0)) qa0_0 qb0_0 (g := (mkF m 50 #[vr a, vr vec, vr prod, vi (0 : Int32), vd FP.dconst0, ss, vi bg0] [(.int bg0), (.ref cos), (.ref vec), (.double ew0_0), (.double FP.dconst0)])) rfl rfl (hb hby d_prog_93_method_4_code_50) tQ
      have k755 : own_G p e below E0 T748 (mkF m 51 #[vr a, vr vec, vr prod, vi (0 : Int32), vd FP.dconst0, ss, vi bg0] [(.int ec0_0), (.ref vec), (.double ew0_0), (.double FP.dconst0)]) := fun tQ kk => k753 tQ (st754 _ kk)
      clear k753 st754
      have st756 := fun tQ => own_A.dld X749 hx hZ e750 A4 (j := ec0_0) (v := (.double ex0_0)) qd0_0 qe0_0 (g := (mkF m 51 #[vr a, vr vec, vr prod, vi (0 : Int32), vd FP.dconst0, ss, vi bg0] [(.int ec0_0), (.ref vec), (.double ew0_0), (.double FP.dconst0)])) rfl rfl (hb hby d_prog_93_method_4_code_51) tQ
      have k757 : own_G p e below E0 T748 (mkF m 52 #[vr a, vr vec, vr prod, vi (0 : Int32), vd FP.dconst0, ss, vi bg0] [(.double ex0_0), (.double ew0_0), (.double FP.dconst0)]) := fun tQ kk => k755 tQ (st756 _ kk)
      clear k755 st756
      have BA0_0 := own_acc own_B0 qg0_0
      have k758 : own_G p e below E0 T748 (mkF m 53 #[vr a, vr vec, vr prod, vi (0 : Int32), vd FP.dconst0, ss, vi bg0] [(.double (FP.dmul ew0_0 ex0_0)), (.double FP.dconst0)]) := by
        intro tQ kk
        refine k757 tQ ?_
        refine XS.dmulS X749.here hx rfl (hb hby d_prog_93_method_4_code_52) rfl (own_nn qf0_0) rfl ?_
        exact kk
      clear k757
      obtain ⟨sm0_0, hsm0_0⟩ : ∃ vA, FP.dadd FP.dconst0 (FP.dmul ew0_0 ex0_0) = vA := ⟨_, rfl⟩
      have DS0_0 : FP.Core.DInt ((0 + u0_0)) sm0_0 := hsm0_0 ▸ FP.Core.dadd_int own_d0 qf0_0 (Nat.le_trans BA0_0 (by decide))
      have k759 : own_G p e below E0 T748 (mkF m 24 #[vr a, vr vec, vr prod, vi (0 : Int32), vd sm0_0, ss, vi (bg0 + (1 : Int32))] [(.ref a), (.int (bg0 + (1 : Int32)))]) := by
        intro tQ kk
        refine k758 tQ ?_
        refine XS.daddS X749.here hx rfl (hb hby d_prog_93_method_4_code_53) rfl (own_nn (FP.Core.dadd_int own_d0 qf0_0 (Nat.le_trans BA0_0 (by decide)))) hsm0_0 ?_
        refine XS.dstore X749.here hx rfl (hb hby d_prog_93_method_4_code_54) rfl (l' := #[vr a, vr vec, vr prod, vi (0 : Int32), vd sm0_0, ss, vi bg0]) rfl ?_
        refine XS.iinc X749.here hx rfl (hb hby d_prog_93_method_4_code_56) rfl (l' := #[vr a, vr vec, vr prod, vi (0 : Int32), vd sm0_0, ss, vi (bg0 + (1 : Int32))]) rfl ?_
        refine XS.goto X749.here hx rfl (pc0 := 59) (pc' := 21) rfl (hb hby d_prog_93_method_4_code_59) (by decide) (by decide) ?_
        show Steps p.tables e below (T748.setTop (mkF m 21 #[vr a, vr vec, vr prod, vi (0 : Int32), vd sm0_0, ss, vi (bg0 + (1 : Int32))] [])) tQ
        refine XS.iload X749.here hx rfl (hb hby d_prog_93_method_4_code_21) rfl ?_
        refine XS.aloadN X749.here hx rfl (hb hby d_prog_93_method_4_code_23) rfl rfl ?_
        exact kk
      clear k758
      obtain ⟨T760, X761, e762, st763⟩ := getF X749 hx hZ hown (host := "") (Or.inl (tw22 hw)) Via.refl e750 F2 (g := (mkF m 24 #[vr a, vr vec, vr prod, vi (0 : Int32), vd sm0_0, ss, vi (bg0 + (1 : Int32))] [(.ref a), (.int (bg0 + (1 : Int32)))])) rfl rfl (hb hby d_prog_93_method_4_code_24)
      have k764 : own_G p e below E0 T760 (mkF m 27 #[vr a, vr vec, vr prod, vi (0 : Int32), vd sm0_0, ss, vi (bg0 + (1 : Int32))] [(.ref ros), (.int (bg0 + (1 : Int32)))]) := fun tQ kk => k759 tQ (st763 _ kk)
      clear k759 st763
      have k765 : own_G p e below E0 T760 (mkF m 30 #[vr a, vr vec, vr prod, vi (0 : Int32), vd sm0_0, ss, vi (bg0 + (1 : Int32))] [(.int (1 : Int32)), (.ref ros), (.int (bg0 + (1 : Int32)))]) := by
        intro tQ kk
        refine k764 tQ ?_
        refine XS.iloadN X761.here hx rfl (hb hby d_prog_93_method_4_code_27) rfl ?_
        refine XS.iconst X761.here hx rfl (hb hby d_prog_93_method_4_code_28) ?_
        refine XS.iadd X761.here hx rfl (hb hby d_prog_93_method_4_code_29) rfl ?_
        exact kk
      clear k764
      have st766 := fun tQ => own_A.ild X761 hx hZ e762 A1 (j := (1 : Int32)) (v := (.int ed0)) (by decide) rfl (g := (mkF m 30 #[vr a, vr vec, vr prod, vi (0 : Int32), vd sm0_0, ss, vi (bg0 + (1 : Int32))] [(.int (1 : Int32)), (.ref ros), (.int (bg0 + (1 : Int32)))])) rfl rfl (hb hby d_prog_93_method_4_code_30) tQ
      have k767 : own_G p e below E0 T760 (mkF m 31 #[vr a, vr vec, vr prod, vi (0 : Int32), vd sm0_0, ss, vi (bg0 + (1 : Int32))] [(.int ed0), (.int (bg0 + (1 : Int32)))]) := fun tQ kk => k765 tQ (st766 _ kk)
      clear k765 st766
      obtain ⟨ec0_1, ew0_1, ex0_1, qa0_1, qb0_1, qc0_1, qd0_1, qe0_1, qf0_1, qg0_1⟩ := en0_1
      have k768 : own_G p e below E0 T760 (mkF m 37 #[vr a, vr vec, vr prod, vi (0 : Int32), vd sm0_0, ss, vi (bg0 + (1 : Int32))] [(.ref a), (.double sm0_0)]) := by
        intro tQ kk
        refine k767 tQ ?_
        refine XS.icmpNo X761.here hx rfl (hb hby d_prog_93_method_4_code_31) rfl (own_ic_geN bb0_1) ?_
        refine XS.dload X761.here hx rfl (hb hby d_prog_93_method_4_code_34) rfl ?_
        refine XS.aloadN X761.here hx rfl (hb hby d_prog_93_method_4_code_36) rfl rfl ?_
        exact kk
      clear k767
      obtain ⟨T769, X770, e771, st772⟩ := getF X761 hx hZ hown (host := "") (Or.inl (tw26 hw)) Via.refl e762 F4 (g := (mkF m 37 #[vr a, vr vec, vr prod, vi (0 : Int32), vd sm0_0, ss, vi (bg0 + (1 : Int32))] [(.ref a), (.double sm0_0)])) rfl rfl (hb hby d_prog_93_method_4_code_37)
      have k773 : own_G p e below E0 T769 (mkF m 40 #[vr a, vr vec, vr prod, vi (0 : Int32), vd sm0_0, ss, vi (bg0 + (1 : Int32))] [(.ref vas), (.double sm0_0)]) := fun tQ kk => k768 tQ (st772 _ kk)
      clear k768 st772
      have k774 : own_G p e below E0 T769 (mkF m 42 #[vr a, vr vec, vr prod, vi (0 : Int32), vd sm0_0, ss, vi (bg0 + (1 : Int32))] [(.int (bg0 + (1 : Int32))), (.ref vas), (.double sm0_0)]) := by
        intro tQ kk
        refine k773 tQ ?_
        refine XS.iload X770.here hx rfl (hb hby d_prog_93_method_4_code_40) rfl ?_
        exact kk
      clear k773
      have st775 := fun tQ => own_A.dld X770 hx hZ e771 A3 (j := (bg0 + (1 : Int32))) (v := (.double ew0_1)) qa0_1 qc0_1 (g := (mkF m 42 #[vr a, vr vec, vr prod, vi (0 : Int32), vd sm0_0, ss, vi (bg0 + (1 : Int32))] [(.int (bg0 + (1 : Int32))), (.ref vas), (.double sm0_0)])) rfl rfl (hb hby d_prog_93_method_4_code_42) tQ
      have k776 : own_G p e below E0 T769 (mkF m 43 #[vr a, vr vec, vr prod, vi (0 : Int32), vd sm0_0, ss, vi (bg0 + (1 : Int32))] [(.double ew0_1), (.double sm0_0)]) := fun tQ kk => k774 tQ (st775 _ kk)
      clear k774 st775
      have k777 : own_G p e below E0 T769 (mkF m 45 #[vr a, vr vec, vr prod, vi (0 : Int32), vd sm0_0, ss, vi (bg0 + (1 : Int32))] [(.ref a), (.ref vec), (.double ew0_1), (.double sm0_0)]) := by
        intro tQ kk
        refine k776 tQ ?_
        refine XS.aloadN X770.here hx rfl (hb hby d_prog_93_method_4_code_43) rfl rfl ?_
        refine XS.aloadN X770.here hx rfl (hb hby d_prog_93_method_4_code_44) rfl rfl ?_
        exact kk
      clear k776
      obtain ⟨T778, X779, e780, st781⟩ := getF X770 hx hZ hown (host := "") (Or.inl (tw24 hw)) Via.refl e771 F3 (g := (mkF m 45 #[vr a, vr vec, vr prod, vi (0 : Int32), vd sm0_0, ss, vi (bg0 + (1 : Int32))] [(.ref a), (.ref vec), (.double ew0_1), (.double sm0_0)])) rfl rfl (hb hby d_prog_93_method_4_code_45)
      have k782 : own_G p e below E0 T778 (mkF m 48 #[vr a, vr vec, vr prod, vi (0 : Int32), vd sm0_0, ss, vi (bg0 + (1 : Int32))] [(.ref cos), (.ref vec), (.double ew0_1), (.double sm0_0)]) := fun tQ kk => k777 tQ (st781 _ kk)
      clear k777 st781
      have k783 : own_G p e below E0 T778 (mkF m 50 #[vr a, vr vec, vr prod, vi (0 : Int32), vd sm0_0, ss, vi (bg0 + (1 : Int32))] [(.int (bg0 + (1 : Int32))), (.ref cos), (.ref vec), (.double ew0_1), (.double sm0_0)]) := by
        intro tQ kk
        refine k782 tQ ?_
        refine XS.iload X779.here hx rfl (hb hby d_prog_93_method_4_code_48) rfl ?_
        exact kk
      clear k782
      have st784 := fun tQ => own_A.ild X779 hx hZ e780 A2 (j := (bg0 + (1 : Int32))) (v := (.int ec0_1)) qa0_1 qb0_1 (g := (mkF m 50 #[vr a, vr vec, vr prod, vi (0 : Int32), vd sm0_0, ss, vi (bg0 + (1 : Int32))] [(.int (bg0 + (1 : Int32))), (.ref cos), (.ref vec), (.double ew0_1), (.double sm0_0)])) rfl rfl (hb hby d_prog_93_method_4_code_50) tQ
      have k785 : own_G p e below E0 T778 (mkF m 51 #[vr a, vr vec, vr prod, vi (0 : Int32), vd sm0_0, ss, vi (bg0 + (1 : Int32))] [(.int ec0_1), (.ref vec), (.double ew0_1), (.double sm0_0)]) := fun tQ kk => k783 tQ (st784 _ kk)
      clear k783 st784
      have st786 := fun tQ => own_A.dld X779 hx hZ e780 A4 (j := ec0_1) (v := (.double ex0_1)) qd0_1 qe0_1 (g := (mkF m 51 #[vr a, vr vec, vr prod, vi (0 : Int32), vd sm0_0, ss, vi (bg0 + (1 : Int32))] [(.int ec0_1), (.ref vec), (.double ew0_1), (.double sm0_0)])) rfl rfl (hb hby d_prog_93_method_4_code_51) tQ
      have k787 : own_G p e below E0 T778 (mkF m 52 #[vr a, vr vec, vr prod, vi (0 : Int32), vd sm0_0, ss, vi (bg0 + (1 : Int32))] [(.double ex0_1), (.double ew0_1), (.double sm0_0)]) := fun tQ kk => k785 tQ (st786 _ kk)
      clear k785 st786
      have BA0_1 := own_acc BA0_0 qg0_1
      have k788 : own_G p e below E0 T778 (mkF m 53 #[vr a, vr vec, vr prod, vi (0 : Int32), vd sm0_0, ss, vi (bg0 + (1 : Int32))] [(.double (FP.dmul ew0_1 ex0_1)), (.double sm0_0)]) := by
        intro tQ kk
        refine k787 tQ ?_
        refine XS.dmulS X779.here hx rfl (hb hby d_prog_93_method_4_code_52) rfl (own_nn qf0_1) rfl ?_
        exact kk
      clear k787
      obtain ⟨sm0_1, hsm0_1⟩ : ∃ vA, FP.dadd sm0_0 (FP.dmul ew0_1 ex0_1) = vA := ⟨_, rfl⟩
      have DS0_1 : FP.Core.DInt (((0 + u0_0) + u0_1)) sm0_1 := hsm0_1 ▸ FP.Core.dadd_int DS0_0 qf0_1 (Nat.le_trans BA0_1 (by decide))
      have k789 : own_G p e below E0 T778 (mkF m 24 #[vr a, vr vec, vr prod, vi (0 : Int32), vd sm0_1, ss, vi ((bg0 + (1 : Int32)) + (1 : Int32))] [(.ref a), (.int ((bg0 + (1 : Int32)) + (1 : Int32)))]) := by
        intro tQ kk
        refine k788 tQ ?_
        refine XS.daddS X779.here hx rfl (hb hby d_prog_93_method_4_code_53) rfl (own_nn (FP.Core.dadd_int DS0_0 qf0_1 (Nat.le_trans BA0_1 (by decide)))) hsm0_1 ?_
        refine XS.dstore X779.here hx rfl (hb hby d_prog_93_method_4_code_54) rfl (l' := #[vr a, vr vec, vr prod, vi (0 : Int32), vd sm0_1, ss, vi (bg0 + (1 : Int32))]) rfl ?_
        refine XS.iinc X779.here hx rfl (hb hby d_prog_93_method_4_code_56) rfl (l' := #[vr a, vr vec, vr prod, vi (0 : Int32), vd sm0_1, ss, vi ((bg0 + (1 : Int32)) + (1 : Int32))]) rfl ?_
        refine XS.goto X779.here hx rfl (pc0 := 59) (pc' := 21) rfl (hb hby d_prog_93_method_4_code_59) (by decide) (by decide) ?_
        show Steps p.tables e below (T778.setTop (mkF m 21 #[vr a, vr vec, vr prod, vi (0 : Int32), vd sm0_1, ss, vi ((bg0 + (1 : Int32)) + (1 : Int32))] [])) tQ
        refine XS.iload X779.here hx rfl (hb hby d_prog_93_method_4_code_21) rfl ?_
        refine XS.aloadN X779.here hx rfl (hb hby d_prog_93_method_4_code_23) rfl rfl ?_
        exact kk
      clear k788
      obtain ⟨T790, X791, e792, st793⟩ := getF X779 hx hZ hown (host := "") (Or.inl (tw22 hw)) Via.refl e780 F2 (g := (mkF m 24 #[vr a, vr vec, vr prod, vi (0 : Int32), vd sm0_1, ss, vi ((bg0 + (1 : Int32)) + (1 : Int32))] [(.ref a), (.int ((bg0 + (1 : Int32)) + (1 : Int32)))])) rfl rfl (hb hby d_prog_93_method_4_code_24)
      have k794 : own_G p e below E0 T790 (mkF m 27 #[vr a, vr vec, vr prod, vi (0 : Int32), vd sm0_1, ss, vi ((bg0 + (1 : Int32)) + (1 : Int32))] [(.ref ros), (.int ((bg0 + (1 : Int32)) + (1 : Int32)))]) := fun tQ kk => k789 tQ (st793 _ kk)
      clear k789 st793
      have k795 : own_G p e below E0 T790 (mkF m 30 #[vr a, vr vec, vr prod, vi (0 : Int32), vd sm0_1, ss, vi ((bg0 + (1 : Int32)) + (1 : Int32))] [(.int (1 : Int32)), (.ref ros), (.int ((bg0 + (1 : Int32)) + (1 : Int32)))]) := by
        intro tQ kk
        refine k794 tQ ?_
        refine XS.iloadN X791.here hx rfl (hb hby d_prog_93_method_4_code_27) rfl ?_
        refine XS.iconst X791.here hx rfl (hb hby d_prog_93_method_4_code_28) ?_
        refine XS.iadd X791.here hx rfl (hb hby d_prog_93_method_4_code_29) rfl ?_
        exact kk
      clear k794
      have st796 := fun tQ => own_A.ild X791 hx hZ e792 A1 (j := (1 : Int32)) (v := (.int ed0)) (by decide) rfl (g := (mkF m 30 #[vr a, vr vec, vr prod, vi (0 : Int32), vd sm0_1, ss, vi ((bg0 + (1 : Int32)) + (1 : Int32))] [(.int (1 : Int32)), (.ref ros), (.int ((bg0 + (1 : Int32)) + (1 : Int32)))])) rfl rfl (hb hby d_prog_93_method_4_code_30) tQ
      have k797 : own_G p e below E0 T790 (mkF m 31 #[vr a, vr vec, vr prod, vi (0 : Int32), vd sm0_1, ss, vi ((bg0 + (1 : Int32)) + (1 : Int32))] [(.int ed0), (.int ((bg0 + (1 : Int32)) + (1 : Int32)))]) := fun tQ kk => k795 tQ (st796 _ kk)
      clear k795 st796
      obtain ⟨ec0_2, ew0_2, ex0_2, qa0_2, qb0_2, qc0_2, qd0_2, qe0_2, qf0_2, qg0_2⟩ := en0_2
      have k798 : own_G p e below E0 T790 (mkF m 37 #[vr a, vr vec, vr prod, vi (0 : Int32), vd sm0_1, ss, vi ((bg0 + (1 : Int32)) + (1 : Int32))] [(.ref a), (.double sm0_1)]) := by
        intro tQ kk
        refine k797 tQ ?_
        refine XS.icmpNo X791.here hx rfl (hb hby d_prog_93_method_4_code_31) rfl (own_ic_geN bb0_2) ?_
        refine XS.dload X791.here hx rfl (hb hby d_prog_93_method_4_code_34) rfl ?_
        refine XS.aloadN X791.here hx rfl (hb hby d_prog_93_method_4_code_36) rfl rfl ?_
        exact kk
      clear k797
      obtain ⟨T799, X800, e801, st802⟩ := getF X791 hx hZ hown (host := "") (Or.inl (tw26 hw)) Via.refl e792 F4 (g := (mkF m 37 #[vr a, vr vec, vr prod, vi (0 : Int32), vd sm0_1, ss, vi ((bg0 + (1 : Int32)) + (1 : Int32))] [(.ref a), (.double sm0_1)])) rfl rfl (hb hby d_prog_93_method_4_code_37)
      have k803 : own_G p e below E0 T799 (mkF m 40 #[vr a, vr vec, vr prod, vi (0 : Int32), vd sm0_1, ss, vi ((bg0 + (1 : Int32)) + (1 : Int32))] [(.ref vas), (.double sm0_1)]) := fun tQ kk => k798 tQ (st802 _ kk)
      clear k798 st802
      have k804 : own_G p e below E0 T799 (mkF m 42 #[vr a, vr vec, vr prod, vi (0 : Int32), vd sm0_1, ss, vi ((bg0 + (1 : Int32)) + (1 : Int32))] [(.int ((bg0 + (1 : Int32)) + (1 : Int32))), (.ref vas), (.double sm0_1)]) := by
        intro tQ kk
        refine k803 tQ ?_
        refine XS.iload X800.here hx rfl (hb hby d_prog_93_method_4_code_40) rfl ?_
        exact kk
      clear k803
      have st805 := fun tQ => own_A.dld X800 hx hZ e801 A3 (j := ((bg0 + (1 : Int32)) + (1 : Int32))) (v := (.double ew0_2)) qa0_2 qc0_2 (g := (mkF m 42 #[vr a, vr vec, vr prod, vi (0 : Int32), vd sm0_1, ss, vi ((bg0 + (1 : Int32)) + (1 : Int32))] [(.int ((bg0 + (1 : Int32)) + (1 : Int32))), (.ref vas), (.double sm0_1)])) rfl rfl (hb hby d_prog_93_method_4_code_42) tQ
      have k806 : own_G p e below E0 T799 (mkF m 43 #[vr a, vr vec, vr prod, vi (0 : Int32), vd sm0_1, ss, vi ((bg0 + (1 : Int32)) + (1 : Int32))] [(.double ew0_2), (.double sm0_1)]) := fun tQ kk => k804 tQ (st805 _ kk)
      clear k804 st805
      have k807 : own_G p e below E0 T799 (mkF m 45 #[vr a, vr vec, vr prod, vi (0 : Int32), vd sm0_1, ss, vi ((bg0 + (1 : Int32)) + (1 : Int32))] [(.ref a), (.ref vec), (.double ew0_2), (.double sm0_1)]) := by
        intro tQ kk
        refine k806 tQ ?_
        refine XS.aloadN X800.here hx rfl (hb hby d_prog_93_method_4_code_43) rfl rfl ?_
        refine XS.aloadN X800.here hx rfl (hb hby d_prog_93_method_4_code_44) rfl rfl ?_
        exact kk
      clear k806
      obtain ⟨T808, X809, e810, st811⟩ := getF X800 hx hZ hown (host := "") (Or.inl (tw24 hw)) Via.refl e801 F3 (g := (mkF m 45 #[vr a, vr vec, vr prod, vi (0 : Int32), vd sm0_1, ss, vi ((bg0 + (1 : Int32)) + (1 : Int32))] [(.ref a), (.ref vec), (.double ew0_2), (.double sm0_1)])) rfl rfl (hb hby d_prog_93_method_4_code_45)
      have k812 : own_G p e below E0 T808 (mkF m 48 #[vr a, vr vec, vr prod, vi (0 : Int32), vd sm0_1, ss, vi ((bg0 + (1 : Int32)) + (1 : Int32))] [(.ref cos), (.ref vec), (.double ew0_2), (.double sm0_1)]) := fun tQ kk => k807 tQ (st811 _ kk)
      clear k807 st811
      have k813 : own_G p e below E0 T808 (mkF m 50 #[vr a, vr vec, vr prod, vi (0 : Int32), vd sm0_1, ss, vi ((bg0 + (1 : Int32)) + (1 : Int32))] [(.int ((bg0 + (1 : Int32)) + (1 : Int32))), (.ref cos), (.ref vec), (.double ew0_2), (.double sm0_1)]) := by
        intro tQ kk
        refine k812 tQ ?_
        refine XS.iload X809.here hx rfl (hb hby d_prog_93_method_4_code_48) rfl ?_
        exact kk
      clear k812
      have st814 := fun tQ => own_A.ild X809 hx hZ e810 A2 (j := ((bg0 + (1 : Int32)) + (1 : Int32))) (v := (.int ec0_2)) qa0_2 qb0_2 (g := (mkF m 50 #[vr a, vr vec, vr prod, vi (0 : Int32), vd sm0_1, ss, vi ((bg0 + (1 : Int32)) + (1 : Int32))] [(.int ((bg0 + (1 : Int32)) + (1 : Int32))), (.ref cos), (.ref vec), (.double ew0_2), (.double sm0_1)])) rfl rfl (hb hby d_prog_93_method_4_code_50) tQ
      have k815 : own_G p e below E0 T808 (mkF m 51 #[vr a, vr vec, vr prod, vi (0 : Int32), vd sm0_1, ss, vi ((bg0 + (1 : Int32)) + (1 : Int32))] [(.int ec0_2), (.ref vec), (.double ew0_2), (.double sm0_1)]) := fun tQ kk => k813 tQ (st814 _ kk)
      clear k813 st814
      have st816 := fun tQ => own_A.dld X809 hx hZ e810 A4 (j := ec0_2) (v := (.double ex0_2)) qd0_2 qe0_2 (g := (mkF m 51 #[vr a, vr vec, vr prod, vi (0 : Int32), vd sm0_1, ss, vi ((bg0 + (1 : Int32)) + (1 : Int32))] [(.int ec0_2), (.ref vec), (.double ew0_2), (.double sm0_1)])) rfl rfl (hb hby d_prog_93_method_4_code_51) tQ
      have k817 : own_G p e below E0 T808 (mkF m 52 #[vr a, vr vec, vr prod, vi (0 : Int32), vd sm0_1, ss, vi ((bg0 + (1 : Int32)) + (1 : Int32))] [(.double ex0_2), (.double ew0_2), (.double sm0_1)]) := fun tQ kk => k815 tQ (st816 _ kk)
      clear k815 st816
      have BA0_2 := own_acc BA0_1 qg0_2
      have k818 : own_G p e below E0 T808 (mkF m 53 #[vr a, vr vec, vr prod, vi (0 : Int32), vd sm0_1, ss, vi ((bg0 + (1 : Int32)) + (1 : Int32))] [(.double (FP.dmul ew0_2 ex0_2)), (.double sm0_1)]) := by
        intro tQ kk
        refine k817 tQ ?_
        refine XS.dmulS X809.here hx rfl (hb hby d_prog_93_method_4_code_52) rfl (own_nn qf0_2) rfl ?_
        exact kk
      clear k817
      obtain ⟨sm0_2, hsm0_2⟩ : ∃ vA, FP.dadd sm0_1 (FP.dmul ew0_2 ex0_2) = vA := ⟨_, rfl⟩
      have DS0_2 : FP.Core.DInt ((((0 + u0_0) + u0_1) + u0_2)) sm0_2 := hsm0_2 ▸ FP.Core.dadd_int DS0_1 qf0_2 (Nat.le_trans BA0_2 (by decide))
      have k819 : own_G p e below E0 T808 (mkF m 24 #[vr a, vr vec, vr prod, vi (0 : Int32), vd sm0_2, ss, vi (((bg0 + (1 : Int32)) + (1 : Int32)) + (1 : Int32))] [(.ref a), (.int (((bg0 + (1 : Int32)) + (1 : Int32)) + (1 : Int32)))]) := by
        intro tQ kk
        refine k818 tQ ?_
        refine XS.daddS X809.here hx rfl (hb hby d_prog_93_method_4_code_53) rfl (own_nn (FP.Core.dadd_int DS0_1 qf0_2 (Nat.le_trans BA0_2 (by decide)))) hsm0_2 ?_
        refine XS.dstore X809.here hx rfl (hb hby d_prog_93_method_4_code_54) rfl (l' := #[vr a, vr vec, vr prod, vi (0 : Int32), vd sm0_2, ss, vi ((bg0 + (1 : Int32)) + (1 : Int32))]) rfl ?_
        refine XS.iinc X809.here hx rfl (hb hby d_prog_93_method_4_code_56) rfl (l' := #[vr a, vr vec, vr prod, vi (0 : Int32), vd sm0_2, ss, vi (((bg0 + (1 : Int32)) + (1 : Int32)) + (1 : Int32))]) rfl ?_
        refine XS.goto X809.here hx rfl (pc0 := 59) (pc' := 21) rfl (hb hby d_prog_93_method_4_code_59) (by decide) (by decide) ?_
        show Steps p.tables e below (T808.setTop (mkF m 21 #[vr a, vr vec, vr prod, vi (0 : Int32), vd sm0_2, ss, vi (((bg0 + (1 : Int32)) + (1 : Int32)) + (1 : Int32))] [])) tQ
        refine XS.iload X809.here hx rfl (hb hby d_prog_93_method_4_code_21) rfl ?_
        refine XS.aloadN X809.here hx rfl (hb hby d_prog_93_method_4_code_23) rfl rfl ?_
        exact kk
      clear k818
      obtain ⟨T820, X821, e822, st823⟩ := getF X809 hx hZ hown (host := "") (Or.inl (tw22 hw)) Via.refl e810 F2 (g := (mkF m 24 #[vr a, vr vec, vr prod, vi (0 : Int32), vd sm0_2, ss, vi (((bg0 + (1 : Int32)) + (1 : Int32)) + (1 : Int32))] [(.ref a), (.int (((bg0 + (1 : Int32)) + (1 : Int32)) + (1 : Int32)))])) rfl rfl (hb hby d_prog_93_method_4_code_24)
      have k824 : own_G p e below E0 T820 (mkF m 27 #[vr a, vr vec, vr prod, vi (0 : Int32), vd sm0_2, ss, vi (((bg0 + (1 : Int32)) + (1 : Int32)) + (1 : Int32))] [(.ref ros), (.int (((bg0 + (1 : Int32)) + (1 : Int32)) + (1 : Int32)))]) := fun tQ kk => k819 tQ (st823 _ kk)
      clear k819 st823
      have k825 : own_G p e below E0 T820 (mkF m 30 #[vr a, vr vec, vr prod, vi (0 : Int32), vd sm0_2, ss, vi (((bg0 + (1 : Int32)) + (1 : Int32)) + (1 : Int32))] [(.int (1 : Int32)), (.ref ros), (.int (((bg0 + (1 : Int32)) + (1 : Int32)) + (1 : Int32)))]) := by
        intro tQ kk
        refine k824 tQ ?_
        refine XS.iloadN X821.here hx rfl (hb hby d_prog_93_method_4_code_27) rfl ?_
        refine XS.iconst X821.here hx rfl (hb hby d_prog_93_method_4_code_28) ?_
        refine XS.iadd X821.here hx rfl (hb hby d_prog_93_method_4_code_29) rfl ?_
        exact kk
      clear k824
      have st826 := fun tQ => own_A.ild X821 hx hZ e822 A1 (j := (1 : Int32)) (v := (.int ed0)) (by decide) rfl (g := (mkF m 30 #[vr a, vr vec, vr prod, vi (0 : Int32), vd sm0_2, ss, vi (((bg0 + (1 : Int32)) + (1 : Int32)) + (1 : Int32))] [(.int (1 : Int32)), (.ref ros), (.int (((bg0 + (1 : Int32)) + (1 : Int32)) + (1 : Int32)))])) rfl rfl (hb hby d_prog_93_method_4_code_30) tQ
      have k827 : own_G p e below E0 T820 (mkF m 31 #[vr a, vr vec, vr prod, vi (0 : Int32), vd sm0_2, ss, vi (((bg0 + (1 : Int32)) + (1 : Int32)) + (1 : Int32))] [(.int ed0), (.int (((bg0 + (1 : Int32)) + (1 : Int32)) + (1 : Int32)))]) := fun tQ kk => k825 tQ (st826 _ kk)
      clear k825 st826
      have k828 : own_G p e below E0 T820 (mkF m 62 #[vr a, vr vec, vr prod, vi (0 : Int32), vd sm0_2, ss, vi (((bg0 + (1 : Int32)) + (1 : Int32)) + (1 : Int32))] []) := by
        intro tQ kk
        refine k827 tQ ?_
        refine XS.icmpYes X821.here hx rfl (pc0 := 31) (pc' := 62) rfl (hb hby d_prog_93_method_4_code_31) rfl (own_ic_geY bb0_3) (by decide) (by decide) ?_
        exact kk
      clear k827
      exact ⟨T820, sm0_2, (((bg0 + (1 : Int32)) + (1 : Int32)) + (1 : Int32)), ((by rw [hr0]; exact DS0_2)), X821, e822, k828⟩
  obtain ⟨T830, sR0, j829, hD835, X831, e832, k833⟩ := jn834
  have k836 : own_G p e below E0 T830 (mkF m 66 #[vr a, vr vec, vr prod, vi (0 : Int32), vd sR0, ss, vi j829] [(.double sR0), (.int (0 : Int32)), (.ref prod)]) := by
    intro tQ kk
    refine k833 tQ ?_
    refine XS.aloadN X831.here hx rfl (hb hby d_prog_93_method_4_code_62) rfl rfl ?_
    refine XS.iloadN X831.here hx rfl (hb hby d_prog_93_method_4_code_63) rfl ?_
    refine XS.dload X831.here hx rfl (hb hby d_prog_93_method_4_code_64) rfl ?_
    exact kk
  clear k833
  obtain ⟨T837, h838, X839, e840, W841, F842, st843⟩ := own_A.dst X831 hx hZ e832 A5 (j := (0 : Int32)) (by decide) rfl (g := (mkF m 66 #[vr a, vr vec, vr prod, vi (0 : Int32), vd sR0, ss, vi j829] [(.double sR0), (.int (0 : Int32)), (.ref prod)])) rfl rfl (hb hby d_prog_93_method_4_code_66)
  have N844 := Fr.snoc X839 N0 ge_prod
  have k845 : own_G p e below E0 T837 (mkF m 67 #[vr a, vr vec, vr prod, vi (0 : Int32), vd sR0, ss, vi j829] []) := fun tQ kk => k836 tQ (st843 _ kk)
  clear k836 st843
  have F846 : fd3 Z h838 a (.int (2 : Int32)) := F0.other W841 (Or.inl (fun q => ne0 q.symm))
  clear F0
  have F847 : fd4 Z h838 a (.int (3 : Int32)) := F1.other W841 (Or.inl (fun q => ne0 q.symm))
  clear F1
  have F848 : fd5 Z h838 a (.ref ros) := F2.other W841 (Or.inl (fun q => ne0 q.symm))
  clear F2
  have F849 : fd6 Z h838 a (.ref cos) := F3.other W841 (Or.inl (fun q => ne0 q.symm))
  clear F3
  have F850 : fd7 Z h838 a (.ref vas) := F4.other W841 (Or.inl (fun q => ne0 q.symm))
  clear F4
  have F851 : own_A Z h838 ros .int [(.int bg0), (.int ed0), (.int ed1)] := A1.other W841 (fun q => ne1 q.symm)
  clear A1
  have F852 : own_A Z h838 cos .int LC := A2.other W841 (fun q => ne2 q.symm)
  clear A2
  have F853 : own_A Z h838 vas .double LW := A3.other W841 (fun q => ne3 q.symm)
  clear A3
  have F854 : own_A Z h838 vec .double [(.double x0), (.double x1), (.double x2)] := A4.other W841 (fun q => ne4 q.symm)
  clear A4
  have Z855 : n0 ≤ h838.size := by rw [W841.size]; exact Z0
  have K856 : Keep h0 h838 [prod] := K0.wr W841 (Or.inl (List.mem_of_getElem? (i := 0) rfl))
  have F857 : own_A Z h838 prod .double [(.double sR0), (.double pr1)] := F842
  have k858 : own_G p e below E0 T837 (mkF m 4 #[vr a, vr vec, vr prod, vi (1 : Int32), vd sR0, ss, vi j829] [(.ref a), (.int (1 : Int32))]) := by
    intro tQ kk
    refine k845 tQ ?_
    refine XS.iinc X839.here hx rfl (hb hby d_prog_93_method_4_code_67) rfl (l' := #[vr a, vr vec, vr prod, vi (1 : Int32), vd sR0, ss, vi j829]) rfl ?_
    refine XS.goto X839.here hx rfl (pc0 := 70) (pc' := 2) rfl (hb hby d_prog_93_method_4_code_70) (by decide) (by decide) ?_
    refine XS.iloadN X839.here hx rfl (hb hby d_prog_93_method_4_code_2) rfl ?_
    refine XS.aloadN X839.here hx rfl (hb hby d_prog_93_method_4_code_3) rfl rfl ?_
    exact kk
  clear k845
  obtain ⟨T859, X860, e861, st862⟩ := getF X839 hx hZ hown (host := "") (Or.inl (tw18 hw)) Via.refl e840 F846 (g := (mkF m 4 #[vr a, vr vec, vr prod, vi (1 : Int32), vd sR0, ss, vi j829] [(.ref a), (.int (1 : Int32))])) rfl rfl (hb hby d_prog_93_method_4_code_4)
  have k863 : own_G p e below E0 T859 (mkF m 7 #[vr a, vr vec, vr prod, vi (1 : Int32), vd sR0, ss, vi j829] [(.int (2 : Int32)), (.int (1 : Int32))]) := fun tQ kk => k858 tQ (st862 _ kk)
  clear k858 st862
  have k864 : own_G p e below E0 T859 (mkF m 14 #[vr a, vr vec, vr prod, vi (1 : Int32), vd FP.dconst0, ss, vi j829] [(.ref a)]) := by
    intro tQ kk
    refine k863 tQ ?_
    refine XS.icmpNo X860.here hx rfl (hb hby d_prog_93_method_4_code_7) rfl (own_ic_geN (by decide)) ?_
    refine XS.dconst0 X860.here hx rfl (hb hby d_prog_93_method_4_code_10) rfl ?_
    refine XS.dstore X860.here hx rfl (hb hby d_prog_93_method_4_code_11) rfl (l' := #[vr a, vr vec, vr prod, vi (1 : Int32), vd FP.dconst0, ss, vi j829]) rfl ?_
    refine XS.aloadN X860.here hx rfl (hb hby d_prog_93_method_4_code_13) rfl rfl ?_
    exact kk
  clear k863
  obtain ⟨T865, X866, e867, st868⟩ := getF X860 hx hZ hown (host := "") (Or.inl (tw22 hw)) Via.refl e861 F848 (g := (mkF m 14 #[vr a, vr vec, vr prod, vi (1 : Int32), vd FP.dconst0, ss, vi j829] [(.ref a)])) rfl rfl (hb hby d_prog_93_method_4_code_14)
  have k869 : own_G p e below E0 T865 (mkF m 17 #[vr a, vr vec, vr prod, vi (1 : Int32), vd FP.dconst0, ss, vi j829] [(.ref ros)]) := fun tQ kk => k864 tQ (st868 _ kk)
  clear k864 st868
  have k870 : own_G p e below E0 T865 (mkF m 18 #[vr a, vr vec, vr prod, vi (1 : Int32), vd FP.dconst0, ss, vi j829] [(.int (1 : Int32)), (.ref ros)]) := by
    intro tQ kk
    refine k869 tQ ?_
    refine XS.iloadN X866.here hx rfl (hb hby d_prog_93_method_4_code_17) rfl ?_
    exact kk
  clear k869
  have st871 := fun tQ => own_A.ild X866 hx hZ e867 F851 (j := (1 : Int32)) (v := (.int ed0)) (by decide) rfl (g := (mkF m 18 #[vr a, vr vec, vr prod, vi (1 : Int32), vd FP.dconst0, ss, vi j829] [(.int (1 : Int32)), (.ref ros)])) rfl rfl (hb hby d_prog_93_method_4_code_18) tQ
  have k872 : own_G p e below E0 T865 (mkF m 19 #[vr a, vr vec, vr prod, vi (1 : Int32), vd FP.dconst0, ss, vi j829] [(.int ed0)]) := fun tQ kk => k870 tQ (st871 _ kk)
  clear k870 st871
  have k873 : own_G p e below E0 T865 (mkF m 21 #[vr a, vr vec, vr prod, vi (1 : Int32), vd FP.dconst0, ss, vi ed0] []) := by
    intro tQ kk
    refine k872 tQ ?_
    refine XS.istore X866.here hx rfl (hb hby d_prog_93_method_4_code_19) rfl (l' := #[vr a, vr vec, vr prod, vi (1 : Int32), vd FP.dconst0, ss, vi ed0]) rfl ?_
    exact kk
  clear k872
  have jn1099 : ∃ (T1095 : State), ∃ (sR1 : UInt64), ∃ (j1094 : Int32), (FP.Core.DInt r1 sR1) ∧ (Stand p l e ({ frames := 0, cells := 0, slots := 0, locals := 0 } : Room) s m #[(.ref a), (.ref vec), (.ref prod)] below meth c T1095 ([] ++ [⟨prod, ((0 : Int32)).toNatClampNeg⟩]) 0 0) ∧ (T1095.heap = h838) ∧ (own_G p e below E0 T1095 (mkF m 62 #[vr a, vr vec, vr prod, vi (1 : Int32), vd sR1, ss, vi j1094] [])) := by
    rcases hR1 with ⟨bb1_0, hr1⟩ | ⟨u1_0, bb1_0, bb1_1, en1_0, hr1⟩ | ⟨u1_0, u1_1, bb1_0, bb1_1, bb1_2, en1_0, en1_1, hr1⟩ | ⟨u1_0, u1_1, u1_2, bb1_0, bb1_1, bb1_2, bb1_3, en1_0, en1_1, en1_2, hr1⟩
    · skip
      have k874 : own_G p e below E0 T865 (mkF m 24 #[vr a, vr vec, vr prod, vi (1 : Int32), vd FP.dconst0, ss, vi ed0] [(.ref a), (.int ed0)]) := by
        intro tQ kk
        refine k873 tQ ?_
        refine XS.iload X866.here hx rfl (hb hby d_prog_93_method_4_code_21) rfl ?_
        refine XS.aloadN X866.here hx rfl (hb hby d_prog_93_method_4_code_23) rfl rfl ?_
        exact kk
      clear k873
      obtain ⟨T875, X876, e877, st878⟩ := getF X866 hx hZ hown (host := "") (Or.inl (tw22 hw)) Via.refl e867 F848 (g := (mkF m 24 #[vr a, vr vec, vr prod, vi (1 : Int32), vd FP.dconst0, ss, vi ed0] [(.ref a), (.int ed0)])) rfl rfl (hb hby d_prog_93_method_4_code_24)
      have k879 : own_G p e below E0 T875 (mkF m 27 #[vr a, vr vec, vr prod, vi (1 : Int32), vd FP.dconst0, ss, vi ed0] [(.ref ros), (.int ed0)]) := fun tQ kk => k874 tQ (st878 _ kk)
      clear k874 st878
      have k880 : own_G p e below E0 T875 (mkF m 30 #[vr a, vr vec, vr prod, vi (1 : Int32), vd FP.dconst0, ss, vi ed0] [(.int (2 : Int32)), (.ref ros), (.int ed0)]) := by
        intro tQ kk
        refine k879 tQ ?_
        refine XS.iloadN X876.here hx rfl (hb hby d_prog_93_method_4_code_27) rfl ?_
        refine XS.iconst X876.here hx rfl (hb hby d_prog_93_method_4_code_28) ?_
        refine XS.iadd X876.here hx rfl (hb hby d_prog_93_method_4_code_29) rfl ?_
        exact kk
      clear k879
      have st881 := fun tQ => own_A.ild X876 hx hZ e877 F851 (j := (2 : Int32)) (v := (.int ed1)) (by decide) rfl (g := (mkF m 30 #[vr a, vr vec, vr prod, vi (1 : Int32), vd FP.dconst0, ss, vi ed0] [(.int (2 : Int32)), (.ref ros), (.int ed0)])) rfl rfl (hb hby d_prog_93_method_4_code_30) tQ
      have k882 : own_G p e below E0 T875 (mkF m 31 #[vr a, vr vec, vr prod, vi (1 : Int32), vd FP.dconst0, ss, vi ed0] [(.int ed1), (.int ed0)]) := fun tQ kk => k880 tQ (st881 _ kk)
      clear k880 st881
      have k883 : own_G p e below E0 T875 (mkF m 62 #[vr a, vr vec, vr prod, vi (1 : Int32), vd FP.dconst0, ss, vi ed0] []) := by
        intro tQ kk
        refine k882 tQ ?_
        refine XS.icmpYes X876.here hx rfl (pc0 := 31) (pc' := 62) rfl (hb hby d_prog_93_method_4_code_31) rfl (own_ic_geY bb1_0) (by decide) (by decide) ?_
        exact kk
      clear k882
      exact ⟨T875, FP.dconst0, ed0, ((by rw [hr1]; exact own_d0)), X876, e877, k883⟩
    · skip
      have k884 : own_G p e below E0 T865 (mkF m 24 #[vr a, vr vec, vr prod, vi (1 : Int32), vd FP.dconst0, ss, vi ed0] [(.ref a), (.int ed0)]) := by
        intro tQ kk
        refine k873 tQ ?_
        refine XS.iload X866.here hx rfl (hb hby d_prog_93_method_4_code_21) rfl ?_
        refine XS.aloadN X866.here hx rfl (hb hby d_prog_93_method_4_code_23) rfl rfl ?_
        exact kk
      clear k873
      obtain ⟨T885, X886, e887, st888⟩ := getF X866 hx hZ hown (host := "") (Or.inl (tw22 hw)) Via.refl e867 F848 (g := (mkF m 24 #[vr a, vr vec, vr prod, vi (1 : Int32), vd FP.dconst0, ss, vi ed0] [(.ref a), (.int ed0)])) rfl rfl (hb hby d_prog_93_method_4_code_24)
      have k889 : own_G p e below E0 T885 (mkF m 27 #[vr a, vr vec, vr prod, vi (1 : Int32), vd FP.dconst0, ss, vi ed0] [(.ref ros), (.int ed0)]) := fun tQ kk => k884 tQ (st888 _ kk)
      clear k884 st888
      have k890 : own_G p e below E0 T885 (mkF m 30 #[vr a, vr vec, vr prod, vi (1 : Int32), vd FP.dconst0, ss, vi ed0] [(.int (2 : Int32)), (.ref ros), (.int ed0)]) := by
        intro tQ kk
        refine k889 tQ ?_
        refine XS.iloadN X886.here hx rfl (hb hby d_prog_93_method_4_code_27) rfl ?_
        refine XS.iconst X886.here hx rfl (hb hby d_prog_93_method_4_code_28) ?_
        refine XS.iadd X886.here hx rfl (hb hby d_prog_93_method_4_code_29) rfl ?_
        exact kk
      clear k889
      have st891 := fun tQ => own_A.ild X886 hx hZ e887 F851 (j := (2 : Int32)) (v := (.int ed1)) (by decide) rfl (g := (mkF m 30 #[vr a, vr vec, vr prod, vi (1 : Int32), vd FP.dconst0, ss, vi ed0] [(.int (2 : Int32)), (.ref ros), (.int ed0)])) rfl rfl (hb hby d_prog_93_method_4_code_30) tQ
      have k892 : own_G p e below E0 T885 (mkF m 31 #[vr a, vr vec, vr prod, vi (1 : Int32), vd FP.dconst0, ss, vi ed0] [(.int ed1), (.int ed0)]) := fun tQ kk => k890 tQ (st891 _ kk)
      clear k890 st891
      obtain ⟨ec1_0, ew1_0, ex1_0, qa1_0, qb1_0, qc1_0, qd1_0, qe1_0, qf1_0, qg1_0⟩ := en1_0
      have k893 : own_G p e below E0 T885 (mkF m 37 #[vr a, vr vec, vr prod, vi (1 : Int32), vd FP.dconst0, ss, vi ed0] [(.ref a), (.double FP.dconst0)]) := by
        intro tQ kk
        refine k892 tQ ?_
        refine XS.icmpNo X886.here hx rfl (hb hby d_prog_93_method_4_code_31) rfl (own_ic_geN bb1_0) ?_
        refine XS.dload X886.here hx rfl (hb hby d_prog_93_method_4_code_34) rfl ?_
        refine XS.aloadN X886.here hx rfl (hb hby d_prog_93_method_4_code_36) rfl rfl ?_
        exact kk
      clear k892
      obtain ⟨T894, X895, e896, st897⟩ := getF X886 hx hZ hown (host := "") (Or.inl (tw26 hw)) Via.refl e887 F850 (g := (mkF m 37 #[vr a, vr vec, vr prod, vi (1 : Int32), vd FP.dconst0, ss, vi ed0] [(.ref a), (.double FP.dconst0)])) rfl rfl (hb hby d_prog_93_method_4_code_37)
      have k898 : own_G p e below E0 T894 (mkF m 40 #[vr a, vr vec, vr prod, vi (1 : Int32), vd FP.dconst0, ss, vi ed0] [(.ref vas), (.double FP.dconst0)]) := fun tQ kk => k893 tQ (st897 _ kk)
      clear k893 st897
      have k899 : own_G p e below E0 T894 (mkF m 42 #[vr a, vr vec, vr prod, vi (1 : Int32), vd FP.dconst0, ss, vi ed0] [(.int ed0), (.ref vas), (.double FP.dconst0)]) := by
        intro tQ kk
        refine k898 tQ ?_
        refine XS.iload X895.here hx rfl (hb hby d_prog_93_method_4_code_40) rfl ?_
        exact kk
      clear k898
      have st900 := fun tQ => own_A.dld X895 hx hZ e896 F853 (j := ed0) (v := (.double ew1_0)) qa1_0 qc1_0 (g := (mkF m 42 #[vr a, vr vec, vr prod, vi (1 : Int32), vd FP.dconst0, ss, vi ed0] [(.int ed0), (.ref vas), (.double FP.dconst0)])) rfl rfl (hb hby d_prog_93_method_4_code_42) tQ
      have k901 : own_G p e below E0 T894 (mkF m 43 #[vr a, vr vec, vr prod, vi (1 : Int32), vd FP.dconst0, ss, vi ed0] [(.double ew1_0), (.double FP.dconst0)]) := fun tQ kk => k899 tQ (st900 _ kk)
      clear k899 st900
      have k902 : own_G p e below E0 T894 (mkF m 45 #[vr a, vr vec, vr prod, vi (1 : Int32), vd FP.dconst0, ss, vi ed0] [(.ref a), (.ref vec), (.double ew1_0), (.double FP.dconst0)]) := by
        intro tQ kk
        refine k901 tQ ?_
        refine XS.aloadN X895.here hx rfl (hb hby d_prog_93_method_4_code_43) rfl rfl ?_
        refine XS.aloadN X895.here hx rfl (hb hby d_prog_93_method_4_code_44) rfl rfl ?_
        exact kk
      clear k901
      obtain ⟨T903, X904, e905, st906⟩ := getF X895 hx hZ hown (host := "") (Or.inl (tw24 hw)) Via.refl e896 F849 (g := (mkF m 45 #[vr a, vr vec, vr prod, vi (1 : Int32), vd FP.dconst0, ss, vi ed0] [(.ref a), (.ref vec), (.double ew1_0), (.double FP.dconst0)])) rfl rfl (hb hby d_prog_93_method_4_code_45)
      have k907 : own_G p e below E0 T903 (mkF m 48 #[vr a, vr vec, vr prod, vi (1 : Int32), vd FP.dconst0, ss, vi ed0] [(.ref cos), (.ref vec), (.double ew1_0), (.double FP.dconst0)]) := fun tQ kk => k902 tQ (st906 _ kk)
      clear k902 st906
      have k908 : own_G p e below E0 T903 (mkF m 50 #[vr a, vr vec, vr prod, vi (1 : Int32), vd FP.dconst0, ss, vi ed0] [(.int ed0), (.ref cos), (.ref vec), (.double ew1_0), (.double FP.dconst0)]) := by
        intro tQ kk
        refine k907 tQ ?_
        refine XS.iload X904.here hx rfl (hb hby d_prog_93_method_4_code_48) rfl ?_
        exact kk
      clear k907
      have st909 := fun tQ => own_A.ild X904 hx hZ e905 F852 (j := ed0) (v := (.int ec1_0)) qa1_0 qb1_0 (g := (mkF m 50 #[vr a, vr vec, vr prod, vi (1 : Int32), vd FP.dconst0, ss, vi ed0] [(.int ed0), (.ref cos), (.ref vec), (.double ew1_0), (.double FP.dconst0)])) rfl rfl (hb hby d_prog_93_method_4_code_50) tQ
      have k910 : own_G p e below E0 T903 (mkF m 51 #[vr a, vr vec, vr prod, vi (1 : Int32), vd FP.dconst0, ss, vi ed0] [(.int ec1_0), (.ref vec), (.double ew1_0), (.double FP.dconst0)]) := fun tQ kk => k908 tQ (st909 _ kk)
      clear k908 st909
      have st911 := fun tQ => own_A.dld X904 hx hZ e905 F854 (j := ec1_0) (v := (.double ex1_0)) qd1_0 qe1_0 (g := (mkF m 51 #[vr a, vr vec, vr prod, vi (1 : Int32), vd FP.dconst0, ss, vi ed0] [(.int ec1_0), (.ref vec), (.double ew1_0), (.double FP.dconst0)])) rfl rfl (hb hby d_prog_93_method_4_code_51) tQ
      have k912 : own_G p e below E0 T903 (mkF m 52 #[vr a, vr vec, vr prod, vi (1 : Int32), vd FP.dconst0, ss, vi ed0] [(.double ex1_0), (.double ew1_0), (.double FP.dconst0)]) := fun tQ kk => k910 tQ (st911 _ kk)
      clear k910 st911
      have BA1_0 := own_acc own_B0 qg1_0
      have k913 : own_G p e below E0 T903 (mkF m 53 #[vr a, vr vec, vr prod, vi (1 : Int32), vd FP.dconst0, ss, vi ed0] [(.double (FP.dmul ew1_0 ex1_0)), (.double FP.dconst0)]) := by
        intro tQ kk
        refine k912 tQ ?_
        refine XS.dmulS X904.here hx rfl (hb hby d_prog_93_method_4_code_52) rfl (own_nn qf1_0) rfl ?_
        exact kk
      clear k912
      obtain ⟨sm1_0, hsm1_0⟩ : ∃ vA, FP.dadd FP.dconst0 (FP.dmul ew1_0 ex1_0) = vA := ⟨_, rfl⟩
      have DS1_0 : FP.Core.DInt ((0 + u1_0)) sm1_0 := hsm1_0 ▸ FP.Core.dadd_int own_d0 qf1_0 (Nat.le_trans BA1_0 (by decide))
      have k914 : own_G p e below E0 T903 (mkF m 24 #[vr a, vr vec, vr prod, vi (1 : Int32), vd sm1_0, ss, vi (ed0 + (1 : Int32))] [(.ref a), (.int (ed0 + (1 : Int32)))]) := by
        intro tQ kk
        refine k913 tQ ?_
        refine XS.daddS X904.here hx rfl (hb hby d_prog_93_method_4_code_53) rfl (own_nn (FP.Core.dadd_int own_d0 qf1_0 (Nat.le_trans BA1_0 (by decide)))) hsm1_0 ?_
        refine XS.dstore X904.here hx rfl (hb hby d_prog_93_method_4_code_54) rfl (l' := #[vr a, vr vec, vr prod, vi (1 : Int32), vd sm1_0, ss, vi ed0]) rfl ?_
        refine XS.iinc X904.here hx rfl (hb hby d_prog_93_method_4_code_56) rfl (l' := #[vr a, vr vec, vr prod, vi (1 : Int32), vd sm1_0, ss, vi (ed0 + (1 : Int32))]) rfl ?_
        refine XS.goto X904.here hx rfl (pc0 := 59) (pc' := 21) rfl (hb hby d_prog_93_method_4_code_59) (by decide) (by decide) ?_
        show Steps p.tables e below (T903.setTop (mkF m 21 #[vr a, vr vec, vr prod, vi (1 : Int32), vd sm1_0, ss, vi (ed0 + (1 : Int32))] [])) tQ
        refine XS.iload X904.here hx rfl (hb hby d_prog_93_method_4_code_21) rfl ?_
        refine XS.aloadN X904.here hx rfl (hb hby d_prog_93_method_4_code_23) rfl rfl ?_
        exact kk
      clear k913
      obtain ⟨T915, X916, e917, st918⟩ := getF X904 hx hZ hown (host := "") (Or.inl (tw22 hw)) Via.refl e905 F848 (g := (mkF m 24 #[vr a, vr vec, vr prod, vi (1 : Int32), vd sm1_0, ss, vi (ed0 + (1 : Int32))] [(.ref a), (.int (ed0 + (1 : Int32)))])) rfl rfl (hb hby d_prog_93_method_4_code_24)
      have k919 : own_G p e below E0 T915 (mkF m 27 #[vr a, vr vec, vr prod, vi (1 : Int32), vd sm1_0, ss, vi (ed0 + (1 : Int32))] [(.ref ros), (.int (ed0 + (1 : Int32)))]) := fun tQ kk => k914 tQ (st918 _ kk)
      clear k914 st918
      have k920 : own_G p e below E0 T915 (mkF m 30 #[vr a, vr vec, vr prod, vi (1 : Int32), vd sm1_0, ss, vi (ed0 + (1 : Int32))] [(.int (2 : Int32)), (.ref ros), (.int (ed0 + (1 : Int32)))]) := by
        intro tQ kk
        refine k919 tQ ?_
        refine XS.iloadN X916.here hx rfl (hb hby d_prog_93_method_4_code_27) rfl ?_
        refine XS.iconst X916.here hx rfl (hb hby d_prog_93_method_4_code_28) ?_
        refine XS.iadd X916.here hx rfl (hb hby d_prog_93_method_4_code_29) rfl ?_
        exact kk
      clear k919
      have st921 := fun tQ => own_A.ild X916 hx hZ e917 F851 (j := (2 : Int32)) (v := (.int ed1)) (by decide) rfl (g := (mkF m 30 #[vr a, vr vec, vr prod, vi (1 : Int32), vd sm1_0, ss, vi (ed0 + (1 : Int32))] [(.int (2 : Int32)), (.ref ros), (.int (ed0 + (1 : Int32)))])) rfl rfl (hb hby d_prog_93_method_4_code_30) tQ
      have k922 : own_G p e below E0 T915 (mkF m 31 #[vr a, vr vec, vr prod, vi (1 : Int32), vd sm1_0, ss, vi (ed0 + (1 : Int32))] [(.int ed1), (.int (ed0 + (1 : Int32)))]) := fun tQ kk => k920 tQ (st921 _ kk)
      clear k920 st921
      have k923 : own_G p e below E0 T915 (mkF m 62 #[vr a, vr vec, vr prod, vi (1 : Int32), vd sm1_0, ss, vi (ed0 + (1 : Int32))] []) := by
        intro tQ kk
        refine k922 tQ ?_
        refine XS.icmpYes X916.here hx rfl (pc0 := 31) (pc' := 62) rfl (hb hby d_prog_93_method_4_code_31) rfl (own_ic_geY bb1_1) (by decide) (by decide) ?_
        exact kk
      clear k922
      exact ⟨T915, sm1_0, (ed0 + (1 : Int32)), ((by rw [hr1]; exact DS1_0)), X916, e917, k923⟩
    · skip
      have k924 : own_G p e below E0 T865 (mkF m 24 #[vr a, vr vec, vr prod, vi (1 : Int32), vd FP.dconst0, ss, vi ed0] [(.ref a), (.int ed0)]) := by
        intro tQ kk
        refine k873 tQ ?_
        refine XS.iload X866.here hx rfl (hb hby d_prog_93_method_4_code_21) rfl ?_
        refine XS.aloadN X866.here hx rfl (hb hby d_prog_93_method_4_code_23) rfl rfl ?_
        exact kk
      clear k873
      obtain ⟨T925, X926, e927, st928⟩ := getF X866 hx hZ hown (host := "") (Or.inl (tw22 hw)) Via.refl e867 F848 (g := (mkF m 24 #[vr a, vr vec, vr prod, vi (1 : Int32), vd FP.dconst0, ss, vi ed0] [(.ref a), (.int ed0)])) rfl rfl (hb hby d_prog_93_method_4_code_24)
      have k929 : own_G p e below E0 T925 (mkF m 27 #[vr a, vr vec, vr prod, vi (1 : Int32), vd FP.dconst0, ss, vi ed0] [(.ref ros), (.int ed0)]) := fun tQ kk => k924 tQ (st928 _ kk)
      clear k924 st928
      have k930 : own_G p e below E0 T925 (mkF m 30 #[vr a, vr vec, vr prod, vi (1 : Int32), vd FP.dconst0, ss, vi ed0] [(.int (2 : Int32)), (.ref ros), (.int ed0)]) := by
        intro tQ kk
        refine k929 tQ ?_
        refine XS.iloadN X926.here hx rfl (hb hby d_prog_93_method_4_code_27) rfl ?_
        refine XS.iconst X926.here hx rfl (hb hby d_prog_93_method_4_code_28) ?_
        refine XS.iadd X926.here hx rfl (hb hby d_prog_93_method_4_code_29) rfl ?_
        exact kk
      clear k929
      have st931 := fun tQ => own_A.ild X926 hx hZ e927 F851 (j := (2 : Int32)) (v := (.int ed1)) (by decide) rfl (g := (mkF m 30 #[vr a, vr vec, vr prod, vi (1 : Int32), vd FP.dconst0, ss, vi ed0] [(.int (2 : Int32)), (.ref ros), (.int ed0)])) rfl rfl (hb hby d_prog_93_method_4_code_30) tQ
      have k932 : own_G p e below E0 T925 (mkF m 31 #[vr a, vr vec, vr prod, vi (1 : Int32), vd FP.dconst0, ss, vi ed0] [(.int ed1), (.int ed0)]) := fun tQ kk => k930 tQ (st931 _ kk)
      clear k930 st931
      obtain ⟨ec1_0, ew1_0, ex1_0, qa1_0, qb1_0, qc1_0, qd1_0, qe1_0, qf1_0, qg1_0⟩ := en1_0
      have k933 : own_G p e below E0 T925 (mkF m 37 #[vr a, vr vec, vr prod, vi (1 : Int32), vd FP.dconst0, ss, vi ed0] [(.ref a), (.double FP.dconst0)]) := by
        intro tQ kk
        refine k932 tQ ?_
        refine XS.icmpNo X926.here hx rfl (hb hby d_prog_93_method_4_code_31) rfl (own_ic_geN bb1_0) ?_
        refine XS.dload X926.here hx rfl (hb hby d_prog_93_method_4_code_34) rfl ?_
        refine XS.aloadN X926.here hx rfl (hb hby d_prog_93_method_4_code_36) rfl rfl ?_
        exact kk
      clear k932
      obtain ⟨T934, X935, e936, st937⟩ := getF X926 hx hZ hown (host := "") (Or.inl (tw26 hw)) Via.refl e927 F850 (g := (mkF m 37 #[vr a, vr vec, vr prod, vi (1 : Int32), vd FP.dconst0, ss, vi ed0] [(.ref a), (.double FP.dconst0)])) rfl rfl (hb hby d_prog_93_method_4_code_37)
      have k938 : own_G p e below E0 T934 (mkF m 40 #[vr a, vr vec, vr prod, vi (1 : Int32), vd FP.dconst0, ss, vi ed0] [(.ref vas), (.double FP.dconst0)]) := fun tQ kk => k933 tQ (st937 _ kk)
      clear k933 st937
      have k939 : own_G p e below E0 T934 (mkF m 42 #[vr a, vr vec, vr prod, vi (1 : Int32), vd FP.dconst0, ss, vi ed0] [(.int ed0), (.ref vas), (.double FP.dconst0)]) := by
        intro tQ kk
        refine k938 tQ ?_
        refine XS.iload X935.here hx rfl (hb hby d_prog_93_method_4_code_40) rfl ?_
        exact kk
      clear k938
      have st940 := fun tQ => own_A.dld X935 hx hZ e936 F853 (j := ed0) (v := (.double ew1_0)) qa1_0 qc1_0 (g := (mkF m 42 #[vr a, vr vec, vr prod, vi (1 : Int32), vd FP.dconst0, ss, vi ed0] [(.int ed0), (.ref vas), (.double FP.dconst0)])) rfl rfl (hb hby d_prog_93_method_4_code_42) tQ
      have k941 : own_G p e below E0 T934 (mkF m 43 #[vr a, vr vec, vr prod, vi (1 : Int32), vd FP.dconst0, ss, vi ed0] [(.double ew1_0), (.double FP.dconst0)]) := fun tQ kk => k939 tQ (st940 _ kk)
      clear k939 st940
      have k942 : own_G p e below E0 T934 (mkF m 45 #[vr a, vr vec, vr prod, vi (1 : Int32), vd FP.dconst0, ss, vi ed0] [(.ref a), (.ref vec), (.double ew1_0), (.double FP.dconst0)]) := by
        intro tQ kk
        refine k941 tQ ?_
        refine XS.aloadN X935.here hx rfl (hb hby d_prog_93_method_4_code_43) rfl rfl ?_
        refine XS.aloadN X935.here hx rfl (hb hby d_prog_93_method_4_code_44) rfl rfl ?_
        exact kk
      clear k941
      obtain ⟨T943, X944, e945, st946⟩ := getF X935 hx hZ hown (host := "") (Or.inl (tw24 hw)) Via.refl e936 F849 (g := (mkF m 45 #[vr a, vr vec, vr prod, vi (1 : Int32), vd FP.dconst0, ss, vi ed0] [(.ref a), (.ref vec), (.double ew1_0), (.double FP.dconst0)])) rfl rfl (hb hby d_prog_93_method_4_code_45)
      have k947 : own_G p e below E0 T943 (mkF m 48 #[vr a, vr vec, vr prod, vi (1 : Int32), vd FP.dconst0, ss, vi ed0] [(.ref cos), (.ref vec), (.double ew1_0), (.double FP.dconst0)]) := fun tQ kk => k942 tQ (st946 _ kk)
      clear k942 st946
      have k948 : own_G p e below E0 T943 (mkF m 50 #[vr a, vr vec, vr prod, vi (1 : Int32), vd FP.dconst0, ss, vi ed0] [(.int ed0), (.ref cos), (.ref vec), (.double ew1_0), (.double FP.dconst0)]) := by
        intro tQ kk
        refine k947 tQ ?_
        refine XS.iload X944.here hx rfl (hb hby d_prog_93_method_4_code_48) rfl ?_
        exact kk
      clear k947
      have st949 := fun tQ => own_A.ild X944 hx hZ e945 F852 (j := ed0) (v := (.int ec1_0)) qa1_0 qb1_0 (g := (mkF m 50 #[vr a, vr vec, vr prod, vi (1 : Int32), vd FP.dconst0, ss, vi ed0] [(.int ed0), (.ref cos), (.ref vec), (.double ew1_0), (.double FP.dconst0)])) rfl rfl (hb hby d_prog_93_method_4_code_50) tQ
      have k950 : own_G p e below E0 T943 (mkF m 51 #[vr a, vr vec, vr prod, vi (1 : Int32), vd FP.dconst0, ss, vi ed0] [(.int ec1_0), (.ref vec), (.double ew1_0), (.double FP.dconst0)]) := fun tQ kk => k948 tQ (st949 _ kk)
      clear k948 st949
      have st951 := fun tQ => own_A.dld X944 hx hZ e945 F854 (j := ec1_0) (v := (.double ex1_0)) qd1_0 qe1_0 (g := (mkF m 51 #[vr a, vr vec, vr prod, vi (1 : Int32), vd FP.dconst0, ss, vi ed0] [(.int ec1_0), (.ref vec), (.double ew1_0), (.double FP.dconst0)])) rfl rfl (hb hby d_prog_93_method_4_code_51) tQ
      have k952 : own_G p e below E0 T943 (mkF m 52 #[vr a, vr vec, vr prod, vi (1 : Int32), vd FP.dconst0, ss, vi ed0] [(.double ex1_0), (.double ew1_0), (.double FP.dconst0)]) := fun tQ kk => k950 tQ (st951 _ kk)
      clear k950 st951
      have BA1_0 := own_acc own_B0 qg1_0
      have k953 : own_G p e below E0 T943 (mkF m 53 #[vr a, vr vec, vr prod, vi (1 : Int32), vd FP.dconst0, ss, vi ed0] [(.double (FP.dmul ew1_0 ex1_0)), (.double FP.dconst0)]) := by
        intro tQ kk
        refine k952 tQ ?_
        refine XS.dmulS X944.here hx rfl (hb hby d_prog_93_method_4_code_52) rfl (own_nn qf1_0) rfl ?_
        exact kk
      clear k952
      obtain ⟨sm1_0, hsm1_0⟩ : ∃ vA, FP.dadd FP.dconst0 (FP.dmul ew1_0 ex1_0) = vA := ⟨_, rfl⟩
      have DS1_0 : FP.Core.DInt ((0 + u1_0)) sm1_0 := hsm1_0 ▸ FP.Core.dadd_int own_d0 qf1_0 (Nat.le_trans BA1_0 (by decide))
      have k954 : own_G p e below E0 T943 (mkF m 24 #[vr a, vr vec, vr prod, vi (1 : Int32), vd sm1_0, ss, vi (ed0 + (1 : Int32))] [(.ref a), (.int (ed0 + (1 : Int32)))]) := by
        intro tQ kk
        refine k953 tQ ?_
        refine XS.daddS X944.here hx rfl (hb hby d_prog_93_method_4_code_53) rfl (own_nn (FP.Core.dadd_int own_d0 qf1_0 (Nat.le_trans BA1_0 (by decide)))) hsm1_0 ?_
        refine XS.dstore X944.here hx rfl (hb hby d_prog_93_method_4_code_54) rfl (l' := #[vr a, vr vec, vr prod, vi (1 : Int32), vd sm1_0, ss, vi ed0]) rfl ?_
        refine XS.iinc X944.here hx rfl (hb hby d_prog_93_method_4_code_56) rfl (l' := #[vr a, vr vec, vr prod, vi (1 : Int32), vd sm1_0, ss, vi (ed0 + (1 : Int32))]) rfl ?_
        refine XS.goto X944.here hx rfl (pc0 := 59) (pc' := 21) rfl (hb hby d_prog_93_method_4_code_59) (by decide) (by decide) ?_
        show Steps p.tables e below (T943.setTop (mkF m 21 #[vr a, vr vec, vr prod, vi (1 : Int32), vd sm1_0, ss, vi (ed0 + (1 : Int32))] [])) tQ
        refine XS.iload X944.here hx rfl (hb hby d_prog_93_method_4_code_21) rfl ?_
        refine XS.aloadN X944.here hx rfl (hb hby d_prog_93_method_4_code_23) rfl rfl ?_
        exact kk
      clear k953
      obtain ⟨T955, X956, e957, st958⟩ := getF X944 hx hZ hown (host := "") (Or.inl (tw22 hw)) Via.refl e945 F848 (g := (mkF m 24 #[vr a, vr vec, vr prod, vi (1 : Int32), vd sm1_0, ss, vi (ed0 + (1 : Int32))] [(.ref a), (.int (ed0 + (1 : Int32)))])) rfl rfl (hb hby d_prog_93_method_4_code_24)
      have k959 : own_G p e below E0 T955 (mkF m 27 #[vr a, vr vec, vr prod, vi (1 : Int32), vd sm1_0, ss, vi (ed0 + (1 : Int32))] [(.ref ros), (.int (ed0 + (1 : Int32)))]) := fun tQ kk => k954 tQ (st958 _ kk)
      clear k954 st958
      have k960 : own_G p e below E0 T955 (mkF m 30 #[vr a, vr vec, vr prod, vi (1 : Int32), vd sm1_0, ss, vi (ed0 + (1 : Int32))] [(.int (2 : Int32)), (.ref ros), (.int (ed0 + (1 : Int32)))]) := by
        intro tQ kk
        refine k959 tQ ?_
        refine XS.iloadN X956.here hx rfl (hb hby d_prog_93_method_4_code_27) rfl ?_
        refine XS.iconst X956.here hx rfl (hb hby d_prog_93_method_4_code_28) ?_
        refine XS.iadd X956.here hx rfl (hb hby d_prog_93_method_4_code_29) rfl ?_
        exact kk
      clear k959
      have st961 := fun tQ => own_A.ild X956 hx hZ e957 F851 (j := (2 : Int32)) (v := (.int ed1)) (by decide) rfl (g := (mkF m 30 #[vr a, vr vec, vr prod, vi (1 : Int32), vd sm1_0, ss, vi (ed0 + (1 : Int32))] [(.int (2 : Int32)), (.ref ros), (.int (ed0 + (1 : Int32)))])) rfl rfl (hb hby d_prog_93_method_4_code_30) tQ
      have k962 : own_G p e below E0 T955 (mkF m 31 #[vr a, vr vec, vr prod, vi (1 : Int32), vd sm1_0, ss, vi (ed0 + (1 : Int32))] [(.int ed1), (.int (ed0 + (1 : Int32)))]) := fun tQ kk => k960 tQ (st961 _ kk)
      clear k960 st961
      obtain ⟨ec1_1, ew1_1, ex1_1, qa1_1, qb1_1, qc1_1, qd1_1, qe1_1, qf1_1, qg1_1⟩ := en1_1
      have k963 : own_G p e below E0 T955 (mkF m 37 #[vr a, vr vec, vr prod, vi (1 : Int32), vd sm1_0, ss, vi (ed0 + (1 : Int32))] [(.ref a), (.double sm1_0)]) := by
        intro tQ kk
        refine k962 tQ ?_
        refine XS.icmpNo X956.here hx rfl (hb hby d_prog_93_method_4_code_31) rfl (own_ic_geN bb1_1) ?_
        refine XS.dload X956.here hx rfl (hb hby d_prog_93_method_4_code_34) rfl ?_
        refine XS.aloadN X956.here hx rfl (hb hby d_prog_93_method_4_code_36) rfl rfl ?_
        exact kk
      clear k962
      obtain ⟨T964, X965, e966, st967⟩ := getF X956 hx hZ hown (host := "") (Or.inl (tw26 hw)) Via.refl e957 F850 (g := (mkF m 37 #[vr a, vr vec, vr prod, vi (1 : Int32), vd sm1_0, ss, vi (ed0 + (1 : Int32))] [(.ref a), (.double sm1_0)])) rfl rfl (hb hby d_prog_93_method_4_code_37)
      have k968 : own_G p e below E0 T964 (mkF m 40 #[vr a, vr vec, vr prod, vi (1 : Int32), vd sm1_0, ss, vi (ed0 + (1 : Int32))] [(.ref vas), (.double sm1_0)]) := fun tQ kk => k963 tQ (st967 _ kk)
      clear k963 st967
      have k969 : own_G p e below E0 T964 (mkF m 42 #[vr a, vr vec, vr prod, vi (1 : Int32), vd sm1_0, ss, vi (ed0 + (1 : Int32))] [(.int (ed0 + (1 : Int32))), (.ref vas), (.double sm1_0)]) := by
        intro tQ kk
        refine k968 tQ ?_
        refine XS.iload X965.here hx rfl (hb hby d_prog_93_method_4_code_40) rfl ?_
        exact kk
      clear k968
      have st970 := fun tQ => own_A.dld X965 hx hZ e966 F853 (j := (ed0 + (1 : Int32))) (v := (.double ew1_1)) qa1_1 qc1_1 (g := (mkF m 42 #[vr a, vr vec, vr prod, vi (1 : Int32), vd sm1_0, ss, vi (ed0 + (1 : Int32))] [(.int (ed0 + (1 : Int32))), (.ref vas), (.double sm1_0)])) rfl rfl (hb hby d_prog_93_method_4_code_42) tQ
      have k971 : own_G p e below E0 T964 (mkF m 43 #[vr a, vr vec, vr prod, vi (1 : Int32), vd sm1_0, ss, vi (ed0 + (1 : Int32))] [(.double ew1_1), (.double sm1_0)]) := fun tQ kk => k969 tQ (st970 _ kk)
      clear k969 st970
      have k972 : own_G p e below E0 T964 (mkF m 45 #[vr a, vr vec, vr prod, vi (1 : Int32), vd sm1_0, ss, vi (ed0 + (1 : Int32))] [(.ref a), (.ref vec), (.double ew1_1), (.double sm1_0)]) := by
        intro tQ kk
        refine k971 tQ ?_
        refine XS.aloadN X965.here hx rfl (hb hby d_prog_93_method_4_code_43) rfl rfl ?_
        refine XS.aloadN X965.here hx rfl (hb hby d_prog_93_method_4_code_44) rfl rfl ?_
        exact kk
      clear k971
      obtain ⟨T973, X974, e975, st976⟩ := getF X965 hx hZ hown (host := "") (Or.inl (tw24 hw)) Via.refl e966 F849 (g := (mkF m 45 #[vr a, vr vec, vr prod, vi (1 : Int32), vd sm1_0, ss, vi (ed0 + (1 : Int32))] [(.ref a), (.ref vec), (.double ew1_1), (.double sm1_0)])) rfl rfl (hb hby d_prog_93_method_4_code_45)
      have k977 : own_G p e below E0 T973 (mkF m 48 #[vr a, vr vec, vr prod, vi (1 : Int32), vd sm1_0, ss, vi (ed0 + (1 : Int32))] [(.ref cos), (.ref vec), (.double ew1_1), (.double sm1_0)]) := fun tQ kk => k972 tQ (st976 _ kk)
      clear k972 st976
      have k978 : own_G p e below E0 T973 (mkF m 50 #[vr a, vr vec, vr prod, vi (1 : Int32), vd sm1_0, ss, vi (ed0 + (1 : Int32))] [(.int (ed0 + (1 : Int32))), (.ref cos), (.ref vec), (.double ew1_1), (.double sm1_0)]) := by
        intro tQ kk
        refine k977 tQ ?_
        refine XS.iload X974.here hx rfl (hb hby d_prog_93_method_4_code_48) rfl ?_
        exact kk
      clear k977
      have st979 := fun tQ => own_A.ild X974 hx hZ e975 F852 (j := (ed0 + (1 : Int32))) (v := (.int ec1_1)) qa1_1 qb1_1 (g := (mkF m 50 #[vr a, vr vec, vr prod, vi (1 : Int32), vd sm1_0, ss, vi (ed0 + (1 : Int32))] [(.int (ed0 + (1 : Int32))), (.ref cos), (.ref vec), (.double ew1_1), (.double sm1_0)])) rfl rfl (hb hby d_prog_93_method_4_code_50) tQ
      have k980 : own_G p e below E0 T973 (mkF m 51 #[vr a, vr vec, vr prod, vi (1 : Int32), vd sm1_0, ss, vi (ed0 + (1 : Int32))] [(.int ec1_1), (.ref vec), (.double ew1_1), (.double sm1_0)]) := fun tQ kk => k978 tQ (st979 _ kk)
      clear k978 st979
      have st981 := fun tQ => own_A.dld X974 hx hZ e975 F854 (j := ec1_1) (v := (.double ex1_1)) qd1_1 qe1_1 (g := (mkF m 51 #[vr a, vr vec, vr prod, vi (1 : Int32), vd sm1_0, ss, vi (ed0 + (1 : Int32))] [(.int ec1_1), (.ref vec), (.double ew1_1), (.double sm1_0)])) rfl rfl (hb hby d_prog_93_method_4_code_51) tQ
      have k982 : own_G p e below E0 T973 (mkF m 52 #[vr a, vr vec, vr prod, vi (1 : Int32), vd sm1_0, ss, vi (ed0 + (1 : Int32))] [(.double ex1_1), (.double ew1_1), (.double sm1_0)]) := fun tQ kk => k980 tQ (st981 _ kk)
      clear k980 st981
      have BA1_1 := own_acc BA1_0 qg1_1
      have k983 : own_G p e below E0 T973 (mkF m 53 #[vr a, vr vec, vr prod, vi (1 : Int32), vd sm1_0, ss, vi (ed0 + (1 : Int32))] [(.double (FP.dmul ew1_1 ex1_1)), (.double sm1_0)]) := by
        intro tQ kk
        refine k982 tQ ?_
        refine XS.dmulS X974.here hx rfl (hb hby d_prog_93_method_4_code_52) rfl (own_nn qf1_1) rfl ?_
        exact kk
      clear k982
      obtain ⟨sm1_1, hsm1_1⟩ : ∃ vA, FP.dadd sm1_0 (FP.dmul ew1_1 ex1_1) = vA := ⟨_, rfl⟩
      have DS1_1 : FP.Core.DInt (((0 + u1_0) + u1_1)) sm1_1 := hsm1_1 ▸ FP.Core.dadd_int DS1_0 qf1_1 (Nat.le_trans BA1_1 (by decide))
      have k984 : own_G p e below E0 T973 (mkF m 24 #[vr a, vr vec, vr prod, vi (1 : Int32), vd sm1_1, ss, vi ((ed0 + (1 : Int32)) + (1 : Int32))] [(.ref a), (.int ((ed0 + (1 : Int32)) + (1 : Int32)))]) := by
        intro tQ kk
        refine k983 tQ ?_
        refine XS.daddS X974.here hx rfl (hb hby d_prog_93_method_4_code_53) rfl (own_nn (FP.Core.dadd_int DS1_0 qf1_1 (Nat.le_trans BA1_1 (by decide)))) hsm1_1 ?_
        refine XS.dstore X974.here hx rfl (hb hby d_prog_93_method_4_code_54) rfl (l' := #[vr a, vr vec, vr prod, vi (1 : Int32), vd sm1_1, ss, vi (ed0 + (1 : Int32))]) rfl ?_
        refine XS.iinc X974.here hx rfl (hb hby d_prog_93_method_4_code_56) rfl (l' := #[vr a, vr vec, vr prod, vi (1 : Int32), vd sm1_1, ss, vi ((ed0 + (1 : Int32)) + (1 : Int32))]) rfl ?_
        refine XS.goto X974.here hx rfl (pc0 := 59) (pc' := 21) rfl (hb hby d_prog_93_method_4_code_59) (by decide) (by decide) ?_
        show Steps p.tables e below (T973.setTop (mkF m 21 #[vr a, vr vec, vr prod, vi (1 : Int32), vd sm1_1, ss, vi ((ed0 + (1 : Int32)) + (1 : Int32))] [])) tQ
        refine XS.iload X974.here hx rfl (hb hby d_prog_93_method_4_code_21) rfl ?_
        refine XS.aloadN X974.here hx rfl (hb hby d_prog_93_method_4_code_23) rfl rfl ?_
        exact kk
      clear k983
      obtain ⟨T985, X986, e987, st988⟩ := getF X974 hx hZ hown (host := "") (Or.inl (tw22 hw)) Via.refl e975 F848 (g := (mkF m 24 #[vr a, vr vec, vr prod, vi (1 : Int32), vd sm1_1, ss, vi ((ed0 + (1 : Int32)) + (1 : Int32))] [(.ref a), (.int ((ed0 + (1 : Int32)) + (1 : Int32)))])) rfl rfl (hb hby d_prog_93_method_4_code_24)
      have k989 : own_G p e below E0 T985 (mkF m 27 #[vr a, vr vec, vr prod, vi (1 : Int32), vd sm1_1, ss, vi ((ed0 + (1 : Int32)) + (1 : Int32))] [(.ref ros), (.int ((ed0 + (1 : Int32)) + (1 : Int32)))]) := fun tQ kk => k984 tQ (st988 _ kk)
      clear k984 st988
      have k990 : own_G p e below E0 T985 (mkF m 30 #[vr a, vr vec, vr prod, vi (1 : Int32), vd sm1_1, ss, vi ((ed0 + (1 : Int32)) + (1 : Int32))] [(.int (2 : Int32)), (.ref ros), (.int ((ed0 + (1 : Int32)) + (1 : Int32)))]) := by
        intro tQ kk
        refine k989 tQ ?_
        refine XS.iloadN X986.here hx rfl (hb hby d_prog_93_method_4_code_27) rfl ?_
        refine XS.iconst X986.here hx rfl (hb hby d_prog_93_method_4_code_28) ?_
        refine XS.iadd X986.here hx rfl (hb hby d_prog_93_method_4_code_29) rfl ?_
        exact kk
      clear k989
      have st991 := fun tQ => own_A.ild X986 hx hZ e987 F851 (j := (2 : Int32)) (v := (.int ed1)) (by decide) rfl (g := (mkF m 30 #[vr a, vr vec, vr prod, vi (1 : Int32), vd sm1_1, ss, vi ((ed0 + (1 : Int32)) + (1 : Int32))] [(.int (2 : Int32)), (.ref ros), (.int ((ed0 + (1 : Int32)) + (1 : Int32)))])) rfl rfl (hb hby d_prog_93_method_4_code_30) tQ
      have k992 : own_G p e below E0 T985 (mkF m 31 #[vr a, vr vec, vr prod, vi (1 : Int32), vd sm1_1, ss, vi ((ed0 + (1 : Int32)) + (1 : Int32))] [(.int ed1), (.int ((ed0 + (1 : Int32)) + (1 : Int32)))]) := fun tQ kk => k990 tQ (st991 _ kk)
      clear k990 st991
      have k993 : own_G p e below E0 T985 (mkF m 62 #[vr a, vr vec, vr prod, vi (1 : Int32), vd sm1_1, ss, vi ((ed0 + (1 : Int32)) + (1 : Int32))] []) := by
        intro tQ kk
        refine k992 tQ ?_
        refine XS.icmpYes X986.here hx rfl (pc0 := 31) (pc' := 62) rfl (hb hby d_prog_93_method_4_code_31) rfl (own_ic_geY bb1_2) (by decide) (by decide) ?_
        exact kk
      clear k992
      exact ⟨T985, sm1_1, ((ed0 + (1 : Int32)) + (1 : Int32)), ((by rw [hr1]; exact DS1_1)), X986, e987, k993⟩
    · skip
      have k994 : own_G p e below E0 T865 (mkF m 24 #[vr a, vr vec, vr prod, vi (1 : Int32), vd FP.dconst0, ss, vi ed0] [(.ref a), (.int ed0)]) := by
        intro tQ kk
        refine k873 tQ ?_
        refine XS.iload X866.here hx rfl (hb hby d_prog_93_method_4_code_21) rfl ?_
        refine XS.aloadN X866.here hx rfl (hb hby d_prog_93_method_4_code_23) rfl rfl ?_
        exact kk
      clear k873
      obtain ⟨T995, X996, e997, st998⟩ := getF X866 hx hZ hown (host := "") (Or.inl (tw22 hw)) Via.refl e867 F848 (g := (mkF m 24 #[vr a, vr vec, vr prod, vi (1 : Int32), vd FP.dconst0, ss, vi ed0] [(.ref a), (.int ed0)])) rfl rfl (hb hby d_prog_93_method_4_code_24)
      have k999 : own_G p e below E0 T995 (mkF m 27 #[vr a, vr vec, vr prod, vi (1 : Int32), vd FP.dconst0, ss, vi ed0] [(.ref ros), (.int ed0)]) := fun tQ kk => k994 tQ (st998 _ kk)
      clear k994 st998
      have k1000 : own_G p e below E0 T995 (mkF m 30 #[vr a, vr vec, vr prod, vi (1 : Int32), vd FP.dconst0, ss, vi ed0] [(.int (2 : Int32)), (.ref ros), (.int ed0)]) := by
        intro tQ kk
        refine k999 tQ ?_
        refine XS.iloadN X996.here hx rfl (hb hby d_prog_93_method_4_code_27) rfl ?_
        refine XS.iconst X996.here hx rfl (hb hby d_prog_93_method_4_code_28) ?_
        refine XS.iadd X996.here hx rfl (hb hby d_prog_93_method_4_code_29) rfl ?_
        exact kk
      clear k999
      have st1001 := fun tQ => own_A.ild X996 hx hZ e997 F851 (j := (2 : Int32)) (v := (.int ed1)) (by decide) rfl (g := (mkF m 30 #[vr a, vr vec, vr prod, vi (1 : Int32), vd FP.dconst0, ss, vi ed0] [(.int (2 : Int32)), (.ref ros), (.int ed0)])) rfl rfl (hb hby d_prog_93_method_4_code_30) tQ
      have k1002 : own_G p e below E0 T995 (mkF m 31 #[vr a, vr vec, vr prod, vi (1 : Int32), vd FP.dconst0, ss, vi ed0] [(.int ed1), (.int ed0)]) := fun tQ kk => k1000 tQ (st1001 _ kk)
      clear k1000 st1001
      obtain ⟨ec1_0, ew1_0, ex1_0, qa1_0, qb1_0, qc1_0, qd1_0, qe1_0, qf1_0, qg1_0⟩ := en1_0
      have k1003 : own_G p e below E0 T995 (mkF m 37 #[vr a, vr vec, vr prod, vi (1 : Int32), vd FP.dconst0, ss, vi ed0] [(.ref a), (.double FP.dconst0)]) := by
        intro tQ kk
        refine k1002 tQ ?_
        refine XS.icmpNo X996.here hx rfl (hb hby d_prog_93_method_4_code_31) rfl (own_ic_geN bb1_0) ?_
        refine XS.dload X996.here hx rfl (hb hby d_prog_93_method_4_code_34) rfl ?_
        refine XS.aloadN X996.here hx rfl (hb hby d_prog_93_method_4_code_36) rfl rfl ?_
        exact kk
      clear k1002
      obtain ⟨T1004, X1005, e1006, st1007⟩ := getF X996 hx hZ hown (host := "") (Or.inl (tw26 hw)) Via.refl e997 F850 (g := (mkF m 37 #[vr a, vr vec, vr prod, vi (1 : Int32), vd FP.dconst0, ss, vi ed0] [(.ref a), (.double FP.dconst0)])) rfl rfl (hb hby d_prog_93_method_4_code_37)
      have k1008 : own_G p e below E0 T1004 (mkF m 40 #[vr a, vr vec, vr prod, vi (1 : Int32), vd FP.dconst0, ss, vi ed0] [(.ref vas), (.double FP.dconst0)]) := fun tQ kk => k1003 tQ (st1007 _ kk)
      clear k1003 st1007
      have k1009 : own_G p e below E0 T1004 (mkF m 42 #[vr a, vr vec, vr prod, vi (1 : Int32), vd FP.dconst0, ss, vi ed0] [(.int ed0), (.ref vas), (.double FP.dconst0)]) := by
        intro tQ kk
        refine k1008 tQ ?_
        refine XS.iload X1005.here hx rfl (hb hby d_prog_93_method_4_code_40) rfl ?_
        exact kk
      clear k1008
      have st1010 := fun tQ => own_A.dld X1005 hx hZ e1006 F853 (j := ed0) (v := (.double ew1_0)) qa1_0 qc1_0 (g := (mkF m 42 #[vr a, vr vec, vr prod, vi (1 : Int32), vd FP.dconst0, ss, vi ed0] [(.int ed0), (.ref vas), (.double FP.dconst0)])) rfl rfl (hb hby d_prog_93_method_4_code_42) tQ
      have k1011 : own_G p e below E0 T1004 (mkF m 43 #[vr a, vr vec, vr prod, vi (1 : Int32), vd FP.dconst0, ss, vi ed0] [(.double ew1_0), (.double FP.dconst0)]) := fun tQ kk => k1009 tQ (st1010 _ kk)
      clear k1009 st1010
      have k1012 : own_G p e below E0 T1004 (mkF m 45 #[vr a, vr vec, vr prod, vi (1 : Int32), vd FP.dconst0, ss, vi ed0] [(.ref a), (.ref vec), (.double ew1_0), (.double FP.dconst0)]) := by
        intro tQ kk
        refine k1011 tQ ?_
        refine XS.aloadN X1005.here hx rfl (hb hby d_prog_93_method_4_code_43) rfl rfl ?_
        refine XS.aloadN X1005.here hx rfl (hb hby d_prog_93_method_4_code_44) rfl rfl ?_
        exact kk
      clear k1011
      obtain ⟨T1013, X1014, e1015, st1016⟩ := getF X1005 hx hZ hown (host := "") (Or.inl (tw24 hw)) Via.refl e1006 F849 (g := (mkF m 45 #[vr a, vr vec, vr prod, vi (1 : Int32), vd FP.dconst0, ss, vi ed0] [(.ref a), (.ref vec), (.double ew1_0), (.double FP.dconst0)])) rfl rfl (hb hby d_prog_93_method_4_code_45)
      have k1017 : own_G p e below E0 T1013 (mkF m 48 #[vr a, vr vec, vr prod, vi (1 : Int32), vd FP.dconst0, ss, vi ed0] [(.ref cos), (.ref vec), (.double ew1_0), (.double FP.dconst0)]) := fun tQ kk => k1012 tQ (st1016 _ kk)
      clear k1012 st1016
      have k1018 : own_G p e below E0 T1013 (mkF m 50 #[vr a, vr vec, vr prod, vi (1 : Int32), vd FP.dconst0, ss, vi ed0] [(.int ed0), (.ref cos), (.ref vec), (.double ew1_0), (.double FP.dconst0)]) := by
        intro tQ kk
        refine k1017 tQ ?_
        refine XS.iload X1014.here hx rfl (hb hby d_prog_93_method_4_code_48) rfl ?_
        exact kk
      clear k1017
      have st1019 := fun tQ => own_A.ild X1014 hx hZ e1015 F852 (j := ed0) (v := (.int ec1_0)) qa1_0 qb1_0 (g := (mkF m 50 #[vr a, vr vec, vr prod, vi (1 : Int32), vd FP.dconst0, ss, vi ed0] [(.int ed0), (.ref cos), (.ref vec), (.double ew1_0), (.double FP.dconst0)])) rfl rfl (hb hby d_prog_93_method_4_code_50) tQ
      have k1020 : own_G p e below E0 T1013 (mkF m 51 #[vr a, vr vec, vr prod, vi (1 : Int32), vd FP.dconst0, ss, vi ed0] [(.int ec1_0), (.ref vec), (.double ew1_0), (.double FP.dconst0)]) := fun tQ kk => k1018 tQ (st1019 _ kk)
      clear k1018 st1019
      have st1021 := fun tQ => own_A.dld X1014 hx hZ e1015 F854 (j := ec1_0) (v := (.double ex1_0)) qd1_0 qe1_0 (g := (mkF m 51 #[vr a, vr vec, vr prod, vi (1 : Int32), vd FP.dconst0, ss, vi ed0] [(.int ec1_0), (.ref vec), (.double ew1_0), (.double FP.dconst0)])) rfl rfl (hb hby d_prog_93_method_4_code_51) tQ
      have k1022 : own_G p e below E0 T1013 (mkF m 52 #[vr a, vr vec, vr prod, vi (1 : Int32), vd FP.dconst0, ss, vi ed0] [(.double ex1_0), (.double ew1_0), (.double FP.dconst0)]) := fun tQ kk => k1020 tQ (st1021 _ kk)
      clear k1020 st1021
      have BA1_0 := own_acc own_B0 qg1_0
      have k1023 : own_G p e below E0 T1013 (mkF m 53 #[vr a, vr vec, vr prod, vi (1 : Int32), vd FP.dconst0, ss, vi ed0] [(.double (FP.dmul ew1_0 ex1_0)), (.double FP.dconst0)]) := by
        intro tQ kk
        refine k1022 tQ ?_
        refine XS.dmulS X1014.here hx rfl (hb hby d_prog_93_method_4_code_52) rfl (own_nn qf1_0) rfl ?_
        exact kk
      clear k1022
      obtain ⟨sm1_0, hsm1_0⟩ : ∃ vA, FP.dadd FP.dconst0 (FP.dmul ew1_0 ex1_0) = vA := ⟨_, rfl⟩
      have DS1_0 : FP.Core.DInt ((0 + u1_0)) sm1_0 := hsm1_0 ▸ FP.Core.dadd_int own_d0 qf1_0 (Nat.le_trans BA1_0 (by decide))
      have k1024 : own_G p e below E0 T1013 (mkF m 24 #[vr a, vr vec, vr prod, vi (1 : Int32), vd sm1_0, ss, vi (ed0 + (1 : Int32))] [(.ref a), (.int (ed0 + (1 : Int32)))]) := by
        intro tQ kk
        refine k1023 tQ ?_
        refine XS.daddS X1014.here hx rfl (hb hby d_prog_93_method_4_code_53) rfl (own_nn (FP.Core.dadd_int own_d0 qf1_0 (Nat.le_trans BA1_0 (by decide)))) hsm1_0 ?_
        refine XS.dstore X1014.here hx rfl (hb hby d_prog_93_method_4_code_54) rfl (l' := #[vr a, vr vec, vr prod, vi (1 : Int32), vd sm1_0, ss, vi ed0]) rfl ?_
        refine XS.iinc X1014.here hx rfl (hb hby d_prog_93_method_4_code_56) rfl (l' := #[vr a, vr vec, vr prod, vi (1 : Int32), vd sm1_0, ss, vi (ed0 + (1 : Int32))]) rfl ?_
        refine XS.goto X1014.here hx rfl (pc0 := 59) (pc' := 21) rfl (hb hby d_prog_93_method_4_code_59) (by decide) (by decide) ?_
        show Steps p.tables e below (T1013.setTop (mkF m 21 #[vr a, vr vec, vr prod, vi (1 : Int32), vd sm1_0, ss, vi (ed0 + (1 : Int32))] [])) tQ
        refine XS.iload X1014.here hx rfl (hb hby d_prog_93_method_4_code_21) rfl ?_
        refine XS.aloadN X1014.here hx rfl (hb hby d_prog_93_method_4_code_23) rfl rfl ?_
        exact kk
      clear k1023
      obtain ⟨T1025, X1026, e1027, st1028⟩ := getF X1014 hx hZ hown (host := "") (Or.inl (tw22 hw)) Via.refl e1015 F848 (g := (mkF m 24 #[vr a, vr vec, vr prod, vi (1 : Int32), vd sm1_0, ss, vi (ed0 + (1 : Int32))] [(.ref a), (.int (ed0 + (1 : Int32)))])) rfl rfl (hb hby d_prog_93_method_4_code_24)
      have k1029 : own_G p e below E0 T1025 (mkF m 27 #[vr a, vr vec, vr prod, vi (1 : Int32), vd sm1_0, ss, vi (ed0 + (1 : Int32))] [(.ref ros), (.int (ed0 + (1 : Int32)))]) := fun tQ kk => k1024 tQ (st1028 _ kk)
      clear k1024 st1028
      have k1030 : own_G p e below E0 T1025 (mkF m 30 #[vr a, vr vec, vr prod, vi (1 : Int32), vd sm1_0, ss, vi (ed0 + (1 : Int32))] [(.int (2 : Int32)), (.ref ros), (.int (ed0 + (1 : Int32)))]) := by
        intro tQ kk
        refine k1029 tQ ?_
        refine XS.iloadN X1026.here hx rfl (hb hby d_prog_93_method_4_code_27) rfl ?_
        refine XS.iconst X1026.here hx rfl (hb hby d_prog_93_method_4_code_28) ?_
        refine XS.iadd X1026.here hx rfl (hb hby d_prog_93_method_4_code_29) rfl ?_
        exact kk
      clear k1029
      have st1031 := fun tQ => own_A.ild X1026 hx hZ e1027 F851 (j := (2 : Int32)) (v := (.int ed1)) (by decide) rfl (g := (mkF m 30 #[vr a, vr vec, vr prod, vi (1 : Int32), vd sm1_0, ss, vi (ed0 + (1 : Int32))] [(.int (2 : Int32)), (.ref ros), (.int (ed0 + (1 : Int32)))])) rfl rfl (hb hby d_prog_93_method_4_code_30) tQ
      have k1032 : own_G p e below E0 T1025 (mkF m 31 #[vr a, vr vec, vr prod, vi (1 : Int32), vd sm1_0, ss, vi (ed0 + (1 : Int32))] [(.int ed1), (.int (ed0 + (1 : Int32)))]) := fun tQ kk => k1030 tQ (st1031 _ kk)
      clear k1030 st1031
      obtain ⟨ec1_1, ew1_1, ex1_1, qa1_1, qb1_1, qc1_1, qd1_1, qe1_1, qf1_1, qg1_1⟩ := en1_1
      have k1033 : own_G p e below E0 T1025 (mkF m 37 #[vr a, vr vec, vr prod, vi (1 : Int32), vd sm1_0, ss, vi (ed0 + (1 : Int32))] [(.ref a), (.double sm1_0)]) := by
        intro tQ kk
        refine k1032 tQ ?_
        refine XS.icmpNo X1026.here hx rfl (hb hby d_prog_93_method_4_code_31) rfl (own_ic_geN bb1_1) ?_
        refine XS.dload X1026.here hx rfl (hb hby d_prog_93_method_4_code_34) rfl ?_
        refine XS.aloadN X1026.here hx rfl (hb hby d_prog_93_method_4_code_36) rfl rfl ?_
        exact kk
      clear k1032
      obtain ⟨T1034, X1035, e1036, st1037⟩ := getF X1026 hx hZ hown (host := "") (Or.inl (tw26 hw)) Via.refl e1027 F850 (g := (mkF m 37 #[vr a, vr vec, vr prod, vi (1 : Int32), vd sm1_0, ss, vi (ed0 + (1 : Int32))] [(.ref a), (.double sm1_0)])) rfl rfl (hb hby d_prog_93_method_4_code_37)
      have k1038 : own_G p e below E0 T1034 (mkF m 40 #[vr a, vr vec, vr prod, vi (1 : Int32), vd sm1_0, ss, vi (ed0 + (1 : Int32))] [(.ref vas), (.double sm1_0)]) := fun tQ kk => k1033 tQ (st1037 _ kk)
      clear k1033 st1037
      have k1039 : own_G p e below E0 T1034 (mkF m 42 #[vr a, vr vec, vr prod, vi (1 : Int32), vd sm1_0, ss, vi (ed0 + (1 : Int32))] [(.int (ed0 + (1 : Int32))), (.ref vas), (.double sm1_0)]) := by
        intro tQ kk
        refine k1038 tQ ?_
        refine XS.iload X1035.here hx rfl (hb hby d_prog_93_method_4_code_40) rfl ?_
        exact kk
      clear k1038
      have st1040 := fun tQ => own_A.dld X1035 hx hZ e1036 F853 (j := (ed0 + (1 : Int32))) (v := (.double ew1_1)) qa1_1 qc1_1 (g := (mkF m 42 #[vr a, vr vec, vr prod, vi (1 : Int32), vd sm1_0, ss, vi (ed0 + (1 : Int32))] [(.int (ed0 + (1 : Int32))), (.ref vas), (.double sm1_0)])) rfl rfl (hb hby d_prog_93_method_4_code_42) tQ
      have k1041 : own_G p e below E0 T1034 (mkF m 43 #[vr a, vr vec, vr prod, vi (1 : Int32), vd sm1_0, ss, vi (ed0 + (1 : Int32))] [(.double ew1_1), (.double sm1_0)]) := fun tQ kk => k1039 tQ (st1040 _ kk)
      clear k1039 st1040
      have k1042 : own_G p e below E0 T1034 (mkF m 45 #[vr a, vr vec, vr prod, vi (1 : Int32), vd sm1_0, ss, vi (ed0 + (1 : Int32))] [(.ref a), (.ref vec), (.double ew1_1), (.double sm1_0)]) := by
        intro tQ kk
        refine k1041 tQ ?_
        refine XS.aloadN X1035.here hx rfl (hb hby d_prog_93_method_4_code_43) rfl rfl ?_
        refine XS.aloadN X1035.here hx rfl (hb hby d_prog_93_method_4_code_44) rfl rfl ?_
        exact kk
      clear k1041
      obtain ⟨T1043, X1044, e1045, st1046⟩ := getF X1035 hx hZ hown (host := "") (Or.inl (tw24 hw)) Via.refl e1036 F849 (g := (mkF m 45 #[vr a, vr vec, vr prod, vi (1 : Int32), vd sm1_0, ss, vi (ed0 + (1 : Int32))] [(.ref a), (.ref vec), (.double ew1_1), (.double sm1_0)])) rfl rfl (hb hby d_prog_93_method_4_code_45)
      have k1047 : own_G p e below E0 T1043 (mkF m 48 #[vr a, vr vec, vr prod, vi (1 : Int32), vd sm1_0, ss, vi (ed0 + (1 : Int32))] [(.ref cos), (.ref vec), (.double ew1_1), (.double sm1_0)]) := fun tQ kk => k1042 tQ (st1046 _ kk)
      clear k1042 st1046
      have k1048 : own_G p e below E0 T1043 (mkF m 50 #[vr a, vr vec, vr prod, vi (1 : Int32), vd sm1_0, ss, vi (ed0 + (1 : Int32))] [(.int (ed0 + (1 : Int32))), (.ref cos), (.ref vec), (.double ew1_1), (.double sm1_0)]) := by
        intro tQ kk
        refine k1047 tQ ?_
        refine XS.iload X1044.here hx rfl (hb hby d_prog_93_method_4_code_48) rfl ?_
        exact kk
      clear k1047
      have st1049 := fun tQ => own_A.ild X1044 hx hZ e1045 F852 (j := (ed0 + (1 : Int32))) (v := (.int ec1_1)) qa1_1 qb1_1 (g := (mkF m 50 #[vr a, vr vec, vr prod, vi (1 : Int32), vd sm1_0, ss, vi (ed0 + (1 : Int32))] [(.int (ed0 + (1 : Int32))), (.ref cos), (.ref vec), (.double ew1_1), (.double sm1_0)])) rfl rfl (hb hby d_prog_93_method_4_code_50) tQ
      have k1050 : own_G p e below E0 T1043 (mkF m 51 #[vr a, vr vec, vr prod, vi (1 : Int32), vd sm1_0, ss, vi (ed0 + (1 : Int32))] [(.int ec1_1), (.ref vec), (.double ew1_1), (.double sm1_0)]) := fun tQ kk => k1048 tQ (st1049 _ kk)
      clear k1048 st1049
      have st1051 := fun tQ => own_A.dld X1044 hx hZ e1045 F854 (j := ec1_1) (v := (.double ex1_1)) qd1_1 qe1_1 (g := (mkF m 51 #[vr a, vr vec, vr prod, vi (1 : Int32), vd sm1_0, ss, vi (ed0 + (1 : Int32))] [(.int ec1_1), (.ref vec), (.double ew1_1), (.double sm1_0)])) rfl rfl (hb hby d_prog_93_method_4_code_51) tQ
      have k1052 : own_G p e below E0 T1043 (mkF m 52 #[vr a, vr vec, vr prod, vi (1 : Int32), vd sm1_0, ss, vi (ed0 + (1 : Int32))] [(.double ex1_1), (.double ew1_1), (.double sm1_0)]) := fun tQ kk => k1050 tQ (st1051 _ kk)
      clear k1050 st1051
      have BA1_1 := own_acc BA1_0 qg1_1
      have k1053 : own_G p e below E0 T1043 (mkF m 53 #[vr a, vr vec, vr prod, vi (1 : Int32), vd sm1_0, ss, vi (ed0 + (1 : Int32))] [(.double (FP.dmul ew1_1 ex1_1)), (.double sm1_0)]) := by
        intro tQ kk
        refine k1052 tQ ?_
        refine XS.dmulS X1044.here hx rfl (hb hby d_prog_93_method_4_code_52) rfl (own_nn qf1_1) rfl ?_
        exact kk
      clear k1052
      obtain ⟨sm1_1, hsm1_1⟩ : ∃ vA, FP.dadd sm1_0 (FP.dmul ew1_1 ex1_1) = vA := ⟨_, rfl⟩
      have DS1_1 : FP.Core.DInt (((0 + u1_0) + u1_1)) sm1_1 := hsm1_1 ▸ FP.Core.dadd_int DS1_0 qf1_1 (Nat.le_trans BA1_1 (by decide))
      have k1054 : own_G p e below E0 T1043 (mkF m 24 #[vr a, vr vec, vr prod, vi (1 : Int32), vd sm1_1, ss, vi ((ed0 + (1 : Int32)) + (1 : Int32))] [(.ref a), (.int ((ed0 + (1 : Int32)) + (1 : Int32)))]) := by
        intro tQ kk
        refine k1053 tQ ?_
        refine XS.daddS X1044.here hx rfl (hb hby d_prog_93_method_4_code_53) rfl (own_nn (FP.Core.dadd_int DS1_0 qf1_1 (Nat.le_trans BA1_1 (by decide)))) hsm1_1 ?_
        refine XS.dstore X1044.here hx rfl (hb hby d_prog_93_method_4_code_54) rfl (l' := #[vr a, vr vec, vr prod, vi (1 : Int32), vd sm1_1, ss, vi (ed0 + (1 : Int32))]) rfl ?_
        refine XS.iinc X1044.here hx rfl (hb hby d_prog_93_method_4_code_56) rfl (l' := #[vr a, vr vec, vr prod, vi (1 : Int32), vd sm1_1, ss, vi ((ed0 + (1 : Int32)) + (1 : Int32))]) rfl ?_
        refine XS.goto X1044.here hx rfl (pc0 := 59) (pc' := 21) rfl (hb hby d_prog_93_method_4_code_59) (by decide) (by decide) ?_
        show Steps p.tables e below (T1043.setTop (mkF m 21 #[vr a, vr vec, vr prod, vi (1 : Int32), vd sm1_1, ss, vi ((ed0 + (1 : Int32)) + (1 : Int32))] [])) tQ
        refine XS.iload X1044.here hx rfl (hb hby d_prog_93_method_4_code_21) rfl ?_
        refine XS.aloadN X1044.here hx rfl (hb hby d_prog_93_method_4_code_23) rfl rfl ?_
        exact kk
      clear k1053
      obtain ⟨T1055, X1056, e1057, st1058⟩ := getF X1044 hx hZ hown (host := "") (Or.inl (tw22 hw)) Via.refl e1045 F848 (g := (mkF m 24 #[vr a, vr vec, vr prod, vi (1 : Int32), vd sm1_1, ss, vi ((ed0 + (1 : Int32)) + (1 : Int32))] [(.ref a), (.int ((ed0 + (1 : Int32)) + (1 : Int32)))])) rfl rfl (hb hby d_prog_93_method_4_code_24)
      have k1059 : own_G p e below E0 T1055 (mkF m 27 #[vr a, vr vec, vr prod, vi (1 : Int32), vd sm1_1, ss, vi ((ed0 + (1 : Int32)) + (1 : Int32))] [(.ref ros), (.int ((ed0 + (1 : Int32)) + (1 : Int32)))]) := fun tQ kk => k1054 tQ (st1058 _ kk)
      clear k1054 st1058
      have k1060 : own_G p e below E0 T1055 (mkF m 30 #[vr a, vr vec, vr prod, vi (1 : Int32), vd sm1_1, ss, vi ((ed0 + (1 : Int32)) + (1 : Int32))] [(.int (2 : Int32)), (.ref ros), (.int ((ed0 + (1 : Int32)) + (1 : Int32)))]) := by
        intro tQ kk
        refine k1059 tQ ?_
        refine XS.iloadN X1056.here hx rfl (hb hby d_prog_93_method_4_code_27) rfl ?_
        refine XS.iconst X1056.here hx rfl (hb hby d_prog_93_method_4_code_28) ?_
        refine XS.iadd X1056.here hx rfl (hb hby d_prog_93_method_4_code_29) rfl ?_
        exact kk
      clear k1059
      have st1061 := fun tQ => own_A.ild X1056 hx hZ e1057 F851 (j := (2 : Int32)) (v := (.int ed1)) (by decide) rfl (g := (mkF m 30 #[vr a, vr vec, vr prod, vi (1 : Int32), vd sm1_1, ss, vi ((ed0 + (1 : Int32)) + (1 : Int32))] [(.int (2 : Int32)), (.ref ros), (.int ((ed0 + (1 : Int32)) + (1 : Int32)))])) rfl rfl (hb hby d_prog_93_method_4_code_30) tQ
      have k1062 : own_G p e below E0 T1055 (mkF m 31 #[vr a, vr vec, vr prod, vi (1 : Int32), vd sm1_1, ss, vi ((ed0 + (1 : Int32)) + (1 : Int32))] [(.int ed1), (.int ((ed0 + (1 : Int32)) + (1 : Int32)))]) := fun tQ kk => k1060 tQ (st1061 _ kk)
      clear k1060 st1061
      obtain ⟨ec1_2, ew1_2, ex1_2, qa1_2, qb1_2, qc1_2, qd1_2, qe1_2, qf1_2, qg1_2⟩ := en1_2
      have k1063 : own_G p e below E0 T1055 (mkF m 37 #[vr a, vr vec, vr prod, vi (1 : Int32), vd sm1_1, ss, vi ((ed0 + (1 : Int32)) + (1 : Int32))] [(.ref a), (.double sm1_1)]) := by
        intro tQ kk
        refine k1062 tQ ?_
        refine XS.icmpNo X1056.here hx rfl (hb hby d_prog_93_method_4_code_31) rfl (own_ic_geN bb1_2) ?_
        refine XS.dload X1056.here hx rfl (hb hby d_prog_93_method_4_code_34) rfl ?_
        refine XS.aloadN X1056.here hx rfl (hb hby d_prog_93_method_4_code_36) rfl rfl ?_
        exact kk
      clear k1062
      obtain ⟨T1064, X1065, e1066, st1067⟩ := getF X1056 hx hZ hown (host := "") (Or.inl (tw26 hw)) Via.refl e1057 F850 (g := (mkF m 37 #[vr a, vr vec, vr prod, vi (1 : Int32), vd sm1_1, ss, vi ((ed0 + (1 : Int32)) + (1 : Int32))] [(.ref a), (.double sm1_1)])) rfl rfl (hb hby d_prog_93_method_4_code_37)
      have k1068 : own_G p e below E0 T1064 (mkF m 40 #[vr a, vr vec, vr prod, vi (1 : Int32), vd sm1_1, ss, vi ((ed0 + (1 : Int32)) + (1 : Int32))] [(.ref vas), (.double sm1_1)]) := fun tQ kk => k1063 tQ (st1067 _ kk)
      clear k1063 st1067
      have k1069 : own_G p e below E0 T1064 (mkF m 42 #[vr a, vr vec, vr prod, vi (1 : Int32), vd sm1_1, ss, vi ((ed0 + (1 : Int32)) + (1 : Int32))] [(.int ((ed0 + (1 : Int32)) + (1 : Int32))), (.ref vas), (.double sm1_1)]) := by
        intro tQ kk
        refine k1068 tQ ?_
        refine XS.iload X1065.here hx rfl (hb hby d_prog_93_method_4_code_40) rfl ?_
        exact kk
      clear k1068
      have st1070 := fun tQ => own_A.dld X1065 hx hZ e1066 F853 (j := ((ed0 + (1 : Int32)) + (1 : Int32))) (v := (.double ew1_2)) qa1_2 qc1_2 (g := (mkF m 42 #[vr a, vr vec, vr prod, vi (1 : Int32), vd sm1_1, ss, vi ((ed0 + (1 : Int32)) + (1 : Int32))] [(.int ((ed0 + (1 : Int32)) + (1 : Int32))), (.ref vas), (.double sm1_1)])) rfl rfl (hb hby d_prog_93_method_4_code_42) tQ
      have k1071 : own_G p e below E0 T1064 (mkF m 43 #[vr a, vr vec, vr prod, vi (1 : Int32), vd sm1_1, ss, vi ((ed0 + (1 : Int32)) + (1 : Int32))] [(.double ew1_2), (.double sm1_1)]) := fun tQ kk => k1069 tQ (st1070 _ kk)
      clear k1069 st1070
      have k1072 : own_G p e below E0 T1064 (mkF m 45 #[vr a, vr vec, vr prod, vi (1 : Int32), vd sm1_1, ss, vi ((ed0 + (1 : Int32)) + (1 : Int32))] [(.ref a), (.ref vec), (.double ew1_2), (.double sm1_1)]) := by
        intro tQ kk
        refine k1071 tQ ?_
        refine XS.aloadN X1065.here hx rfl (hb hby d_prog_93_method_4_code_43) rfl rfl ?_
        refine XS.aloadN X1065.here hx rfl (hb hby d_prog_93_method_4_code_44) rfl rfl ?_
        exact kk
      clear k1071
      obtain ⟨T1073, X1074, e1075, st1076⟩ := getF X1065 hx hZ hown (host := "") (Or.inl (tw24 hw)) Via.refl e1066 F849 (g := (mkF m 45 #[vr a, vr vec, vr prod, vi (1 : Int32), vd sm1_1, ss, vi ((ed0 + (1 : Int32)) + (1 : Int32))] [(.ref a), (.ref vec), (.double ew1_2), (.double sm1_1)])) rfl rfl (hb hby d_prog_93_method_4_code_45)
      have k1077 : own_G p e below E0 T1073 (mkF m 48 #[vr a, vr vec, vr prod, vi (1 : Int32), vd sm1_1, ss, vi ((ed0 + (1 : Int32)) + (1 : Int32))] [(.ref cos), (.ref vec), (.double ew1_2), (.double sm1_1)]) := fun tQ kk => k1072 tQ (st1076 _ kk)
      clear k1072 st1076
      have k1078 : own_G p e below E0 T1073 (mkF m 50 #[vr a, vr vec, vr prod, vi (1 : Int32), vd sm1_1, ss, vi ((ed0 + (1 : Int32)) + (1 : Int32))] [(.int ((ed0 + (1 : Int32)) + (1 : Int32))), (.ref cos), (.ref vec), (.double ew1_2), (.double sm1_1)]) := by
        intro tQ kk
        refine k1077 tQ ?_
        refine XS.iload X1074.here hx rfl (hb hby d_prog_93_method_4_code_48) rfl ?_
        exact kk
      clear k1077
      have st1079 := fun tQ => own_A.ild X1074 hx hZ e1075 F852 (j := ((ed0 + (1 : Int32)) + (1 : Int32))) (v := (.int ec1_2)) qa1_2 qb1_2 (g := (mkF m 50 #[vr a, vr vec, vr prod, vi (1 : Int32), vd sm1_1, ss, vi ((ed0 + (1 : Int32)) + (1 : Int32))] [(.int ((ed0 + (1 : Int32)) + (1 : Int32))), (.ref cos), (.ref vec), (.double ew1_2), (.double sm1_1)])) rfl rfl (hb hby d_prog_93_method_4_code_50) tQ
      have k1080 : own_G p e below E0 T1073 (mkF m 51 #[vr a, vr vec, vr prod, vi (1 : Int32), vd sm1_1, ss, vi ((ed0 + (1 : Int32)) + (1 : Int32))] [(.int ec1_2), (.ref vec), (.double ew1_2), (.double sm1_1)]) := fun tQ kk => k1078 tQ (st1079 _ kk)
      clear k1078 st1079
      have st1081 := fun tQ => own_A.dld X1074 hx hZ e1075 F854 (j := ec1_2) (v := (.double ex1_2)) qd1_2 qe1_2 (g := (mkF m 51 #[vr a, vr vec, vr prod, vi (1 : Int32), vd sm1_1, ss, vi ((ed0 + (1 : Int32)) + (1 : Int32))] [(.int ec1_2), (.ref vec), (.double ew1_2), (.double sm1_1)])) rfl rfl (hb hby d_prog_93_method_4_code_51) tQ
      have k1082 : own_G p e below E0 T1073 (mkF m 52 #[vr a, vr vec, vr prod, vi (1 : Int32), vd sm1_1, ss, vi ((ed0 + (1 : Int32)) + (1 : Int32))] [(.double ex1_2), (.double ew1_2), (.double sm1_1)]) := fun tQ kk => k1080 tQ (st1081 _ kk)
      clear k1080 st1081
      have BA1_2 := own_acc BA1_1 qg1_2
      have k1083 : own_G p e below E0 T1073 (mkF m 53 #[vr a, vr vec, vr prod, vi (1 : Int32), vd sm1_1, ss, vi ((ed0 + (1 : Int32)) + (1 : Int32))] [(.double (FP.dmul ew1_2 ex1_2)), (.double sm1_1)]) := by
        intro tQ kk
        refine k1082 tQ ?_
        refine XS.dmulS X1074.here hx rfl (hb hby d_prog_93_method_4_code_52) rfl (own_nn qf1_2) rfl ?_
        exact kk
      clear k1082
      obtain ⟨sm1_2, hsm1_2⟩ : ∃ vA, FP.dadd sm1_1 (FP.dmul ew1_2 ex1_2) = vA := ⟨_, rfl⟩
      have DS1_2 : FP.Core.DInt ((((0 + u1_0) + u1_1) + u1_2)) sm1_2 := hsm1_2 ▸ FP.Core.dadd_int DS1_1 qf1_2 (Nat.le_trans BA1_2 (by decide))
      have k1084 : own_G p e below E0 T1073 (mkF m 24 #[vr a, vr vec, vr prod, vi (1 : Int32), vd sm1_2, ss, vi (((ed0 + (1 : Int32)) + (1 : Int32)) + (1 : Int32))] [(.ref a), (.int (((ed0 + (1 : Int32)) + (1 : Int32)) + (1 : Int32)))]) := by
        intro tQ kk
        refine k1083 tQ ?_
        refine XS.daddS X1074.here hx rfl (hb hby d_prog_93_method_4_code_53) rfl (own_nn (FP.Core.dadd_int DS1_1 qf1_2 (Nat.le_trans BA1_2 (by decide)))) hsm1_2 ?_
        refine XS.dstore X1074.here hx rfl (hb hby d_prog_93_method_4_code_54) rfl (l' := #[vr a, vr vec, vr prod, vi (1 : Int32), vd sm1_2, ss, vi ((ed0 + (1 : Int32)) + (1 : Int32))]) rfl ?_
        refine XS.iinc X1074.here hx rfl (hb hby d_prog_93_method_4_code_56) rfl (l' := #[vr a, vr vec, vr prod, vi (1 : Int32), vd sm1_2, ss, vi (((ed0 + (1 : Int32)) + (1 : Int32)) + (1 : Int32))]) rfl ?_
        refine XS.goto X1074.here hx rfl (pc0 := 59) (pc' := 21) rfl (hb hby d_prog_93_method_4_code_59) (by decide) (by decide) ?_
        show Steps p.tables e below (T1073.setTop (mkF m 21 #[vr a, vr vec, vr prod, vi (1 : Int32), vd sm1_2, ss, vi (((ed0 + (1 : Int32)) + (1 : Int32)) + (1 : Int32))] [])) tQ
        refine XS.iload X1074.here hx rfl (hb hby d_prog_93_method_4_code_21) rfl ?_
        refine XS.aloadN X1074.here hx rfl (hb hby d_prog_93_method_4_code_23) rfl rfl ?_
        exact kk
      clear k1083
      obtain ⟨T1085, X1086, e1087, st1088⟩ := getF X1074 hx hZ hown (host := "") (Or.inl (tw22 hw)) Via.refl e1075 F848 (g := (mkF m 24 #[vr a, vr vec, vr prod, vi (1 : Int32), vd sm1_2, ss, vi (((ed0 + (1 : Int32)) + (1 : Int32)) + (1 : Int32))] [(.ref a), (.int (((ed0 + (1 : Int32)) + (1 : Int32)) + (1 : Int32)))])) rfl rfl (hb hby d_prog_93_method_4_code_24)
      have k1089 : own_G p e below E0 T1085 (mkF m 27 #[vr a, vr vec, vr prod, vi (1 : Int32), vd sm1_2, ss, vi (((ed0 + (1 : Int32)) + (1 : Int32)) + (1 : Int32))] [(.ref ros), (.int (((ed0 + (1 : Int32)) + (1 : Int32)) + (1 : Int32)))]) := fun tQ kk => k1084 tQ (st1088 _ kk)
      clear k1084 st1088
      have k1090 : own_G p e below E0 T1085 (mkF m 30 #[vr a, vr vec, vr prod, vi (1 : Int32), vd sm1_2, ss, vi (((ed0 + (1 : Int32)) + (1 : Int32)) + (1 : Int32))] [(.int (2 : Int32)), (.ref ros), (.int (((ed0 + (1 : Int32)) + (1 : Int32)) + (1 : Int32)))]) := by
        intro tQ kk
        refine k1089 tQ ?_
        refine XS.iloadN X1086.here hx rfl (hb hby d_prog_93_method_4_code_27) rfl ?_
        refine XS.iconst X1086.here hx rfl (hb hby d_prog_93_method_4_code_28) ?_
        refine XS.iadd X1086.here hx rfl (hb hby d_prog_93_method_4_code_29) rfl ?_
        exact kk
      clear k1089
      have st1091 := fun tQ => own_A.ild X1086 hx hZ e1087 F851 (j := (2 : Int32)) (v := (.int ed1)) (by decide) rfl (g := (mkF m 30 #[vr a, vr vec, vr prod, vi (1 : Int32), vd sm1_2, ss, vi (((ed0 + (1 : Int32)) + (1 : Int32)) + (1 : Int32))] [(.int (2 : Int32)), (.ref ros), (.int (((ed0 + (1 : Int32)) + (1 : Int32)) + (1 : Int32)))])) rfl rfl (hb hby d_prog_93_method_4_code_30) tQ
      have k1092 : own_G p e below E0 T1085 (mkF m 31 #[vr a, vr vec, vr prod, vi (1 : Int32), vd sm1_2, ss, vi (((ed0 + (1 : Int32)) + (1 : Int32)) + (1 : Int32))] [(.int ed1), (.int (((ed0 + (1 : Int32)) + (1 : Int32)) + (1 : Int32)))]) := fun tQ kk => k1090 tQ (st1091 _ kk)
      clear k1090 st1091
      have k1093 : own_G p e below E0 T1085 (mkF m 62 #[vr a, vr vec, vr prod, vi (1 : Int32), vd sm1_2, ss, vi (((ed0 + (1 : Int32)) + (1 : Int32)) + (1 : Int32))] []) := by
        intro tQ kk
        refine k1092 tQ ?_
        refine XS.icmpYes X1086.here hx rfl (pc0 := 31) (pc' := 62) rfl (hb hby d_prog_93_method_4_code_31) rfl (own_ic_geY bb1_3) (by decide) (by decide) ?_
        exact kk
      clear k1092
      exact ⟨T1085, sm1_2, (((ed0 + (1 : Int32)) + (1 : Int32)) + (1 : Int32)), ((by rw [hr1]; exact DS1_2)), X1086, e1087, k1093⟩
  obtain ⟨T1095, sR1, j1094, hD1100, X1096, e1097, k1098⟩ := jn1099
  have k1101 : own_G p e below E0 T1095 (mkF m 66 #[vr a, vr vec, vr prod, vi (1 : Int32), vd sR1, ss, vi j1094] [(.double sR1), (.int (1 : Int32)), (.ref prod)]) := by
    intro tQ kk
    refine k1098 tQ ?_
    refine XS.aloadN X1096.here hx rfl (hb hby d_prog_93_method_4_code_62) rfl rfl ?_
    refine XS.iloadN X1096.here hx rfl (hb hby d_prog_93_method_4_code_63) rfl ?_
    refine XS.dload X1096.here hx rfl (hb hby d_prog_93_method_4_code_64) rfl ?_
    exact kk
  clear k1098
  obtain ⟨T1102, h1103, X1104, e1105, W1106, F1107, st1108⟩ := own_A.dst X1096 hx hZ e1097 F857 (j := (1 : Int32)) (by decide) rfl (g := (mkF m 66 #[vr a, vr vec, vr prod, vi (1 : Int32), vd sR1, ss, vi j1094] [(.double sR1), (.int (1 : Int32)), (.ref prod)])) rfl rfl (hb hby d_prog_93_method_4_code_66)
  have N1109 := Fr.snoc X1104 N844 ge_prod
  have k1110 : own_G p e below E0 T1102 (mkF m 67 #[vr a, vr vec, vr prod, vi (1 : Int32), vd sR1, ss, vi j1094] []) := fun tQ kk => k1101 tQ (st1108 _ kk)
  clear k1101 st1108
  have F1111 : fd3 Z h1103 a (.int (2 : Int32)) := F846.other W1106 (Or.inl (fun q => ne0 q.symm))
  clear F846
  have F1112 : fd4 Z h1103 a (.int (3 : Int32)) := F847.other W1106 (Or.inl (fun q => ne0 q.symm))
  clear F847
  have F1113 : fd5 Z h1103 a (.ref ros) := F848.other W1106 (Or.inl (fun q => ne0 q.symm))
  clear F848
  have F1114 : fd6 Z h1103 a (.ref cos) := F849.other W1106 (Or.inl (fun q => ne0 q.symm))
  clear F849
  have F1115 : fd7 Z h1103 a (.ref vas) := F850.other W1106 (Or.inl (fun q => ne0 q.symm))
  clear F850
  have F1116 : own_A Z h1103 ros .int [(.int bg0), (.int ed0), (.int ed1)] := F851.other W1106 (fun q => ne1 q.symm)
  clear F851
  have F1117 : own_A Z h1103 cos .int LC := F852.other W1106 (fun q => ne2 q.symm)
  clear F852
  have F1118 : own_A Z h1103 vas .double LW := F853.other W1106 (fun q => ne3 q.symm)
  clear F853
  have F1119 : own_A Z h1103 vec .double [(.double x0), (.double x1), (.double x2)] := F854.other W1106 (fun q => ne4 q.symm)
  clear F854
  have Z1120 : n0 ≤ h1103.size := by rw [W1106.size]; exact Z855
  clear Z855
  have K1121 : Keep h0 h1103 [prod] := K856.wr W1106 (Or.inl (List.mem_of_getElem? (i := 0) rfl))
  clear K856
  have F1122 : own_A Z h1103 prod .double [(.double sR0), (.double sR1)] := F1107
  have k1123 : own_G p e below E0 T1102 (mkF m 4 #[vr a, vr vec, vr prod, vi (2 : Int32), vd sR1, ss, vi j1094] [(.ref a), (.int (2 : Int32))]) := by
    intro tQ kk
    refine k1110 tQ ?_
    refine XS.iinc X1104.here hx rfl (hb hby d_prog_93_method_4_code_67) rfl (l' := #[vr a, vr vec, vr prod, vi (2 : Int32), vd sR1, ss, vi j1094]) rfl ?_
    refine XS.goto X1104.here hx rfl (pc0 := 70) (pc' := 2) rfl (hb hby d_prog_93_method_4_code_70) (by decide) (by decide) ?_
    refine XS.iloadN X1104.here hx rfl (hb hby d_prog_93_method_4_code_2) rfl ?_
    refine XS.aloadN X1104.here hx rfl (hb hby d_prog_93_method_4_code_3) rfl rfl ?_
    exact kk
  clear k1110
  obtain ⟨T1124, X1125, e1126, st1127⟩ := getF X1104 hx hZ hown (host := "") (Or.inl (tw18 hw)) Via.refl e1105 F1111 (g := (mkF m 4 #[vr a, vr vec, vr prod, vi (2 : Int32), vd sR1, ss, vi j1094] [(.ref a), (.int (2 : Int32))])) rfl rfl (hb hby d_prog_93_method_4_code_4)
  have k1128 : own_G p e below E0 T1124 (mkF m 7 #[vr a, vr vec, vr prod, vi (2 : Int32), vd sR1, ss, vi j1094] [(.int (2 : Int32)), (.int (2 : Int32))]) := fun tQ kk => k1123 tQ (st1127 _ kk)
  clear k1123 st1127
  have k1129 : own_G p e below E0 T1124 (mkF m 73 #[vr a, vr vec, vr prod, vi (2 : Int32), vd sR1, ss, vi j1094] []) := by
    intro tQ kk
    refine k1128 tQ ?_
    refine XS.icmpYes X1125.here hx rfl (pc0 := 7) (pc' := 73) rfl (hb hby d_prog_93_method_4_code_7) rfl (own_ic_geY (by decide)) (by decide) (by decide) ?_
    exact kk
  clear k1128
  obtain ⟨fs, hr, hrun, hended, hW, hsame⟩ := X1125.leave (v := none) (fun _ => rfl)
  have hrun0 := k1129 _ (X1125.returnOut hx Bd.returns (hb hby d_prog_93_method_4_code_73) hr)
  subst hE0
  refine ⟨_, _, hrun0, hrun, hended, _, _, rfl, ?_, ⟨_, rfl⟩, hW, hsame.mono (by decide) (by decide)⟩
  show QrmM2 Z a vec prod ros cos vas LC LW x0 x1 x2 bg0 ed0 ed1 r0 r1 pr0 pr1 h0 n0 _ T1124.heap _
  rw [e1126]
  exact ⟨sR0, sR1, rfl, N1109, K1121, F1122, hD835, hD1100⟩
def Qrm0 (Z : State) (p0 : Int32) (p1 : Int64) (p2 : Int64) (p3 : Int32) (p4 : Int32) (p5 : Int32) (h0 : Heap) (n0 : Nat) (vQ : Option Value) (hQ : Heap) (LQ : List Loc) : Prop := vQ = some (.int (1 : Int32)) ∧ Fr n0 LQ
theorem ef_rm0 (m : MethodId) (p0 : Int32) (p1 : Int64) (p2 : Int64) (p3 : Int32) (p4 : Int32) (p5 : Int32) : entryFrame m #[(.int p0), (.long p1), (.long p2), (.int p3), (.int p4), (.int p5)] maxLocals = mkF m 0 #[vi p0, vj p1, ss, vj p2, ss, vi p3, vi p4, vi p5, uu, uu, uu, uu, uu, uu, uu, uu, uu, uu, uu, uu, uu, uu, uu, uu, uu, uu, uu, uu, uu, uu, uu, uu, uu, uu, uu, uu, uu] [] := by first | (simp [entryFrame, mkF, argsToLocals, Value.category, maxLocals]; done) | rfl
def tw0 {Z : State} {a0 : Array Value} (hw : ∀ d ∈ tables_1, d.before a0 Z = true) := hw _ (List.mem_of_getElem? (i := 0) rfl)
def tw3 {Z : State} {a0 : Array Value} (hw : ∀ d ∈ tables_1, d.before a0 Z = true) := hw _ (List.mem_of_getElem? (i := 3) rfl)
def tw2 {Z : State} {a0 : Array Value} (hw : ∀ d ∈ tables_1, d.before a0 Z = true) := hw _ (List.mem_of_getElem? (i := 2) rfl)
theorem pd_11 : parseMethodDescriptor "(JI)I" = some ⟨[.long, .int], some .int⟩ := by decide +kernel
def tw1 {Z : State} {a0 : Array Value} (hw : ∀ d ∈ tables_1, d.before a0 Z = true) := hw _ (List.mem_of_getElem? (i := 1) rfl)
def tw4 {Z : State} {a0 : Array Value} (hw : ∀ d ∈ tables_1, d.before a0 Z = true) := hw _ (List.mem_of_getElem? (i := 4) rfl)
def tw5 {Z : State} {a0 : Array Value} (hw : ∀ d ∈ tables_1, d.before a0 Z = true) := hw _ (List.mem_of_getElem? (i := 5) rfl)
def tw6 {Z : State} {a0 : Array Value} (hw : ∀ d ∈ tables_1, d.before a0 Z = true) := hw _ (List.mem_of_getElem? (i := 6) rfl)
def tw8 {Z : State} {a0 : Array Value} (hw : ∀ d ∈ tables_1, d.before a0 Z = true) := hw _ (List.mem_of_getElem? (i := 8) rfl)
theorem pd_12 : parseMethodDescriptor "([I[DIZII)I" = some ⟨[(.array .int), (.array .double), .int, .boolean, .int, .int], some .int⟩ := by decide +kernel
def tw7 {Z : State} {a0 : Array Value} (hw : ∀ d ∈ tables_1, d.before a0 Z = true) := hw _ (List.mem_of_getElem? (i := 7) rfl)
def tw9 {Z : State} {a0 : Array Value} (hw : ∀ d ∈ tables_1, d.before a0 Z = true) := hw _ (List.mem_of_getElem? (i := 9) rfl)
def tw11 {Z : State} {a0 : Array Value} (hw : ∀ d ∈ tables_1, d.before a0 Z = true) := hw _ (List.mem_of_getElem? (i := 11) rfl)
def tw12 {Z : State} {a0 : Array Value} (hw : ∀ d ∈ tables_1, d.before a0 Z = true) := hw _ (List.mem_of_getElem? (i := 12) rfl)
def tw14 {Z : State} {a0 : Array Value} (hw : ∀ d ∈ tables_1, d.before a0 Z = true) := hw _ (List.mem_of_getElem? (i := 14) rfl)
theorem pd_13 : parseMethodDescriptor "(II[I[I[D)V" = some ⟨[.int, .int, (.array .int), (.array .int), (.array .double)], none⟩ := by decide +kernel
def tw13 {Z : State} {a0 : Array Value} (hw : ∀ d ∈ tables_1, d.before a0 Z = true) := hw _ (List.mem_of_getElem? (i := 13) rfl)
def tw28 {Z : State} {a0 : Array Value} (hw : ∀ d ∈ tables_1, d.before a0 Z = true) := hw _ (List.mem_of_getElem? (i := 28) rfl)
def tw31 {Z : State} {a0 : Array Value} (hw : ∀ d ∈ tables_1, d.before a0 Z = true) := hw _ (List.mem_of_getElem? (i := 31) rfl)
def tw32 {Z : State} {a0 : Array Value} (hw : ∀ d ∈ tables_1, d.before a0 Z = true) := hw _ (List.mem_of_getElem? (i := 32) rfl)
theorem pd_14 : parseMethodDescriptor "([D[D)V" = some ⟨[(.array .double), (.array .double)], none⟩ := by decide +kernel
def tw29 {Z : State} {a0 : Array Value} (hw : ∀ d ∈ tables_1, d.before a0 Z = true) := hw _ (List.mem_of_getElem? (i := 29) rfl)
def tw30 {Z : State} {a0 : Array Value} (hw : ∀ d ∈ tables_1, d.before a0 Z = true) := hw _ (List.mem_of_getElem? (i := 30) rfl)
def tw33 {Z : State} {a0 : Array Value} (hw : ∀ d ∈ tables_1, d.before a0 Z = true) := hw _ (List.mem_of_getElem? (i := 33) rfl)
def tw35 {Z : State} {a0 : Array Value} (hw : ∀ d ∈ tables_1, d.before a0 Z = true) := hw _ (List.mem_of_getElem? (i := 35) rfl)
theorem pd_15 : parseMethodDescriptor "(ZII)J" = some ⟨[.boolean, .int, .int], some .long⟩ := by decide +kernel
def tw34 {Z : State} {a0 : Array Value} (hw : ∀ d ∈ tables_1, d.before a0 Z = true) := hw _ (List.mem_of_getElem? (i := 34) rfl)
set_option maxRecDepth 65536 in
set_option maxHeartbeats 40000000 in
theorem rm0 (l : Launch) (Z : State) (a0 : Array Value) (hw : ∀ d ∈ tables_1, d.before a0 Z = true) (ws : List Jvm.Cond) (p0 : Int32) (p1 : Int64) (p2 : Int64) (p3 : Int32) (p4 : Int32) (p5 : Int32) (h0 : Heap) (n0 : Nat) (Z0 : n0 ≤ h0.size)  :
    MetFree l x (head1 (Jvm.Cond.code x code maxLocals ret :: ws) room_1) (fun aA U => aA = #[(.int p0), (.long p1), (.long p2), (.int p3), (.int p4), (.int p5)] ∧ Z.Warmed39 U.vm ∧ U.heap = h0) (fun _ _ _ _ _ => True) (fun _ U o U' => ∃ vR LR, o = .returned vR ∧ Qrm0 Z p0 p1 p2 p3 p4 p5 h0 n0 vR U'.heap LR ∧ FrameEnd U o U' LR 24 128) := by
  refine MetFree.of_bodySF (plainFor_of_name pn_com_example_velvet_postings_velvetpostings_search_SparseMatrixMultiplyPinLaw) hisR ?_
  intro p e s m args below meth c s₁ Bd hml0 hPre hKk
  obtain ⟨rfl, hZ, hh⟩ := hPre
  have hx := Bd.exec
  have hby := Bd.bytes
  skip
  have hml : c.maxLocals = 37 := hml0
  have hown : s.vm.findClass "com/example/velvet_postings/velvetpostings/search/SparseMatrixMultiplyPinLaw" = some m.cls := findClass_of_methodNamed Bd.named
  have hnm := (name_of_methodNamed Bd.named Bd.method).1
  have X0 : Stand p l e room_1 s m #[(.int p0), (.long p1), (.long p2), (.int p3), (.int p4), (.int p5)] below meth c s₁ [] 0 0 := Stand.of_body Bd
  have e0 : s₁.heap = h0 := by rw [← hh, Bd.state]; rfl
  have N0 := Fr.nil n0
  obtain ⟨E0, hE0⟩ : ∃ zE : State, zE = s₁.setTop (entryFrame m #[(.int p0), (.long p1), (.long p2), (.int p3), (.int p4), (.int p5)] maxLocals) := ⟨_, rfl⟩
  have k0 : own_G p e below E0 s₁ (mkF m 0 #[vi p0, vj p1, ss, vj p2, ss, vi p3, vi p4, vi p5, uu, uu, uu, uu, uu, uu, uu, uu, uu, uu, uu, uu, uu, uu, uu, uu, uu, uu, uu, uu, uu, uu, uu, uu, uu, uu, uu, uu, uu] []) := fun tz kz => hE0 ▸ castTop (ef_rm0 m p0 p1 p2 p3 p4 p5) kz
  have k1130 : own_G p e below E0 s₁ (mkF m 8 #[vi p0, vj p1, ss, vj p2, ss, vi p3, vi p4, vi p5, uu, uu, uu, uu, uu, uu, uu, uu, uu, uu, uu, uu, uu, uu, uu, uu, uu, uu, uu, uu, uu, uu, uu, uu, uu, uu, uu, uu, uu] [(.int (((XT.ushr p0 (6 : Int32)) &&& (3 : Int32)) % (3 : Int32)))]) := by
    intro tQ kk
    refine k0 tQ ?_
    refine XS.iloadN X0.here hx rfl (hb hby at_0) rfl ?_
    refine XS.bipush X0.here hx rfl (hb hby at_1) ?_
    refine XT.iushr X0.here hx rfl (hb hby at_3) rfl ?_
    refine XS.iconst X0.here hx rfl (hb hby at_4) ?_
    show Steps p.tables e below (s₁.setTop (mkF m 5 #[vi p0, vj p1, ss, vj p2, ss, vi p3, vi p4, vi p5, uu, uu, uu, uu, uu, uu, uu, uu, uu, uu, uu, uu, uu, uu, uu, uu, uu, uu, uu, uu, uu, uu, uu, uu, uu, uu, uu, uu, uu] [(.int (3 : Int32)), (.int (XT.ushr p0 (6 : Int32)))])) tQ
    refine XS.iand X0.here hx rfl (hb hby at_5) rfl ?_
    refine XS.iconst X0.here hx rfl (hb hby at_6) ?_
    refine iremM X0 hx rfl (hb hby at_7) rfl (by decide) ?_
    exact kk
  clear k0
  obtain ⟨N, hN⟩ : ∃ vA, vA = (((XT.ushr p0 (6 : Int32)) &&& (3 : Int32)) % (3 : Int32)) := ⟨_, rfl⟩
  have k1131 : own_G p e below E0 s₁ (mkF m 8 #[vi p0, vj p1, ss, vj p2, ss, vi p3, vi p4, vi p5, uu, uu, uu, uu, uu, uu, uu, uu, uu, uu, uu, uu, uu, uu, uu, uu, uu, uu, uu, uu, uu, uu, uu, uu, uu, uu, uu, uu, uu] [(.int N)]) := by rw [hN]; exact k1130
  rcases (own_rc p0 hN) with rfl | rfl | rfl
  · skip
    have k1132 : own_G p e below E0 s₁ (mkF m 20 #[vi p0, vj p1, ss, vj p2, ss, vi p3, vi p4, vi p5, vi (0 : Int32), vd (FP.i2d (p0 >>> ((8 : Int32) &&& 31))), ss, uu, uu, uu, uu, uu, uu, uu, uu, uu, uu, uu, uu, uu, uu, uu, uu, uu, uu, uu, uu, uu, uu, uu, uu, uu, uu] [(.int (p0 &&& (1 : Int32)))]) := by
      intro tQ kk
      refine k1131 tQ ?_
      refine XS.istore X0.here hx rfl (hb hby at_8) rfl (l' := #[vi p0, vj p1, ss, vj p2, ss, vi p3, vi p4, vi p5, vi (0 : Int32), uu, uu, uu, uu, uu, uu, uu, uu, uu, uu, uu, uu, uu, uu, uu, uu, uu, uu, uu, uu, uu, uu, uu, uu, uu, uu, uu, uu]) rfl ?_
      refine XS.iloadN X0.here hx rfl (hb hby at_10) rfl ?_
      refine XS.bipush X0.here hx rfl (hb hby at_11) ?_
      refine XT.ishr X0.here hx rfl (hb hby at_13) rfl ?_
      show Steps p.tables e below (s₁.setTop (mkF m 14 #[vi p0, vj p1, ss, vj p2, ss, vi p3, vi p4, vi p5, vi (0 : Int32), uu, uu, uu, uu, uu, uu, uu, uu, uu, uu, uu, uu, uu, uu, uu, uu, uu, uu, uu, uu, uu, uu, uu, uu, uu, uu, uu, uu] [(.int (p0 >>> ((8 : Int32) &&& 31)))])) tQ
      refine XS.i2dS X0.here hx rfl (hb hby at_14) rfl rfl ?_
      refine XS.dstore X0.here hx rfl (hb hby at_15) rfl (l' := #[vi p0, vj p1, ss, vj p2, ss, vi p3, vi p4, vi p5, vi (0 : Int32), vd (FP.i2d (p0 >>> ((8 : Int32) &&& 31))), ss, uu, uu, uu, uu, uu, uu, uu, uu, uu, uu, uu, uu, uu, uu, uu, uu, uu, uu, uu, uu, uu, uu, uu, uu, uu, uu]) rfl ?_
      refine XS.iloadN X0.here hx rfl (hb hby at_17) rfl ?_
      refine XS.iconst X0.here hx rfl (hb hby at_18) ?_
      show Steps p.tables e below (s₁.setTop (mkF m 19 #[vi p0, vj p1, ss, vj p2, ss, vi p3, vi p4, vi p5, vi (0 : Int32), vd (FP.i2d (p0 >>> ((8 : Int32) &&& 31))), ss, uu, uu, uu, uu, uu, uu, uu, uu, uu, uu, uu, uu, uu, uu, uu, uu, uu, uu, uu, uu, uu, uu, uu, uu, uu, uu] [(.int (1 : Int32)), (.int p0)])) tQ
      refine XS.iand X0.here hx rfl (hb hby at_19) rfl ?_
      exact kk
    clear k1131
    have jn1137 : ∃ (f0 : Int32), (own_f01 f0) ∧ (own_G p e below E0 s₁ (mkF m 28 #[vi p0, vj p1, ss, vj p2, ss, vi p3, vi p4, vi p5, vi (0 : Int32), vd (FP.i2d (p0 >>> ((8 : Int32) &&& 31))), ss, uu, uu, uu, uu, uu, uu, uu, uu, uu, uu, uu, uu, uu, uu, uu, uu, uu, uu, uu, uu, uu, uu, uu, uu, uu, uu] [(.int f0)])) := by
      by_cases c1133 : (p0 &&& (1 : Int32)) = 0
      · skip
        have k1134 : own_G p e below E0 s₁ (mkF m 28 #[vi p0, vj p1, ss, vj p2, ss, vi p3, vi p4, vi p5, vi (0 : Int32), vd (FP.i2d (p0 >>> ((8 : Int32) &&& 31))), ss, uu, uu, uu, uu, uu, uu, uu, uu, uu, uu, uu, uu, uu, uu, uu, uu, uu, uu, uu, uu, uu, uu, uu, uu, uu, uu] [(.int (0 : Int32))]) := by
          intro tQ kk
          refine k1132 tQ ?_
          refine XS.ifYes X0.here hx rfl (pc0 := 20) (pc' := 27) rfl (hb hby at_20) rfl (own_if_eqY c1133) (by decide) (by decide) ?_
          refine XS.iconst X0.here hx rfl (hb hby at_27) ?_
          exact kk
        clear k1132
        exact ⟨(0 : Int32), ((Or.inl rfl)), k1134⟩
      · skip
        have k1135 : own_G p e below E0 s₁ (mkF m 28 #[vi p0, vj p1, ss, vj p2, ss, vi p3, vi p4, vi p5, vi (0 : Int32), vd (FP.i2d (p0 >>> ((8 : Int32) &&& 31))), ss, uu, uu, uu, uu, uu, uu, uu, uu, uu, uu, uu, uu, uu, uu, uu, uu, uu, uu, uu, uu, uu, uu, uu, uu, uu, uu] [(.int (1 : Int32))]) := by
          intro tQ kk
          refine k1132 tQ ?_
          refine XS.ifNo X0.here hx rfl (hb hby at_20) rfl (own_if_eqN c1133) ?_
          refine XS.iconst X0.here hx rfl (hb hby at_23) ?_
          refine XS.goto X0.here hx rfl (pc0 := 24) (pc' := 28) rfl (hb hby at_24) (by decide) (by decide) ?_
          exact kk
        clear k1132
        exact ⟨(1 : Int32), ((Or.inr rfl)), k1135⟩
    obtain ⟨f0, hD1138, k1136⟩ := jn1137
    have hf0 := hD1138
    have k1139 : own_G p e below E0 s₁ (mkF m 33 #[vi p0, vj p1, ss, vj p2, ss, vi p3, vi p4, vi p5, vi (0 : Int32), vd (FP.i2d (p0 >>> ((8 : Int32) &&& 31))), ss, vi f0, uu, uu, uu, uu, uu, uu, uu, uu, uu, uu, uu, uu, uu, uu, uu, uu, uu, uu, uu, uu, uu, uu, uu, uu, uu] [(.int (p0 &&& (2 : Int32)))]) := by
      intro tQ kk
      refine k1136 tQ ?_
      refine XS.istore X0.here hx rfl (hb hby at_28) rfl (l' := #[vi p0, vj p1, ss, vj p2, ss, vi p3, vi p4, vi p5, vi (0 : Int32), vd (FP.i2d (p0 >>> ((8 : Int32) &&& 31))), ss, vi f0, uu, uu, uu, uu, uu, uu, uu, uu, uu, uu, uu, uu, uu, uu, uu, uu, uu, uu, uu, uu, uu, uu, uu, uu, uu]) rfl ?_
      refine XS.iloadN X0.here hx rfl (hb hby at_30) rfl ?_
      refine XS.iconst X0.here hx rfl (hb hby at_31) ?_
      refine XS.iand X0.here hx rfl (hb hby at_32) rfl ?_
      exact kk
    clear k1136
    have jn1144 : ∃ (f1 : Int32), (own_f01 f1) ∧ (own_G p e below E0 s₁ (mkF m 41 #[vi p0, vj p1, ss, vj p2, ss, vi p3, vi p4, vi p5, vi (0 : Int32), vd (FP.i2d (p0 >>> ((8 : Int32) &&& 31))), ss, vi f0, uu, uu, uu, uu, uu, uu, uu, uu, uu, uu, uu, uu, uu, uu, uu, uu, uu, uu, uu, uu, uu, uu, uu, uu, uu] [(.int f1)])) := by
      by_cases c1140 : (p0 &&& (2 : Int32)) = 0
      · skip
        have k1141 : own_G p e below E0 s₁ (mkF m 41 #[vi p0, vj p1, ss, vj p2, ss, vi p3, vi p4, vi p5, vi (0 : Int32), vd (FP.i2d (p0 >>> ((8 : Int32) &&& 31))), ss, vi f0, uu, uu, uu, uu, uu, uu, uu, uu, uu, uu, uu, uu, uu, uu, uu, uu, uu, uu, uu, uu, uu, uu, uu, uu, uu] [(.int (0 : Int32))]) := by
          intro tQ kk
          refine k1139 tQ ?_
          refine XS.ifYes X0.here hx rfl (pc0 := 33) (pc' := 40) rfl (hb hby at_33) rfl (own_if_eqY c1140) (by decide) (by decide) ?_
          refine XS.iconst X0.here hx rfl (hb hby at_40) ?_
          exact kk
        clear k1139
        exact ⟨(0 : Int32), ((Or.inl rfl)), k1141⟩
      · skip
        have k1142 : own_G p e below E0 s₁ (mkF m 41 #[vi p0, vj p1, ss, vj p2, ss, vi p3, vi p4, vi p5, vi (0 : Int32), vd (FP.i2d (p0 >>> ((8 : Int32) &&& 31))), ss, vi f0, uu, uu, uu, uu, uu, uu, uu, uu, uu, uu, uu, uu, uu, uu, uu, uu, uu, uu, uu, uu, uu, uu, uu, uu, uu] [(.int (1 : Int32))]) := by
          intro tQ kk
          refine k1139 tQ ?_
          refine XS.ifNo X0.here hx rfl (hb hby at_33) rfl (own_if_eqN c1140) ?_
          refine XS.iconst X0.here hx rfl (hb hby at_36) ?_
          refine XS.goto X0.here hx rfl (pc0 := 37) (pc' := 41) rfl (hb hby at_37) (by decide) (by decide) ?_
          exact kk
        clear k1139
        exact ⟨(1 : Int32), ((Or.inr rfl)), k1142⟩
    obtain ⟨f1, hD1145, k1143⟩ := jn1144
    have hf1 := hD1145
    have k1146 : own_G p e below E0 s₁ (mkF m 46 #[vi p0, vj p1, ss, vj p2, ss, vi p3, vi p4, vi p5, vi (0 : Int32), vd (FP.i2d (p0 >>> ((8 : Int32) &&& 31))), ss, vi f0, vi f1, uu, uu, uu, uu, uu, uu, uu, uu, uu, uu, uu, uu, uu, uu, uu, uu, uu, uu, uu, uu, uu, uu, uu, uu] [(.int (p0 &&& (4 : Int32)))]) := by
      intro tQ kk
      refine k1143 tQ ?_
      refine XS.istore X0.here hx rfl (hb hby at_41) rfl (l' := #[vi p0, vj p1, ss, vj p2, ss, vi p3, vi p4, vi p5, vi (0 : Int32), vd (FP.i2d (p0 >>> ((8 : Int32) &&& 31))), ss, vi f0, vi f1, uu, uu, uu, uu, uu, uu, uu, uu, uu, uu, uu, uu, uu, uu, uu, uu, uu, uu, uu, uu, uu, uu, uu, uu]) rfl ?_
      refine XS.iloadN X0.here hx rfl (hb hby at_43) rfl ?_
      refine XS.iconst X0.here hx rfl (hb hby at_44) ?_
      refine XS.iand X0.here hx rfl (hb hby at_45) rfl ?_
      exact kk
    clear k1143
    have jn1151 : ∃ (f2 : Int32), (own_f01 f2) ∧ (own_G p e below E0 s₁ (mkF m 54 #[vi p0, vj p1, ss, vj p2, ss, vi p3, vi p4, vi p5, vi (0 : Int32), vd (FP.i2d (p0 >>> ((8 : Int32) &&& 31))), ss, vi f0, vi f1, uu, uu, uu, uu, uu, uu, uu, uu, uu, uu, uu, uu, uu, uu, uu, uu, uu, uu, uu, uu, uu, uu, uu, uu] [(.int f2)])) := by
      by_cases c1147 : (p0 &&& (4 : Int32)) = 0
      · skip
        have k1148 : own_G p e below E0 s₁ (mkF m 54 #[vi p0, vj p1, ss, vj p2, ss, vi p3, vi p4, vi p5, vi (0 : Int32), vd (FP.i2d (p0 >>> ((8 : Int32) &&& 31))), ss, vi f0, vi f1, uu, uu, uu, uu, uu, uu, uu, uu, uu, uu, uu, uu, uu, uu, uu, uu, uu, uu, uu, uu, uu, uu, uu, uu] [(.int (0 : Int32))]) := by
          intro tQ kk
          refine k1146 tQ ?_
          refine XS.ifYes X0.here hx rfl (pc0 := 46) (pc' := 53) rfl (hb hby at_46) rfl (own_if_eqY c1147) (by decide) (by decide) ?_
          refine XS.iconst X0.here hx rfl (hb hby at_53) ?_
          exact kk
        clear k1146
        exact ⟨(0 : Int32), ((Or.inl rfl)), k1148⟩
      · skip
        have k1149 : own_G p e below E0 s₁ (mkF m 54 #[vi p0, vj p1, ss, vj p2, ss, vi p3, vi p4, vi p5, vi (0 : Int32), vd (FP.i2d (p0 >>> ((8 : Int32) &&& 31))), ss, vi f0, vi f1, uu, uu, uu, uu, uu, uu, uu, uu, uu, uu, uu, uu, uu, uu, uu, uu, uu, uu, uu, uu, uu, uu, uu, uu] [(.int (1 : Int32))]) := by
          intro tQ kk
          refine k1146 tQ ?_
          refine XS.ifNo X0.here hx rfl (hb hby at_46) rfl (own_if_eqN c1147) ?_
          refine XS.iconst X0.here hx rfl (hb hby at_49) ?_
          refine XS.goto X0.here hx rfl (pc0 := 50) (pc' := 54) rfl (hb hby at_50) (by decide) (by decide) ?_
          exact kk
        clear k1146
        exact ⟨(1 : Int32), ((Or.inr rfl)), k1149⟩
    obtain ⟨f2, hD1152, k1150⟩ := jn1151
    have hf2 := hD1152
    have k1153 : own_G p e below E0 s₁ (mkF m 60 #[vi p0, vj p1, ss, vj p2, ss, vi p3, vi p4, vi p5, vi (0 : Int32), vd (FP.i2d (p0 >>> ((8 : Int32) &&& 31))), ss, vi f0, vi f1, vi f2, uu, uu, uu, uu, uu, uu, uu, uu, uu, uu, uu, uu, uu, uu, uu, uu, uu, uu, uu, uu, uu, uu, uu] [(.int (p0 &&& (8 : Int32)))]) := by
      intro tQ kk
      refine k1150 tQ ?_
      refine XS.istore X0.here hx rfl (hb hby at_54) rfl (l' := #[vi p0, vj p1, ss, vj p2, ss, vi p3, vi p4, vi p5, vi (0 : Int32), vd (FP.i2d (p0 >>> ((8 : Int32) &&& 31))), ss, vi f0, vi f1, vi f2, uu, uu, uu, uu, uu, uu, uu, uu, uu, uu, uu, uu, uu, uu, uu, uu, uu, uu, uu, uu, uu, uu, uu]) rfl ?_
      refine XS.iloadN X0.here hx rfl (hb hby at_56) rfl ?_
      refine XS.bipush X0.here hx rfl (hb hby at_57) ?_
      refine XS.iand X0.here hx rfl (hb hby at_59) rfl ?_
      exact kk
    clear k1150
    have jn1158 : ((((p0 &&& (8 : Int32)) = 0)) ∨ (¬ ((p0 &&& (8 : Int32)) = 0))) ∧ (own_G p e below E0 s₁ (mkF m 74 #[vi p0, vj p1, ss, vj p2, ss, vi p3, vi p4, vi p5, vi (0 : Int32), vd (FP.i2d (p0 >>> ((8 : Int32) &&& 31))), ss, vi f0, vi f1, vi f2, uu, uu, uu, uu, uu, uu, uu, uu, uu, uu, uu, uu, uu, uu, uu, uu, uu, uu, uu, uu, uu, uu, uu] [(.int (0 : Int32))])) := by
      by_cases c1154 : (p0 &&& (8 : Int32)) = 0
      · skip
        have k1155 : own_G p e below E0 s₁ (mkF m 74 #[vi p0, vj p1, ss, vj p2, ss, vi p3, vi p4, vi p5, vi (0 : Int32), vd (FP.i2d (p0 >>> ((8 : Int32) &&& 31))), ss, vi f0, vi f1, vi f2, uu, uu, uu, uu, uu, uu, uu, uu, uu, uu, uu, uu, uu, uu, uu, uu, uu, uu, uu, uu, uu, uu, uu] [(.int (0 : Int32))]) := by
          intro tQ kk
          refine k1153 tQ ?_
          refine XS.ifYes X0.here hx rfl (pc0 := 60) (pc' := 73) rfl (hb hby at_60) rfl (own_if_eqY c1154) (by decide) (by decide) ?_
          refine XS.iconst X0.here hx rfl (hb hby at_73) ?_
          exact kk
        clear k1153
        exact ⟨(Or.inl (c1154)), k1155⟩
      · skip
        have k1156 : own_G p e below E0 s₁ (mkF m 74 #[vi p0, vj p1, ss, vj p2, ss, vi p3, vi p4, vi p5, vi (0 : Int32), vd (FP.i2d (p0 >>> ((8 : Int32) &&& 31))), ss, vi f0, vi f1, vi f2, uu, uu, uu, uu, uu, uu, uu, uu, uu, uu, uu, uu, uu, uu, uu, uu, uu, uu, uu, uu, uu, uu, uu] [(.int (0 : Int32))]) := by
          intro tQ kk
          refine k1153 tQ ?_
          refine XS.ifNo X0.here hx rfl (hb hby at_60) rfl (own_if_eqN c1154) ?_
          refine XS.iload X0.here hx rfl (hb hby at_63) rfl ?_
          refine XS.iconst X0.here hx rfl (hb hby at_65) ?_
          refine XS.icmpYes X0.here hx rfl (pc0 := 66) (pc' := 73) rfl (hb hby at_66) rfl (own_ic_neY (by decide)) (by decide) (by decide) ?_
          show Steps p.tables e below (s₁.setTop (mkF m 73 #[vi p0, vj p1, ss, vj p2, ss, vi p3, vi p4, vi p5, vi (0 : Int32), vd (FP.i2d (p0 >>> ((8 : Int32) &&& 31))), ss, vi f0, vi f1, vi f2, uu, uu, uu, uu, uu, uu, uu, uu, uu, uu, uu, uu, uu, uu, uu, uu, uu, uu, uu, uu, uu, uu, uu] [])) tQ
          refine XS.iconst X0.here hx rfl (hb hby at_73) ?_
          exact kk
        clear k1153
        exact ⟨(Or.inr (c1154)), k1156⟩
    obtain ⟨hD1159, k1157⟩ := jn1158
    have k1160 : own_G p e below E0 s₁ (mkF m 80 #[vi p0, vj p1, ss, vj p2, ss, vi p3, vi p4, vi p5, vi (0 : Int32), vd (FP.i2d (p0 >>> ((8 : Int32) &&& 31))), ss, vi f0, vi f1, vi f2, vi (0 : Int32), uu, uu, uu, uu, uu, uu, uu, uu, uu, uu, uu, uu, uu, uu, uu, uu, uu, uu, uu, uu, uu, uu] [(.int (p0 &&& (16 : Int32)))]) := by
      intro tQ kk
      refine k1157 tQ ?_
      refine XS.istore X0.here hx rfl (hb hby at_74) rfl (l' := #[vi p0, vj p1, ss, vj p2, ss, vi p3, vi p4, vi p5, vi (0 : Int32), vd (FP.i2d (p0 >>> ((8 : Int32) &&& 31))), ss, vi f0, vi f1, vi f2, vi (0 : Int32), uu, uu, uu, uu, uu, uu, uu, uu, uu, uu, uu, uu, uu, uu, uu, uu, uu, uu, uu, uu, uu, uu]) rfl ?_
      refine XS.iloadN X0.here hx rfl (hb hby at_76) rfl ?_
      refine XS.bipush X0.here hx rfl (hb hby at_77) ?_
      refine XS.iand X0.here hx rfl (hb hby at_79) rfl ?_
      exact kk
    clear k1157
    have jn1165 : ((((p0 &&& (16 : Int32)) = 0)) ∨ (¬ ((p0 &&& (16 : Int32)) = 0))) ∧ (own_G p e below E0 s₁ (mkF m 94 #[vi p0, vj p1, ss, vj p2, ss, vi p3, vi p4, vi p5, vi (0 : Int32), vd (FP.i2d (p0 >>> ((8 : Int32) &&& 31))), ss, vi f0, vi f1, vi f2, vi (0 : Int32), uu, uu, uu, uu, uu, uu, uu, uu, uu, uu, uu, uu, uu, uu, uu, uu, uu, uu, uu, uu, uu, uu] [(.int (0 : Int32))])) := by
      by_cases c1161 : (p0 &&& (16 : Int32)) = 0
      · skip
        have k1162 : own_G p e below E0 s₁ (mkF m 94 #[vi p0, vj p1, ss, vj p2, ss, vi p3, vi p4, vi p5, vi (0 : Int32), vd (FP.i2d (p0 >>> ((8 : Int32) &&& 31))), ss, vi f0, vi f1, vi f2, vi (0 : Int32), uu, uu, uu, uu, uu, uu, uu, uu, uu, uu, uu, uu, uu, uu, uu, uu, uu, uu, uu, uu, uu, uu] [(.int (0 : Int32))]) := by
          intro tQ kk
          refine k1160 tQ ?_
          refine XS.ifYes X0.here hx rfl (pc0 := 80) (pc' := 93) rfl (hb hby at_80) rfl (own_if_eqY c1161) (by decide) (by decide) ?_
          refine XS.iconst X0.here hx rfl (hb hby at_93) ?_
          exact kk
        clear k1160
        exact ⟨(Or.inl (c1161)), k1162⟩
      · skip
        have k1163 : own_G p e below E0 s₁ (mkF m 94 #[vi p0, vj p1, ss, vj p2, ss, vi p3, vi p4, vi p5, vi (0 : Int32), vd (FP.i2d (p0 >>> ((8 : Int32) &&& 31))), ss, vi f0, vi f1, vi f2, vi (0 : Int32), uu, uu, uu, uu, uu, uu, uu, uu, uu, uu, uu, uu, uu, uu, uu, uu, uu, uu, uu, uu, uu, uu] [(.int (0 : Int32))]) := by
          intro tQ kk
          refine k1160 tQ ?_
          refine XS.ifNo X0.here hx rfl (hb hby at_80) rfl (own_if_eqN c1161) ?_
          refine XS.iload X0.here hx rfl (hb hby at_83) rfl ?_
          refine XS.iconst X0.here hx rfl (hb hby at_85) ?_
          refine XS.icmpYes X0.here hx rfl (pc0 := 86) (pc' := 93) rfl (hb hby at_86) rfl (own_ic_neY (by decide)) (by decide) (by decide) ?_
          show Steps p.tables e below (s₁.setTop (mkF m 93 #[vi p0, vj p1, ss, vj p2, ss, vi p3, vi p4, vi p5, vi (0 : Int32), vd (FP.i2d (p0 >>> ((8 : Int32) &&& 31))), ss, vi f0, vi f1, vi f2, vi (0 : Int32), uu, uu, uu, uu, uu, uu, uu, uu, uu, uu, uu, uu, uu, uu, uu, uu, uu, uu, uu, uu, uu, uu] [])) tQ
          refine XS.iconst X0.here hx rfl (hb hby at_93) ?_
          exact kk
        clear k1160
        exact ⟨(Or.inr (c1161)), k1163⟩
    obtain ⟨hD1166, k1164⟩ := jn1165
    have k1167 : own_G p e below E0 s₁ (mkF m 100 #[vi p0, vj p1, ss, vj p2, ss, vi p3, vi p4, vi p5, vi (0 : Int32), vd (FP.i2d (p0 >>> ((8 : Int32) &&& 31))), ss, vi f0, vi f1, vi f2, vi (0 : Int32), vi (0 : Int32), uu, uu, uu, uu, uu, uu, uu, uu, uu, uu, uu, uu, uu, uu, uu, uu, uu, uu, uu, uu, uu] [(.int (p0 &&& (32 : Int32)))]) := by
      intro tQ kk
      refine k1164 tQ ?_
      refine XS.istore X0.here hx rfl (hb hby at_94) rfl (l' := #[vi p0, vj p1, ss, vj p2, ss, vi p3, vi p4, vi p5, vi (0 : Int32), vd (FP.i2d (p0 >>> ((8 : Int32) &&& 31))), ss, vi f0, vi f1, vi f2, vi (0 : Int32), vi (0 : Int32), uu, uu, uu, uu, uu, uu, uu, uu, uu, uu, uu, uu, uu, uu, uu, uu, uu, uu, uu, uu, uu]) rfl ?_
      refine XS.iloadN X0.here hx rfl (hb hby at_96) rfl ?_
      refine XS.bipush X0.here hx rfl (hb hby at_97) ?_
      refine XS.iand X0.here hx rfl (hb hby at_99) rfl ?_
      exact kk
    clear k1164
    have jn1172 : ((((p0 &&& (32 : Int32)) = 0)) ∨ (¬ ((p0 &&& (32 : Int32)) = 0))) ∧ (own_G p e below E0 s₁ (mkF m 114 #[vi p0, vj p1, ss, vj p2, ss, vi p3, vi p4, vi p5, vi (0 : Int32), vd (FP.i2d (p0 >>> ((8 : Int32) &&& 31))), ss, vi f0, vi f1, vi f2, vi (0 : Int32), vi (0 : Int32), uu, uu, uu, uu, uu, uu, uu, uu, uu, uu, uu, uu, uu, uu, uu, uu, uu, uu, uu, uu, uu] [(.int (0 : Int32))])) := by
      by_cases c1168 : (p0 &&& (32 : Int32)) = 0
      · skip
        have k1169 : own_G p e below E0 s₁ (mkF m 114 #[vi p0, vj p1, ss, vj p2, ss, vi p3, vi p4, vi p5, vi (0 : Int32), vd (FP.i2d (p0 >>> ((8 : Int32) &&& 31))), ss, vi f0, vi f1, vi f2, vi (0 : Int32), vi (0 : Int32), uu, uu, uu, uu, uu, uu, uu, uu, uu, uu, uu, uu, uu, uu, uu, uu, uu, uu, uu, uu, uu] [(.int (0 : Int32))]) := by
          intro tQ kk
          refine k1167 tQ ?_
          refine XS.ifYes X0.here hx rfl (pc0 := 100) (pc' := 113) rfl (hb hby at_100) rfl (own_if_eqY c1168) (by decide) (by decide) ?_
          refine XS.iconst X0.here hx rfl (hb hby at_113) ?_
          exact kk
        clear k1167
        exact ⟨(Or.inl (c1168)), k1169⟩
      · skip
        have k1170 : own_G p e below E0 s₁ (mkF m 114 #[vi p0, vj p1, ss, vj p2, ss, vi p3, vi p4, vi p5, vi (0 : Int32), vd (FP.i2d (p0 >>> ((8 : Int32) &&& 31))), ss, vi f0, vi f1, vi f2, vi (0 : Int32), vi (0 : Int32), uu, uu, uu, uu, uu, uu, uu, uu, uu, uu, uu, uu, uu, uu, uu, uu, uu, uu, uu, uu, uu] [(.int (0 : Int32))]) := by
          intro tQ kk
          refine k1167 tQ ?_
          refine XS.ifNo X0.here hx rfl (hb hby at_100) rfl (own_if_eqN c1168) ?_
          refine XS.iload X0.here hx rfl (hb hby at_103) rfl ?_
          refine XS.iconst X0.here hx rfl (hb hby at_105) ?_
          refine XS.icmpYes X0.here hx rfl (pc0 := 106) (pc' := 113) rfl (hb hby at_106) rfl (own_ic_neY (by decide)) (by decide) (by decide) ?_
          show Steps p.tables e below (s₁.setTop (mkF m 113 #[vi p0, vj p1, ss, vj p2, ss, vi p3, vi p4, vi p5, vi (0 : Int32), vd (FP.i2d (p0 >>> ((8 : Int32) &&& 31))), ss, vi f0, vi f1, vi f2, vi (0 : Int32), vi (0 : Int32), uu, uu, uu, uu, uu, uu, uu, uu, uu, uu, uu, uu, uu, uu, uu, uu, uu, uu, uu, uu, uu] [])) tQ
          refine XS.iconst X0.here hx rfl (hb hby at_113) ?_
          exact kk
        clear k1167
        exact ⟨(Or.inr (c1168)), k1170⟩
    obtain ⟨hD1173, k1171⟩ := jn1172
    have k1174 : own_G p e below E0 s₁ (mkF m 118 #[vi p0, vj p1, ss, vj p2, ss, vi p3, vi p4, vi p5, vi (0 : Int32), vd (FP.i2d (p0 >>> ((8 : Int32) &&& 31))), ss, vi f0, vi f1, vi f2, vi (0 : Int32), vi (0 : Int32), vi (0 : Int32), uu, uu, uu, uu, uu, uu, uu, uu, uu, uu, uu, uu, uu, uu, uu, uu, uu, uu, uu, uu] [(.int (0 : Int32)), (.long p1)]) := by
      intro tQ kk
      refine k1171 tQ ?_
      refine XS.istore X0.here hx rfl (hb hby at_114) rfl (l' := #[vi p0, vj p1, ss, vj p2, ss, vi p3, vi p4, vi p5, vi (0 : Int32), vd (FP.i2d (p0 >>> ((8 : Int32) &&& 31))), ss, vi f0, vi f1, vi f2, vi (0 : Int32), vi (0 : Int32), vi (0 : Int32), uu, uu, uu, uu, uu, uu, uu, uu, uu, uu, uu, uu, uu, uu, uu, uu, uu, uu, uu, uu]) rfl ?_
      refine XT.lloadN X0.here hx rfl (hb hby at_116) rfl ?_
      refine XS.iconst X0.here hx rfl (hb hby at_117) ?_
      exact kk
    clear k1171
    obtain ⟨_, _, ⟨T1175, L1176, kc1177, nc1178⟩, -, X1179, ⟨Lc1180, hQ1181, l1182, y1183, z1184⟩, st1185⟩ := Jvm.LawKit.callS X0 hx (y := mn0) hown (mvT hZ (tw0 hw)) (mvT hZ (tw1 hw)) (mvT hZ (tw2 hw)) (mvT hZ (tw3 hw)) (by decide) (backOf (W := 0) (rmVal l Z a0 hw [] p1 (0 : Int32) h0 n0 Z0 ) hZ (tw3 hw) (tw2 hw) (by decide) (by decide)) (g := (mkF m 118 #[vi p0, vj p1, ss, vj p2, ss, vi p3, vi p4, vi p5, vi (0 : Int32), vd (FP.i2d (p0 >>> ((8 : Int32) &&& 31))), ss, vi f0, vi f1, vi f2, vi (0 : Int32), vi (0 : Int32), vi (0 : Int32), uu, uu, uu, uu, uu, uu, uu, uu, uu, uu, uu, uu, uu, uu, uu, uu, uu, uu, uu, uu] [(.int (0 : Int32)), (.long p1)])) rfl (by rw [hml]; rfl) (argsL := [(.long p1), (.int (0 : Int32))]) (rest := []) (lenOf pd_11 rfl) rfl (by show 2 * 0 + _ ≤ _; exact Nat.le_of_eq rfl) (hb hby at_118) (fun _ _ => ⟨rfl, e0, (by decide : 0 + 0 ≤ _), (by decide : 0 + 0 ≤ _)⟩)
    dsimp only [Pt.U, Pt.locs, Pt.cells, Pt.slots] at X1179 l1182 y1183 z1184 st1185 hQ1181
    subst y1183 z1184
    obtain ⟨rfl, N1186, e1187⟩ := hQ1181
    have N1189 : Fr n0 L1176 := by rw [l1182]; exact Fr.app N0 N1186
    clear l1182 N1186
    have k1190 : own_G p e below E0 T1175 (mkF m 121 #[vi p0, vj p1, ss, vj p2, ss, vi p3, vi p4, vi p5, vi (0 : Int32), vd (FP.i2d (p0 >>> ((8 : Int32) &&& 31))), ss, vi f0, vi f1, vi f2, vi (0 : Int32), vi (0 : Int32), vi (0 : Int32), uu, uu, uu, uu, uu, uu, uu, uu, uu, uu, uu, uu, uu, uu, uu, uu, uu, uu, uu, uu] [(.int (own_val p1 (0 : Int32)))]) := fun tQ kk => k1174 tQ (st1185 _ kk)
    clear k1174 st1185
    have k1191 : own_G p e below E0 T1175 (mkF m 126 #[vi p0, vj p1, ss, vj p2, ss, vi p3, vi p4, vi p5, vi (0 : Int32), vd (FP.i2d (p0 >>> ((8 : Int32) &&& 31))), ss, vi f0, vi f1, vi f2, vi (0 : Int32), vi (0 : Int32), vi (0 : Int32), vi (own_val p1 (0 : Int32)), uu, uu, uu, uu, uu, uu, uu, uu, uu, uu, uu, uu, uu, uu, uu, uu, uu, uu, uu] [(.int (16 : Int32)), (.long p1)]) := by
      intro tQ kk
      refine k1190 tQ ?_
      refine XS.istore X1179.here hx rfl (hb hby at_121) rfl (l' := #[vi p0, vj p1, ss, vj p2, ss, vi p3, vi p4, vi p5, vi (0 : Int32), vd (FP.i2d (p0 >>> ((8 : Int32) &&& 31))), ss, vi f0, vi f1, vi f2, vi (0 : Int32), vi (0 : Int32), vi (0 : Int32), vi (own_val p1 (0 : Int32)), uu, uu, uu, uu, uu, uu, uu, uu, uu, uu, uu, uu, uu, uu, uu, uu, uu, uu, uu]) rfl ?_
      refine XT.lloadN X1179.here hx rfl (hb hby at_123) rfl ?_
      refine XS.bipush X1179.here hx rfl (hb hby at_124) ?_
      exact kk
    clear k1190
    obtain ⟨_, _, ⟨T1192, L1193, kc1194, nc1195⟩, -, X1196, ⟨Lc1197, hQ1198, l1199, y1200, z1201⟩, st1202⟩ := Jvm.LawKit.callS X1179 hx (y := mn0) hown (mvT hZ (tw0 hw)) (mvT hZ (tw1 hw)) (mvT hZ (tw2 hw)) (mvT hZ (tw3 hw)) (by decide) (backOf (W := 0) (rmVal l Z a0 hw [] p1 (16 : Int32) h0 n0 Z0 ) hZ (tw3 hw) (tw2 hw) (by decide) (by decide)) (g := (mkF m 126 #[vi p0, vj p1, ss, vj p2, ss, vi p3, vi p4, vi p5, vi (0 : Int32), vd (FP.i2d (p0 >>> ((8 : Int32) &&& 31))), ss, vi f0, vi f1, vi f2, vi (0 : Int32), vi (0 : Int32), vi (0 : Int32), vi (own_val p1 (0 : Int32)), uu, uu, uu, uu, uu, uu, uu, uu, uu, uu, uu, uu, uu, uu, uu, uu, uu, uu, uu] [(.int (16 : Int32)), (.long p1)])) rfl (by rw [hml]; rfl) (argsL := [(.long p1), (.int (16 : Int32))]) (rest := []) (lenOf pd_11 rfl) rfl (by show 2 * 0 + _ ≤ _; exact Nat.le_of_eq rfl) (hb hby at_126) (fun _ _ => ⟨rfl, e1187, (by decide : 0 + 0 ≤ _), (by decide : 0 + 0 ≤ _)⟩)
    dsimp only [Pt.U, Pt.locs, Pt.cells, Pt.slots] at X1196 l1199 y1200 z1201 st1202 hQ1198
    subst y1200 z1201
    obtain ⟨rfl, N1203, e1204⟩ := hQ1198
    have N1206 : Fr n0 L1193 := by rw [l1199]; exact Fr.app N1189 N1203
    clear l1199 N1203
    have k1207 : own_G p e below E0 T1192 (mkF m 129 #[vi p0, vj p1, ss, vj p2, ss, vi p3, vi p4, vi p5, vi (0 : Int32), vd (FP.i2d (p0 >>> ((8 : Int32) &&& 31))), ss, vi f0, vi f1, vi f2, vi (0 : Int32), vi (0 : Int32), vi (0 : Int32), vi (own_val p1 (0 : Int32)), uu, uu, uu, uu, uu, uu, uu, uu, uu, uu, uu, uu, uu, uu, uu, uu, uu, uu, uu] [(.int (own_val p1 (16 : Int32)))]) := fun tQ kk => k1191 tQ (st1202 _ kk)
    clear k1191 st1202
    have k1208 : own_G p e below E0 T1192 (mkF m 134 #[vi p0, vj p1, ss, vj p2, ss, vi p3, vi p4, vi p5, vi (0 : Int32), vd (FP.i2d (p0 >>> ((8 : Int32) &&& 31))), ss, vi f0, vi f1, vi f2, vi (0 : Int32), vi (0 : Int32), vi (0 : Int32), vi (own_val p1 (0 : Int32)), vi (own_val p1 (16 : Int32)), uu, uu, uu, uu, uu, uu, uu, uu, uu, uu, uu, uu, uu, uu, uu, uu, uu, uu] [(.int (32 : Int32)), (.long p1)]) := by
      intro tQ kk
      refine k1207 tQ ?_
      refine XS.istore X1196.here hx rfl (hb hby at_129) rfl (l' := #[vi p0, vj p1, ss, vj p2, ss, vi p3, vi p4, vi p5, vi (0 : Int32), vd (FP.i2d (p0 >>> ((8 : Int32) &&& 31))), ss, vi f0, vi f1, vi f2, vi (0 : Int32), vi (0 : Int32), vi (0 : Int32), vi (own_val p1 (0 : Int32)), vi (own_val p1 (16 : Int32)), uu, uu, uu, uu, uu, uu, uu, uu, uu, uu, uu, uu, uu, uu, uu, uu, uu, uu]) rfl ?_
      refine XT.lloadN X1196.here hx rfl (hb hby at_131) rfl ?_
      refine XS.bipush X1196.here hx rfl (hb hby at_132) ?_
      exact kk
    clear k1207
    obtain ⟨_, _, ⟨T1209, L1210, kc1211, nc1212⟩, -, X1213, ⟨Lc1214, hQ1215, l1216, y1217, z1218⟩, st1219⟩ := Jvm.LawKit.callS X1196 hx (y := mn0) hown (mvT hZ (tw0 hw)) (mvT hZ (tw1 hw)) (mvT hZ (tw2 hw)) (mvT hZ (tw3 hw)) (by decide) (backOf (W := 0) (rmVal l Z a0 hw [] p1 (32 : Int32) h0 n0 Z0 ) hZ (tw3 hw) (tw2 hw) (by decide) (by decide)) (g := (mkF m 134 #[vi p0, vj p1, ss, vj p2, ss, vi p3, vi p4, vi p5, vi (0 : Int32), vd (FP.i2d (p0 >>> ((8 : Int32) &&& 31))), ss, vi f0, vi f1, vi f2, vi (0 : Int32), vi (0 : Int32), vi (0 : Int32), vi (own_val p1 (0 : Int32)), vi (own_val p1 (16 : Int32)), uu, uu, uu, uu, uu, uu, uu, uu, uu, uu, uu, uu, uu, uu, uu, uu, uu, uu] [(.int (32 : Int32)), (.long p1)])) rfl (by rw [hml]; rfl) (argsL := [(.long p1), (.int (32 : Int32))]) (rest := []) (lenOf pd_11 rfl) rfl (by show 2 * 0 + _ ≤ _; exact Nat.le_of_eq rfl) (hb hby at_134) (fun _ _ => ⟨rfl, e1204, (by decide : 0 + 0 ≤ _), (by decide : 0 + 0 ≤ _)⟩)
    dsimp only [Pt.U, Pt.locs, Pt.cells, Pt.slots] at X1213 l1216 y1217 z1218 st1219 hQ1215
    subst y1217 z1218
    obtain ⟨rfl, N1220, e1221⟩ := hQ1215
    have N1223 : Fr n0 L1210 := by rw [l1216]; exact Fr.app N1206 N1220
    clear l1216 N1220
    have k1224 : own_G p e below E0 T1209 (mkF m 137 #[vi p0, vj p1, ss, vj p2, ss, vi p3, vi p4, vi p5, vi (0 : Int32), vd (FP.i2d (p0 >>> ((8 : Int32) &&& 31))), ss, vi f0, vi f1, vi f2, vi (0 : Int32), vi (0 : Int32), vi (0 : Int32), vi (own_val p1 (0 : Int32)), vi (own_val p1 (16 : Int32)), uu, uu, uu, uu, uu, uu, uu, uu, uu, uu, uu, uu, uu, uu, uu, uu, uu, uu] [(.int (own_val p1 (32 : Int32)))]) := fun tQ kk => k1208 tQ (st1219 _ kk)
    clear k1208 st1219
    have k1225 : own_G p e below E0 T1209 (mkF m 141 #[vi p0, vj p1, ss, vj p2, ss, vi p3, vi p4, vi p5, vi (0 : Int32), vd (FP.i2d (p0 >>> ((8 : Int32) &&& 31))), ss, vi f0, vi f1, vi f2, vi (0 : Int32), vi (0 : Int32), vi (0 : Int32), vi (own_val p1 (0 : Int32)), vi (own_val p1 (16 : Int32)), vi (own_val p1 (32 : Int32)), uu, uu, uu, uu, uu, uu, uu, uu, uu, uu, uu, uu, uu, uu, uu, uu, uu] [(.int (0 : Int32)), (.long p2)]) := by
      intro tQ kk
      refine k1224 tQ ?_
      refine XS.istore X1213.here hx rfl (hb hby at_137) rfl (l' := #[vi p0, vj p1, ss, vj p2, ss, vi p3, vi p4, vi p5, vi (0 : Int32), vd (FP.i2d (p0 >>> ((8 : Int32) &&& 31))), ss, vi f0, vi f1, vi f2, vi (0 : Int32), vi (0 : Int32), vi (0 : Int32), vi (own_val p1 (0 : Int32)), vi (own_val p1 (16 : Int32)), vi (own_val p1 (32 : Int32)), uu, uu, uu, uu, uu, uu, uu, uu, uu, uu, uu, uu, uu, uu, uu, uu, uu]) rfl ?_
      refine XT.lloadN X1213.here hx rfl (hb hby at_139) rfl ?_
      refine XS.iconst X1213.here hx rfl (hb hby at_140) ?_
      exact kk
    clear k1224
    obtain ⟨_, _, ⟨T1226, L1227, kc1228, nc1229⟩, -, X1230, ⟨Lc1231, hQ1232, l1233, y1234, z1235⟩, st1236⟩ := Jvm.LawKit.callS X1213 hx (y := mn0) hown (mvT hZ (tw0 hw)) (mvT hZ (tw1 hw)) (mvT hZ (tw2 hw)) (mvT hZ (tw3 hw)) (by decide) (backOf (W := 0) (rmVal l Z a0 hw [] p2 (0 : Int32) h0 n0 Z0 ) hZ (tw3 hw) (tw2 hw) (by decide) (by decide)) (g := (mkF m 141 #[vi p0, vj p1, ss, vj p2, ss, vi p3, vi p4, vi p5, vi (0 : Int32), vd (FP.i2d (p0 >>> ((8 : Int32) &&& 31))), ss, vi f0, vi f1, vi f2, vi (0 : Int32), vi (0 : Int32), vi (0 : Int32), vi (own_val p1 (0 : Int32)), vi (own_val p1 (16 : Int32)), vi (own_val p1 (32 : Int32)), uu, uu, uu, uu, uu, uu, uu, uu, uu, uu, uu, uu, uu, uu, uu, uu, uu] [(.int (0 : Int32)), (.long p2)])) rfl (by rw [hml]; rfl) (argsL := [(.long p2), (.int (0 : Int32))]) (rest := []) (lenOf pd_11 rfl) rfl (by show 2 * 0 + _ ≤ _; exact Nat.le_of_eq rfl) (hb hby at_141) (fun _ _ => ⟨rfl, e1221, (by decide : 0 + 0 ≤ _), (by decide : 0 + 0 ≤ _)⟩)
    dsimp only [Pt.U, Pt.locs, Pt.cells, Pt.slots] at X1230 l1233 y1234 z1235 st1236 hQ1232
    subst y1234 z1235
    obtain ⟨rfl, N1237, e1238⟩ := hQ1232
    have N1240 : Fr n0 L1227 := by rw [l1233]; exact Fr.app N1223 N1237
    clear l1233 N1237
    have k1241 : own_G p e below E0 T1226 (mkF m 144 #[vi p0, vj p1, ss, vj p2, ss, vi p3, vi p4, vi p5, vi (0 : Int32), vd (FP.i2d (p0 >>> ((8 : Int32) &&& 31))), ss, vi f0, vi f1, vi f2, vi (0 : Int32), vi (0 : Int32), vi (0 : Int32), vi (own_val p1 (0 : Int32)), vi (own_val p1 (16 : Int32)), vi (own_val p1 (32 : Int32)), uu, uu, uu, uu, uu, uu, uu, uu, uu, uu, uu, uu, uu, uu, uu, uu, uu] [(.int (own_val p2 (0 : Int32)))]) := fun tQ kk => k1225 tQ (st1236 _ kk)
    clear k1225 st1236
    have k1242 : own_G p e below E0 T1226 (mkF m 149 #[vi p0, vj p1, ss, vj p2, ss, vi p3, vi p4, vi p5, vi (0 : Int32), vd (FP.i2d (p0 >>> ((8 : Int32) &&& 31))), ss, vi f0, vi f1, vi f2, vi (0 : Int32), vi (0 : Int32), vi (0 : Int32), vi (own_val p1 (0 : Int32)), vi (own_val p1 (16 : Int32)), vi (own_val p1 (32 : Int32)), vi (own_val p2 (0 : Int32)), uu, uu, uu, uu, uu, uu, uu, uu, uu, uu, uu, uu, uu, uu, uu, uu] [(.int (16 : Int32)), (.long p2)]) := by
      intro tQ kk
      refine k1241 tQ ?_
      refine XS.istore X1230.here hx rfl (hb hby at_144) rfl (l' := #[vi p0, vj p1, ss, vj p2, ss, vi p3, vi p4, vi p5, vi (0 : Int32), vd (FP.i2d (p0 >>> ((8 : Int32) &&& 31))), ss, vi f0, vi f1, vi f2, vi (0 : Int32), vi (0 : Int32), vi (0 : Int32), vi (own_val p1 (0 : Int32)), vi (own_val p1 (16 : Int32)), vi (own_val p1 (32 : Int32)), vi (own_val p2 (0 : Int32)), uu, uu, uu, uu, uu, uu, uu, uu, uu, uu, uu, uu, uu, uu, uu, uu]) rfl ?_
      refine XT.lloadN X1230.here hx rfl (hb hby at_146) rfl ?_
      refine XS.bipush X1230.here hx rfl (hb hby at_147) ?_
      exact kk
    clear k1241
    obtain ⟨_, _, ⟨T1243, L1244, kc1245, nc1246⟩, -, X1247, ⟨Lc1248, hQ1249, l1250, y1251, z1252⟩, st1253⟩ := Jvm.LawKit.callS X1230 hx (y := mn0) hown (mvT hZ (tw0 hw)) (mvT hZ (tw1 hw)) (mvT hZ (tw2 hw)) (mvT hZ (tw3 hw)) (by decide) (backOf (W := 0) (rmVal l Z a0 hw [] p2 (16 : Int32) h0 n0 Z0 ) hZ (tw3 hw) (tw2 hw) (by decide) (by decide)) (g := (mkF m 149 #[vi p0, vj p1, ss, vj p2, ss, vi p3, vi p4, vi p5, vi (0 : Int32), vd (FP.i2d (p0 >>> ((8 : Int32) &&& 31))), ss, vi f0, vi f1, vi f2, vi (0 : Int32), vi (0 : Int32), vi (0 : Int32), vi (own_val p1 (0 : Int32)), vi (own_val p1 (16 : Int32)), vi (own_val p1 (32 : Int32)), vi (own_val p2 (0 : Int32)), uu, uu, uu, uu, uu, uu, uu, uu, uu, uu, uu, uu, uu, uu, uu, uu] [(.int (16 : Int32)), (.long p2)])) rfl (by rw [hml]; rfl) (argsL := [(.long p2), (.int (16 : Int32))]) (rest := []) (lenOf pd_11 rfl) rfl (by show 2 * 0 + _ ≤ _; exact Nat.le_of_eq rfl) (hb hby at_149) (fun _ _ => ⟨rfl, e1238, (by decide : 0 + 0 ≤ _), (by decide : 0 + 0 ≤ _)⟩)
    dsimp only [Pt.U, Pt.locs, Pt.cells, Pt.slots] at X1247 l1250 y1251 z1252 st1253 hQ1249
    subst y1251 z1252
    obtain ⟨rfl, N1254, e1255⟩ := hQ1249
    have N1257 : Fr n0 L1244 := by rw [l1250]; exact Fr.app N1240 N1254
    clear l1250 N1254
    have k1258 : own_G p e below E0 T1243 (mkF m 152 #[vi p0, vj p1, ss, vj p2, ss, vi p3, vi p4, vi p5, vi (0 : Int32), vd (FP.i2d (p0 >>> ((8 : Int32) &&& 31))), ss, vi f0, vi f1, vi f2, vi (0 : Int32), vi (0 : Int32), vi (0 : Int32), vi (own_val p1 (0 : Int32)), vi (own_val p1 (16 : Int32)), vi (own_val p1 (32 : Int32)), vi (own_val p2 (0 : Int32)), uu, uu, uu, uu, uu, uu, uu, uu, uu, uu, uu, uu, uu, uu, uu, uu] [(.int (own_val p2 (16 : Int32)))]) := fun tQ kk => k1242 tQ (st1253 _ kk)
    clear k1242 st1253
    have k1259 : own_G p e below E0 T1243 (mkF m 157 #[vi p0, vj p1, ss, vj p2, ss, vi p3, vi p4, vi p5, vi (0 : Int32), vd (FP.i2d (p0 >>> ((8 : Int32) &&& 31))), ss, vi f0, vi f1, vi f2, vi (0 : Int32), vi (0 : Int32), vi (0 : Int32), vi (own_val p1 (0 : Int32)), vi (own_val p1 (16 : Int32)), vi (own_val p1 (32 : Int32)), vi (own_val p2 (0 : Int32)), vi (own_val p2 (16 : Int32)), uu, uu, uu, uu, uu, uu, uu, uu, uu, uu, uu, uu, uu, uu, uu] [(.int (32 : Int32)), (.long p2)]) := by
      intro tQ kk
      refine k1258 tQ ?_
      refine XS.istore X1247.here hx rfl (hb hby at_152) rfl (l' := #[vi p0, vj p1, ss, vj p2, ss, vi p3, vi p4, vi p5, vi (0 : Int32), vd (FP.i2d (p0 >>> ((8 : Int32) &&& 31))), ss, vi f0, vi f1, vi f2, vi (0 : Int32), vi (0 : Int32), vi (0 : Int32), vi (own_val p1 (0 : Int32)), vi (own_val p1 (16 : Int32)), vi (own_val p1 (32 : Int32)), vi (own_val p2 (0 : Int32)), vi (own_val p2 (16 : Int32)), uu, uu, uu, uu, uu, uu, uu, uu, uu, uu, uu, uu, uu, uu, uu]) rfl ?_
      refine XT.lloadN X1247.here hx rfl (hb hby at_154) rfl ?_
      refine XS.bipush X1247.here hx rfl (hb hby at_155) ?_
      exact kk
    clear k1258
    obtain ⟨_, _, ⟨T1260, L1261, kc1262, nc1263⟩, -, X1264, ⟨Lc1265, hQ1266, l1267, y1268, z1269⟩, st1270⟩ := Jvm.LawKit.callS X1247 hx (y := mn0) hown (mvT hZ (tw0 hw)) (mvT hZ (tw1 hw)) (mvT hZ (tw2 hw)) (mvT hZ (tw3 hw)) (by decide) (backOf (W := 0) (rmVal l Z a0 hw [] p2 (32 : Int32) h0 n0 Z0 ) hZ (tw3 hw) (tw2 hw) (by decide) (by decide)) (g := (mkF m 157 #[vi p0, vj p1, ss, vj p2, ss, vi p3, vi p4, vi p5, vi (0 : Int32), vd (FP.i2d (p0 >>> ((8 : Int32) &&& 31))), ss, vi f0, vi f1, vi f2, vi (0 : Int32), vi (0 : Int32), vi (0 : Int32), vi (own_val p1 (0 : Int32)), vi (own_val p1 (16 : Int32)), vi (own_val p1 (32 : Int32)), vi (own_val p2 (0 : Int32)), vi (own_val p2 (16 : Int32)), uu, uu, uu, uu, uu, uu, uu, uu, uu, uu, uu, uu, uu, uu, uu] [(.int (32 : Int32)), (.long p2)])) rfl (by rw [hml]; rfl) (argsL := [(.long p2), (.int (32 : Int32))]) (rest := []) (lenOf pd_11 rfl) rfl (by show 2 * 0 + _ ≤ _; exact Nat.le_of_eq rfl) (hb hby at_157) (fun _ _ => ⟨rfl, e1255, (by decide : 0 + 0 ≤ _), (by decide : 0 + 0 ≤ _)⟩)
    dsimp only [Pt.U, Pt.locs, Pt.cells, Pt.slots] at X1264 l1267 y1268 z1269 st1270 hQ1266
    subst y1268 z1269
    obtain ⟨rfl, N1271, e1272⟩ := hQ1266
    have N1274 : Fr n0 L1261 := by rw [l1267]; exact Fr.app N1257 N1271
    clear l1267 N1271
    have k1275 : own_G p e below E0 T1260 (mkF m 160 #[vi p0, vj p1, ss, vj p2, ss, vi p3, vi p4, vi p5, vi (0 : Int32), vd (FP.i2d (p0 >>> ((8 : Int32) &&& 31))), ss, vi f0, vi f1, vi f2, vi (0 : Int32), vi (0 : Int32), vi (0 : Int32), vi (own_val p1 (0 : Int32)), vi (own_val p1 (16 : Int32)), vi (own_val p1 (32 : Int32)), vi (own_val p2 (0 : Int32)), vi (own_val p2 (16 : Int32)), uu, uu, uu, uu, uu, uu, uu, uu, uu, uu, uu, uu, uu, uu, uu] [(.int (own_val p2 (32 : Int32)))]) := fun tQ kk => k1259 tQ (st1270 _ kk)
    clear k1259 st1270
    have k1276 : own_G p e below E0 T1260 (mkF m 164 #[vi p0, vj p1, ss, vj p2, ss, vi p3, vi p4, vi p5, vi (0 : Int32), vd (FP.i2d (p0 >>> ((8 : Int32) &&& 31))), ss, vi f0, vi f1, vi f2, vi (0 : Int32), vi (0 : Int32), vi (0 : Int32), vi (own_val p1 (0 : Int32)), vi (own_val p1 (16 : Int32)), vi (own_val p1 (32 : Int32)), vi (own_val p2 (0 : Int32)), vi (own_val p2 (16 : Int32)), vi (own_val p2 (32 : Int32)), uu, uu, uu, uu, uu, uu, uu, uu, uu, uu, uu, uu, uu, uu] [(.int (6 : Int32))]) := by
      intro tQ kk
      refine k1275 tQ ?_
      refine XS.istore X1264.here hx rfl (hb hby at_160) rfl (l' := #[vi p0, vj p1, ss, vj p2, ss, vi p3, vi p4, vi p5, vi (0 : Int32), vd (FP.i2d (p0 >>> ((8 : Int32) &&& 31))), ss, vi f0, vi f1, vi f2, vi (0 : Int32), vi (0 : Int32), vi (0 : Int32), vi (own_val p1 (0 : Int32)), vi (own_val p1 (16 : Int32)), vi (own_val p1 (32 : Int32)), vi (own_val p2 (0 : Int32)), vi (own_val p2 (16 : Int32)), vi (own_val p2 (32 : Int32)), uu, uu, uu, uu, uu, uu, uu, uu, uu, uu, uu, uu, uu, uu]) rfl ?_
      refine XS.bipush X1264.here hx rfl (hb hby at_162) ?_
      exact kk
    clear k1275
    obtain ⟨T1277, h1278, cA1279, X1280, e1281, E1282, A1283, st1284⟩ := newP (aty := .int) X1264 hx hZ (tw4 hw) e1272 (g := (mkF m 164 #[vi p0, vj p1, ss, vj p2, ss, vi p3, vi p4, vi p5, vi (0 : Int32), vd (FP.i2d (p0 >>> ((8 : Int32) &&& 31))), ss, vi f0, vi f1, vi f2, vi (0 : Int32), vi (0 : Int32), vi (0 : Int32), vi (own_val p1 (0 : Int32)), vi (own_val p1 (16 : Int32)), vi (own_val p1 (32 : Int32)), vi (own_val p2 (0 : Int32)), vi (own_val p2 (16 : Int32)), vi (own_val p2 (32 : Int32)), uu, uu, uu, uu, uu, uu, uu, uu, uu, uu, uu, uu, uu, uu] [(.int (6 : Int32))])) rfl (hb hby at_164) rfl (by decide) (cap := 6) (by decide) (by decide) (by decide) (by decide)
    obtain ⟨a1285, g1286⟩ : ∃ zA : Nat, zA = h0.size := ⟨_, rfl⟩
    rw [← g1286] at A1283 st1284
    have ge1287 : n0 ≤ a1285 := own_ge_of Z0 g1286
    have Z1288 : n0 ≤ h1278.size := Nat.le_trans Z0 E1282.1
    have F1289 : own_A Z h1278 a1285 .int [(.int (0 : Int32)), (.int (0 : Int32)), (.int (0 : Int32)), (.int (0 : Int32)), (.int (0 : Int32)), (.int (0 : Int32))] := own_A.new A1283
    have k1290 : own_G p e below E0 T1277 (mkF m 166 #[vi p0, vj p1, ss, vj p2, ss, vi p3, vi p4, vi p5, vi (0 : Int32), vd (FP.i2d (p0 >>> ((8 : Int32) &&& 31))), ss, vi f0, vi f1, vi f2, vi (0 : Int32), vi (0 : Int32), vi (0 : Int32), vi (own_val p1 (0 : Int32)), vi (own_val p1 (16 : Int32)), vi (own_val p1 (32 : Int32)), vi (own_val p2 (0 : Int32)), vi (own_val p2 (16 : Int32)), vi (own_val p2 (32 : Int32)), uu, uu, uu, uu, uu, uu, uu, uu, uu, uu, uu, uu, uu, uu] [(.ref a1285)]) := fun tQ kk => k1276 tQ (st1284 _ kk)
    clear k1276 st1284
    have k1291 : own_G p e below E0 T1277 (mkF m 170 #[vi p0, vj p1, ss, vj p2, ss, vi p3, vi p4, vi p5, vi (0 : Int32), vd (FP.i2d (p0 >>> ((8 : Int32) &&& 31))), ss, vi f0, vi f1, vi f2, vi (0 : Int32), vi (0 : Int32), vi (0 : Int32), vi (own_val p1 (0 : Int32)), vi (own_val p1 (16 : Int32)), vi (own_val p1 (32 : Int32)), vi (own_val p2 (0 : Int32)), vi (own_val p2 (16 : Int32)), vi (own_val p2 (32 : Int32)), vr a1285, uu, uu, uu, uu, uu, uu, uu, uu, uu, uu, uu, uu, uu] [(.int (6 : Int32))]) := by
      intro tQ kk
      refine k1290 tQ ?_
      refine XS.astore X1280.here hx rfl (hb hby at_166) rfl rfl (l' := #[vi p0, vj p1, ss, vj p2, ss, vi p3, vi p4, vi p5, vi (0 : Int32), vd (FP.i2d (p0 >>> ((8 : Int32) &&& 31))), ss, vi f0, vi f1, vi f2, vi (0 : Int32), vi (0 : Int32), vi (0 : Int32), vi (own_val p1 (0 : Int32)), vi (own_val p1 (16 : Int32)), vi (own_val p1 (32 : Int32)), vi (own_val p2 (0 : Int32)), vi (own_val p2 (16 : Int32)), vi (own_val p2 (32 : Int32)), vr a1285, uu, uu, uu, uu, uu, uu, uu, uu, uu, uu, uu, uu, uu]) rfl ?_
      refine XS.bipush X1280.here hx rfl (hb hby at_168) ?_
      exact kk
    clear k1290
    obtain ⟨T1292, h1293, cA1294, X1295, e1296, E1297, A1298, st1299⟩ := newP (aty := .double) X1280 hx hZ (tw5 hw) e1281 (g := (mkF m 170 #[vi p0, vj p1, ss, vj p2, ss, vi p3, vi p4, vi p5, vi (0 : Int32), vd (FP.i2d (p0 >>> ((8 : Int32) &&& 31))), ss, vi f0, vi f1, vi f2, vi (0 : Int32), vi (0 : Int32), vi (0 : Int32), vi (own_val p1 (0 : Int32)), vi (own_val p1 (16 : Int32)), vi (own_val p1 (32 : Int32)), vi (own_val p2 (0 : Int32)), vi (own_val p2 (16 : Int32)), vi (own_val p2 (32 : Int32)), vr a1285, uu, uu, uu, uu, uu, uu, uu, uu, uu, uu, uu, uu, uu] [(.int (6 : Int32))])) rfl (hb hby at_170) rfl (by decide) (cap := 6) (by decide) (by decide) (by decide) (by decide)
    obtain ⟨a1300, g1301⟩ : ∃ zA : Nat, zA = h1278.size := ⟨_, rfl⟩
    rw [← g1301] at A1298 st1299
    have n1302 : a1285 ≠ a1300 := own_lt_ne F1289.lt g1301
    have n1303 : a1300 ≠ a1285 := fun q => n1302 q.symm
    have ge1304 : n0 ≤ a1300 := own_ge_of Z1288 g1301
    have Z1305 : n0 ≤ h1293.size := Nat.le_trans Z1288 E1297.1
    clear Z1288
    have F1306 : own_A Z h1293 a1285 .int [(.int (0 : Int32)), (.int (0 : Int32)), (.int (0 : Int32)), (.int (0 : Int32)), (.int (0 : Int32)), (.int (0 : Int32))] := F1289.ext E1297
    clear F1289
    have F1307 : own_A Z h1293 a1300 .double [(.double (0 : UInt64)), (.double (0 : UInt64)), (.double (0 : UInt64)), (.double (0 : UInt64)), (.double (0 : UInt64)), (.double (0 : UInt64))] := own_A.new A1298
    have k1308 : own_G p e below E0 T1292 (mkF m 172 #[vi p0, vj p1, ss, vj p2, ss, vi p3, vi p4, vi p5, vi (0 : Int32), vd (FP.i2d (p0 >>> ((8 : Int32) &&& 31))), ss, vi f0, vi f1, vi f2, vi (0 : Int32), vi (0 : Int32), vi (0 : Int32), vi (own_val p1 (0 : Int32)), vi (own_val p1 (16 : Int32)), vi (own_val p1 (32 : Int32)), vi (own_val p2 (0 : Int32)), vi (own_val p2 (16 : Int32)), vi (own_val p2 (32 : Int32)), vr a1285, uu, uu, uu, uu, uu, uu, uu, uu, uu, uu, uu, uu, uu] [(.ref a1300)]) := fun tQ kk => k1291 tQ (st1299 _ kk)
    clear k1291 st1299
    have P0 : own_le (0 : Int32) 0 := ⟨by decide, by decide, by decide⟩
    have lC0 := own_len6 (.int (0 : Int32))
    have lW0 := own_len6 (.double (0 : UInt64))
    have k1309 : own_G p e below E0 T1292 (mkF m 188 #[vi p0, vj p1, ss, vj p2, ss, vi p3, vi p4, vi p5, vi (0 : Int32), vd (FP.i2d (p0 >>> ((8 : Int32) &&& 31))), ss, vi f0, vi f1, vi f2, vi (0 : Int32), vi (0 : Int32), vi (0 : Int32), vi (own_val p1 (0 : Int32)), vi (own_val p1 (16 : Int32)), vi (own_val p1 (32 : Int32)), vi (own_val p2 (0 : Int32)), vi (own_val p2 (16 : Int32)), vi (own_val p2 (32 : Int32)), vr a1285, vr a1300, vi (0 : Int32), uu, uu, uu, uu, uu, uu, uu, uu, uu, uu, uu] [(.int (own_val p1 (0 : Int32))), (.int (0 : Int32)), (.int f0), (.int (0 : Int32)), (.ref a1300), (.ref a1285)]) := by
      intro tQ kk
      refine k1308 tQ ?_
      refine XS.astore X1295.here hx rfl (hb hby at_172) rfl rfl (l' := #[vi p0, vj p1, ss, vj p2, ss, vi p3, vi p4, vi p5, vi (0 : Int32), vd (FP.i2d (p0 >>> ((8 : Int32) &&& 31))), ss, vi f0, vi f1, vi f2, vi (0 : Int32), vi (0 : Int32), vi (0 : Int32), vi (own_val p1 (0 : Int32)), vi (own_val p1 (16 : Int32)), vi (own_val p1 (32 : Int32)), vi (own_val p2 (0 : Int32)), vi (own_val p2 (16 : Int32)), vi (own_val p2 (32 : Int32)), vr a1285, vr a1300, uu, uu, uu, uu, uu, uu, uu, uu, uu, uu, uu, uu]) rfl ?_
      refine XS.iconst X1295.here hx rfl (hb hby at_174) ?_
      refine XS.istore X1295.here hx rfl (hb hby at_175) rfl (l' := #[vi p0, vj p1, ss, vj p2, ss, vi p3, vi p4, vi p5, vi (0 : Int32), vd (FP.i2d (p0 >>> ((8 : Int32) &&& 31))), ss, vi f0, vi f1, vi f2, vi (0 : Int32), vi (0 : Int32), vi (0 : Int32), vi (own_val p1 (0 : Int32)), vi (own_val p1 (16 : Int32)), vi (own_val p1 (32 : Int32)), vi (own_val p2 (0 : Int32)), vi (own_val p2 (16 : Int32)), vi (own_val p2 (32 : Int32)), vr a1285, vr a1300, vi (0 : Int32), uu, uu, uu, uu, uu, uu, uu, uu, uu, uu, uu]) rfl ?_
      refine XS.aload X1295.here hx rfl (hb hby at_177) rfl rfl ?_
      show Steps p.tables e below (T1292.setTop (mkF m 179 #[vi p0, vj p1, ss, vj p2, ss, vi p3, vi p4, vi p5, vi (0 : Int32), vd (FP.i2d (p0 >>> ((8 : Int32) &&& 31))), ss, vi f0, vi f1, vi f2, vi (0 : Int32), vi (0 : Int32), vi (0 : Int32), vi (own_val p1 (0 : Int32)), vi (own_val p1 (16 : Int32)), vi (own_val p1 (32 : Int32)), vi (own_val p2 (0 : Int32)), vi (own_val p2 (16 : Int32)), vi (own_val p2 (32 : Int32)), vr a1285, vr a1300, vi (0 : Int32), uu, uu, uu, uu, uu, uu, uu, uu, uu, uu, uu] [(.ref a1285)])) tQ
      refine XS.aload X1295.here hx rfl (hb hby at_179) rfl rfl ?_
      refine XS.iload X1295.here hx rfl (hb hby at_181) rfl ?_
      refine XS.iload X1295.here hx rfl (hb hby at_183) rfl ?_
      refine XS.iconst X1295.here hx rfl (hb hby at_185) ?_
      show Steps p.tables e below (T1292.setTop (mkF m 186 #[vi p0, vj p1, ss, vj p2, ss, vi p3, vi p4, vi p5, vi (0 : Int32), vd (FP.i2d (p0 >>> ((8 : Int32) &&& 31))), ss, vi f0, vi f1, vi f2, vi (0 : Int32), vi (0 : Int32), vi (0 : Int32), vi (own_val p1 (0 : Int32)), vi (own_val p1 (16 : Int32)), vi (own_val p1 (32 : Int32)), vi (own_val p2 (0 : Int32)), vi (own_val p2 (16 : Int32)), vi (own_val p2 (32 : Int32)), vr a1285, vr a1300, vi (0 : Int32), uu, uu, uu, uu, uu, uu, uu, uu, uu, uu, uu] [(.int (0 : Int32)), (.int f0), (.int (0 : Int32)), (.ref a1300), (.ref a1285)])) tQ
      refine XS.iload X1295.here hx rfl (hb hby at_186) rfl ?_
      exact kk
    clear k1308
    obtain ⟨_, _, ⟨T1310, L1311, kc1312, nc1313⟩, -, X1314, ⟨Lc1315, hQ1316, l1317, y1318, z1319⟩, st1320⟩ := Jvm.LawKit.callS X1295 hx (y := mn1) hown (mvT hZ (tw6 hw)) (mvT hZ (tw7 hw)) (mvT hZ (tw2 hw)) (mvT hZ (tw8 hw)) (by decide) (backOf (W := 0) (rmPut l Z a0 hw [] a1285 a1300 (0 : Int32) f0 (0 : Int32) (own_val p1 (0 : Int32)) ([(.int (0 : Int32)), (.int (0 : Int32)), (.int (0 : Int32)), (.int (0 : Int32)), (.int (0 : Int32)), (.int (0 : Int32))]) ([(.double (0 : UInt64)), (.double (0 : UInt64)), (.double (0 : UInt64)), (.double (0 : UInt64)), (.double (0 : UInt64)), (.double (0 : UInt64))]) h1293 n0 Z1305 F1306 F1307 n1302 ge1287 ge1304 P0.1 (own_rg P0 (by decide) lC0) (own_rg P0 (by decide) lW0)) hZ (tw8 hw) (tw2 hw) (by decide) (by decide)) (g := (mkF m 188 #[vi p0, vj p1, ss, vj p2, ss, vi p3, vi p4, vi p5, vi (0 : Int32), vd (FP.i2d (p0 >>> ((8 : Int32) &&& 31))), ss, vi f0, vi f1, vi f2, vi (0 : Int32), vi (0 : Int32), vi (0 : Int32), vi (own_val p1 (0 : Int32)), vi (own_val p1 (16 : Int32)), vi (own_val p1 (32 : Int32)), vi (own_val p2 (0 : Int32)), vi (own_val p2 (16 : Int32)), vi (own_val p2 (32 : Int32)), vr a1285, vr a1300, vi (0 : Int32), uu, uu, uu, uu, uu, uu, uu, uu, uu, uu, uu] [(.int (own_val p1 (0 : Int32))), (.int (0 : Int32)), (.int f0), (.int (0 : Int32)), (.ref a1300), (.ref a1285)])) rfl (by rw [hml]; rfl) (argsL := [(.ref a1285), (.ref a1300), (.int (0 : Int32)), (.int f0), (.int (0 : Int32)), (.int (own_val p1 (0 : Int32)))]) (rest := []) (lenOf pd_12 rfl) rfl (by show 2 * 0 + _ ≤ _; exact Nat.le_of_eq rfl) (hb hby at_188) (fun _ _ => ⟨rfl, e1296, (by decide : 2 + 0 ≤ _), (by decide : 12 + 0 ≤ _)⟩)
    dsimp only [Pt.U, Pt.locs, Pt.cells, Pt.slots] at X1314 l1317 y1318 z1319 st1320 hQ1316
    subst y1318 z1319
    obtain ⟨rfl, N1321, K1324, g1325, g1326⟩ := hQ1316
    have N1327 : Fr n0 L1311 := by rw [l1317]; exact Fr.app N1274 N1321
    clear l1317 N1321
    have Z1328 : n0 ≤ T1310.heap.size := Nat.le_trans Z1305 K1324.1
    clear Z1305
    clear F1306
    clear F1307
    have k1329 : own_G p e below E0 T1310 (mkF m 191 #[vi p0, vj p1, ss, vj p2, ss, vi p3, vi p4, vi p5, vi (0 : Int32), vd (FP.i2d (p0 >>> ((8 : Int32) &&& 31))), ss, vi f0, vi f1, vi f2, vi (0 : Int32), vi (0 : Int32), vi (0 : Int32), vi (own_val p1 (0 : Int32)), vi (own_val p1 (16 : Int32)), vi (own_val p1 (32 : Int32)), vi (own_val p2 (0 : Int32)), vi (own_val p2 (16 : Int32)), vi (own_val p2 (32 : Int32)), vr a1285, vr a1300, vi (0 : Int32), uu, uu, uu, uu, uu, uu, uu, uu, uu, uu, uu] [(.int (own_pos (0 : Int32) f0))]) := fun tQ kk => k1309 tQ (st1320 _ kk)
    clear k1309 st1320
    obtain ⟨ps1, hps1⟩ : ∃ z, z = (own_pos (0 : Int32) f0) := ⟨_, rfl⟩
    have eq1330 : (own_pos (0 : Int32) f0) = ps1 := hps1.symm
    rw [eq1330] at k1329
    obtain ⟨LC1, hLC1⟩ : ∃ z, z = (own_putL [(.int (0 : Int32)), (.int (0 : Int32)), (.int (0 : Int32)), (.int (0 : Int32)), (.int (0 : Int32)), (.int (0 : Int32))] (0 : Int32) f0 (.int (0 : Int32))) := ⟨_, rfl⟩
    have F1331 : own_A Z T1310.heap a1285 .int LC1 := by rw [hLC1]; exact g1325
    obtain ⟨LW1, hLW1⟩ : ∃ z, z = (own_putL [(.double (0 : UInt64)), (.double (0 : UInt64)), (.double (0 : UInt64)), (.double (0 : UInt64)), (.double (0 : UInt64)), (.double (0 : UInt64))] (0 : Int32) f0 (.double (FP.i2d (own_val p1 (0 : Int32))))) := ⟨_, rfl⟩
    have F1332 : own_A Z T1310.heap a1300 .double LW1 := by rw [hLW1]; exact g1326
    have P1 : own_le ps1 1 := by rw [hps1]; exact own_pos_le P0 _
    have lC1 : LC1.length = 6 := by rw [hLC1, own_putL_len]; exact lC0
    have lW1 : LW1.length = 6 := by rw [hLW1, own_putL_len]; exact lW0
    have k1333 : own_G p e below E0 T1310 (mkF m 204 #[vi p0, vj p1, ss, vj p2, ss, vi p3, vi p4, vi p5, vi (0 : Int32), vd (FP.i2d (p0 >>> ((8 : Int32) &&& 31))), ss, vi f0, vi f1, vi f2, vi (0 : Int32), vi (0 : Int32), vi (0 : Int32), vi (own_val p1 (0 : Int32)), vi (own_val p1 (16 : Int32)), vi (own_val p1 (32 : Int32)), vi (own_val p2 (0 : Int32)), vi (own_val p2 (16 : Int32)), vi (own_val p2 (32 : Int32)), vr a1285, vr a1300, vi ps1, uu, uu, uu, uu, uu, uu, uu, uu, uu, uu, uu] [(.int (own_val p1 (16 : Int32))), (.int (1 : Int32)), (.int f1), (.int ps1), (.ref a1300), (.ref a1285)]) := by
      intro tQ kk
      refine k1329 tQ ?_
      refine XS.istore X1314.here hx rfl (hb hby at_191) rfl (l' := #[vi p0, vj p1, ss, vj p2, ss, vi p3, vi p4, vi p5, vi (0 : Int32), vd (FP.i2d (p0 >>> ((8 : Int32) &&& 31))), ss, vi f0, vi f1, vi f2, vi (0 : Int32), vi (0 : Int32), vi (0 : Int32), vi (own_val p1 (0 : Int32)), vi (own_val p1 (16 : Int32)), vi (own_val p1 (32 : Int32)), vi (own_val p2 (0 : Int32)), vi (own_val p2 (16 : Int32)), vi (own_val p2 (32 : Int32)), vr a1285, vr a1300, vi ps1, uu, uu, uu, uu, uu, uu, uu, uu, uu, uu, uu]) rfl ?_
      refine XS.aload X1314.here hx rfl (hb hby at_193) rfl rfl ?_
      refine XS.aload X1314.here hx rfl (hb hby at_195) rfl rfl ?_
      refine XS.iload X1314.here hx rfl (hb hby at_197) rfl ?_
      show Steps p.tables e below (T1310.setTop (mkF m 199 #[vi p0, vj p1, ss, vj p2, ss, vi p3, vi p4, vi p5, vi (0 : Int32), vd (FP.i2d (p0 >>> ((8 : Int32) &&& 31))), ss, vi f0, vi f1, vi f2, vi (0 : Int32), vi (0 : Int32), vi (0 : Int32), vi (own_val p1 (0 : Int32)), vi (own_val p1 (16 : Int32)), vi (own_val p1 (32 : Int32)), vi (own_val p2 (0 : Int32)), vi (own_val p2 (16 : Int32)), vi (own_val p2 (32 : Int32)), vr a1285, vr a1300, vi ps1, uu, uu, uu, uu, uu, uu, uu, uu, uu, uu, uu] [(.int ps1), (.ref a1300), (.ref a1285)])) tQ
      refine XS.iload X1314.here hx rfl (hb hby at_199) rfl ?_
      refine XS.iconst X1314.here hx rfl (hb hby at_201) ?_
      refine XS.iload X1314.here hx rfl (hb hby at_202) rfl ?_
      exact kk
    clear k1329
    obtain ⟨_, _, ⟨T1334, L1335, kc1336, nc1337⟩, -, X1338, ⟨Lc1339, hQ1340, l1341, y1342, z1343⟩, st1344⟩ := Jvm.LawKit.callS X1314 hx (y := mn1) hown (mvT hZ (tw6 hw)) (mvT hZ (tw7 hw)) (mvT hZ (tw2 hw)) (mvT hZ (tw8 hw)) (by decide) (backOf (W := 0) (rmPut l Z a0 hw [] a1285 a1300 ps1 f1 (1 : Int32) (own_val p1 (16 : Int32)) LC1 LW1 T1310.heap n0 Z1328 F1331 F1332 n1302 ge1287 ge1304 P1.1 (own_rg P1 (by decide) lC1) (own_rg P1 (by decide) lW1)) hZ (tw8 hw) (tw2 hw) (by decide) (by decide)) (g := (mkF m 204 #[vi p0, vj p1, ss, vj p2, ss, vi p3, vi p4, vi p5, vi (0 : Int32), vd (FP.i2d (p0 >>> ((8 : Int32) &&& 31))), ss, vi f0, vi f1, vi f2, vi (0 : Int32), vi (0 : Int32), vi (0 : Int32), vi (own_val p1 (0 : Int32)), vi (own_val p1 (16 : Int32)), vi (own_val p1 (32 : Int32)), vi (own_val p2 (0 : Int32)), vi (own_val p2 (16 : Int32)), vi (own_val p2 (32 : Int32)), vr a1285, vr a1300, vi ps1, uu, uu, uu, uu, uu, uu, uu, uu, uu, uu, uu] [(.int (own_val p1 (16 : Int32))), (.int (1 : Int32)), (.int f1), (.int ps1), (.ref a1300), (.ref a1285)])) rfl (by rw [hml]; rfl) (argsL := [(.ref a1285), (.ref a1300), (.int ps1), (.int f1), (.int (1 : Int32)), (.int (own_val p1 (16 : Int32)))]) (rest := []) (lenOf pd_12 rfl) rfl (by show 2 * 0 + _ ≤ _; exact Nat.le_of_eq rfl) (hb hby at_204) (fun _ _ => ⟨rfl, rfl, (by decide : 2 + 0 ≤ _), (by decide : 12 + 0 ≤ _)⟩)
    dsimp only [Pt.U, Pt.locs, Pt.cells, Pt.slots] at X1338 l1341 y1342 z1343 st1344 hQ1340
    subst y1342 z1343
    obtain ⟨rfl, N1345, K1348, g1349, g1350⟩ := hQ1340
    have N1351 : Fr n0 L1335 := by rw [l1341]; exact Fr.app N1327 N1345
    clear l1341 N1345
    have Z1352 : n0 ≤ T1334.heap.size := Nat.le_trans Z1328 K1348.1
    clear Z1328
    clear F1331
    clear F1332
    have k1353 : own_G p e below E0 T1334 (mkF m 207 #[vi p0, vj p1, ss, vj p2, ss, vi p3, vi p4, vi p5, vi (0 : Int32), vd (FP.i2d (p0 >>> ((8 : Int32) &&& 31))), ss, vi f0, vi f1, vi f2, vi (0 : Int32), vi (0 : Int32), vi (0 : Int32), vi (own_val p1 (0 : Int32)), vi (own_val p1 (16 : Int32)), vi (own_val p1 (32 : Int32)), vi (own_val p2 (0 : Int32)), vi (own_val p2 (16 : Int32)), vi (own_val p2 (32 : Int32)), vr a1285, vr a1300, vi ps1, uu, uu, uu, uu, uu, uu, uu, uu, uu, uu, uu] [(.int (own_pos ps1 f1))]) := fun tQ kk => k1333 tQ (st1344 _ kk)
    clear k1333 st1344
    obtain ⟨ps2, hps2⟩ : ∃ z, z = (own_pos ps1 f1) := ⟨_, rfl⟩
    have eq1354 : (own_pos ps1 f1) = ps2 := hps2.symm
    rw [eq1354] at k1353
    obtain ⟨LC2, hLC2⟩ : ∃ z, z = (own_putL LC1 ps1 f1 (.int (1 : Int32))) := ⟨_, rfl⟩
    have F1355 : own_A Z T1334.heap a1285 .int LC2 := by rw [hLC2]; exact g1349
    obtain ⟨LW2, hLW2⟩ : ∃ z, z = (own_putL LW1 ps1 f1 (.double (FP.i2d (own_val p1 (16 : Int32))))) := ⟨_, rfl⟩
    have F1356 : own_A Z T1334.heap a1300 .double LW2 := by rw [hLW2]; exact g1350
    have P2 : own_le ps2 2 := by rw [hps2]; exact own_pos_le P1 _
    have lC2 : LC2.length = 6 := by rw [hLC2, own_putL_len]; exact lC1
    have lW2 : LW2.length = 6 := by rw [hLW2, own_putL_len]; exact lW1
    have k1357 : own_G p e below E0 T1334 (mkF m 220 #[vi p0, vj p1, ss, vj p2, ss, vi p3, vi p4, vi p5, vi (0 : Int32), vd (FP.i2d (p0 >>> ((8 : Int32) &&& 31))), ss, vi f0, vi f1, vi f2, vi (0 : Int32), vi (0 : Int32), vi (0 : Int32), vi (own_val p1 (0 : Int32)), vi (own_val p1 (16 : Int32)), vi (own_val p1 (32 : Int32)), vi (own_val p2 (0 : Int32)), vi (own_val p2 (16 : Int32)), vi (own_val p2 (32 : Int32)), vr a1285, vr a1300, vi ps2, uu, uu, uu, uu, uu, uu, uu, uu, uu, uu, uu] [(.int (own_val p1 (32 : Int32))), (.int (2 : Int32)), (.int f2), (.int ps2), (.ref a1300), (.ref a1285)]) := by
      intro tQ kk
      refine k1353 tQ ?_
      refine XS.istore X1338.here hx rfl (hb hby at_207) rfl (l' := #[vi p0, vj p1, ss, vj p2, ss, vi p3, vi p4, vi p5, vi (0 : Int32), vd (FP.i2d (p0 >>> ((8 : Int32) &&& 31))), ss, vi f0, vi f1, vi f2, vi (0 : Int32), vi (0 : Int32), vi (0 : Int32), vi (own_val p1 (0 : Int32)), vi (own_val p1 (16 : Int32)), vi (own_val p1 (32 : Int32)), vi (own_val p2 (0 : Int32)), vi (own_val p2 (16 : Int32)), vi (own_val p2 (32 : Int32)), vr a1285, vr a1300, vi ps2, uu, uu, uu, uu, uu, uu, uu, uu, uu, uu, uu]) rfl ?_
      refine XS.aload X1338.here hx rfl (hb hby at_209) rfl rfl ?_
      refine XS.aload X1338.here hx rfl (hb hby at_211) rfl rfl ?_
      refine XS.iload X1338.here hx rfl (hb hby at_213) rfl ?_
      show Steps p.tables e below (T1334.setTop (mkF m 215 #[vi p0, vj p1, ss, vj p2, ss, vi p3, vi p4, vi p5, vi (0 : Int32), vd (FP.i2d (p0 >>> ((8 : Int32) &&& 31))), ss, vi f0, vi f1, vi f2, vi (0 : Int32), vi (0 : Int32), vi (0 : Int32), vi (own_val p1 (0 : Int32)), vi (own_val p1 (16 : Int32)), vi (own_val p1 (32 : Int32)), vi (own_val p2 (0 : Int32)), vi (own_val p2 (16 : Int32)), vi (own_val p2 (32 : Int32)), vr a1285, vr a1300, vi ps2, uu, uu, uu, uu, uu, uu, uu, uu, uu, uu, uu] [(.int ps2), (.ref a1300), (.ref a1285)])) tQ
      refine XS.iload X1338.here hx rfl (hb hby at_215) rfl ?_
      refine XS.iconst X1338.here hx rfl (hb hby at_217) ?_
      refine XS.iload X1338.here hx rfl (hb hby at_218) rfl ?_
      exact kk
    clear k1353
    obtain ⟨_, _, ⟨T1358, L1359, kc1360, nc1361⟩, -, X1362, ⟨Lc1363, hQ1364, l1365, y1366, z1367⟩, st1368⟩ := Jvm.LawKit.callS X1338 hx (y := mn1) hown (mvT hZ (tw6 hw)) (mvT hZ (tw7 hw)) (mvT hZ (tw2 hw)) (mvT hZ (tw8 hw)) (by decide) (backOf (W := 0) (rmPut l Z a0 hw [] a1285 a1300 ps2 f2 (2 : Int32) (own_val p1 (32 : Int32)) LC2 LW2 T1334.heap n0 Z1352 F1355 F1356 n1302 ge1287 ge1304 P2.1 (own_rg P2 (by decide) lC2) (own_rg P2 (by decide) lW2)) hZ (tw8 hw) (tw2 hw) (by decide) (by decide)) (g := (mkF m 220 #[vi p0, vj p1, ss, vj p2, ss, vi p3, vi p4, vi p5, vi (0 : Int32), vd (FP.i2d (p0 >>> ((8 : Int32) &&& 31))), ss, vi f0, vi f1, vi f2, vi (0 : Int32), vi (0 : Int32), vi (0 : Int32), vi (own_val p1 (0 : Int32)), vi (own_val p1 (16 : Int32)), vi (own_val p1 (32 : Int32)), vi (own_val p2 (0 : Int32)), vi (own_val p2 (16 : Int32)), vi (own_val p2 (32 : Int32)), vr a1285, vr a1300, vi ps2, uu, uu, uu, uu, uu, uu, uu, uu, uu, uu, uu] [(.int (own_val p1 (32 : Int32))), (.int (2 : Int32)), (.int f2), (.int ps2), (.ref a1300), (.ref a1285)])) rfl (by rw [hml]; rfl) (argsL := [(.ref a1285), (.ref a1300), (.int ps2), (.int f2), (.int (2 : Int32)), (.int (own_val p1 (32 : Int32)))]) (rest := []) (lenOf pd_12 rfl) rfl (by show 2 * 0 + _ ≤ _; exact Nat.le_of_eq rfl) (hb hby at_220) (fun _ _ => ⟨rfl, rfl, (by decide : 2 + 0 ≤ _), (by decide : 12 + 0 ≤ _)⟩)
    dsimp only [Pt.U, Pt.locs, Pt.cells, Pt.slots] at X1362 l1365 y1366 z1367 st1368 hQ1364
    subst y1366 z1367
    obtain ⟨rfl, N1369, K1372, g1373, g1374⟩ := hQ1364
    have N1375 : Fr n0 L1359 := by rw [l1365]; exact Fr.app N1351 N1369
    clear l1365 N1369
    have Z1376 : n0 ≤ T1358.heap.size := Nat.le_trans Z1352 K1372.1
    clear Z1352
    clear F1355
    clear F1356
    have k1377 : own_G p e below E0 T1358 (mkF m 223 #[vi p0, vj p1, ss, vj p2, ss, vi p3, vi p4, vi p5, vi (0 : Int32), vd (FP.i2d (p0 >>> ((8 : Int32) &&& 31))), ss, vi f0, vi f1, vi f2, vi (0 : Int32), vi (0 : Int32), vi (0 : Int32), vi (own_val p1 (0 : Int32)), vi (own_val p1 (16 : Int32)), vi (own_val p1 (32 : Int32)), vi (own_val p2 (0 : Int32)), vi (own_val p2 (16 : Int32)), vi (own_val p2 (32 : Int32)), vr a1285, vr a1300, vi ps2, uu, uu, uu, uu, uu, uu, uu, uu, uu, uu, uu] [(.int (own_pos ps2 f2))]) := fun tQ kk => k1357 tQ (st1368 _ kk)
    clear k1357 st1368
    obtain ⟨ps3, hps3⟩ : ∃ z, z = (own_pos ps2 f2) := ⟨_, rfl⟩
    have eq1378 : (own_pos ps2 f2) = ps3 := hps3.symm
    rw [eq1378] at k1377
    obtain ⟨LC3, hLC3⟩ : ∃ z, z = (own_putL LC2 ps2 f2 (.int (2 : Int32))) := ⟨_, rfl⟩
    have F1379 : own_A Z T1358.heap a1285 .int LC3 := by rw [hLC3]; exact g1373
    obtain ⟨LW3, hLW3⟩ : ∃ z, z = (own_putL LW2 ps2 f2 (.double (FP.i2d (own_val p1 (32 : Int32))))) := ⟨_, rfl⟩
    have F1380 : own_A Z T1358.heap a1300 .double LW3 := by rw [hLW3]; exact g1374
    have P3 : own_le ps3 3 := by rw [hps3]; exact own_pos_le P2 _
    have lC3 : LC3.length = 6 := by rw [hLC3, own_putL_len]; exact lC2
    have lW3 : LW3.length = 6 := by rw [hLW3, own_putL_len]; exact lW2
    have k1381 : own_G p e below E0 T1358 (mkF m 240 #[vi p0, vj p1, ss, vj p2, ss, vi p3, vi p4, vi p5, vi (0 : Int32), vd (FP.i2d (p0 >>> ((8 : Int32) &&& 31))), ss, vi f0, vi f1, vi f2, vi (0 : Int32), vi (0 : Int32), vi (0 : Int32), vi (own_val p1 (0 : Int32)), vi (own_val p1 (16 : Int32)), vi (own_val p1 (32 : Int32)), vi (own_val p2 (0 : Int32)), vi (own_val p2 (16 : Int32)), vi (own_val p2 (32 : Int32)), vr a1285, vr a1300, vi ps3, vi ps3, uu, uu, uu, uu, uu, uu, uu, uu, uu, uu] [(.int (own_val p2 (0 : Int32))), (.int (0 : Int32)), (.int (0 : Int32)), (.int ps3), (.ref a1300), (.ref a1285)]) := by
      intro tQ kk
      refine k1377 tQ ?_
      refine XS.istore X1362.here hx rfl (hb hby at_223) rfl (l' := #[vi p0, vj p1, ss, vj p2, ss, vi p3, vi p4, vi p5, vi (0 : Int32), vd (FP.i2d (p0 >>> ((8 : Int32) &&& 31))), ss, vi f0, vi f1, vi f2, vi (0 : Int32), vi (0 : Int32), vi (0 : Int32), vi (own_val p1 (0 : Int32)), vi (own_val p1 (16 : Int32)), vi (own_val p1 (32 : Int32)), vi (own_val p2 (0 : Int32)), vi (own_val p2 (16 : Int32)), vi (own_val p2 (32 : Int32)), vr a1285, vr a1300, vi ps3, uu, uu, uu, uu, uu, uu, uu, uu, uu, uu, uu]) rfl ?_
      refine XS.iload X1362.here hx rfl (hb hby at_225) rfl ?_
      refine XS.istore X1362.here hx rfl (hb hby at_227) rfl (l' := #[vi p0, vj p1, ss, vj p2, ss, vi p3, vi p4, vi p5, vi (0 : Int32), vd (FP.i2d (p0 >>> ((8 : Int32) &&& 31))), ss, vi f0, vi f1, vi f2, vi (0 : Int32), vi (0 : Int32), vi (0 : Int32), vi (own_val p1 (0 : Int32)), vi (own_val p1 (16 : Int32)), vi (own_val p1 (32 : Int32)), vi (own_val p2 (0 : Int32)), vi (own_val p2 (16 : Int32)), vi (own_val p2 (32 : Int32)), vr a1285, vr a1300, vi ps3, vi ps3, uu, uu, uu, uu, uu, uu, uu, uu, uu, uu]) rfl ?_
      refine XS.aload X1362.here hx rfl (hb hby at_229) rfl rfl ?_
      show Steps p.tables e below (T1358.setTop (mkF m 231 #[vi p0, vj p1, ss, vj p2, ss, vi p3, vi p4, vi p5, vi (0 : Int32), vd (FP.i2d (p0 >>> ((8 : Int32) &&& 31))), ss, vi f0, vi f1, vi f2, vi (0 : Int32), vi (0 : Int32), vi (0 : Int32), vi (own_val p1 (0 : Int32)), vi (own_val p1 (16 : Int32)), vi (own_val p1 (32 : Int32)), vi (own_val p2 (0 : Int32)), vi (own_val p2 (16 : Int32)), vi (own_val p2 (32 : Int32)), vr a1285, vr a1300, vi ps3, vi ps3, uu, uu, uu, uu, uu, uu, uu, uu, uu, uu] [(.ref a1285)])) tQ
      refine XS.aload X1362.here hx rfl (hb hby at_231) rfl rfl ?_
      refine XS.iload X1362.here hx rfl (hb hby at_233) rfl ?_
      refine XS.iload X1362.here hx rfl (hb hby at_235) rfl ?_
      refine XS.iconst X1362.here hx rfl (hb hby at_237) ?_
      show Steps p.tables e below (T1358.setTop (mkF m 238 #[vi p0, vj p1, ss, vj p2, ss, vi p3, vi p4, vi p5, vi (0 : Int32), vd (FP.i2d (p0 >>> ((8 : Int32) &&& 31))), ss, vi f0, vi f1, vi f2, vi (0 : Int32), vi (0 : Int32), vi (0 : Int32), vi (own_val p1 (0 : Int32)), vi (own_val p1 (16 : Int32)), vi (own_val p1 (32 : Int32)), vi (own_val p2 (0 : Int32)), vi (own_val p2 (16 : Int32)), vi (own_val p2 (32 : Int32)), vr a1285, vr a1300, vi ps3, vi ps3, uu, uu, uu, uu, uu, uu, uu, uu, uu, uu] [(.int (0 : Int32)), (.int (0 : Int32)), (.int ps3), (.ref a1300), (.ref a1285)])) tQ
      refine XS.iload X1362.here hx rfl (hb hby at_238) rfl ?_
      exact kk
    clear k1377
    obtain ⟨_, _, ⟨T1382, L1383, kc1384, nc1385⟩, -, X1386, ⟨Lc1387, hQ1388, l1389, y1390, z1391⟩, st1392⟩ := Jvm.LawKit.callS X1362 hx (y := mn1) hown (mvT hZ (tw6 hw)) (mvT hZ (tw7 hw)) (mvT hZ (tw2 hw)) (mvT hZ (tw8 hw)) (by decide) (backOf (W := 0) (rmPut l Z a0 hw [] a1285 a1300 ps3 (0 : Int32) (0 : Int32) (own_val p2 (0 : Int32)) LC3 LW3 T1358.heap n0 Z1376 F1379 F1380 n1302 ge1287 ge1304 P3.1 (own_rg P3 (by decide) lC3) (own_rg P3 (by decide) lW3)) hZ (tw8 hw) (tw2 hw) (by decide) (by decide)) (g := (mkF m 240 #[vi p0, vj p1, ss, vj p2, ss, vi p3, vi p4, vi p5, vi (0 : Int32), vd (FP.i2d (p0 >>> ((8 : Int32) &&& 31))), ss, vi f0, vi f1, vi f2, vi (0 : Int32), vi (0 : Int32), vi (0 : Int32), vi (own_val p1 (0 : Int32)), vi (own_val p1 (16 : Int32)), vi (own_val p1 (32 : Int32)), vi (own_val p2 (0 : Int32)), vi (own_val p2 (16 : Int32)), vi (own_val p2 (32 : Int32)), vr a1285, vr a1300, vi ps3, vi ps3, uu, uu, uu, uu, uu, uu, uu, uu, uu, uu] [(.int (own_val p2 (0 : Int32))), (.int (0 : Int32)), (.int (0 : Int32)), (.int ps3), (.ref a1300), (.ref a1285)])) rfl (by rw [hml]; rfl) (argsL := [(.ref a1285), (.ref a1300), (.int ps3), (.int (0 : Int32)), (.int (0 : Int32)), (.int (own_val p2 (0 : Int32)))]) (rest := []) (lenOf pd_12 rfl) rfl (by show 2 * 0 + _ ≤ _; exact Nat.le_of_eq rfl) (hb hby at_240) (fun _ _ => ⟨rfl, rfl, (by decide : 2 + 0 ≤ _), (by decide : 12 + 0 ≤ _)⟩)
    dsimp only [Pt.U, Pt.locs, Pt.cells, Pt.slots] at X1386 l1389 y1390 z1391 st1392 hQ1388
    subst y1390 z1391
    obtain ⟨rfl, N1393, K1396, g1397, g1398⟩ := hQ1388
    have N1399 : Fr n0 L1383 := by rw [l1389]; exact Fr.app N1375 N1393
    clear l1389 N1393
    have Z1400 : n0 ≤ T1382.heap.size := Nat.le_trans Z1376 K1396.1
    clear Z1376
    clear F1379
    clear F1380
    have k1401 : own_G p e below E0 T1382 (mkF m 243 #[vi p0, vj p1, ss, vj p2, ss, vi p3, vi p4, vi p5, vi (0 : Int32), vd (FP.i2d (p0 >>> ((8 : Int32) &&& 31))), ss, vi f0, vi f1, vi f2, vi (0 : Int32), vi (0 : Int32), vi (0 : Int32), vi (own_val p1 (0 : Int32)), vi (own_val p1 (16 : Int32)), vi (own_val p1 (32 : Int32)), vi (own_val p2 (0 : Int32)), vi (own_val p2 (16 : Int32)), vi (own_val p2 (32 : Int32)), vr a1285, vr a1300, vi ps3, vi ps3, uu, uu, uu, uu, uu, uu, uu, uu, uu, uu] [(.int (own_pos ps3 (0 : Int32)))]) := fun tQ kk => k1381 tQ (st1392 _ kk)
    clear k1381 st1392
    obtain ⟨ps4, hps4⟩ : ∃ z, z = (own_pos ps3 (0 : Int32)) := ⟨_, rfl⟩
    have eq1402 : (own_pos ps3 (0 : Int32)) = ps4 := hps4.symm
    rw [eq1402] at k1401
    obtain ⟨LC4, hLC4⟩ : ∃ z, z = (own_putL LC3 ps3 (0 : Int32) (.int (0 : Int32))) := ⟨_, rfl⟩
    have F1403 : own_A Z T1382.heap a1285 .int LC4 := by rw [hLC4]; exact g1397
    obtain ⟨LW4, hLW4⟩ : ∃ z, z = (own_putL LW3 ps3 (0 : Int32) (.double (FP.i2d (own_val p2 (0 : Int32))))) := ⟨_, rfl⟩
    have F1404 : own_A Z T1382.heap a1300 .double LW4 := by rw [hLW4]; exact g1398
    have P4 : own_le ps4 4 := by rw [hps4]; exact own_pos_le P3 _
    have lC4 : LC4.length = 6 := by rw [hLC4, own_putL_len]; exact lC3
    have lW4 : LW4.length = 6 := by rw [hLW4, own_putL_len]; exact lW3
    have k1405 : own_G p e below E0 T1382 (mkF m 256 #[vi p0, vj p1, ss, vj p2, ss, vi p3, vi p4, vi p5, vi (0 : Int32), vd (FP.i2d (p0 >>> ((8 : Int32) &&& 31))), ss, vi f0, vi f1, vi f2, vi (0 : Int32), vi (0 : Int32), vi (0 : Int32), vi (own_val p1 (0 : Int32)), vi (own_val p1 (16 : Int32)), vi (own_val p1 (32 : Int32)), vi (own_val p2 (0 : Int32)), vi (own_val p2 (16 : Int32)), vi (own_val p2 (32 : Int32)), vr a1285, vr a1300, vi ps4, vi ps3, uu, uu, uu, uu, uu, uu, uu, uu, uu, uu] [(.int (own_val p2 (16 : Int32))), (.int (1 : Int32)), (.int (0 : Int32)), (.int ps4), (.ref a1300), (.ref a1285)]) := by
      intro tQ kk
      refine k1401 tQ ?_
      refine XS.istore X1386.here hx rfl (hb hby at_243) rfl (l' := #[vi p0, vj p1, ss, vj p2, ss, vi p3, vi p4, vi p5, vi (0 : Int32), vd (FP.i2d (p0 >>> ((8 : Int32) &&& 31))), ss, vi f0, vi f1, vi f2, vi (0 : Int32), vi (0 : Int32), vi (0 : Int32), vi (own_val p1 (0 : Int32)), vi (own_val p1 (16 : Int32)), vi (own_val p1 (32 : Int32)), vi (own_val p2 (0 : Int32)), vi (own_val p2 (16 : Int32)), vi (own_val p2 (32 : Int32)), vr a1285, vr a1300, vi ps4, vi ps3, uu, uu, uu, uu, uu, uu, uu, uu, uu, uu]) rfl ?_
      refine XS.aload X1386.here hx rfl (hb hby at_245) rfl rfl ?_
      refine XS.aload X1386.here hx rfl (hb hby at_247) rfl rfl ?_
      refine XS.iload X1386.here hx rfl (hb hby at_249) rfl ?_
      show Steps p.tables e below (T1382.setTop (mkF m 251 #[vi p0, vj p1, ss, vj p2, ss, vi p3, vi p4, vi p5, vi (0 : Int32), vd (FP.i2d (p0 >>> ((8 : Int32) &&& 31))), ss, vi f0, vi f1, vi f2, vi (0 : Int32), vi (0 : Int32), vi (0 : Int32), vi (own_val p1 (0 : Int32)), vi (own_val p1 (16 : Int32)), vi (own_val p1 (32 : Int32)), vi (own_val p2 (0 : Int32)), vi (own_val p2 (16 : Int32)), vi (own_val p2 (32 : Int32)), vr a1285, vr a1300, vi ps4, vi ps3, uu, uu, uu, uu, uu, uu, uu, uu, uu, uu] [(.int ps4), (.ref a1300), (.ref a1285)])) tQ
      refine XS.iload X1386.here hx rfl (hb hby at_251) rfl ?_
      refine XS.iconst X1386.here hx rfl (hb hby at_253) ?_
      refine XS.iload X1386.here hx rfl (hb hby at_254) rfl ?_
      exact kk
    clear k1401
    obtain ⟨_, _, ⟨T1406, L1407, kc1408, nc1409⟩, -, X1410, ⟨Lc1411, hQ1412, l1413, y1414, z1415⟩, st1416⟩ := Jvm.LawKit.callS X1386 hx (y := mn1) hown (mvT hZ (tw6 hw)) (mvT hZ (tw7 hw)) (mvT hZ (tw2 hw)) (mvT hZ (tw8 hw)) (by decide) (backOf (W := 0) (rmPut l Z a0 hw [] a1285 a1300 ps4 (0 : Int32) (1 : Int32) (own_val p2 (16 : Int32)) LC4 LW4 T1382.heap n0 Z1400 F1403 F1404 n1302 ge1287 ge1304 P4.1 (own_rg P4 (by decide) lC4) (own_rg P4 (by decide) lW4)) hZ (tw8 hw) (tw2 hw) (by decide) (by decide)) (g := (mkF m 256 #[vi p0, vj p1, ss, vj p2, ss, vi p3, vi p4, vi p5, vi (0 : Int32), vd (FP.i2d (p0 >>> ((8 : Int32) &&& 31))), ss, vi f0, vi f1, vi f2, vi (0 : Int32), vi (0 : Int32), vi (0 : Int32), vi (own_val p1 (0 : Int32)), vi (own_val p1 (16 : Int32)), vi (own_val p1 (32 : Int32)), vi (own_val p2 (0 : Int32)), vi (own_val p2 (16 : Int32)), vi (own_val p2 (32 : Int32)), vr a1285, vr a1300, vi ps4, vi ps3, uu, uu, uu, uu, uu, uu, uu, uu, uu, uu] [(.int (own_val p2 (16 : Int32))), (.int (1 : Int32)), (.int (0 : Int32)), (.int ps4), (.ref a1300), (.ref a1285)])) rfl (by rw [hml]; rfl) (argsL := [(.ref a1285), (.ref a1300), (.int ps4), (.int (0 : Int32)), (.int (1 : Int32)), (.int (own_val p2 (16 : Int32)))]) (rest := []) (lenOf pd_12 rfl) rfl (by show 2 * 0 + _ ≤ _; exact Nat.le_of_eq rfl) (hb hby at_256) (fun _ _ => ⟨rfl, rfl, (by decide : 2 + 0 ≤ _), (by decide : 12 + 0 ≤ _)⟩)
    dsimp only [Pt.U, Pt.locs, Pt.cells, Pt.slots] at X1410 l1413 y1414 z1415 st1416 hQ1412
    subst y1414 z1415
    obtain ⟨rfl, N1417, K1420, g1421, g1422⟩ := hQ1412
    have N1423 : Fr n0 L1407 := by rw [l1413]; exact Fr.app N1399 N1417
    clear l1413 N1417
    have Z1424 : n0 ≤ T1406.heap.size := Nat.le_trans Z1400 K1420.1
    clear Z1400
    clear F1403
    clear F1404
    have k1425 : own_G p e below E0 T1406 (mkF m 259 #[vi p0, vj p1, ss, vj p2, ss, vi p3, vi p4, vi p5, vi (0 : Int32), vd (FP.i2d (p0 >>> ((8 : Int32) &&& 31))), ss, vi f0, vi f1, vi f2, vi (0 : Int32), vi (0 : Int32), vi (0 : Int32), vi (own_val p1 (0 : Int32)), vi (own_val p1 (16 : Int32)), vi (own_val p1 (32 : Int32)), vi (own_val p2 (0 : Int32)), vi (own_val p2 (16 : Int32)), vi (own_val p2 (32 : Int32)), vr a1285, vr a1300, vi ps4, vi ps3, uu, uu, uu, uu, uu, uu, uu, uu, uu, uu] [(.int (own_pos ps4 (0 : Int32)))]) := fun tQ kk => k1405 tQ (st1416 _ kk)
    clear k1405 st1416
    obtain ⟨ps5, hps5⟩ : ∃ z, z = (own_pos ps4 (0 : Int32)) := ⟨_, rfl⟩
    have eq1426 : (own_pos ps4 (0 : Int32)) = ps5 := hps5.symm
    rw [eq1426] at k1425
    obtain ⟨LC5, hLC5⟩ : ∃ z, z = (own_putL LC4 ps4 (0 : Int32) (.int (1 : Int32))) := ⟨_, rfl⟩
    have F1427 : own_A Z T1406.heap a1285 .int LC5 := by rw [hLC5]; exact g1421
    obtain ⟨LW5, hLW5⟩ : ∃ z, z = (own_putL LW4 ps4 (0 : Int32) (.double (FP.i2d (own_val p2 (16 : Int32))))) := ⟨_, rfl⟩
    have F1428 : own_A Z T1406.heap a1300 .double LW5 := by rw [hLW5]; exact g1422
    have P5 : own_le ps5 5 := by rw [hps5]; exact own_pos_le P4 _
    have lC5 : LC5.length = 6 := by rw [hLC5, own_putL_len]; exact lC4
    have lW5 : LW5.length = 6 := by rw [hLW5, own_putL_len]; exact lW4
    have k1429 : own_G p e below E0 T1406 (mkF m 272 #[vi p0, vj p1, ss, vj p2, ss, vi p3, vi p4, vi p5, vi (0 : Int32), vd (FP.i2d (p0 >>> ((8 : Int32) &&& 31))), ss, vi f0, vi f1, vi f2, vi (0 : Int32), vi (0 : Int32), vi (0 : Int32), vi (own_val p1 (0 : Int32)), vi (own_val p1 (16 : Int32)), vi (own_val p1 (32 : Int32)), vi (own_val p2 (0 : Int32)), vi (own_val p2 (16 : Int32)), vi (own_val p2 (32 : Int32)), vr a1285, vr a1300, vi ps5, vi ps3, uu, uu, uu, uu, uu, uu, uu, uu, uu, uu] [(.int (own_val p2 (32 : Int32))), (.int (2 : Int32)), (.int (0 : Int32)), (.int ps5), (.ref a1300), (.ref a1285)]) := by
      intro tQ kk
      refine k1425 tQ ?_
      refine XS.istore X1410.here hx rfl (hb hby at_259) rfl (l' := #[vi p0, vj p1, ss, vj p2, ss, vi p3, vi p4, vi p5, vi (0 : Int32), vd (FP.i2d (p0 >>> ((8 : Int32) &&& 31))), ss, vi f0, vi f1, vi f2, vi (0 : Int32), vi (0 : Int32), vi (0 : Int32), vi (own_val p1 (0 : Int32)), vi (own_val p1 (16 : Int32)), vi (own_val p1 (32 : Int32)), vi (own_val p2 (0 : Int32)), vi (own_val p2 (16 : Int32)), vi (own_val p2 (32 : Int32)), vr a1285, vr a1300, vi ps5, vi ps3, uu, uu, uu, uu, uu, uu, uu, uu, uu, uu]) rfl ?_
      refine XS.aload X1410.here hx rfl (hb hby at_261) rfl rfl ?_
      refine XS.aload X1410.here hx rfl (hb hby at_263) rfl rfl ?_
      refine XS.iload X1410.here hx rfl (hb hby at_265) rfl ?_
      show Steps p.tables e below (T1406.setTop (mkF m 267 #[vi p0, vj p1, ss, vj p2, ss, vi p3, vi p4, vi p5, vi (0 : Int32), vd (FP.i2d (p0 >>> ((8 : Int32) &&& 31))), ss, vi f0, vi f1, vi f2, vi (0 : Int32), vi (0 : Int32), vi (0 : Int32), vi (own_val p1 (0 : Int32)), vi (own_val p1 (16 : Int32)), vi (own_val p1 (32 : Int32)), vi (own_val p2 (0 : Int32)), vi (own_val p2 (16 : Int32)), vi (own_val p2 (32 : Int32)), vr a1285, vr a1300, vi ps5, vi ps3, uu, uu, uu, uu, uu, uu, uu, uu, uu, uu] [(.int ps5), (.ref a1300), (.ref a1285)])) tQ
      refine XS.iload X1410.here hx rfl (hb hby at_267) rfl ?_
      refine XS.iconst X1410.here hx rfl (hb hby at_269) ?_
      refine XS.iload X1410.here hx rfl (hb hby at_270) rfl ?_
      exact kk
    clear k1425
    obtain ⟨_, _, ⟨T1430, L1431, kc1432, nc1433⟩, -, X1434, ⟨Lc1435, hQ1436, l1437, y1438, z1439⟩, st1440⟩ := Jvm.LawKit.callS X1410 hx (y := mn1) hown (mvT hZ (tw6 hw)) (mvT hZ (tw7 hw)) (mvT hZ (tw2 hw)) (mvT hZ (tw8 hw)) (by decide) (backOf (W := 0) (rmPut l Z a0 hw [] a1285 a1300 ps5 (0 : Int32) (2 : Int32) (own_val p2 (32 : Int32)) LC5 LW5 T1406.heap n0 Z1424 F1427 F1428 n1302 ge1287 ge1304 P5.1 (own_rg P5 (by decide) lC5) (own_rg P5 (by decide) lW5)) hZ (tw8 hw) (tw2 hw) (by decide) (by decide)) (g := (mkF m 272 #[vi p0, vj p1, ss, vj p2, ss, vi p3, vi p4, vi p5, vi (0 : Int32), vd (FP.i2d (p0 >>> ((8 : Int32) &&& 31))), ss, vi f0, vi f1, vi f2, vi (0 : Int32), vi (0 : Int32), vi (0 : Int32), vi (own_val p1 (0 : Int32)), vi (own_val p1 (16 : Int32)), vi (own_val p1 (32 : Int32)), vi (own_val p2 (0 : Int32)), vi (own_val p2 (16 : Int32)), vi (own_val p2 (32 : Int32)), vr a1285, vr a1300, vi ps5, vi ps3, uu, uu, uu, uu, uu, uu, uu, uu, uu, uu] [(.int (own_val p2 (32 : Int32))), (.int (2 : Int32)), (.int (0 : Int32)), (.int ps5), (.ref a1300), (.ref a1285)])) rfl (by rw [hml]; rfl) (argsL := [(.ref a1285), (.ref a1300), (.int ps5), (.int (0 : Int32)), (.int (2 : Int32)), (.int (own_val p2 (32 : Int32)))]) (rest := []) (lenOf pd_12 rfl) rfl (by show 2 * 0 + _ ≤ _; exact Nat.le_of_eq rfl) (hb hby at_272) (fun _ _ => ⟨rfl, rfl, (by decide : 2 + 0 ≤ _), (by decide : 12 + 0 ≤ _)⟩)
    dsimp only [Pt.U, Pt.locs, Pt.cells, Pt.slots] at X1434 l1437 y1438 z1439 st1440 hQ1436
    subst y1438 z1439
    obtain ⟨rfl, N1441, K1444, g1445, g1446⟩ := hQ1436
    have N1447 : Fr n0 L1431 := by rw [l1437]; exact Fr.app N1423 N1441
    clear l1437 N1441
    have Z1448 : n0 ≤ T1430.heap.size := Nat.le_trans Z1424 K1444.1
    clear Z1424
    clear F1427
    clear F1428
    have k1449 : own_G p e below E0 T1430 (mkF m 275 #[vi p0, vj p1, ss, vj p2, ss, vi p3, vi p4, vi p5, vi (0 : Int32), vd (FP.i2d (p0 >>> ((8 : Int32) &&& 31))), ss, vi f0, vi f1, vi f2, vi (0 : Int32), vi (0 : Int32), vi (0 : Int32), vi (own_val p1 (0 : Int32)), vi (own_val p1 (16 : Int32)), vi (own_val p1 (32 : Int32)), vi (own_val p2 (0 : Int32)), vi (own_val p2 (16 : Int32)), vi (own_val p2 (32 : Int32)), vr a1285, vr a1300, vi ps5, vi ps3, uu, uu, uu, uu, uu, uu, uu, uu, uu, uu] [(.int (own_pos ps5 (0 : Int32)))]) := fun tQ kk => k1429 tQ (st1440 _ kk)
    clear k1429 st1440
    obtain ⟨ps6, hps6⟩ : ∃ z, z = (own_pos ps5 (0 : Int32)) := ⟨_, rfl⟩
    have eq1450 : (own_pos ps5 (0 : Int32)) = ps6 := hps6.symm
    rw [eq1450] at k1449
    obtain ⟨LC6, hLC6⟩ : ∃ z, z = (own_putL LC5 ps5 (0 : Int32) (.int (2 : Int32))) := ⟨_, rfl⟩
    have F1451 : own_A Z T1430.heap a1285 .int LC6 := by rw [hLC6]; exact g1445
    obtain ⟨LW6, hLW6⟩ : ∃ z, z = (own_putL LW5 ps5 (0 : Int32) (.double (FP.i2d (own_val p2 (32 : Int32))))) := ⟨_, rfl⟩
    have F1452 : own_A Z T1430.heap a1300 .double LW6 := by rw [hLW6]; exact g1446
    have P6 : own_le ps6 6 := by rw [hps6]; exact own_pos_le P5 _
    have lC6 : LC6.length = 6 := by rw [hLC6, own_putL_len]; exact lC5
    have lW6 : LW6.length = 6 := by rw [hLW6, own_putL_len]; exact lW5
    have k1453 : own_G p e below E0 T1430 (mkF m 287 #[vi p0, vj p1, ss, vj p2, ss, vi p3, vi p4, vi p5, vi (0 : Int32), vd (FP.i2d (p0 >>> ((8 : Int32) &&& 31))), ss, vi f0, vi f1, vi f2, vi (0 : Int32), vi (0 : Int32), vi (0 : Int32), vi (own_val p1 (0 : Int32)), vi (own_val p1 (16 : Int32)), vi (own_val p1 (32 : Int32)), vi (own_val p2 (0 : Int32)), vi (own_val p2 (16 : Int32)), vi (own_val p2 (32 : Int32)), vr a1285, vr a1300, vi ps6, vi ps3, vi ps6, uu, uu, uu, uu, uu, uu, uu, uu, uu] [(.int (1 : Int32))]) := by
      intro tQ kk
      refine k1449 tQ ?_
      refine XS.istore X1434.here hx rfl (hb hby at_275) rfl (l' := #[vi p0, vj p1, ss, vj p2, ss, vi p3, vi p4, vi p5, vi (0 : Int32), vd (FP.i2d (p0 >>> ((8 : Int32) &&& 31))), ss, vi f0, vi f1, vi f2, vi (0 : Int32), vi (0 : Int32), vi (0 : Int32), vi (own_val p1 (0 : Int32)), vi (own_val p1 (16 : Int32)), vi (own_val p1 (32 : Int32)), vi (own_val p2 (0 : Int32)), vi (own_val p2 (16 : Int32)), vi (own_val p2 (32 : Int32)), vr a1285, vr a1300, vi ps6, vi ps3, uu, uu, uu, uu, uu, uu, uu, uu, uu, uu]) rfl ?_
      refine XS.iload X1434.here hx rfl (hb hby at_277) rfl ?_
      refine XS.istore X1434.here hx rfl (hb hby at_279) rfl (l' := #[vi p0, vj p1, ss, vj p2, ss, vi p3, vi p4, vi p5, vi (0 : Int32), vd (FP.i2d (p0 >>> ((8 : Int32) &&& 31))), ss, vi f0, vi f1, vi f2, vi (0 : Int32), vi (0 : Int32), vi (0 : Int32), vi (own_val p1 (0 : Int32)), vi (own_val p1 (16 : Int32)), vi (own_val p1 (32 : Int32)), vi (own_val p2 (0 : Int32)), vi (own_val p2 (16 : Int32)), vi (own_val p2 (32 : Int32)), vr a1285, vr a1300, vi ps6, vi ps3, vi ps6, uu, uu, uu, uu, uu, uu, uu, uu, uu]) rfl ?_
      refine XS.iload X1434.here hx rfl (hb hby at_281) rfl ?_
      show Steps p.tables e below (T1430.setTop (mkF m 283 #[vi p0, vj p1, ss, vj p2, ss, vi p3, vi p4, vi p5, vi (0 : Int32), vd (FP.i2d (p0 >>> ((8 : Int32) &&& 31))), ss, vi f0, vi f1, vi f2, vi (0 : Int32), vi (0 : Int32), vi (0 : Int32), vi (own_val p1 (0 : Int32)), vi (own_val p1 (16 : Int32)), vi (own_val p1 (32 : Int32)), vi (own_val p2 (0 : Int32)), vi (own_val p2 (16 : Int32)), vi (own_val p2 (32 : Int32)), vr a1285, vr a1300, vi ps6, vi ps3, vi ps6, uu, uu, uu, uu, uu, uu, uu, uu, uu] [(.int (0 : Int32))])) tQ
      refine XS.ifNo X1434.here hx rfl (hb hby at_283) rfl (own_if_neN (by decide)) ?_
      refine XS.iconst X1434.here hx rfl (hb hby at_286) ?_
      exact kk
    clear k1449
    obtain ⟨T1454, h1455, cA1456, X1457, e1458, E1459, A1460, st1461⟩ := newP (aty := .int) X1434 hx hZ (tw4 hw) rfl (g := (mkF m 287 #[vi p0, vj p1, ss, vj p2, ss, vi p3, vi p4, vi p5, vi (0 : Int32), vd (FP.i2d (p0 >>> ((8 : Int32) &&& 31))), ss, vi f0, vi f1, vi f2, vi (0 : Int32), vi (0 : Int32), vi (0 : Int32), vi (own_val p1 (0 : Int32)), vi (own_val p1 (16 : Int32)), vi (own_val p1 (32 : Int32)), vi (own_val p2 (0 : Int32)), vi (own_val p2 (16 : Int32)), vi (own_val p2 (32 : Int32)), vr a1285, vr a1300, vi ps6, vi ps3, vi ps6, uu, uu, uu, uu, uu, uu, uu, uu, uu] [(.int (1 : Int32))])) rfl (hb hby at_287) rfl (by decide) (cap := 1) (by decide) (by decide) (by decide) (by decide)
    obtain ⟨a1462, g1463⟩ : ∃ zA : Nat, zA = T1430.heap.size := ⟨_, rfl⟩
    rw [← g1463] at A1460 st1461
    have n1464 : a1285 ≠ a1462 := own_lt_ne F1451.lt g1463
    have n1465 : a1462 ≠ a1285 := fun q => n1464 q.symm
    have n1466 : a1300 ≠ a1462 := own_lt_ne F1452.lt g1463
    have n1467 : a1462 ≠ a1300 := fun q => n1466 q.symm
    have ge1468 : n0 ≤ a1462 := own_ge_of Z1448 g1463
    have Z1469 : n0 ≤ h1455.size := Nat.le_trans Z1448 E1459.1
    clear Z1448
    have F1470 : own_A Z h1455 a1285 .int LC6 := F1451.ext E1459
    clear F1451
    have F1471 : own_A Z h1455 a1300 .double LW6 := F1452.ext E1459
    clear F1452
    have F1472 : own_A Z h1455 a1462 .int [(.int (0 : Int32))] := own_A.new A1460
    have k1473 : own_G p e below E0 T1454 (mkF m 289 #[vi p0, vj p1, ss, vj p2, ss, vi p3, vi p4, vi p5, vi (0 : Int32), vd (FP.i2d (p0 >>> ((8 : Int32) &&& 31))), ss, vi f0, vi f1, vi f2, vi (0 : Int32), vi (0 : Int32), vi (0 : Int32), vi (own_val p1 (0 : Int32)), vi (own_val p1 (16 : Int32)), vi (own_val p1 (32 : Int32)), vi (own_val p2 (0 : Int32)), vi (own_val p2 (16 : Int32)), vi (own_val p2 (32 : Int32)), vr a1285, vr a1300, vi ps6, vi ps3, vi ps6, uu, uu, uu, uu, uu, uu, uu, uu, uu] [(.ref a1462)]) := fun tQ kk => k1453 tQ (st1461 _ kk)
    clear k1453 st1461
    have k1474 : own_G p e below E0 T1454 (mkF m 292 #[vi p0, vj p1, ss, vj p2, ss, vi p3, vi p4, vi p5, vi (0 : Int32), vd (FP.i2d (p0 >>> ((8 : Int32) &&& 31))), ss, vi f0, vi f1, vi f2, vi (0 : Int32), vi (0 : Int32), vi (0 : Int32), vi (own_val p1 (0 : Int32)), vi (own_val p1 (16 : Int32)), vi (own_val p1 (32 : Int32)), vi (own_val p2 (0 : Int32)), vi (own_val p2 (16 : Int32)), vi (own_val p2 (32 : Int32)), vr a1285, vr a1300, vi ps6, vi ps3, vi ps6, uu, uu, uu, uu, uu, uu, uu, uu, uu] [(.int (0 : Int32)), (.int (0 : Int32)), (.ref a1462), (.ref a1462)]) := by
      intro tQ kk
      refine k1473 tQ ?_
      refine XS.dup X1457.here hx rfl (hb hby at_289) rfl rfl ?_
      refine XS.iconst X1457.here hx rfl (hb hby at_290) ?_
      refine XS.iconst X1457.here hx rfl (hb hby at_291) ?_
      exact kk
    clear k1473
    obtain ⟨T1475, h1476, X1477, e1478, W1479, F1480, st1481⟩ := own_A.ist X1457 hx hZ e1458 F1472 (j := (0 : Int32)) (by decide) rfl (g := (mkF m 292 #[vi p0, vj p1, ss, vj p2, ss, vi p3, vi p4, vi p5, vi (0 : Int32), vd (FP.i2d (p0 >>> ((8 : Int32) &&& 31))), ss, vi f0, vi f1, vi f2, vi (0 : Int32), vi (0 : Int32), vi (0 : Int32), vi (own_val p1 (0 : Int32)), vi (own_val p1 (16 : Int32)), vi (own_val p1 (32 : Int32)), vi (own_val p2 (0 : Int32)), vi (own_val p2 (16 : Int32)), vi (own_val p2 (32 : Int32)), vr a1285, vr a1300, vi ps6, vi ps3, vi ps6, uu, uu, uu, uu, uu, uu, uu, uu, uu] [(.int (0 : Int32)), (.int (0 : Int32)), (.ref a1462), (.ref a1462)])) rfl rfl (hb hby at_292)
    have N1482 := Fr.snoc X1477 N1447 ge1468
    have k1483 : own_G p e below E0 T1475 (mkF m 293 #[vi p0, vj p1, ss, vj p2, ss, vi p3, vi p4, vi p5, vi (0 : Int32), vd (FP.i2d (p0 >>> ((8 : Int32) &&& 31))), ss, vi f0, vi f1, vi f2, vi (0 : Int32), vi (0 : Int32), vi (0 : Int32), vi (own_val p1 (0 : Int32)), vi (own_val p1 (16 : Int32)), vi (own_val p1 (32 : Int32)), vi (own_val p2 (0 : Int32)), vi (own_val p2 (16 : Int32)), vi (own_val p2 (32 : Int32)), vr a1285, vr a1300, vi ps6, vi ps3, vi ps6, uu, uu, uu, uu, uu, uu, uu, uu, uu] [(.ref a1462)]) := fun tQ kk => k1474 tQ (st1481 _ kk)
    clear k1474 st1481
    have F1484 : own_A Z h1476 a1285 .int LC6 := F1470.other W1479 n1464
    clear F1470
    have F1485 : own_A Z h1476 a1300 .double LW6 := F1471.other W1479 n1466
    clear F1471
    have Z1486 : n0 ≤ h1476.size := by rw [W1479.size]; exact Z1469
    clear Z1469
    have F1487 : own_A Z h1476 a1462 .int [(.int (0 : Int32))] := F1480
    have k1488 : own_G p e below E0 T1475 (mkF m 341 #[vi p0, vj p1, ss, vj p2, ss, vi p3, vi p4, vi p5, vi (0 : Int32), vd (FP.i2d (p0 >>> ((8 : Int32) &&& 31))), ss, vi f0, vi f1, vi f2, vi (0 : Int32), vi (0 : Int32), vi (0 : Int32), vi (own_val p1 (0 : Int32)), vi (own_val p1 (16 : Int32)), vi (own_val p1 (32 : Int32)), vi (own_val p2 (0 : Int32)), vi (own_val p2 (16 : Int32)), vi (own_val p2 (32 : Int32)), vr a1285, vr a1300, vi ps6, vi ps3, vi ps6, vr a1462, uu, uu, uu, uu, uu, uu, uu, uu] [(.int (3 : Int32))]) := by
      intro tQ kk
      refine k1483 tQ ?_
      refine XS.astore X1477.here hx rfl (hb hby at_293) rfl rfl (l' := #[vi p0, vj p1, ss, vj p2, ss, vi p3, vi p4, vi p5, vi (0 : Int32), vd (FP.i2d (p0 >>> ((8 : Int32) &&& 31))), ss, vi f0, vi f1, vi f2, vi (0 : Int32), vi (0 : Int32), vi (0 : Int32), vi (own_val p1 (0 : Int32)), vi (own_val p1 (16 : Int32)), vi (own_val p1 (32 : Int32)), vi (own_val p2 (0 : Int32)), vi (own_val p2 (16 : Int32)), vi (own_val p2 (32 : Int32)), vr a1285, vr a1300, vi ps6, vi ps3, vi ps6, vr a1462, uu, uu, uu, uu, uu, uu, uu, uu]) rfl ?_
      refine XS.goto X1477.here hx rfl (pc0 := 295) (pc' := 340) rfl (hb hby at_295) (by decide) (by decide) ?_
      refine XS.iconst X1477.here hx rfl (hb hby at_340) ?_
      exact kk
    clear k1483
    obtain ⟨T1489, h1490, cA1491, X1492, e1493, E1494, A1495, st1496⟩ := newP (aty := .double) X1477 hx hZ (tw5 hw) e1478 (g := (mkF m 341 #[vi p0, vj p1, ss, vj p2, ss, vi p3, vi p4, vi p5, vi (0 : Int32), vd (FP.i2d (p0 >>> ((8 : Int32) &&& 31))), ss, vi f0, vi f1, vi f2, vi (0 : Int32), vi (0 : Int32), vi (0 : Int32), vi (own_val p1 (0 : Int32)), vi (own_val p1 (16 : Int32)), vi (own_val p1 (32 : Int32)), vi (own_val p2 (0 : Int32)), vi (own_val p2 (16 : Int32)), vi (own_val p2 (32 : Int32)), vr a1285, vr a1300, vi ps6, vi ps3, vi ps6, vr a1462, uu, uu, uu, uu, uu, uu, uu, uu] [(.int (3 : Int32))])) rfl (hb hby at_341) rfl (by decide) (cap := 3) (by decide) (by decide) (by decide) (by decide)
    obtain ⟨a1497, g1498⟩ : ∃ zA : Nat, zA = h1476.size := ⟨_, rfl⟩
    rw [← g1498] at A1495 st1496
    have n1499 : a1285 ≠ a1497 := own_lt_ne F1484.lt g1498
    have n1500 : a1497 ≠ a1285 := fun q => n1499 q.symm
    have n1501 : a1300 ≠ a1497 := own_lt_ne F1485.lt g1498
    have n1502 : a1497 ≠ a1300 := fun q => n1501 q.symm
    have n1503 : a1462 ≠ a1497 := own_lt_ne F1487.lt g1498
    have n1504 : a1497 ≠ a1462 := fun q => n1503 q.symm
    have ge1505 : n0 ≤ a1497 := own_ge_of Z1486 g1498
    have Z1506 : n0 ≤ h1490.size := Nat.le_trans Z1486 E1494.1
    clear Z1486
    have F1507 : own_A Z h1490 a1285 .int LC6 := F1484.ext E1494
    clear F1484
    have F1508 : own_A Z h1490 a1300 .double LW6 := F1485.ext E1494
    clear F1485
    have F1509 : own_A Z h1490 a1462 .int [(.int (0 : Int32))] := F1487.ext E1494
    clear F1487
    have F1510 : own_A Z h1490 a1497 .double [(.double (0 : UInt64)), (.double (0 : UInt64)), (.double (0 : UInt64))] := own_A.new A1495
    have k1511 : own_G p e below E0 T1489 (mkF m 343 #[vi p0, vj p1, ss, vj p2, ss, vi p3, vi p4, vi p5, vi (0 : Int32), vd (FP.i2d (p0 >>> ((8 : Int32) &&& 31))), ss, vi f0, vi f1, vi f2, vi (0 : Int32), vi (0 : Int32), vi (0 : Int32), vi (own_val p1 (0 : Int32)), vi (own_val p1 (16 : Int32)), vi (own_val p1 (32 : Int32)), vi (own_val p2 (0 : Int32)), vi (own_val p2 (16 : Int32)), vi (own_val p2 (32 : Int32)), vr a1285, vr a1300, vi ps6, vi ps3, vi ps6, vr a1462, uu, uu, uu, uu, uu, uu, uu, uu] [(.ref a1497)]) := fun tQ kk => k1488 tQ (st1496 _ kk)
    clear k1488 st1496
    have k1512 : own_G p e below E0 T1489 (mkF m 348 #[vi p0, vj p1, ss, vj p2, ss, vi p3, vi p4, vi p5, vi (0 : Int32), vd (FP.i2d (p0 >>> ((8 : Int32) &&& 31))), ss, vi f0, vi f1, vi f2, vi (0 : Int32), vi (0 : Int32), vi (0 : Int32), vi (own_val p1 (0 : Int32)), vi (own_val p1 (16 : Int32)), vi (own_val p1 (32 : Int32)), vi (own_val p2 (0 : Int32)), vi (own_val p2 (16 : Int32)), vi (own_val p2 (32 : Int32)), vr a1285, vr a1300, vi ps6, vi ps3, vi ps6, vr a1462, uu, uu, uu, uu, uu, uu, uu, uu] [(.double (FP.i2d p3)), (.int (0 : Int32)), (.ref a1497), (.ref a1497)]) := by
      intro tQ kk
      refine k1511 tQ ?_
      refine XS.dup X1492.here hx rfl (hb hby at_343) rfl rfl ?_
      refine XS.iconst X1492.here hx rfl (hb hby at_344) ?_
      refine XS.iload X1492.here hx rfl (hb hby at_345) rfl ?_
      refine XS.i2dS X1492.here hx rfl (hb hby at_347) rfl rfl ?_
      exact kk
    clear k1511
    obtain ⟨T1513, h1514, X1515, e1516, W1517, F1518, st1519⟩ := own_A.dst X1492 hx hZ e1493 F1510 (j := (0 : Int32)) (by decide) rfl (g := (mkF m 348 #[vi p0, vj p1, ss, vj p2, ss, vi p3, vi p4, vi p5, vi (0 : Int32), vd (FP.i2d (p0 >>> ((8 : Int32) &&& 31))), ss, vi f0, vi f1, vi f2, vi (0 : Int32), vi (0 : Int32), vi (0 : Int32), vi (own_val p1 (0 : Int32)), vi (own_val p1 (16 : Int32)), vi (own_val p1 (32 : Int32)), vi (own_val p2 (0 : Int32)), vi (own_val p2 (16 : Int32)), vi (own_val p2 (32 : Int32)), vr a1285, vr a1300, vi ps6, vi ps3, vi ps6, vr a1462, uu, uu, uu, uu, uu, uu, uu, uu] [(.double (FP.i2d p3)), (.int (0 : Int32)), (.ref a1497), (.ref a1497)])) rfl rfl (hb hby at_348)
    have N1520 := Fr.snoc X1515 N1482 ge1505
    have k1521 : own_G p e below E0 T1513 (mkF m 349 #[vi p0, vj p1, ss, vj p2, ss, vi p3, vi p4, vi p5, vi (0 : Int32), vd (FP.i2d (p0 >>> ((8 : Int32) &&& 31))), ss, vi f0, vi f1, vi f2, vi (0 : Int32), vi (0 : Int32), vi (0 : Int32), vi (own_val p1 (0 : Int32)), vi (own_val p1 (16 : Int32)), vi (own_val p1 (32 : Int32)), vi (own_val p2 (0 : Int32)), vi (own_val p2 (16 : Int32)), vi (own_val p2 (32 : Int32)), vr a1285, vr a1300, vi ps6, vi ps3, vi ps6, vr a1462, uu, uu, uu, uu, uu, uu, uu, uu] [(.ref a1497)]) := fun tQ kk => k1512 tQ (st1519 _ kk)
    clear k1512 st1519
    have F1522 : own_A Z h1514 a1285 .int LC6 := F1507.other W1517 n1499
    clear F1507
    have F1523 : own_A Z h1514 a1300 .double LW6 := F1508.other W1517 n1501
    clear F1508
    have F1524 : own_A Z h1514 a1462 .int [(.int (0 : Int32))] := F1509.other W1517 n1503
    clear F1509
    have Z1525 : n0 ≤ h1514.size := by rw [W1517.size]; exact Z1506
    clear Z1506
    have F1526 : own_A Z h1514 a1497 .double [(.double (FP.i2d p3)), (.double (0 : UInt64)), (.double (0 : UInt64))] := F1518
    have k1527 : own_G p e below E0 T1513 (mkF m 354 #[vi p0, vj p1, ss, vj p2, ss, vi p3, vi p4, vi p5, vi (0 : Int32), vd (FP.i2d (p0 >>> ((8 : Int32) &&& 31))), ss, vi f0, vi f1, vi f2, vi (0 : Int32), vi (0 : Int32), vi (0 : Int32), vi (own_val p1 (0 : Int32)), vi (own_val p1 (16 : Int32)), vi (own_val p1 (32 : Int32)), vi (own_val p2 (0 : Int32)), vi (own_val p2 (16 : Int32)), vi (own_val p2 (32 : Int32)), vr a1285, vr a1300, vi ps6, vi ps3, vi ps6, vr a1462, uu, uu, uu, uu, uu, uu, uu, uu] [(.double (FP.i2d p4)), (.int (1 : Int32)), (.ref a1497), (.ref a1497)]) := by
      intro tQ kk
      refine k1521 tQ ?_
      refine XS.dup X1515.here hx rfl (hb hby at_349) rfl rfl ?_
      refine XS.iconst X1515.here hx rfl (hb hby at_350) ?_
      refine XS.iload X1515.here hx rfl (hb hby at_351) rfl ?_
      refine XS.i2dS X1515.here hx rfl (hb hby at_353) rfl rfl ?_
      exact kk
    clear k1521
    obtain ⟨T1528, h1529, X1530, e1531, W1532, F1533, st1534⟩ := own_A.dst X1515 hx hZ e1516 F1526 (j := (1 : Int32)) (by decide) rfl (g := (mkF m 354 #[vi p0, vj p1, ss, vj p2, ss, vi p3, vi p4, vi p5, vi (0 : Int32), vd (FP.i2d (p0 >>> ((8 : Int32) &&& 31))), ss, vi f0, vi f1, vi f2, vi (0 : Int32), vi (0 : Int32), vi (0 : Int32), vi (own_val p1 (0 : Int32)), vi (own_val p1 (16 : Int32)), vi (own_val p1 (32 : Int32)), vi (own_val p2 (0 : Int32)), vi (own_val p2 (16 : Int32)), vi (own_val p2 (32 : Int32)), vr a1285, vr a1300, vi ps6, vi ps3, vi ps6, vr a1462, uu, uu, uu, uu, uu, uu, uu, uu] [(.double (FP.i2d p4)), (.int (1 : Int32)), (.ref a1497), (.ref a1497)])) rfl rfl (hb hby at_354)
    have N1535 := Fr.snoc X1530 N1520 ge1505
    have k1536 : own_G p e below E0 T1528 (mkF m 355 #[vi p0, vj p1, ss, vj p2, ss, vi p3, vi p4, vi p5, vi (0 : Int32), vd (FP.i2d (p0 >>> ((8 : Int32) &&& 31))), ss, vi f0, vi f1, vi f2, vi (0 : Int32), vi (0 : Int32), vi (0 : Int32), vi (own_val p1 (0 : Int32)), vi (own_val p1 (16 : Int32)), vi (own_val p1 (32 : Int32)), vi (own_val p2 (0 : Int32)), vi (own_val p2 (16 : Int32)), vi (own_val p2 (32 : Int32)), vr a1285, vr a1300, vi ps6, vi ps3, vi ps6, vr a1462, uu, uu, uu, uu, uu, uu, uu, uu] [(.ref a1497)]) := fun tQ kk => k1527 tQ (st1534 _ kk)
    clear k1527 st1534
    have F1537 : own_A Z h1529 a1285 .int LC6 := F1522.other W1532 n1499
    clear F1522
    have F1538 : own_A Z h1529 a1300 .double LW6 := F1523.other W1532 n1501
    clear F1523
    have F1539 : own_A Z h1529 a1462 .int [(.int (0 : Int32))] := F1524.other W1532 n1503
    clear F1524
    have Z1540 : n0 ≤ h1529.size := by rw [W1532.size]; exact Z1525
    clear Z1525
    have F1541 : own_A Z h1529 a1497 .double [(.double (FP.i2d p3)), (.double (FP.i2d p4)), (.double (0 : UInt64))] := F1533
    have k1542 : own_G p e below E0 T1528 (mkF m 360 #[vi p0, vj p1, ss, vj p2, ss, vi p3, vi p4, vi p5, vi (0 : Int32), vd (FP.i2d (p0 >>> ((8 : Int32) &&& 31))), ss, vi f0, vi f1, vi f2, vi (0 : Int32), vi (0 : Int32), vi (0 : Int32), vi (own_val p1 (0 : Int32)), vi (own_val p1 (16 : Int32)), vi (own_val p1 (32 : Int32)), vi (own_val p2 (0 : Int32)), vi (own_val p2 (16 : Int32)), vi (own_val p2 (32 : Int32)), vr a1285, vr a1300, vi ps6, vi ps3, vi ps6, vr a1462, uu, uu, uu, uu, uu, uu, uu, uu] [(.double (FP.i2d p5)), (.int (2 : Int32)), (.ref a1497), (.ref a1497)]) := by
      intro tQ kk
      refine k1536 tQ ?_
      refine XS.dup X1530.here hx rfl (hb hby at_355) rfl rfl ?_
      refine XS.iconst X1530.here hx rfl (hb hby at_356) ?_
      refine XS.iload X1530.here hx rfl (hb hby at_357) rfl ?_
      refine XS.i2dS X1530.here hx rfl (hb hby at_359) rfl rfl ?_
      exact kk
    clear k1536
    obtain ⟨T1543, h1544, X1545, e1546, W1547, F1548, st1549⟩ := own_A.dst X1530 hx hZ e1531 F1541 (j := (2 : Int32)) (by decide) rfl (g := (mkF m 360 #[vi p0, vj p1, ss, vj p2, ss, vi p3, vi p4, vi p5, vi (0 : Int32), vd (FP.i2d (p0 >>> ((8 : Int32) &&& 31))), ss, vi f0, vi f1, vi f2, vi (0 : Int32), vi (0 : Int32), vi (0 : Int32), vi (own_val p1 (0 : Int32)), vi (own_val p1 (16 : Int32)), vi (own_val p1 (32 : Int32)), vi (own_val p2 (0 : Int32)), vi (own_val p2 (16 : Int32)), vi (own_val p2 (32 : Int32)), vr a1285, vr a1300, vi ps6, vi ps3, vi ps6, vr a1462, uu, uu, uu, uu, uu, uu, uu, uu] [(.double (FP.i2d p5)), (.int (2 : Int32)), (.ref a1497), (.ref a1497)])) rfl rfl (hb hby at_360)
    have N1550 := Fr.snoc X1545 N1535 ge1505
    have k1551 : own_G p e below E0 T1543 (mkF m 361 #[vi p0, vj p1, ss, vj p2, ss, vi p3, vi p4, vi p5, vi (0 : Int32), vd (FP.i2d (p0 >>> ((8 : Int32) &&& 31))), ss, vi f0, vi f1, vi f2, vi (0 : Int32), vi (0 : Int32), vi (0 : Int32), vi (own_val p1 (0 : Int32)), vi (own_val p1 (16 : Int32)), vi (own_val p1 (32 : Int32)), vi (own_val p2 (0 : Int32)), vi (own_val p2 (16 : Int32)), vi (own_val p2 (32 : Int32)), vr a1285, vr a1300, vi ps6, vi ps3, vi ps6, vr a1462, uu, uu, uu, uu, uu, uu, uu, uu] [(.ref a1497)]) := fun tQ kk => k1542 tQ (st1549 _ kk)
    clear k1542 st1549
    have F1552 : own_A Z h1544 a1285 .int LC6 := F1537.other W1547 n1499
    clear F1537
    have F1553 : own_A Z h1544 a1300 .double LW6 := F1538.other W1547 n1501
    clear F1538
    have F1554 : own_A Z h1544 a1462 .int [(.int (0 : Int32))] := F1539.other W1547 n1503
    clear F1539
    have Z1555 : n0 ≤ h1544.size := by rw [W1547.size]; exact Z1540
    clear Z1540
    have F1556 : own_A Z h1544 a1497 .double [(.double (FP.i2d p3)), (.double (FP.i2d p4)), (.double (FP.i2d p5))] := F1548
    have k1557 : own_G p e below E0 T1543 (mkF m 365 #[vi p0, vj p1, ss, vj p2, ss, vi p3, vi p4, vi p5, vi (0 : Int32), vd (FP.i2d (p0 >>> ((8 : Int32) &&& 31))), ss, vi f0, vi f1, vi f2, vi (0 : Int32), vi (0 : Int32), vi (0 : Int32), vi (own_val p1 (0 : Int32)), vi (own_val p1 (16 : Int32)), vi (own_val p1 (32 : Int32)), vi (own_val p2 (0 : Int32)), vi (own_val p2 (16 : Int32)), vi (own_val p2 (32 : Int32)), vr a1285, vr a1300, vi ps6, vi ps3, vi ps6, vr a1462, vr a1497, uu, uu, uu, uu, uu, uu, uu] [(.int (0 : Int32))]) := by
      intro tQ kk
      refine k1551 tQ ?_
      refine XS.astore X1545.here hx rfl (hb hby at_361) rfl rfl (l' := #[vi p0, vj p1, ss, vj p2, ss, vi p3, vi p4, vi p5, vi (0 : Int32), vd (FP.i2d (p0 >>> ((8 : Int32) &&& 31))), ss, vi f0, vi f1, vi f2, vi (0 : Int32), vi (0 : Int32), vi (0 : Int32), vi (own_val p1 (0 : Int32)), vi (own_val p1 (16 : Int32)), vi (own_val p1 (32 : Int32)), vi (own_val p2 (0 : Int32)), vi (own_val p2 (16 : Int32)), vi (own_val p2 (32 : Int32)), vr a1285, vr a1300, vi ps6, vi ps3, vi ps6, vr a1462, vr a1497, uu, uu, uu, uu, uu, uu, uu]) rfl ?_
      refine XS.iload X1545.here hx rfl (hb hby at_363) rfl ?_
      exact kk
    clear k1551
    obtain ⟨T1558, h1559, cA1560, X1561, e1562, E1563, A1564, st1565⟩ := newP (aty := .double) X1545 hx hZ (tw5 hw) e1546 (g := (mkF m 365 #[vi p0, vj p1, ss, vj p2, ss, vi p3, vi p4, vi p5, vi (0 : Int32), vd (FP.i2d (p0 >>> ((8 : Int32) &&& 31))), ss, vi f0, vi f1, vi f2, vi (0 : Int32), vi (0 : Int32), vi (0 : Int32), vi (own_val p1 (0 : Int32)), vi (own_val p1 (16 : Int32)), vi (own_val p1 (32 : Int32)), vi (own_val p2 (0 : Int32)), vi (own_val p2 (16 : Int32)), vi (own_val p2 (32 : Int32)), vr a1285, vr a1300, vi ps6, vi ps3, vi ps6, vr a1462, vr a1497, uu, uu, uu, uu, uu, uu, uu] [(.int (0 : Int32))])) rfl (hb hby at_365) rfl (by decide) (cap := 0) (by decide) (by decide) (by decide) (by decide)
    obtain ⟨a1566, g1567⟩ : ∃ zA : Nat, zA = h1544.size := ⟨_, rfl⟩
    rw [← g1567] at A1564 st1565
    have n1568 : a1285 ≠ a1566 := own_lt_ne F1552.lt g1567
    have n1569 : a1566 ≠ a1285 := fun q => n1568 q.symm
    have n1570 : a1300 ≠ a1566 := own_lt_ne F1553.lt g1567
    have n1571 : a1566 ≠ a1300 := fun q => n1570 q.symm
    have n1572 : a1462 ≠ a1566 := own_lt_ne F1554.lt g1567
    have n1573 : a1566 ≠ a1462 := fun q => n1572 q.symm
    have n1574 : a1497 ≠ a1566 := own_lt_ne F1556.lt g1567
    have n1575 : a1566 ≠ a1497 := fun q => n1574 q.symm
    have ge1576 : n0 ≤ a1566 := own_ge_of Z1555 g1567
    have Z1577 : n0 ≤ h1559.size := Nat.le_trans Z1555 E1563.1
    clear Z1555
    have F1578 : own_A Z h1559 a1285 .int LC6 := F1552.ext E1563
    clear F1552
    have F1579 : own_A Z h1559 a1300 .double LW6 := F1553.ext E1563
    clear F1553
    have F1580 : own_A Z h1559 a1462 .int [(.int (0 : Int32))] := F1554.ext E1563
    clear F1554
    have F1581 : own_A Z h1559 a1497 .double [(.double (FP.i2d p3)), (.double (FP.i2d p4)), (.double (FP.i2d p5))] := F1556.ext E1563
    clear F1556
    have F1582 : own_A Z h1559 a1566 .double [] := own_A.new A1564
    have k1583 : own_G p e below E0 T1558 (mkF m 367 #[vi p0, vj p1, ss, vj p2, ss, vi p3, vi p4, vi p5, vi (0 : Int32), vd (FP.i2d (p0 >>> ((8 : Int32) &&& 31))), ss, vi f0, vi f1, vi f2, vi (0 : Int32), vi (0 : Int32), vi (0 : Int32), vi (own_val p1 (0 : Int32)), vi (own_val p1 (16 : Int32)), vi (own_val p1 (32 : Int32)), vi (own_val p2 (0 : Int32)), vi (own_val p2 (16 : Int32)), vi (own_val p2 (32 : Int32)), vr a1285, vr a1300, vi ps6, vi ps3, vi ps6, vr a1462, vr a1497, uu, uu, uu, uu, uu, uu, uu] [(.ref a1566)]) := fun tQ kk => k1557 tQ (st1565 _ kk)
    clear k1557 st1565
    have k1584 : own_G p e below E0 T1558 (mkF m 393 #[vi p0, vj p1, ss, vj p2, ss, vi p3, vi p4, vi p5, vi (0 : Int32), vd (FP.i2d (p0 >>> ((8 : Int32) &&& 31))), ss, vi f0, vi f1, vi f2, vi (0 : Int32), vi (0 : Int32), vi (0 : Int32), vi (own_val p1 (0 : Int32)), vi (own_val p1 (16 : Int32)), vi (own_val p1 (32 : Int32)), vi (own_val p2 (0 : Int32)), vi (own_val p2 (16 : Int32)), vi (own_val p2 (32 : Int32)), vr a1285, vr a1300, vi ps6, vi ps3, vi ps6, vr a1462, vr a1497, vr a1566, uu, uu, uu, uu, uu, uu] []) := by
      intro tQ kk
      refine k1583 tQ ?_
      refine XS.astore X1561.here hx rfl (hb hby at_367) rfl rfl (l' := #[vi p0, vj p1, ss, vj p2, ss, vi p3, vi p4, vi p5, vi (0 : Int32), vd (FP.i2d (p0 >>> ((8 : Int32) &&& 31))), ss, vi f0, vi f1, vi f2, vi (0 : Int32), vi (0 : Int32), vi (0 : Int32), vi (own_val p1 (0 : Int32)), vi (own_val p1 (16 : Int32)), vi (own_val p1 (32 : Int32)), vi (own_val p2 (0 : Int32)), vi (own_val p2 (16 : Int32)), vi (own_val p2 (32 : Int32)), vr a1285, vr a1300, vi ps6, vi ps3, vi ps6, vr a1462, vr a1497, vr a1566, uu, uu, uu, uu, uu, uu]) rfl ?_
      refine XS.iload X1561.here hx rfl (hb hby at_369) rfl ?_
      refine XS.iconst X1561.here hx rfl (hb hby at_371) ?_
      refine XS.icmpYes X1561.here hx rfl (pc0 := 372) (pc' := 381) rfl (hb hby at_372) rfl (own_ic_ltY (by decide)) (by decide) (by decide) ?_
      show Steps p.tables e below (T1558.setTop (mkF m 381 #[vi p0, vj p1, ss, vj p2, ss, vi p3, vi p4, vi p5, vi (0 : Int32), vd (FP.i2d (p0 >>> ((8 : Int32) &&& 31))), ss, vi f0, vi f1, vi f2, vi (0 : Int32), vi (0 : Int32), vi (0 : Int32), vi (own_val p1 (0 : Int32)), vi (own_val p1 (16 : Int32)), vi (own_val p1 (32 : Int32)), vi (own_val p2 (0 : Int32)), vi (own_val p2 (16 : Int32)), vi (own_val p2 (32 : Int32)), vr a1285, vr a1300, vi ps6, vi ps3, vi ps6, vr a1462, vr a1497, vr a1566, uu, uu, uu, uu, uu, uu] [])) tQ
      refine XS.iload X1561.here hx rfl (hb hby at_381) rfl ?_
      refine XS.iconst X1561.here hx rfl (hb hby at_383) ?_
      refine XS.icmpYes X1561.here hx rfl (pc0 := 384) (pc' := 393) rfl (hb hby at_384) rfl (own_ic_ltY (by decide)) (by decide) (by decide) ?_
      exact kk
    clear k1583
    obtain ⟨T1585, h1586, X1587, e1588, E1589, A1590, D1591, -, st1592⟩ := newO X1561 hx hZ hown (tw9 hw) (tw10 hw) (tw11 hw) e1562 (g := (mkF m 393 #[vi p0, vj p1, ss, vj p2, ss, vi p3, vi p4, vi p5, vi (0 : Int32), vd (FP.i2d (p0 >>> ((8 : Int32) &&& 31))), ss, vi f0, vi f1, vi f2, vi (0 : Int32), vi (0 : Int32), vi (0 : Int32), vi (own_val p1 (0 : Int32)), vi (own_val p1 (16 : Int32)), vi (own_val p1 (32 : Int32)), vi (own_val p2 (0 : Int32)), vi (own_val p2 (16 : Int32)), vi (own_val p2 (32 : Int32)), vr a1285, vr a1300, vi ps6, vi ps3, vi ps6, vr a1462, vr a1497, vr a1566, uu, uu, uu, uu, uu, uu] [])) rfl (hb hby at_393) (by decide) (by decide)
    obtain ⟨a1593, g1594⟩ : ∃ zA : Nat, zA = h1559.size := ⟨_, rfl⟩
    rw [← g1594] at A1590 D1591 st1592
    have n1595 : a1285 ≠ a1593 := own_lt_ne F1578.lt g1594
    have n1596 : a1593 ≠ a1285 := fun q => n1595 q.symm
    have n1597 : a1300 ≠ a1593 := own_lt_ne F1579.lt g1594
    have n1598 : a1593 ≠ a1300 := fun q => n1597 q.symm
    have n1599 : a1462 ≠ a1593 := own_lt_ne F1580.lt g1594
    have n1600 : a1593 ≠ a1462 := fun q => n1599 q.symm
    have n1601 : a1497 ≠ a1593 := own_lt_ne F1581.lt g1594
    have n1602 : a1593 ≠ a1497 := fun q => n1601 q.symm
    have n1603 : a1566 ≠ a1593 := own_lt_ne F1582.lt g1594
    have n1604 : a1593 ≠ a1566 := fun q => n1603 q.symm
    have ge1605 : n0 ≤ a1593 := own_ge_of Z1577 g1594
    have Z1606 : n0 ≤ h1586.size := Nat.le_trans Z1577 E1589.1
    clear Z1577
    have F1607 : own_A Z h1586 a1285 .int LC6 := F1578.ext E1589
    clear F1578
    have F1608 : own_A Z h1586 a1300 .double LW6 := F1579.ext E1589
    clear F1579
    have F1609 : own_A Z h1586 a1462 .int [(.int (0 : Int32))] := F1580.ext E1589
    clear F1580
    have F1610 : own_A Z h1586 a1497 .double [(.double (FP.i2d p3)), (.double (FP.i2d p4)), (.double (FP.i2d p5))] := F1581.ext E1589
    clear F1581
    have F1611 : own_A Z h1586 a1566 .double [] := F1582.ext E1589
    clear F1582
    have F1612 : Fld Z h1586 a1593 "com/example/velvet_postings/velvetpostings/search/SparseMatrix" "rowCount" "I" (.int (0 : Int32)) := (D1591 (Or.inr (tw19 hw)) (ty := .int) (by decide))
    have F1613 : Fld Z h1586 a1593 "com/example/velvet_postings/velvetpostings/search/SparseMatrix" "columnCount" "I" (.int (0 : Int32)) := (D1591 (Or.inr (tw21 hw)) (ty := .int) (by decide))
    have F1614 : Fld Z h1586 a1593 "com/example/velvet_postings/velvetpostings/search/SparseMatrix" "rowStarts" "[I" .null := (D1591 (Or.inr (tw23 hw)) (ty := (.array .int)) (by decide))
    have F1615 : Fld Z h1586 a1593 "com/example/velvet_postings/velvetpostings/search/SparseMatrix" "columns" "[I" .null := (D1591 (Or.inr (tw25 hw)) (ty := (.array .int)) (by decide))
    have F1616 : Fld Z h1586 a1593 "com/example/velvet_postings/velvetpostings/search/SparseMatrix" "values" "[D" .null := (D1591 (Or.inr (tw27 hw)) (ty := (.array .double)) (by decide))
    have k1617 : own_G p e below E0 T1585 (mkF m 396 #[vi p0, vj p1, ss, vj p2, ss, vi p3, vi p4, vi p5, vi (0 : Int32), vd (FP.i2d (p0 >>> ((8 : Int32) &&& 31))), ss, vi f0, vi f1, vi f2, vi (0 : Int32), vi (0 : Int32), vi (0 : Int32), vi (own_val p1 (0 : Int32)), vi (own_val p1 (16 : Int32)), vi (own_val p1 (32 : Int32)), vi (own_val p2 (0 : Int32)), vi (own_val p2 (16 : Int32)), vi (own_val p2 (32 : Int32)), vr a1285, vr a1300, vi ps6, vi ps3, vi ps6, vr a1462, vr a1497, vr a1566, uu, uu, uu, uu, uu, uu] [(.ref a1593)]) := fun tQ kk => k1584 tQ (st1592 _ kk)
    clear k1584 st1592
    have k1618 : own_G p e below E0 T1585 (mkF m 406 #[vi p0, vj p1, ss, vj p2, ss, vi p3, vi p4, vi p5, vi (0 : Int32), vd (FP.i2d (p0 >>> ((8 : Int32) &&& 31))), ss, vi f0, vi f1, vi f2, vi (0 : Int32), vi (0 : Int32), vi (0 : Int32), vi (own_val p1 (0 : Int32)), vi (own_val p1 (16 : Int32)), vi (own_val p1 (32 : Int32)), vi (own_val p2 (0 : Int32)), vi (own_val p2 (16 : Int32)), vi (own_val p2 (32 : Int32)), vr a1285, vr a1300, vi ps6, vi ps3, vi ps6, vr a1462, vr a1497, vr a1566, uu, uu, uu, uu, uu, uu] [(.ref a1300), (.ref a1285), (.ref a1462), (.int (3 : Int32)), (.int (0 : Int32)), (.ref a1593), (.ref a1593)]) := by
      intro tQ kk
      refine k1617 tQ ?_
      refine XS.dup X1587.here hx rfl (hb hby at_396) rfl rfl ?_
      refine XS.iload X1587.here hx rfl (hb hby at_397) rfl ?_
      refine XS.iconst X1587.here hx rfl (hb hby at_399) ?_
      refine XS.aload X1587.here hx rfl (hb hby at_400) rfl rfl ?_
      show Steps p.tables e below (T1585.setTop (mkF m 402 #[vi p0, vj p1, ss, vj p2, ss, vi p3, vi p4, vi p5, vi (0 : Int32), vd (FP.i2d (p0 >>> ((8 : Int32) &&& 31))), ss, vi f0, vi f1, vi f2, vi (0 : Int32), vi (0 : Int32), vi (0 : Int32), vi (own_val p1 (0 : Int32)), vi (own_val p1 (16 : Int32)), vi (own_val p1 (32 : Int32)), vi (own_val p2 (0 : Int32)), vi (own_val p2 (16 : Int32)), vi (own_val p2 (32 : Int32)), vr a1285, vr a1300, vi ps6, vi ps3, vi ps6, vr a1462, vr a1497, vr a1566, uu, uu, uu, uu, uu, uu] [(.ref a1462), (.int (3 : Int32)), (.int (0 : Int32)), (.ref a1593), (.ref a1593)])) tQ
      refine XS.aload X1587.here hx rfl (hb hby at_402) rfl rfl ?_
      refine XS.aload X1587.here hx rfl (hb hby at_404) rfl rfl ?_
      exact kk
    clear k1617
    obtain ⟨_, _, ⟨T1619, L1620, kc1621, nc1622⟩, -, X1623, ⟨Lc1624, hQ1625, l1626, y1627, z1628⟩, st1629⟩ := X1587.specialBack hx (y := mn9) rfl hown (mvT hZ (tw12 hw)) (mvT hZ (tw13 hw)) (mvT hZ (tw14 hw)) (by decide) (backOf (W := 1) (rmI0 l Z a0 hw [] a1593 a1462 a1285 a1300 h1586 n0 Z1606 A1590 F1612 F1613 F1614 F1615 F1616 ge1605) hZ (tw14 hw) (tw11 hw) (by decide) (by decide)) (g := (mkF m 406 #[vi p0, vj p1, ss, vj p2, ss, vi p3, vi p4, vi p5, vi (0 : Int32), vd (FP.i2d (p0 >>> ((8 : Int32) &&& 31))), ss, vi f0, vi f1, vi f2, vi (0 : Int32), vi (0 : Int32), vi (0 : Int32), vi (own_val p1 (0 : Int32)), vi (own_val p1 (16 : Int32)), vi (own_val p1 (32 : Int32)), vi (own_val p2 (0 : Int32)), vi (own_val p2 (16 : Int32)), vi (own_val p2 (32 : Int32)), vr a1285, vr a1300, vi ps6, vi ps3, vi ps6, vr a1462, vr a1497, vr a1566, uu, uu, uu, uu, uu, uu] [(.ref a1300), (.ref a1285), (.ref a1462), (.int (3 : Int32)), (.int (0 : Int32)), (.ref a1593), (.ref a1593)])) rfl (by rw [hml]; rfl) (Steps.refl _) (a := a1593) (argsL := [(.int (0 : Int32)), (.int (3 : Int32)), (.ref a1462), (.ref a1285), (.ref a1300)]) (rest := [(.ref a1593)]) (lenOf pd_13 rfl) rfl (by show 2 * 0 + _ ≤ _; exact Nat.le_of_eq rfl) (hb hby at_406) (fun _ _ => ⟨rfl, e1588, (by decide : 6 + 0 ≤ _), (by decide : 21 + 0 ≤ _)⟩)
    dsimp only [Pt.U, Pt.locs, Pt.cells, Pt.slots] at X1623 l1626 y1627 z1628 st1629 hQ1625
    subst y1627 z1628
    obtain ⟨rfl, N1630, K1633, g1634, g1635, g1636, g1637, g1638⟩ := hQ1625
    have N1639 : Fr n0 L1620 := by rw [l1626]; exact Fr.app N1550 N1630
    clear l1626 N1630
    have Z1640 : n0 ≤ T1619.heap.size := Nat.le_trans Z1606 K1633.1
    clear Z1606
    have F1641 : own_A Z T1619.heap a1285 .int LC6 := F1607.keep K1633 (ninS n1595 nin0)
    clear F1607
    have F1642 : own_A Z T1619.heap a1300 .double LW6 := F1608.keep K1633 (ninS n1597 nin0)
    clear F1608
    have F1643 : own_A Z T1619.heap a1462 .int [(.int (0 : Int32))] := F1609.keep K1633 (ninS n1599 nin0)
    clear F1609
    have F1644 : own_A Z T1619.heap a1497 .double [(.double (FP.i2d p3)), (.double (FP.i2d p4)), (.double (FP.i2d p5))] := F1610.keep K1633 (ninS n1601 nin0)
    clear F1610
    have F1645 : own_A Z T1619.heap a1566 .double [] := F1611.keep K1633 (ninS n1603 nin0)
    clear F1611
    have F1646 : xa8 Z T1619.heap a1593 := A1590.keep K1633
    clear A1590
    clear F1612
    clear F1613
    clear F1614
    clear F1615
    clear F1616
    have k1647 : own_G p e below E0 T1619 (mkF m 409 #[vi p0, vj p1, ss, vj p2, ss, vi p3, vi p4, vi p5, vi (0 : Int32), vd (FP.i2d (p0 >>> ((8 : Int32) &&& 31))), ss, vi f0, vi f1, vi f2, vi (0 : Int32), vi (0 : Int32), vi (0 : Int32), vi (own_val p1 (0 : Int32)), vi (own_val p1 (16 : Int32)), vi (own_val p1 (32 : Int32)), vi (own_val p2 (0 : Int32)), vi (own_val p2 (16 : Int32)), vi (own_val p2 (32 : Int32)), vr a1285, vr a1300, vi ps6, vi ps3, vi ps6, vr a1462, vr a1497, vr a1566, uu, uu, uu, uu, uu, uu] [(.ref a1593)]) := fun tQ kk => k1618 tQ (st1629.trans kk)
    clear k1618 st1629
    have k1648 : own_G p e below E0 T1619 (mkF m 417 #[vi p0, vj p1, ss, vj p2, ss, vi p3, vi p4, vi p5, vi (0 : Int32), vd (FP.i2d (p0 >>> ((8 : Int32) &&& 31))), ss, vi f0, vi f1, vi f2, vi (0 : Int32), vi (0 : Int32), vi (0 : Int32), vi (own_val p1 (0 : Int32)), vi (own_val p1 (16 : Int32)), vi (own_val p1 (32 : Int32)), vi (own_val p2 (0 : Int32)), vi (own_val p2 (16 : Int32)), vi (own_val p2 (32 : Int32)), vr a1285, vr a1300, vi ps6, vi ps3, vi ps6, vr a1462, vr a1497, vr a1566, vr a1593, uu, uu, uu, uu, uu] [(.ref a1566), (.ref a1497), (.ref a1593)]) := by
      intro tQ kk
      refine k1647 tQ ?_
      refine XS.astore X1623.here hx rfl (hb hby at_409) rfl rfl (l' := #[vi p0, vj p1, ss, vj p2, ss, vi p3, vi p4, vi p5, vi (0 : Int32), vd (FP.i2d (p0 >>> ((8 : Int32) &&& 31))), ss, vi f0, vi f1, vi f2, vi (0 : Int32), vi (0 : Int32), vi (0 : Int32), vi (own_val p1 (0 : Int32)), vi (own_val p1 (16 : Int32)), vi (own_val p1 (32 : Int32)), vi (own_val p2 (0 : Int32)), vi (own_val p2 (16 : Int32)), vi (own_val p2 (32 : Int32)), vr a1285, vr a1300, vi ps6, vi ps3, vi ps6, vr a1462, vr a1497, vr a1566, vr a1593, uu, uu, uu, uu, uu]) rfl ?_
      refine XS.aload X1623.here hx rfl (hb hby at_411) rfl rfl ?_
      refine XS.aload X1623.here hx rfl (hb hby at_413) rfl rfl ?_
      refine XS.aload X1623.here hx rfl (hb hby at_415) rfl rfl ?_
      exact kk
    clear k1647
    obtain ⟨cq1660, kq1661, qa1662, qb1663, qc1664⟩ := isOf hZ rfl F1646
    obtain ⟨_, _, ⟨T1649, L1650, kc1651, nc1652⟩, -, X1653, ⟨Lc1654, hQ1655, l1656, y1657, z1658⟩, st1659⟩ := X1623.virtualBack hx (y := mn10) (z := mn10) hown (mvT hZ (tw28 hw)) (mvT hZ (tw29 hw)) (notFace_of_selects (args := #[]) (mvT hZ (tw31 hw))) (mvT hZ (tw31 hw)) (mvT hZ (tw30 hw)) (by decide) (backOf (W := 0) (rmM0 l Z a0 hw [] a1593 a1497 a1566 a1462 a1285 a1300 LC6 LW6 (FP.i2d p3) (FP.i2d p4) (FP.i2d p5) (0 : Int32) T1619.heap n0 Z1640 g1634 g1635 g1636 g1637 g1638 F1643 F1641 F1642 F1644 F1645) hZ (tw32 hw) (tw11 hw) (by decide) (by decide)) qa1662 qc1664 (g := (mkF m 417 #[vi p0, vj p1, ss, vj p2, ss, vi p3, vi p4, vi p5, vi (0 : Int32), vd (FP.i2d (p0 >>> ((8 : Int32) &&& 31))), ss, vi f0, vi f1, vi f2, vi (0 : Int32), vi (0 : Int32), vi (0 : Int32), vi (own_val p1 (0 : Int32)), vi (own_val p1 (16 : Int32)), vi (own_val p1 (32 : Int32)), vi (own_val p2 (0 : Int32)), vi (own_val p2 (16 : Int32)), vi (own_val p2 (32 : Int32)), vr a1285, vr a1300, vi ps6, vi ps3, vi ps6, vr a1462, vr a1497, vr a1566, vr a1593, uu, uu, uu, uu, uu] [(.ref a1566), (.ref a1497), (.ref a1593)])) rfl (by rw [hml]; rfl) (Steps.refl _) (argsL := [(.ref a1497), (.ref a1566)]) (rest := []) (lenOf pd_14 rfl) rfl (by show 2 * 0 + _ ≤ _; exact Nat.le_of_eq rfl) (hb hby at_417) (fun _ _ => ⟨rfl, rfl, (by decide : 6 + 0 ≤ _), (by decide : 21 + 0 ≤ _)⟩)
    dsimp only [Pt.U, Pt.locs, Pt.cells, Pt.slots] at X1653 l1656 y1657 z1658 st1659 hQ1655
    subst y1657 z1658
    obtain ⟨rfl, N1665, e1666⟩ := hQ1655
    have N1668 : Fr n0 L1650 := by rw [l1656]; exact Fr.app N1639 N1665
    clear l1656 N1665
    have k1669 : own_G p e below E0 T1649 (mkF m 420 #[vi p0, vj p1, ss, vj p2, ss, vi p3, vi p4, vi p5, vi (0 : Int32), vd (FP.i2d (p0 >>> ((8 : Int32) &&& 31))), ss, vi f0, vi f1, vi f2, vi (0 : Int32), vi (0 : Int32), vi (0 : Int32), vi (own_val p1 (0 : Int32)), vi (own_val p1 (16 : Int32)), vi (own_val p1 (32 : Int32)), vi (own_val p2 (0 : Int32)), vi (own_val p2 (16 : Int32)), vi (own_val p2 (32 : Int32)), vr a1285, vr a1300, vi ps6, vi ps3, vi ps6, vr a1462, vr a1497, vr a1566, vr a1593, uu, uu, uu, uu, uu] []) := fun tQ kk => k1648 tQ (st1659.trans kk)
    clear k1648 st1659
    have k1670 : own_G p e below E0 T1649 (mkF m 426 #[vi p0, vj p1, ss, vj p2, ss, vi p3, vi p4, vi p5, vi (0 : Int32), vd (FP.i2d (p0 >>> ((8 : Int32) &&& 31))), ss, vi f0, vi f1, vi f2, vi (0 : Int32), vi (0 : Int32), vi (0 : Int32), vi (own_val p1 (0 : Int32)), vi (own_val p1 (16 : Int32)), vi (own_val p1 (32 : Int32)), vi (own_val p2 (0 : Int32)), vi (own_val p2 (16 : Int32)), vi (own_val p2 (32 : Int32)), vr a1285, vr a1300, vi ps6, vi ps3, vi ps6, vr a1462, vr a1497, vr a1566, vr a1593, uu, uu, uu, uu, uu] [(.int p3), (.int (own_val p1 (0 : Int32))), (.int f0)]) := by
      intro tQ kk
      refine k1669 tQ ?_
      refine XS.iload X1653.here hx rfl (hb hby at_420) rfl ?_
      refine XS.iload X1653.here hx rfl (hb hby at_422) rfl ?_
      refine XS.iload X1653.here hx rfl (hb hby at_424) rfl ?_
      exact kk
    clear k1669
    obtain ⟨_, _, ⟨T1671, L1672, kc1673, nc1674⟩, -, X1675, ⟨Lc1676, hQ1677, l1678, y1679, z1680⟩, st1681⟩ := Jvm.LawKit.callS X1653 hx (y := mn2) hown (mvT hZ (tw33 hw)) (mvT hZ (tw34 hw)) (mvT hZ (tw2 hw)) (mvT hZ (tw35 hw)) (by decide) (backOf (W := 0) (rmTe l Z a0 hw [] f0 (own_val p1 (0 : Int32)) p3 T1619.heap n0 Z1640 ) hZ (tw35 hw) (tw2 hw) (by decide) (by decide)) (g := (mkF m 426 #[vi p0, vj p1, ss, vj p2, ss, vi p3, vi p4, vi p5, vi (0 : Int32), vd (FP.i2d (p0 >>> ((8 : Int32) &&& 31))), ss, vi f0, vi f1, vi f2, vi (0 : Int32), vi (0 : Int32), vi (0 : Int32), vi (own_val p1 (0 : Int32)), vi (own_val p1 (16 : Int32)), vi (own_val p1 (32 : Int32)), vi (own_val p2 (0 : Int32)), vi (own_val p2 (16 : Int32)), vi (own_val p2 (32 : Int32)), vr a1285, vr a1300, vi ps6, vi ps3, vi ps6, vr a1462, vr a1497, vr a1566, vr a1593, uu, uu, uu, uu, uu] [(.int p3), (.int (own_val p1 (0 : Int32))), (.int f0)])) rfl (by rw [hml]; rfl) (argsL := [(.int f0), (.int (own_val p1 (0 : Int32))), (.int p3)]) (rest := []) (lenOf pd_15 rfl) rfl (by show 2 * 0 + _ ≤ _; exact Nat.le_of_eq rfl) (hb hby at_426) (fun _ _ => ⟨rfl, e1666, (by decide : 6 + 0 ≤ _), (by decide : 21 + 0 ≤ _)⟩)
    dsimp only [Pt.U, Pt.locs, Pt.cells, Pt.slots] at X1675 l1678 y1679 z1680 st1681 hQ1677
    subst y1679 z1680
    obtain ⟨rfl, N1682, e1683⟩ := hQ1677
    have N1685 : Fr n0 L1672 := by rw [l1678]; exact Fr.app N1668 N1682
    clear l1678 N1682
    have k1686 : own_G p e below E0 T1671 (mkF m 429 #[vi p0, vj p1, ss, vj p2, ss, vi p3, vi p4, vi p5, vi (0 : Int32), vd (FP.i2d (p0 >>> ((8 : Int32) &&& 31))), ss, vi f0, vi f1, vi f2, vi (0 : Int32), vi (0 : Int32), vi (0 : Int32), vi (own_val p1 (0 : Int32)), vi (own_val p1 (16 : Int32)), vi (own_val p1 (32 : Int32)), vi (own_val p2 (0 : Int32)), vi (own_val p2 (16 : Int32)), vi (own_val p2 (32 : Int32)), vr a1285, vr a1300, vi ps6, vi ps3, vi ps6, vr a1462, vr a1497, vr a1566, vr a1593, uu, uu, uu, uu, uu] [(.long (own_tm f0 (own_val p1 (0 : Int32)) p3))]) := fun tQ kk => k1670 tQ (st1681 _ kk)
    clear k1670 st1681
    have k1687 : own_G p e below E0 T1671 (mkF m 435 #[vi p0, vj p1, ss, vj p2, ss, vi p3, vi p4, vi p5, vi (0 : Int32), vd (FP.i2d (p0 >>> ((8 : Int32) &&& 31))), ss, vi f0, vi f1, vi f2, vi (0 : Int32), vi (0 : Int32), vi (0 : Int32), vi (own_val p1 (0 : Int32)), vi (own_val p1 (16 : Int32)), vi (own_val p1 (32 : Int32)), vi (own_val p2 (0 : Int32)), vi (own_val p2 (16 : Int32)), vi (own_val p2 (32 : Int32)), vr a1285, vr a1300, vi ps6, vi ps3, vi ps6, vr a1462, vr a1497, vr a1566, vr a1593, uu, uu, uu, uu, uu] [(.int p4), (.int (own_val p1 (16 : Int32))), (.int f1), (.long (own_tm f0 (own_val p1 (0 : Int32)) p3))]) := by
      intro tQ kk
      refine k1686 tQ ?_
      refine XS.iload X1675.here hx rfl (hb hby at_429) rfl ?_
      refine XS.iload X1675.here hx rfl (hb hby at_431) rfl ?_
      refine XS.iload X1675.here hx rfl (hb hby at_433) rfl ?_
      exact kk
    clear k1686
    obtain ⟨_, _, ⟨T1688, L1689, kc1690, nc1691⟩, -, X1692, ⟨Lc1693, hQ1694, l1695, y1696, z1697⟩, st1698⟩ := Jvm.LawKit.callS X1675 hx (y := mn2) hown (mvT hZ (tw33 hw)) (mvT hZ (tw34 hw)) (mvT hZ (tw2 hw)) (mvT hZ (tw35 hw)) (by decide) (backOf (W := 2) (rmTe l Z a0 hw [] f1 (own_val p1 (16 : Int32)) p4 T1619.heap n0 Z1640 ) hZ (tw35 hw) (tw2 hw) (by decide) (by decide)) (g := (mkF m 435 #[vi p0, vj p1, ss, vj p2, ss, vi p3, vi p4, vi p5, vi (0 : Int32), vd (FP.i2d (p0 >>> ((8 : Int32) &&& 31))), ss, vi f0, vi f1, vi f2, vi (0 : Int32), vi (0 : Int32), vi (0 : Int32), vi (own_val p1 (0 : Int32)), vi (own_val p1 (16 : Int32)), vi (own_val p1 (32 : Int32)), vi (own_val p2 (0 : Int32)), vi (own_val p2 (16 : Int32)), vi (own_val p2 (32 : Int32)), vr a1285, vr a1300, vi ps6, vi ps3, vi ps6, vr a1462, vr a1497, vr a1566, vr a1593, uu, uu, uu, uu, uu] [(.int p4), (.int (own_val p1 (16 : Int32))), (.int f1), (.long (own_tm f0 (own_val p1 (0 : Int32)) p3))])) rfl (by rw [hml]; rfl) (argsL := [(.int f1), (.int (own_val p1 (16 : Int32))), (.int p4)]) (rest := [(.long (own_tm f0 (own_val p1 (0 : Int32)) p3))]) (lenOf pd_15 rfl) rfl (by show 2 * 0 + _ ≤ _; exact Nat.le_of_eq rfl) (hb hby at_435) (fun _ _ => ⟨rfl, e1683, (by decide : 6 + 0 ≤ _), (by decide : 21 + 0 ≤ _)⟩)
    dsimp only [Pt.U, Pt.locs, Pt.cells, Pt.slots] at X1692 l1695 y1696 z1697 st1698 hQ1694
    subst y1696 z1697
    obtain ⟨rfl, N1699, e1700⟩ := hQ1694
    have N1702 : Fr n0 L1689 := by rw [l1695]; exact Fr.app N1685 N1699
    clear l1695 N1699
    have k1703 : own_G p e below E0 T1688 (mkF m 438 #[vi p0, vj p1, ss, vj p2, ss, vi p3, vi p4, vi p5, vi (0 : Int32), vd (FP.i2d (p0 >>> ((8 : Int32) &&& 31))), ss, vi f0, vi f1, vi f2, vi (0 : Int32), vi (0 : Int32), vi (0 : Int32), vi (own_val p1 (0 : Int32)), vi (own_val p1 (16 : Int32)), vi (own_val p1 (32 : Int32)), vi (own_val p2 (0 : Int32)), vi (own_val p2 (16 : Int32)), vi (own_val p2 (32 : Int32)), vr a1285, vr a1300, vi ps6, vi ps3, vi ps6, vr a1462, vr a1497, vr a1566, vr a1593, uu, uu, uu, uu, uu] [(.long (own_tm f1 (own_val p1 (16 : Int32)) p4)), (.long (own_tm f0 (own_val p1 (0 : Int32)) p3))]) := fun tQ kk => k1687 tQ (st1698 _ kk)
    clear k1687 st1698
    have k1704 : own_G p e below E0 T1688 (mkF m 445 #[vi p0, vj p1, ss, vj p2, ss, vi p3, vi p4, vi p5, vi (0 : Int32), vd (FP.i2d (p0 >>> ((8 : Int32) &&& 31))), ss, vi f0, vi f1, vi f2, vi (0 : Int32), vi (0 : Int32), vi (0 : Int32), vi (own_val p1 (0 : Int32)), vi (own_val p1 (16 : Int32)), vi (own_val p1 (32 : Int32)), vi (own_val p2 (0 : Int32)), vi (own_val p2 (16 : Int32)), vi (own_val p2 (32 : Int32)), vr a1285, vr a1300, vi ps6, vi ps3, vi ps6, vr a1462, vr a1497, vr a1566, vr a1593, uu, uu, uu, uu, uu] [(.int p5), (.int (own_val p1 (32 : Int32))), (.int f2), (.long ((own_tm f0 (own_val p1 (0 : Int32)) p3) + (own_tm f1 (own_val p1 (16 : Int32)) p4)))]) := by
      intro tQ kk
      refine k1703 tQ ?_
      refine XT.ladd X1692.here hx rfl (hb hby at_438) rfl ?_
      refine XS.iload X1692.here hx rfl (hb hby at_439) rfl ?_
      refine XS.iload X1692.here hx rfl (hb hby at_441) rfl ?_
      refine XS.iload X1692.here hx rfl (hb hby at_443) rfl ?_
      exact kk
    clear k1703
    obtain ⟨_, _, ⟨T1705, L1706, kc1707, nc1708⟩, -, X1709, ⟨Lc1710, hQ1711, l1712, y1713, z1714⟩, st1715⟩ := Jvm.LawKit.callS X1692 hx (y := mn2) hown (mvT hZ (tw33 hw)) (mvT hZ (tw34 hw)) (mvT hZ (tw2 hw)) (mvT hZ (tw35 hw)) (by decide) (backOf (W := 2) (rmTe l Z a0 hw [] f2 (own_val p1 (32 : Int32)) p5 T1619.heap n0 Z1640 ) hZ (tw35 hw) (tw2 hw) (by decide) (by decide)) (g := (mkF m 445 #[vi p0, vj p1, ss, vj p2, ss, vi p3, vi p4, vi p5, vi (0 : Int32), vd (FP.i2d (p0 >>> ((8 : Int32) &&& 31))), ss, vi f0, vi f1, vi f2, vi (0 : Int32), vi (0 : Int32), vi (0 : Int32), vi (own_val p1 (0 : Int32)), vi (own_val p1 (16 : Int32)), vi (own_val p1 (32 : Int32)), vi (own_val p2 (0 : Int32)), vi (own_val p2 (16 : Int32)), vi (own_val p2 (32 : Int32)), vr a1285, vr a1300, vi ps6, vi ps3, vi ps6, vr a1462, vr a1497, vr a1566, vr a1593, uu, uu, uu, uu, uu] [(.int p5), (.int (own_val p1 (32 : Int32))), (.int f2), (.long ((own_tm f0 (own_val p1 (0 : Int32)) p3) + (own_tm f1 (own_val p1 (16 : Int32)) p4)))])) rfl (by rw [hml]; rfl) (argsL := [(.int f2), (.int (own_val p1 (32 : Int32))), (.int p5)]) (rest := [(.long ((own_tm f0 (own_val p1 (0 : Int32)) p3) + (own_tm f1 (own_val p1 (16 : Int32)) p4)))]) (lenOf pd_15 rfl) rfl (by show 2 * 0 + _ ≤ _; exact Nat.le_of_eq rfl) (hb hby at_445) (fun _ _ => ⟨rfl, e1700, (by decide : 6 + 0 ≤ _), (by decide : 21 + 0 ≤ _)⟩)
    dsimp only [Pt.U, Pt.locs, Pt.cells, Pt.slots] at X1709 l1712 y1713 z1714 st1715 hQ1711
    subst y1713 z1714
    obtain ⟨rfl, N1716, e1717⟩ := hQ1711
    have N1719 : Fr n0 L1706 := by rw [l1712]; exact Fr.app N1702 N1716
    clear l1712 N1716
    have k1720 : own_G p e below E0 T1705 (mkF m 448 #[vi p0, vj p1, ss, vj p2, ss, vi p3, vi p4, vi p5, vi (0 : Int32), vd (FP.i2d (p0 >>> ((8 : Int32) &&& 31))), ss, vi f0, vi f1, vi f2, vi (0 : Int32), vi (0 : Int32), vi (0 : Int32), vi (own_val p1 (0 : Int32)), vi (own_val p1 (16 : Int32)), vi (own_val p1 (32 : Int32)), vi (own_val p2 (0 : Int32)), vi (own_val p2 (16 : Int32)), vi (own_val p2 (32 : Int32)), vr a1285, vr a1300, vi ps6, vi ps3, vi ps6, vr a1462, vr a1497, vr a1566, vr a1593, uu, uu, uu, uu, uu] [(.long (own_tm f2 (own_val p1 (32 : Int32)) p5)), (.long ((own_tm f0 (own_val p1 (0 : Int32)) p3) + (own_tm f1 (own_val p1 (16 : Int32)) p4)))]) := fun tQ kk => k1704 tQ (st1715 _ kk)
    clear k1704 st1715
    have k1721 : own_G p e below E0 T1705 (mkF m 457 #[vi p0, vj p1, ss, vj p2, ss, vi p3, vi p4, vi p5, vi (0 : Int32), vd (FP.i2d (p0 >>> ((8 : Int32) &&& 31))), ss, vi f0, vi f1, vi f2, vi (0 : Int32), vi (0 : Int32), vi (0 : Int32), vi (own_val p1 (0 : Int32)), vi (own_val p1 (16 : Int32)), vi (own_val p1 (32 : Int32)), vi (own_val p2 (0 : Int32)), vi (own_val p2 (16 : Int32)), vi (own_val p2 (32 : Int32)), vr a1285, vr a1300, vi ps6, vi ps3, vi ps6, vr a1462, vr a1497, vr a1566, vr a1593, vj (((own_tm f0 (own_val p1 (0 : Int32)) p3) + (own_tm f1 (own_val p1 (16 : Int32)) p4)) + (own_tm f2 (own_val p1 (32 : Int32)) p5)), ss, uu, uu, uu] [(.int p3), (.int (own_val p2 (0 : Int32))), (.int (0 : Int32))]) := by
      intro tQ kk
      refine k1720 tQ ?_
      refine XT.ladd X1709.here hx rfl (hb hby at_448) rfl ?_
      refine XT.lstore X1709.here hx rfl (hb hby at_449) rfl (l' := #[vi p0, vj p1, ss, vj p2, ss, vi p3, vi p4, vi p5, vi (0 : Int32), vd (FP.i2d (p0 >>> ((8 : Int32) &&& 31))), ss, vi f0, vi f1, vi f2, vi (0 : Int32), vi (0 : Int32), vi (0 : Int32), vi (own_val p1 (0 : Int32)), vi (own_val p1 (16 : Int32)), vi (own_val p1 (32 : Int32)), vi (own_val p2 (0 : Int32)), vi (own_val p2 (16 : Int32)), vi (own_val p2 (32 : Int32)), vr a1285, vr a1300, vi ps6, vi ps3, vi ps6, vr a1462, vr a1497, vr a1566, vr a1593, vj (((own_tm f0 (own_val p1 (0 : Int32)) p3) + (own_tm f1 (own_val p1 (16 : Int32)) p4)) + (own_tm f2 (own_val p1 (32 : Int32)) p5)), ss, uu, uu, uu]) rfl ?_
      refine XS.iload X1709.here hx rfl (hb hby at_451) rfl ?_
      refine XS.iload X1709.here hx rfl (hb hby at_453) rfl ?_
      show Steps p.tables e below (T1705.setTop (mkF m 455 #[vi p0, vj p1, ss, vj p2, ss, vi p3, vi p4, vi p5, vi (0 : Int32), vd (FP.i2d (p0 >>> ((8 : Int32) &&& 31))), ss, vi f0, vi f1, vi f2, vi (0 : Int32), vi (0 : Int32), vi (0 : Int32), vi (own_val p1 (0 : Int32)), vi (own_val p1 (16 : Int32)), vi (own_val p1 (32 : Int32)), vi (own_val p2 (0 : Int32)), vi (own_val p2 (16 : Int32)), vi (own_val p2 (32 : Int32)), vr a1285, vr a1300, vi ps6, vi ps3, vi ps6, vr a1462, vr a1497, vr a1566, vr a1593, vj (((own_tm f0 (own_val p1 (0 : Int32)) p3) + (own_tm f1 (own_val p1 (16 : Int32)) p4)) + (own_tm f2 (own_val p1 (32 : Int32)) p5)), ss, uu, uu, uu] [(.int (own_val p2 (0 : Int32))), (.int (0 : Int32))])) tQ
      refine XS.iload X1709.here hx rfl (hb hby at_455) rfl ?_
      exact kk
    clear k1720
    obtain ⟨_, _, ⟨T1722, L1723, kc1724, nc1725⟩, -, X1726, ⟨Lc1727, hQ1728, l1729, y1730, z1731⟩, st1732⟩ := Jvm.LawKit.callS X1709 hx (y := mn2) hown (mvT hZ (tw33 hw)) (mvT hZ (tw34 hw)) (mvT hZ (tw2 hw)) (mvT hZ (tw35 hw)) (by decide) (backOf (W := 0) (rmTe l Z a0 hw [] (0 : Int32) (own_val p2 (0 : Int32)) p3 T1619.heap n0 Z1640 ) hZ (tw35 hw) (tw2 hw) (by decide) (by decide)) (g := (mkF m 457 #[vi p0, vj p1, ss, vj p2, ss, vi p3, vi p4, vi p5, vi (0 : Int32), vd (FP.i2d (p0 >>> ((8 : Int32) &&& 31))), ss, vi f0, vi f1, vi f2, vi (0 : Int32), vi (0 : Int32), vi (0 : Int32), vi (own_val p1 (0 : Int32)), vi (own_val p1 (16 : Int32)), vi (own_val p1 (32 : Int32)), vi (own_val p2 (0 : Int32)), vi (own_val p2 (16 : Int32)), vi (own_val p2 (32 : Int32)), vr a1285, vr a1300, vi ps6, vi ps3, vi ps6, vr a1462, vr a1497, vr a1566, vr a1593, vj (((own_tm f0 (own_val p1 (0 : Int32)) p3) + (own_tm f1 (own_val p1 (16 : Int32)) p4)) + (own_tm f2 (own_val p1 (32 : Int32)) p5)), ss, uu, uu, uu] [(.int p3), (.int (own_val p2 (0 : Int32))), (.int (0 : Int32))])) rfl (by rw [hml]; rfl) (argsL := [(.int (0 : Int32)), (.int (own_val p2 (0 : Int32))), (.int p3)]) (rest := []) (lenOf pd_15 rfl) rfl (by show 2 * 0 + _ ≤ _; exact Nat.le_of_eq rfl) (hb hby at_457) (fun _ _ => ⟨rfl, e1717, (by decide : 6 + 0 ≤ _), (by decide : 21 + 0 ≤ _)⟩)
    dsimp only [Pt.U, Pt.locs, Pt.cells, Pt.slots] at X1726 l1729 y1730 z1731 st1732 hQ1728
    subst y1730 z1731
    obtain ⟨rfl, N1733, e1734⟩ := hQ1728
    have N1736 : Fr n0 L1723 := by rw [l1729]; exact Fr.app N1719 N1733
    clear l1729 N1733
    have k1737 : own_G p e below E0 T1722 (mkF m 460 #[vi p0, vj p1, ss, vj p2, ss, vi p3, vi p4, vi p5, vi (0 : Int32), vd (FP.i2d (p0 >>> ((8 : Int32) &&& 31))), ss, vi f0, vi f1, vi f2, vi (0 : Int32), vi (0 : Int32), vi (0 : Int32), vi (own_val p1 (0 : Int32)), vi (own_val p1 (16 : Int32)), vi (own_val p1 (32 : Int32)), vi (own_val p2 (0 : Int32)), vi (own_val p2 (16 : Int32)), vi (own_val p2 (32 : Int32)), vr a1285, vr a1300, vi ps6, vi ps3, vi ps6, vr a1462, vr a1497, vr a1566, vr a1593, vj (((own_tm f0 (own_val p1 (0 : Int32)) p3) + (own_tm f1 (own_val p1 (16 : Int32)) p4)) + (own_tm f2 (own_val p1 (32 : Int32)) p5)), ss, uu, uu, uu] [(.long (own_tm (0 : Int32) (own_val p2 (0 : Int32)) p3))]) := fun tQ kk => k1721 tQ (st1732 _ kk)
    clear k1721 st1732
    have k1738 : own_G p e below E0 T1722 (mkF m 466 #[vi p0, vj p1, ss, vj p2, ss, vi p3, vi p4, vi p5, vi (0 : Int32), vd (FP.i2d (p0 >>> ((8 : Int32) &&& 31))), ss, vi f0, vi f1, vi f2, vi (0 : Int32), vi (0 : Int32), vi (0 : Int32), vi (own_val p1 (0 : Int32)), vi (own_val p1 (16 : Int32)), vi (own_val p1 (32 : Int32)), vi (own_val p2 (0 : Int32)), vi (own_val p2 (16 : Int32)), vi (own_val p2 (32 : Int32)), vr a1285, vr a1300, vi ps6, vi ps3, vi ps6, vr a1462, vr a1497, vr a1566, vr a1593, vj (((own_tm f0 (own_val p1 (0 : Int32)) p3) + (own_tm f1 (own_val p1 (16 : Int32)) p4)) + (own_tm f2 (own_val p1 (32 : Int32)) p5)), ss, uu, uu, uu] [(.int p4), (.int (own_val p2 (16 : Int32))), (.int (0 : Int32)), (.long (own_tm (0 : Int32) (own_val p2 (0 : Int32)) p3))]) := by
      intro tQ kk
      refine k1737 tQ ?_
      refine XS.iload X1726.here hx rfl (hb hby at_460) rfl ?_
      refine XS.iload X1726.here hx rfl (hb hby at_462) rfl ?_
      refine XS.iload X1726.here hx rfl (hb hby at_464) rfl ?_
      exact kk
    clear k1737
    obtain ⟨_, _, ⟨T1739, L1740, kc1741, nc1742⟩, -, X1743, ⟨Lc1744, hQ1745, l1746, y1747, z1748⟩, st1749⟩ := Jvm.LawKit.callS X1726 hx (y := mn2) hown (mvT hZ (tw33 hw)) (mvT hZ (tw34 hw)) (mvT hZ (tw2 hw)) (mvT hZ (tw35 hw)) (by decide) (backOf (W := 2) (rmTe l Z a0 hw [] (0 : Int32) (own_val p2 (16 : Int32)) p4 T1619.heap n0 Z1640 ) hZ (tw35 hw) (tw2 hw) (by decide) (by decide)) (g := (mkF m 466 #[vi p0, vj p1, ss, vj p2, ss, vi p3, vi p4, vi p5, vi (0 : Int32), vd (FP.i2d (p0 >>> ((8 : Int32) &&& 31))), ss, vi f0, vi f1, vi f2, vi (0 : Int32), vi (0 : Int32), vi (0 : Int32), vi (own_val p1 (0 : Int32)), vi (own_val p1 (16 : Int32)), vi (own_val p1 (32 : Int32)), vi (own_val p2 (0 : Int32)), vi (own_val p2 (16 : Int32)), vi (own_val p2 (32 : Int32)), vr a1285, vr a1300, vi ps6, vi ps3, vi ps6, vr a1462, vr a1497, vr a1566, vr a1593, vj (((own_tm f0 (own_val p1 (0 : Int32)) p3) + (own_tm f1 (own_val p1 (16 : Int32)) p4)) + (own_tm f2 (own_val p1 (32 : Int32)) p5)), ss, uu, uu, uu] [(.int p4), (.int (own_val p2 (16 : Int32))), (.int (0 : Int32)), (.long (own_tm (0 : Int32) (own_val p2 (0 : Int32)) p3))])) rfl (by rw [hml]; rfl) (argsL := [(.int (0 : Int32)), (.int (own_val p2 (16 : Int32))), (.int p4)]) (rest := [(.long (own_tm (0 : Int32) (own_val p2 (0 : Int32)) p3))]) (lenOf pd_15 rfl) rfl (by show 2 * 0 + _ ≤ _; exact Nat.le_of_eq rfl) (hb hby at_466) (fun _ _ => ⟨rfl, e1734, (by decide : 6 + 0 ≤ _), (by decide : 21 + 0 ≤ _)⟩)
    dsimp only [Pt.U, Pt.locs, Pt.cells, Pt.slots] at X1743 l1746 y1747 z1748 st1749 hQ1745
    subst y1747 z1748
    obtain ⟨rfl, N1750, e1751⟩ := hQ1745
    have N1753 : Fr n0 L1740 := by rw [l1746]; exact Fr.app N1736 N1750
    clear l1746 N1750
    have k1754 : own_G p e below E0 T1739 (mkF m 469 #[vi p0, vj p1, ss, vj p2, ss, vi p3, vi p4, vi p5, vi (0 : Int32), vd (FP.i2d (p0 >>> ((8 : Int32) &&& 31))), ss, vi f0, vi f1, vi f2, vi (0 : Int32), vi (0 : Int32), vi (0 : Int32), vi (own_val p1 (0 : Int32)), vi (own_val p1 (16 : Int32)), vi (own_val p1 (32 : Int32)), vi (own_val p2 (0 : Int32)), vi (own_val p2 (16 : Int32)), vi (own_val p2 (32 : Int32)), vr a1285, vr a1300, vi ps6, vi ps3, vi ps6, vr a1462, vr a1497, vr a1566, vr a1593, vj (((own_tm f0 (own_val p1 (0 : Int32)) p3) + (own_tm f1 (own_val p1 (16 : Int32)) p4)) + (own_tm f2 (own_val p1 (32 : Int32)) p5)), ss, uu, uu, uu] [(.long (own_tm (0 : Int32) (own_val p2 (16 : Int32)) p4)), (.long (own_tm (0 : Int32) (own_val p2 (0 : Int32)) p3))]) := fun tQ kk => k1738 tQ (st1749 _ kk)
    clear k1738 st1749
    have k1755 : own_G p e below E0 T1739 (mkF m 476 #[vi p0, vj p1, ss, vj p2, ss, vi p3, vi p4, vi p5, vi (0 : Int32), vd (FP.i2d (p0 >>> ((8 : Int32) &&& 31))), ss, vi f0, vi f1, vi f2, vi (0 : Int32), vi (0 : Int32), vi (0 : Int32), vi (own_val p1 (0 : Int32)), vi (own_val p1 (16 : Int32)), vi (own_val p1 (32 : Int32)), vi (own_val p2 (0 : Int32)), vi (own_val p2 (16 : Int32)), vi (own_val p2 (32 : Int32)), vr a1285, vr a1300, vi ps6, vi ps3, vi ps6, vr a1462, vr a1497, vr a1566, vr a1593, vj (((own_tm f0 (own_val p1 (0 : Int32)) p3) + (own_tm f1 (own_val p1 (16 : Int32)) p4)) + (own_tm f2 (own_val p1 (32 : Int32)) p5)), ss, uu, uu, uu] [(.int p5), (.int (own_val p2 (32 : Int32))), (.int (0 : Int32)), (.long ((own_tm (0 : Int32) (own_val p2 (0 : Int32)) p3) + (own_tm (0 : Int32) (own_val p2 (16 : Int32)) p4)))]) := by
      intro tQ kk
      refine k1754 tQ ?_
      refine XT.ladd X1743.here hx rfl (hb hby at_469) rfl ?_
      refine XS.iload X1743.here hx rfl (hb hby at_470) rfl ?_
      refine XS.iload X1743.here hx rfl (hb hby at_472) rfl ?_
      refine XS.iload X1743.here hx rfl (hb hby at_474) rfl ?_
      exact kk
    clear k1754
    obtain ⟨_, _, ⟨T1756, L1757, kc1758, nc1759⟩, -, X1760, ⟨Lc1761, hQ1762, l1763, y1764, z1765⟩, st1766⟩ := Jvm.LawKit.callS X1743 hx (y := mn2) hown (mvT hZ (tw33 hw)) (mvT hZ (tw34 hw)) (mvT hZ (tw2 hw)) (mvT hZ (tw35 hw)) (by decide) (backOf (W := 2) (rmTe l Z a0 hw [] (0 : Int32) (own_val p2 (32 : Int32)) p5 T1619.heap n0 Z1640 ) hZ (tw35 hw) (tw2 hw) (by decide) (by decide)) (g := (mkF m 476 #[vi p0, vj p1, ss, vj p2, ss, vi p3, vi p4, vi p5, vi (0 : Int32), vd (FP.i2d (p0 >>> ((8 : Int32) &&& 31))), ss, vi f0, vi f1, vi f2, vi (0 : Int32), vi (0 : Int32), vi (0 : Int32), vi (own_val p1 (0 : Int32)), vi (own_val p1 (16 : Int32)), vi (own_val p1 (32 : Int32)), vi (own_val p2 (0 : Int32)), vi (own_val p2 (16 : Int32)), vi (own_val p2 (32 : Int32)), vr a1285, vr a1300, vi ps6, vi ps3, vi ps6, vr a1462, vr a1497, vr a1566, vr a1593, vj (((own_tm f0 (own_val p1 (0 : Int32)) p3) + (own_tm f1 (own_val p1 (16 : Int32)) p4)) + (own_tm f2 (own_val p1 (32 : Int32)) p5)), ss, uu, uu, uu] [(.int p5), (.int (own_val p2 (32 : Int32))), (.int (0 : Int32)), (.long ((own_tm (0 : Int32) (own_val p2 (0 : Int32)) p3) + (own_tm (0 : Int32) (own_val p2 (16 : Int32)) p4)))])) rfl (by rw [hml]; rfl) (argsL := [(.int (0 : Int32)), (.int (own_val p2 (32 : Int32))), (.int p5)]) (rest := [(.long ((own_tm (0 : Int32) (own_val p2 (0 : Int32)) p3) + (own_tm (0 : Int32) (own_val p2 (16 : Int32)) p4)))]) (lenOf pd_15 rfl) rfl (by show 2 * 0 + _ ≤ _; exact Nat.le_of_eq rfl) (hb hby at_476) (fun _ _ => ⟨rfl, e1751, (by decide : 6 + 0 ≤ _), (by decide : 21 + 0 ≤ _)⟩)
    dsimp only [Pt.U, Pt.locs, Pt.cells, Pt.slots] at X1760 l1763 y1764 z1765 st1766 hQ1762
    subst y1764 z1765
    obtain ⟨rfl, N1767, e1768⟩ := hQ1762
    have N1770 : Fr n0 L1757 := by rw [l1763]; exact Fr.app N1753 N1767
    clear l1763 N1767
    have k1771 : own_G p e below E0 T1756 (mkF m 479 #[vi p0, vj p1, ss, vj p2, ss, vi p3, vi p4, vi p5, vi (0 : Int32), vd (FP.i2d (p0 >>> ((8 : Int32) &&& 31))), ss, vi f0, vi f1, vi f2, vi (0 : Int32), vi (0 : Int32), vi (0 : Int32), vi (own_val p1 (0 : Int32)), vi (own_val p1 (16 : Int32)), vi (own_val p1 (32 : Int32)), vi (own_val p2 (0 : Int32)), vi (own_val p2 (16 : Int32)), vi (own_val p2 (32 : Int32)), vr a1285, vr a1300, vi ps6, vi ps3, vi ps6, vr a1462, vr a1497, vr a1566, vr a1593, vj (((own_tm f0 (own_val p1 (0 : Int32)) p3) + (own_tm f1 (own_val p1 (16 : Int32)) p4)) + (own_tm f2 (own_val p1 (32 : Int32)) p5)), ss, uu, uu, uu] [(.long (own_tm (0 : Int32) (own_val p2 (32 : Int32)) p5)), (.long ((own_tm (0 : Int32) (own_val p2 (0 : Int32)) p3) + (own_tm (0 : Int32) (own_val p2 (16 : Int32)) p4)))]) := fun tQ kk => k1755 tQ (st1766 _ kk)
    clear k1755 st1766
    have k1772 : own_G p e below E0 T1756 (mkF m 485 #[vi p0, vj p1, ss, vj p2, ss, vi p3, vi p4, vi p5, vi (0 : Int32), vd (FP.i2d (p0 >>> ((8 : Int32) &&& 31))), ss, vi f0, vi f1, vi f2, vi (0 : Int32), vi (0 : Int32), vi (0 : Int32), vi (own_val p1 (0 : Int32)), vi (own_val p1 (16 : Int32)), vi (own_val p1 (32 : Int32)), vi (own_val p2 (0 : Int32)), vi (own_val p2 (16 : Int32)), vi (own_val p2 (32 : Int32)), vr a1285, vr a1300, vi ps6, vi ps3, vi ps6, vr a1462, vr a1497, vr a1566, vr a1593, vj (((own_tm f0 (own_val p1 (0 : Int32)) p3) + (own_tm f1 (own_val p1 (16 : Int32)) p4)) + (own_tm f2 (own_val p1 (32 : Int32)) p5)), ss, vj (((own_tm (0 : Int32) (own_val p2 (0 : Int32)) p3) + (own_tm (0 : Int32) (own_val p2 (16 : Int32)) p4)) + (own_tm (0 : Int32) (own_val p2 (32 : Int32)) p5)), ss, uu] [(.int (0 : Int32)), (.ref a1497)]) := by
      intro tQ kk
      refine k1771 tQ ?_
      refine XT.ladd X1760.here hx rfl (hb hby at_479) rfl ?_
      refine XT.lstore X1760.here hx rfl (hb hby at_480) rfl (l' := #[vi p0, vj p1, ss, vj p2, ss, vi p3, vi p4, vi p5, vi (0 : Int32), vd (FP.i2d (p0 >>> ((8 : Int32) &&& 31))), ss, vi f0, vi f1, vi f2, vi (0 : Int32), vi (0 : Int32), vi (0 : Int32), vi (own_val p1 (0 : Int32)), vi (own_val p1 (16 : Int32)), vi (own_val p1 (32 : Int32)), vi (own_val p2 (0 : Int32)), vi (own_val p2 (16 : Int32)), vi (own_val p2 (32 : Int32)), vr a1285, vr a1300, vi ps6, vi ps3, vi ps6, vr a1462, vr a1497, vr a1566, vr a1593, vj (((own_tm f0 (own_val p1 (0 : Int32)) p3) + (own_tm f1 (own_val p1 (16 : Int32)) p4)) + (own_tm f2 (own_val p1 (32 : Int32)) p5)), ss, vj (((own_tm (0 : Int32) (own_val p2 (0 : Int32)) p3) + (own_tm (0 : Int32) (own_val p2 (16 : Int32)) p4)) + (own_tm (0 : Int32) (own_val p2 (32 : Int32)) p5)), ss, uu]) rfl ?_
      refine XS.aload X1760.here hx rfl (hb hby at_482) rfl rfl ?_
      refine XS.iconst X1760.here hx rfl (hb hby at_484) ?_
      exact kk
    clear k1771
    have st1773 := fun tQ => own_A.dld X1760 hx hZ e1768 F1644 (j := (0 : Int32)) (v := (.double (FP.i2d p3))) (by decide) rfl (g := (mkF m 485 #[vi p0, vj p1, ss, vj p2, ss, vi p3, vi p4, vi p5, vi (0 : Int32), vd (FP.i2d (p0 >>> ((8 : Int32) &&& 31))), ss, vi f0, vi f1, vi f2, vi (0 : Int32), vi (0 : Int32), vi (0 : Int32), vi (own_val p1 (0 : Int32)), vi (own_val p1 (16 : Int32)), vi (own_val p1 (32 : Int32)), vi (own_val p2 (0 : Int32)), vi (own_val p2 (16 : Int32)), vi (own_val p2 (32 : Int32)), vr a1285, vr a1300, vi ps6, vi ps3, vi ps6, vr a1462, vr a1497, vr a1566, vr a1593, vj (((own_tm f0 (own_val p1 (0 : Int32)) p3) + (own_tm f1 (own_val p1 (16 : Int32)) p4)) + (own_tm f2 (own_val p1 (32 : Int32)) p5)), ss, vj (((own_tm (0 : Int32) (own_val p2 (0 : Int32)) p3) + (own_tm (0 : Int32) (own_val p2 (16 : Int32)) p4)) + (own_tm (0 : Int32) (own_val p2 (32 : Int32)) p5)), ss, uu] [(.int (0 : Int32)), (.ref a1497)])) rfl rfl (hb hby at_485) tQ
    have k1774 : own_G p e below E0 T1756 (mkF m 486 #[vi p0, vj p1, ss, vj p2, ss, vi p3, vi p4, vi p5, vi (0 : Int32), vd (FP.i2d (p0 >>> ((8 : Int32) &&& 31))), ss, vi f0, vi f1, vi f2, vi (0 : Int32), vi (0 : Int32), vi (0 : Int32), vi (own_val p1 (0 : Int32)), vi (own_val p1 (16 : Int32)), vi (own_val p1 (32 : Int32)), vi (own_val p2 (0 : Int32)), vi (own_val p2 (16 : Int32)), vi (own_val p2 (32 : Int32)), vr a1285, vr a1300, vi ps6, vi ps3, vi ps6, vr a1462, vr a1497, vr a1566, vr a1593, vj (((own_tm f0 (own_val p1 (0 : Int32)) p3) + (own_tm f1 (own_val p1 (16 : Int32)) p4)) + (own_tm f2 (own_val p1 (32 : Int32)) p5)), ss, vj (((own_tm (0 : Int32) (own_val p2 (0 : Int32)) p3) + (own_tm (0 : Int32) (own_val p2 (16 : Int32)) p4)) + (own_tm (0 : Int32) (own_val p2 (32 : Int32)) p5)), ss, uu] [(.double (FP.i2d p3))]) := fun tQ kk => k1772 tQ (st1773 _ kk)
    clear k1772 st1773
    have k1775 : own_G p e below E0 T1756 (mkF m 496 #[vi p0, vj p1, ss, vj p2, ss, vi p3, vi p4, vi p5, vi (0 : Int32), vd (FP.i2d (p0 >>> ((8 : Int32) &&& 31))), ss, vi f0, vi f1, vi f2, vi (0 : Int32), vi (0 : Int32), vi (0 : Int32), vi (own_val p1 (0 : Int32)), vi (own_val p1 (16 : Int32)), vi (own_val p1 (32 : Int32)), vi (own_val p2 (0 : Int32)), vi (own_val p2 (16 : Int32)), vi (own_val p2 (32 : Int32)), vr a1285, vr a1300, vi ps6, vi ps3, vi ps6, vr a1462, vr a1497, vr a1566, vr a1593, vj (((own_tm f0 (own_val p1 (0 : Int32)) p3) + (own_tm f1 (own_val p1 (16 : Int32)) p4)) + (own_tm f2 (own_val p1 (32 : Int32)) p5)), ss, vj (((own_tm (0 : Int32) (own_val p2 (0 : Int32)) p3) + (own_tm (0 : Int32) (own_val p2 (16 : Int32)) p4)) + (own_tm (0 : Int32) (own_val p2 (32 : Int32)) p5)), ss, uu] [(.int (1 : Int32)), (.ref a1497)]) := by
      intro tQ kk
      refine k1774 tQ ?_
      refine XS.iload X1760.here hx rfl (hb hby at_486) rfl ?_
      refine XS.i2dS X1760.here hx rfl (hb hby at_488) rfl rfl ?_
      refine XS.dcmpS (v := (0 : Int32)) X1760.here hx rfl (hb hby at_489) rfl (own_eq0 .l (FP.Core.i2d_int p3) (FP.Core.i2d_int p3)) ?_
      refine XS.ifNo X1760.here hx rfl (hb hby at_490) rfl (own_if_neN (by decide)) ?_
      show Steps p.tables e below (T1756.setTop (mkF m 493 #[vi p0, vj p1, ss, vj p2, ss, vi p3, vi p4, vi p5, vi (0 : Int32), vd (FP.i2d (p0 >>> ((8 : Int32) &&& 31))), ss, vi f0, vi f1, vi f2, vi (0 : Int32), vi (0 : Int32), vi (0 : Int32), vi (own_val p1 (0 : Int32)), vi (own_val p1 (16 : Int32)), vi (own_val p1 (32 : Int32)), vi (own_val p2 (0 : Int32)), vi (own_val p2 (16 : Int32)), vi (own_val p2 (32 : Int32)), vr a1285, vr a1300, vi ps6, vi ps3, vi ps6, vr a1462, vr a1497, vr a1566, vr a1593, vj (((own_tm f0 (own_val p1 (0 : Int32)) p3) + (own_tm f1 (own_val p1 (16 : Int32)) p4)) + (own_tm f2 (own_val p1 (32 : Int32)) p5)), ss, vj (((own_tm (0 : Int32) (own_val p2 (0 : Int32)) p3) + (own_tm (0 : Int32) (own_val p2 (16 : Int32)) p4)) + (own_tm (0 : Int32) (own_val p2 (32 : Int32)) p5)), ss, uu] [])) tQ
      refine XS.aload X1760.here hx rfl (hb hby at_493) rfl rfl ?_
      refine XS.iconst X1760.here hx rfl (hb hby at_495) ?_
      exact kk
    clear k1774
    have st1776 := fun tQ => own_A.dld X1760 hx hZ e1768 F1644 (j := (1 : Int32)) (v := (.double (FP.i2d p4))) (by decide) rfl (g := (mkF m 496 #[vi p0, vj p1, ss, vj p2, ss, vi p3, vi p4, vi p5, vi (0 : Int32), vd (FP.i2d (p0 >>> ((8 : Int32) &&& 31))), ss, vi f0, vi f1, vi f2, vi (0 : Int32), vi (0 : Int32), vi (0 : Int32), vi (own_val p1 (0 : Int32)), vi (own_val p1 (16 : Int32)), vi (own_val p1 (32 : Int32)), vi (own_val p2 (0 : Int32)), vi (own_val p2 (16 : Int32)), vi (own_val p2 (32 : Int32)), vr a1285, vr a1300, vi ps6, vi ps3, vi ps6, vr a1462, vr a1497, vr a1566, vr a1593, vj (((own_tm f0 (own_val p1 (0 : Int32)) p3) + (own_tm f1 (own_val p1 (16 : Int32)) p4)) + (own_tm f2 (own_val p1 (32 : Int32)) p5)), ss, vj (((own_tm (0 : Int32) (own_val p2 (0 : Int32)) p3) + (own_tm (0 : Int32) (own_val p2 (16 : Int32)) p4)) + (own_tm (0 : Int32) (own_val p2 (32 : Int32)) p5)), ss, uu] [(.int (1 : Int32)), (.ref a1497)])) rfl rfl (hb hby at_496) tQ
    have k1777 : own_G p e below E0 T1756 (mkF m 497 #[vi p0, vj p1, ss, vj p2, ss, vi p3, vi p4, vi p5, vi (0 : Int32), vd (FP.i2d (p0 >>> ((8 : Int32) &&& 31))), ss, vi f0, vi f1, vi f2, vi (0 : Int32), vi (0 : Int32), vi (0 : Int32), vi (own_val p1 (0 : Int32)), vi (own_val p1 (16 : Int32)), vi (own_val p1 (32 : Int32)), vi (own_val p2 (0 : Int32)), vi (own_val p2 (16 : Int32)), vi (own_val p2 (32 : Int32)), vr a1285, vr a1300, vi ps6, vi ps3, vi ps6, vr a1462, vr a1497, vr a1566, vr a1593, vj (((own_tm f0 (own_val p1 (0 : Int32)) p3) + (own_tm f1 (own_val p1 (16 : Int32)) p4)) + (own_tm f2 (own_val p1 (32 : Int32)) p5)), ss, vj (((own_tm (0 : Int32) (own_val p2 (0 : Int32)) p3) + (own_tm (0 : Int32) (own_val p2 (16 : Int32)) p4)) + (own_tm (0 : Int32) (own_val p2 (32 : Int32)) p5)), ss, uu] [(.double (FP.i2d p4))]) := fun tQ kk => k1775 tQ (st1776 _ kk)
    clear k1775 st1776
    have k1778 : own_G p e below E0 T1756 (mkF m 507 #[vi p0, vj p1, ss, vj p2, ss, vi p3, vi p4, vi p5, vi (0 : Int32), vd (FP.i2d (p0 >>> ((8 : Int32) &&& 31))), ss, vi f0, vi f1, vi f2, vi (0 : Int32), vi (0 : Int32), vi (0 : Int32), vi (own_val p1 (0 : Int32)), vi (own_val p1 (16 : Int32)), vi (own_val p1 (32 : Int32)), vi (own_val p2 (0 : Int32)), vi (own_val p2 (16 : Int32)), vi (own_val p2 (32 : Int32)), vr a1285, vr a1300, vi ps6, vi ps3, vi ps6, vr a1462, vr a1497, vr a1566, vr a1593, vj (((own_tm f0 (own_val p1 (0 : Int32)) p3) + (own_tm f1 (own_val p1 (16 : Int32)) p4)) + (own_tm f2 (own_val p1 (32 : Int32)) p5)), ss, vj (((own_tm (0 : Int32) (own_val p2 (0 : Int32)) p3) + (own_tm (0 : Int32) (own_val p2 (16 : Int32)) p4)) + (own_tm (0 : Int32) (own_val p2 (32 : Int32)) p5)), ss, uu] [(.int (2 : Int32)), (.ref a1497)]) := by
      intro tQ kk
      refine k1777 tQ ?_
      refine XS.iload X1760.here hx rfl (hb hby at_497) rfl ?_
      refine XS.i2dS X1760.here hx rfl (hb hby at_499) rfl rfl ?_
      refine XS.dcmpS (v := (0 : Int32)) X1760.here hx rfl (hb hby at_500) rfl (own_eq0 .l (FP.Core.i2d_int p4) (FP.Core.i2d_int p4)) ?_
      refine XS.ifNo X1760.here hx rfl (hb hby at_501) rfl (own_if_neN (by decide)) ?_
      show Steps p.tables e below (T1756.setTop (mkF m 504 #[vi p0, vj p1, ss, vj p2, ss, vi p3, vi p4, vi p5, vi (0 : Int32), vd (FP.i2d (p0 >>> ((8 : Int32) &&& 31))), ss, vi f0, vi f1, vi f2, vi (0 : Int32), vi (0 : Int32), vi (0 : Int32), vi (own_val p1 (0 : Int32)), vi (own_val p1 (16 : Int32)), vi (own_val p1 (32 : Int32)), vi (own_val p2 (0 : Int32)), vi (own_val p2 (16 : Int32)), vi (own_val p2 (32 : Int32)), vr a1285, vr a1300, vi ps6, vi ps3, vi ps6, vr a1462, vr a1497, vr a1566, vr a1593, vj (((own_tm f0 (own_val p1 (0 : Int32)) p3) + (own_tm f1 (own_val p1 (16 : Int32)) p4)) + (own_tm f2 (own_val p1 (32 : Int32)) p5)), ss, vj (((own_tm (0 : Int32) (own_val p2 (0 : Int32)) p3) + (own_tm (0 : Int32) (own_val p2 (16 : Int32)) p4)) + (own_tm (0 : Int32) (own_val p2 (32 : Int32)) p5)), ss, uu] [])) tQ
      refine XS.aload X1760.here hx rfl (hb hby at_504) rfl rfl ?_
      refine XS.iconst X1760.here hx rfl (hb hby at_506) ?_
      exact kk
    clear k1777
    have st1779 := fun tQ => own_A.dld X1760 hx hZ e1768 F1644 (j := (2 : Int32)) (v := (.double (FP.i2d p5))) (by decide) rfl (g := (mkF m 507 #[vi p0, vj p1, ss, vj p2, ss, vi p3, vi p4, vi p5, vi (0 : Int32), vd (FP.i2d (p0 >>> ((8 : Int32) &&& 31))), ss, vi f0, vi f1, vi f2, vi (0 : Int32), vi (0 : Int32), vi (0 : Int32), vi (own_val p1 (0 : Int32)), vi (own_val p1 (16 : Int32)), vi (own_val p1 (32 : Int32)), vi (own_val p2 (0 : Int32)), vi (own_val p2 (16 : Int32)), vi (own_val p2 (32 : Int32)), vr a1285, vr a1300, vi ps6, vi ps3, vi ps6, vr a1462, vr a1497, vr a1566, vr a1593, vj (((own_tm f0 (own_val p1 (0 : Int32)) p3) + (own_tm f1 (own_val p1 (16 : Int32)) p4)) + (own_tm f2 (own_val p1 (32 : Int32)) p5)), ss, vj (((own_tm (0 : Int32) (own_val p2 (0 : Int32)) p3) + (own_tm (0 : Int32) (own_val p2 (16 : Int32)) p4)) + (own_tm (0 : Int32) (own_val p2 (32 : Int32)) p5)), ss, uu] [(.int (2 : Int32)), (.ref a1497)])) rfl rfl (hb hby at_507) tQ
    have k1780 : own_G p e below E0 T1756 (mkF m 508 #[vi p0, vj p1, ss, vj p2, ss, vi p3, vi p4, vi p5, vi (0 : Int32), vd (FP.i2d (p0 >>> ((8 : Int32) &&& 31))), ss, vi f0, vi f1, vi f2, vi (0 : Int32), vi (0 : Int32), vi (0 : Int32), vi (own_val p1 (0 : Int32)), vi (own_val p1 (16 : Int32)), vi (own_val p1 (32 : Int32)), vi (own_val p2 (0 : Int32)), vi (own_val p2 (16 : Int32)), vi (own_val p2 (32 : Int32)), vr a1285, vr a1300, vi ps6, vi ps3, vi ps6, vr a1462, vr a1497, vr a1566, vr a1593, vj (((own_tm f0 (own_val p1 (0 : Int32)) p3) + (own_tm f1 (own_val p1 (16 : Int32)) p4)) + (own_tm f2 (own_val p1 (32 : Int32)) p5)), ss, vj (((own_tm (0 : Int32) (own_val p2 (0 : Int32)) p3) + (own_tm (0 : Int32) (own_val p2 (16 : Int32)) p4)) + (own_tm (0 : Int32) (own_val p2 (32 : Int32)) p5)), ss, uu] [(.double (FP.i2d p5))]) := fun tQ kk => k1778 tQ (st1779 _ kk)
    clear k1778 st1779
    have k1781 : own_G p e below E0 T1756 (mkF m 582 #[vi p0, vj p1, ss, vj p2, ss, vi p3, vi p4, vi p5, vi (0 : Int32), vd (FP.i2d (p0 >>> ((8 : Int32) &&& 31))), ss, vi f0, vi f1, vi f2, vi (0 : Int32), vi (0 : Int32), vi (0 : Int32), vi (own_val p1 (0 : Int32)), vi (own_val p1 (16 : Int32)), vi (own_val p1 (32 : Int32)), vi (own_val p2 (0 : Int32)), vi (own_val p2 (16 : Int32)), vi (own_val p2 (32 : Int32)), vr a1285, vr a1300, vi ps6, vi ps3, vi ps6, vr a1462, vr a1497, vr a1566, vr a1593, vj (((own_tm f0 (own_val p1 (0 : Int32)) p3) + (own_tm f1 (own_val p1 (16 : Int32)) p4)) + (own_tm f2 (own_val p1 (32 : Int32)) p5)), ss, vj (((own_tm (0 : Int32) (own_val p2 (0 : Int32)) p3) + (own_tm (0 : Int32) (own_val p2 (16 : Int32)) p4)) + (own_tm (0 : Int32) (own_val p2 (32 : Int32)) p5)), ss, vi (1 : Int32)] [(.int (1 : Int32))]) := by
      intro tQ kk
      refine k1780 tQ ?_
      refine XS.iload X1760.here hx rfl (hb hby at_508) rfl ?_
      refine XS.i2dS X1760.here hx rfl (hb hby at_510) rfl rfl ?_
      refine XS.dcmpS (v := (0 : Int32)) X1760.here hx rfl (hb hby at_511) rfl (own_eq0 .l (FP.Core.i2d_int p5) (FP.Core.i2d_int p5)) ?_
      refine XS.ifNo X1760.here hx rfl (hb hby at_512) rfl (own_if_neN (by decide)) ?_
      show Steps p.tables e below (T1756.setTop (mkF m 515 #[vi p0, vj p1, ss, vj p2, ss, vi p3, vi p4, vi p5, vi (0 : Int32), vd (FP.i2d (p0 >>> ((8 : Int32) &&& 31))), ss, vi f0, vi f1, vi f2, vi (0 : Int32), vi (0 : Int32), vi (0 : Int32), vi (own_val p1 (0 : Int32)), vi (own_val p1 (16 : Int32)), vi (own_val p1 (32 : Int32)), vi (own_val p2 (0 : Int32)), vi (own_val p2 (16 : Int32)), vi (own_val p2 (32 : Int32)), vr a1285, vr a1300, vi ps6, vi ps3, vi ps6, vr a1462, vr a1497, vr a1566, vr a1593, vj (((own_tm f0 (own_val p1 (0 : Int32)) p3) + (own_tm f1 (own_val p1 (16 : Int32)) p4)) + (own_tm f2 (own_val p1 (32 : Int32)) p5)), ss, vj (((own_tm (0 : Int32) (own_val p2 (0 : Int32)) p3) + (own_tm (0 : Int32) (own_val p2 (16 : Int32)) p4)) + (own_tm (0 : Int32) (own_val p2 (32 : Int32)) p5)), ss, uu] [])) tQ
      refine XS.iconst X1760.here hx rfl (hb hby at_515) ?_
      refine XS.goto X1760.here hx rfl (pc0 := 516) (pc' := 520) rfl (hb hby at_516) (by decide) (by decide) ?_
      refine XS.istore X1760.here hx rfl (hb hby at_520) rfl (l' := #[vi p0, vj p1, ss, vj p2, ss, vi p3, vi p4, vi p5, vi (0 : Int32), vd (FP.i2d (p0 >>> ((8 : Int32) &&& 31))), ss, vi f0, vi f1, vi f2, vi (0 : Int32), vi (0 : Int32), vi (0 : Int32), vi (own_val p1 (0 : Int32)), vi (own_val p1 (16 : Int32)), vi (own_val p1 (32 : Int32)), vi (own_val p2 (0 : Int32)), vi (own_val p2 (16 : Int32)), vi (own_val p2 (32 : Int32)), vr a1285, vr a1300, vi ps6, vi ps3, vi ps6, vr a1462, vr a1497, vr a1566, vr a1593, vj (((own_tm f0 (own_val p1 (0 : Int32)) p3) + (own_tm f1 (own_val p1 (16 : Int32)) p4)) + (own_tm f2 (own_val p1 (32 : Int32)) p5)), ss, vj (((own_tm (0 : Int32) (own_val p2 (0 : Int32)) p3) + (own_tm (0 : Int32) (own_val p2 (16 : Int32)) p4)) + (own_tm (0 : Int32) (own_val p2 (32 : Int32)) p5)), ss, vi (1 : Int32)]) rfl ?_
      refine XS.iload X1760.here hx rfl (hb hby at_522) rfl ?_
      show Steps p.tables e below (T1756.setTop (mkF m 524 #[vi p0, vj p1, ss, vj p2, ss, vi p3, vi p4, vi p5, vi (0 : Int32), vd (FP.i2d (p0 >>> ((8 : Int32) &&& 31))), ss, vi f0, vi f1, vi f2, vi (0 : Int32), vi (0 : Int32), vi (0 : Int32), vi (own_val p1 (0 : Int32)), vi (own_val p1 (16 : Int32)), vi (own_val p1 (32 : Int32)), vi (own_val p2 (0 : Int32)), vi (own_val p2 (16 : Int32)), vi (own_val p2 (32 : Int32)), vr a1285, vr a1300, vi ps6, vi ps3, vi ps6, vr a1462, vr a1497, vr a1566, vr a1593, vj (((own_tm f0 (own_val p1 (0 : Int32)) p3) + (own_tm f1 (own_val p1 (16 : Int32)) p4)) + (own_tm f2 (own_val p1 (32 : Int32)) p5)), ss, vj (((own_tm (0 : Int32) (own_val p2 (0 : Int32)) p3) + (own_tm (0 : Int32) (own_val p2 (16 : Int32)) p4)) + (own_tm (0 : Int32) (own_val p2 (32 : Int32)) p5)), ss, vi (1 : Int32)] [(.int (0 : Int32))])) tQ
      refine XS.iconst X1760.here hx rfl (hb hby at_524) ?_
      refine XS.icmpYes X1760.here hx rfl (pc0 := 525) (pc' := 551) rfl (hb hby at_525) rfl (own_ic_ltY (by decide)) (by decide) (by decide) ?_
      refine XS.iload X1760.here hx rfl (hb hby at_551) rfl ?_
      refine XS.iconst X1760.here hx rfl (hb hby at_553) ?_
      show Steps p.tables e below (T1756.setTop (mkF m 554 #[vi p0, vj p1, ss, vj p2, ss, vi p3, vi p4, vi p5, vi (0 : Int32), vd (FP.i2d (p0 >>> ((8 : Int32) &&& 31))), ss, vi f0, vi f1, vi f2, vi (0 : Int32), vi (0 : Int32), vi (0 : Int32), vi (own_val p1 (0 : Int32)), vi (own_val p1 (16 : Int32)), vi (own_val p1 (32 : Int32)), vi (own_val p2 (0 : Int32)), vi (own_val p2 (16 : Int32)), vi (own_val p2 (32 : Int32)), vr a1285, vr a1300, vi ps6, vi ps3, vi ps6, vr a1462, vr a1497, vr a1566, vr a1593, vj (((own_tm f0 (own_val p1 (0 : Int32)) p3) + (own_tm f1 (own_val p1 (16 : Int32)) p4)) + (own_tm f2 (own_val p1 (32 : Int32)) p5)), ss, vj (((own_tm (0 : Int32) (own_val p2 (0 : Int32)) p3) + (own_tm (0 : Int32) (own_val p2 (16 : Int32)) p4)) + (own_tm (0 : Int32) (own_val p2 (32 : Int32)) p5)), ss, vi (1 : Int32)] [(.int (2 : Int32)), (.int (0 : Int32))])) tQ
      refine XS.icmpYes X1760.here hx rfl (pc0 := 554) (pc' := 580) rfl (hb hby at_554) rfl (own_ic_ltY (by decide)) (by decide) (by decide) ?_
      refine XS.iload X1760.here hx rfl (hb hby at_580) rfl ?_
      exact kk
    clear k1780
    obtain ⟨fs, hr, hrun, hended, hW, hsame⟩ := X1760.leave (v := some (.int (1 : Int32))) (fun h => by rw [Bd.returns] at h; cases h)
    have hrun0 := k1781 _ (retOut X1760 hx Bd.returns (t := .boolean) rfl (Or.inl ⟨rfl, Or.inr (Or.inl rfl), _, rfl⟩) (hb hby at_582) hr)
    subst hE0
    refine ⟨_, _, hrun0, hrun, hended, _, _, rfl, ?_, ⟨_, rfl⟩, hW, hsame.mono (by decide) (by decide)⟩
    show Qrm0 Z p0 p1 p2 p3 p4 p5 h0 n0 _ T1756.heap _
    rw [e1768]
    exact ⟨rfl, N1770⟩
  · skip
    have k1782 : own_G p e below E0 s₁ (mkF m 20 #[vi p0, vj p1, ss, vj p2, ss, vi p3, vi p4, vi p5, vi (1 : Int32), vd (FP.i2d (p0 >>> ((8 : Int32) &&& 31))), ss, uu, uu, uu, uu, uu, uu, uu, uu, uu, uu, uu, uu, uu, uu, uu, uu, uu, uu, uu, uu, uu, uu, uu, uu, uu, uu] [(.int (p0 &&& (1 : Int32)))]) := by
      intro tQ kk
      refine k1131 tQ ?_
      refine XS.istore X0.here hx rfl (hb hby at_8) rfl (l' := #[vi p0, vj p1, ss, vj p2, ss, vi p3, vi p4, vi p5, vi (1 : Int32), uu, uu, uu, uu, uu, uu, uu, uu, uu, uu, uu, uu, uu, uu, uu, uu, uu, uu, uu, uu, uu, uu, uu, uu, uu, uu, uu, uu]) rfl ?_
      refine XS.iloadN X0.here hx rfl (hb hby at_10) rfl ?_
      refine XS.bipush X0.here hx rfl (hb hby at_11) ?_
      refine XT.ishr X0.here hx rfl (hb hby at_13) rfl ?_
      show Steps p.tables e below (s₁.setTop (mkF m 14 #[vi p0, vj p1, ss, vj p2, ss, vi p3, vi p4, vi p5, vi (1 : Int32), uu, uu, uu, uu, uu, uu, uu, uu, uu, uu, uu, uu, uu, uu, uu, uu, uu, uu, uu, uu, uu, uu, uu, uu, uu, uu, uu, uu] [(.int (p0 >>> ((8 : Int32) &&& 31)))])) tQ
      refine XS.i2dS X0.here hx rfl (hb hby at_14) rfl rfl ?_
      refine XS.dstore X0.here hx rfl (hb hby at_15) rfl (l' := #[vi p0, vj p1, ss, vj p2, ss, vi p3, vi p4, vi p5, vi (1 : Int32), vd (FP.i2d (p0 >>> ((8 : Int32) &&& 31))), ss, uu, uu, uu, uu, uu, uu, uu, uu, uu, uu, uu, uu, uu, uu, uu, uu, uu, uu, uu, uu, uu, uu, uu, uu, uu, uu]) rfl ?_
      refine XS.iloadN X0.here hx rfl (hb hby at_17) rfl ?_
      refine XS.iconst X0.here hx rfl (hb hby at_18) ?_
      show Steps p.tables e below (s₁.setTop (mkF m 19 #[vi p0, vj p1, ss, vj p2, ss, vi p3, vi p4, vi p5, vi (1 : Int32), vd (FP.i2d (p0 >>> ((8 : Int32) &&& 31))), ss, uu, uu, uu, uu, uu, uu, uu, uu, uu, uu, uu, uu, uu, uu, uu, uu, uu, uu, uu, uu, uu, uu, uu, uu, uu, uu] [(.int (1 : Int32)), (.int p0)])) tQ
      refine XS.iand X0.here hx rfl (hb hby at_19) rfl ?_
      exact kk
    clear k1131
    have jn1787 : ∃ (f0 : Int32), (own_f01 f0) ∧ (own_G p e below E0 s₁ (mkF m 28 #[vi p0, vj p1, ss, vj p2, ss, vi p3, vi p4, vi p5, vi (1 : Int32), vd (FP.i2d (p0 >>> ((8 : Int32) &&& 31))), ss, uu, uu, uu, uu, uu, uu, uu, uu, uu, uu, uu, uu, uu, uu, uu, uu, uu, uu, uu, uu, uu, uu, uu, uu, uu, uu] [(.int f0)])) := by
      by_cases c1783 : (p0 &&& (1 : Int32)) = 0
      · skip
        have k1784 : own_G p e below E0 s₁ (mkF m 28 #[vi p0, vj p1, ss, vj p2, ss, vi p3, vi p4, vi p5, vi (1 : Int32), vd (FP.i2d (p0 >>> ((8 : Int32) &&& 31))), ss, uu, uu, uu, uu, uu, uu, uu, uu, uu, uu, uu, uu, uu, uu, uu, uu, uu, uu, uu, uu, uu, uu, uu, uu, uu, uu] [(.int (0 : Int32))]) := by
          intro tQ kk
          refine k1782 tQ ?_
          refine XS.ifYes X0.here hx rfl (pc0 := 20) (pc' := 27) rfl (hb hby at_20) rfl (own_if_eqY c1783) (by decide) (by decide) ?_
          refine XS.iconst X0.here hx rfl (hb hby at_27) ?_
          exact kk
        clear k1782
        exact ⟨(0 : Int32), ((Or.inl rfl)), k1784⟩
      · skip
        have k1785 : own_G p e below E0 s₁ (mkF m 28 #[vi p0, vj p1, ss, vj p2, ss, vi p3, vi p4, vi p5, vi (1 : Int32), vd (FP.i2d (p0 >>> ((8 : Int32) &&& 31))), ss, uu, uu, uu, uu, uu, uu, uu, uu, uu, uu, uu, uu, uu, uu, uu, uu, uu, uu, uu, uu, uu, uu, uu, uu, uu, uu] [(.int (1 : Int32))]) := by
          intro tQ kk
          refine k1782 tQ ?_
          refine XS.ifNo X0.here hx rfl (hb hby at_20) rfl (own_if_eqN c1783) ?_
          refine XS.iconst X0.here hx rfl (hb hby at_23) ?_
          refine XS.goto X0.here hx rfl (pc0 := 24) (pc' := 28) rfl (hb hby at_24) (by decide) (by decide) ?_
          exact kk
        clear k1782
        exact ⟨(1 : Int32), ((Or.inr rfl)), k1785⟩
    obtain ⟨f0, hD1788, k1786⟩ := jn1787
    have hf0 := hD1788
    have k1789 : own_G p e below E0 s₁ (mkF m 33 #[vi p0, vj p1, ss, vj p2, ss, vi p3, vi p4, vi p5, vi (1 : Int32), vd (FP.i2d (p0 >>> ((8 : Int32) &&& 31))), ss, vi f0, uu, uu, uu, uu, uu, uu, uu, uu, uu, uu, uu, uu, uu, uu, uu, uu, uu, uu, uu, uu, uu, uu, uu, uu, uu] [(.int (p0 &&& (2 : Int32)))]) := by
      intro tQ kk
      refine k1786 tQ ?_
      refine XS.istore X0.here hx rfl (hb hby at_28) rfl (l' := #[vi p0, vj p1, ss, vj p2, ss, vi p3, vi p4, vi p5, vi (1 : Int32), vd (FP.i2d (p0 >>> ((8 : Int32) &&& 31))), ss, vi f0, uu, uu, uu, uu, uu, uu, uu, uu, uu, uu, uu, uu, uu, uu, uu, uu, uu, uu, uu, uu, uu, uu, uu, uu, uu]) rfl ?_
      refine XS.iloadN X0.here hx rfl (hb hby at_30) rfl ?_
      refine XS.iconst X0.here hx rfl (hb hby at_31) ?_
      refine XS.iand X0.here hx rfl (hb hby at_32) rfl ?_
      exact kk
    clear k1786
    have jn1794 : ∃ (f1 : Int32), (own_f01 f1) ∧ (own_G p e below E0 s₁ (mkF m 41 #[vi p0, vj p1, ss, vj p2, ss, vi p3, vi p4, vi p5, vi (1 : Int32), vd (FP.i2d (p0 >>> ((8 : Int32) &&& 31))), ss, vi f0, uu, uu, uu, uu, uu, uu, uu, uu, uu, uu, uu, uu, uu, uu, uu, uu, uu, uu, uu, uu, uu, uu, uu, uu, uu] [(.int f1)])) := by
      by_cases c1790 : (p0 &&& (2 : Int32)) = 0
      · skip
        have k1791 : own_G p e below E0 s₁ (mkF m 41 #[vi p0, vj p1, ss, vj p2, ss, vi p3, vi p4, vi p5, vi (1 : Int32), vd (FP.i2d (p0 >>> ((8 : Int32) &&& 31))), ss, vi f0, uu, uu, uu, uu, uu, uu, uu, uu, uu, uu, uu, uu, uu, uu, uu, uu, uu, uu, uu, uu, uu, uu, uu, uu, uu] [(.int (0 : Int32))]) := by
          intro tQ kk
          refine k1789 tQ ?_
          refine XS.ifYes X0.here hx rfl (pc0 := 33) (pc' := 40) rfl (hb hby at_33) rfl (own_if_eqY c1790) (by decide) (by decide) ?_
          refine XS.iconst X0.here hx rfl (hb hby at_40) ?_
          exact kk
        clear k1789
        exact ⟨(0 : Int32), ((Or.inl rfl)), k1791⟩
      · skip
        have k1792 : own_G p e below E0 s₁ (mkF m 41 #[vi p0, vj p1, ss, vj p2, ss, vi p3, vi p4, vi p5, vi (1 : Int32), vd (FP.i2d (p0 >>> ((8 : Int32) &&& 31))), ss, vi f0, uu, uu, uu, uu, uu, uu, uu, uu, uu, uu, uu, uu, uu, uu, uu, uu, uu, uu, uu, uu, uu, uu, uu, uu, uu] [(.int (1 : Int32))]) := by
          intro tQ kk
          refine k1789 tQ ?_
          refine XS.ifNo X0.here hx rfl (hb hby at_33) rfl (own_if_eqN c1790) ?_
          refine XS.iconst X0.here hx rfl (hb hby at_36) ?_
          refine XS.goto X0.here hx rfl (pc0 := 37) (pc' := 41) rfl (hb hby at_37) (by decide) (by decide) ?_
          exact kk
        clear k1789
        exact ⟨(1 : Int32), ((Or.inr rfl)), k1792⟩
    obtain ⟨f1, hD1795, k1793⟩ := jn1794
    have hf1 := hD1795
    have k1796 : own_G p e below E0 s₁ (mkF m 46 #[vi p0, vj p1, ss, vj p2, ss, vi p3, vi p4, vi p5, vi (1 : Int32), vd (FP.i2d (p0 >>> ((8 : Int32) &&& 31))), ss, vi f0, vi f1, uu, uu, uu, uu, uu, uu, uu, uu, uu, uu, uu, uu, uu, uu, uu, uu, uu, uu, uu, uu, uu, uu, uu, uu] [(.int (p0 &&& (4 : Int32)))]) := by
      intro tQ kk
      refine k1793 tQ ?_
      refine XS.istore X0.here hx rfl (hb hby at_41) rfl (l' := #[vi p0, vj p1, ss, vj p2, ss, vi p3, vi p4, vi p5, vi (1 : Int32), vd (FP.i2d (p0 >>> ((8 : Int32) &&& 31))), ss, vi f0, vi f1, uu, uu, uu, uu, uu, uu, uu, uu, uu, uu, uu, uu, uu, uu, uu, uu, uu, uu, uu, uu, uu, uu, uu, uu]) rfl ?_
      refine XS.iloadN X0.here hx rfl (hb hby at_43) rfl ?_
      refine XS.iconst X0.here hx rfl (hb hby at_44) ?_
      refine XS.iand X0.here hx rfl (hb hby at_45) rfl ?_
      exact kk
    clear k1793
    have jn1801 : ∃ (f2 : Int32), (own_f01 f2) ∧ (own_G p e below E0 s₁ (mkF m 54 #[vi p0, vj p1, ss, vj p2, ss, vi p3, vi p4, vi p5, vi (1 : Int32), vd (FP.i2d (p0 >>> ((8 : Int32) &&& 31))), ss, vi f0, vi f1, uu, uu, uu, uu, uu, uu, uu, uu, uu, uu, uu, uu, uu, uu, uu, uu, uu, uu, uu, uu, uu, uu, uu, uu] [(.int f2)])) := by
      by_cases c1797 : (p0 &&& (4 : Int32)) = 0
      · skip
        have k1798 : own_G p e below E0 s₁ (mkF m 54 #[vi p0, vj p1, ss, vj p2, ss, vi p3, vi p4, vi p5, vi (1 : Int32), vd (FP.i2d (p0 >>> ((8 : Int32) &&& 31))), ss, vi f0, vi f1, uu, uu, uu, uu, uu, uu, uu, uu, uu, uu, uu, uu, uu, uu, uu, uu, uu, uu, uu, uu, uu, uu, uu, uu] [(.int (0 : Int32))]) := by
          intro tQ kk
          refine k1796 tQ ?_
          refine XS.ifYes X0.here hx rfl (pc0 := 46) (pc' := 53) rfl (hb hby at_46) rfl (own_if_eqY c1797) (by decide) (by decide) ?_
          refine XS.iconst X0.here hx rfl (hb hby at_53) ?_
          exact kk
        clear k1796
        exact ⟨(0 : Int32), ((Or.inl rfl)), k1798⟩
      · skip
        have k1799 : own_G p e below E0 s₁ (mkF m 54 #[vi p0, vj p1, ss, vj p2, ss, vi p3, vi p4, vi p5, vi (1 : Int32), vd (FP.i2d (p0 >>> ((8 : Int32) &&& 31))), ss, vi f0, vi f1, uu, uu, uu, uu, uu, uu, uu, uu, uu, uu, uu, uu, uu, uu, uu, uu, uu, uu, uu, uu, uu, uu, uu, uu] [(.int (1 : Int32))]) := by
          intro tQ kk
          refine k1796 tQ ?_
          refine XS.ifNo X0.here hx rfl (hb hby at_46) rfl (own_if_eqN c1797) ?_
          refine XS.iconst X0.here hx rfl (hb hby at_49) ?_
          refine XS.goto X0.here hx rfl (pc0 := 50) (pc' := 54) rfl (hb hby at_50) (by decide) (by decide) ?_
          exact kk
        clear k1796
        exact ⟨(1 : Int32), ((Or.inr rfl)), k1799⟩
    obtain ⟨f2, hD1802, k1800⟩ := jn1801
    have hf2 := hD1802
    have k1803 : own_G p e below E0 s₁ (mkF m 60 #[vi p0, vj p1, ss, vj p2, ss, vi p3, vi p4, vi p5, vi (1 : Int32), vd (FP.i2d (p0 >>> ((8 : Int32) &&& 31))), ss, vi f0, vi f1, vi f2, uu, uu, uu, uu, uu, uu, uu, uu, uu, uu, uu, uu, uu, uu, uu, uu, uu, uu, uu, uu, uu, uu, uu] [(.int (p0 &&& (8 : Int32)))]) := by
      intro tQ kk
      refine k1800 tQ ?_
      refine XS.istore X0.here hx rfl (hb hby at_54) rfl (l' := #[vi p0, vj p1, ss, vj p2, ss, vi p3, vi p4, vi p5, vi (1 : Int32), vd (FP.i2d (p0 >>> ((8 : Int32) &&& 31))), ss, vi f0, vi f1, vi f2, uu, uu, uu, uu, uu, uu, uu, uu, uu, uu, uu, uu, uu, uu, uu, uu, uu, uu, uu, uu, uu, uu, uu]) rfl ?_
      refine XS.iloadN X0.here hx rfl (hb hby at_56) rfl ?_
      refine XS.bipush X0.here hx rfl (hb hby at_57) ?_
      refine XS.iand X0.here hx rfl (hb hby at_59) rfl ?_
      exact kk
    clear k1800
    have jn1808 : ((((p0 &&& (8 : Int32)) = 0)) ∨ (¬ ((p0 &&& (8 : Int32)) = 0))) ∧ (own_G p e below E0 s₁ (mkF m 74 #[vi p0, vj p1, ss, vj p2, ss, vi p3, vi p4, vi p5, vi (1 : Int32), vd (FP.i2d (p0 >>> ((8 : Int32) &&& 31))), ss, vi f0, vi f1, vi f2, uu, uu, uu, uu, uu, uu, uu, uu, uu, uu, uu, uu, uu, uu, uu, uu, uu, uu, uu, uu, uu, uu, uu] [(.int (0 : Int32))])) := by
      by_cases c1804 : (p0 &&& (8 : Int32)) = 0
      · skip
        have k1805 : own_G p e below E0 s₁ (mkF m 74 #[vi p0, vj p1, ss, vj p2, ss, vi p3, vi p4, vi p5, vi (1 : Int32), vd (FP.i2d (p0 >>> ((8 : Int32) &&& 31))), ss, vi f0, vi f1, vi f2, uu, uu, uu, uu, uu, uu, uu, uu, uu, uu, uu, uu, uu, uu, uu, uu, uu, uu, uu, uu, uu, uu, uu] [(.int (0 : Int32))]) := by
          intro tQ kk
          refine k1803 tQ ?_
          refine XS.ifYes X0.here hx rfl (pc0 := 60) (pc' := 73) rfl (hb hby at_60) rfl (own_if_eqY c1804) (by decide) (by decide) ?_
          refine XS.iconst X0.here hx rfl (hb hby at_73) ?_
          exact kk
        clear k1803
        exact ⟨(Or.inl (c1804)), k1805⟩
      · skip
        have k1806 : own_G p e below E0 s₁ (mkF m 74 #[vi p0, vj p1, ss, vj p2, ss, vi p3, vi p4, vi p5, vi (1 : Int32), vd (FP.i2d (p0 >>> ((8 : Int32) &&& 31))), ss, vi f0, vi f1, vi f2, uu, uu, uu, uu, uu, uu, uu, uu, uu, uu, uu, uu, uu, uu, uu, uu, uu, uu, uu, uu, uu, uu, uu] [(.int (0 : Int32))]) := by
          intro tQ kk
          refine k1803 tQ ?_
          refine XS.ifNo X0.here hx rfl (hb hby at_60) rfl (own_if_eqN c1804) ?_
          refine XS.iload X0.here hx rfl (hb hby at_63) rfl ?_
          refine XS.iconst X0.here hx rfl (hb hby at_65) ?_
          refine XS.icmpYes X0.here hx rfl (pc0 := 66) (pc' := 73) rfl (hb hby at_66) rfl (own_ic_neY (by decide)) (by decide) (by decide) ?_
          show Steps p.tables e below (s₁.setTop (mkF m 73 #[vi p0, vj p1, ss, vj p2, ss, vi p3, vi p4, vi p5, vi (1 : Int32), vd (FP.i2d (p0 >>> ((8 : Int32) &&& 31))), ss, vi f0, vi f1, vi f2, uu, uu, uu, uu, uu, uu, uu, uu, uu, uu, uu, uu, uu, uu, uu, uu, uu, uu, uu, uu, uu, uu, uu] [])) tQ
          refine XS.iconst X0.here hx rfl (hb hby at_73) ?_
          exact kk
        clear k1803
        exact ⟨(Or.inr (c1804)), k1806⟩
    obtain ⟨hD1809, k1807⟩ := jn1808
    have k1810 : own_G p e below E0 s₁ (mkF m 80 #[vi p0, vj p1, ss, vj p2, ss, vi p3, vi p4, vi p5, vi (1 : Int32), vd (FP.i2d (p0 >>> ((8 : Int32) &&& 31))), ss, vi f0, vi f1, vi f2, vi (0 : Int32), uu, uu, uu, uu, uu, uu, uu, uu, uu, uu, uu, uu, uu, uu, uu, uu, uu, uu, uu, uu, uu, uu] [(.int (p0 &&& (16 : Int32)))]) := by
      intro tQ kk
      refine k1807 tQ ?_
      refine XS.istore X0.here hx rfl (hb hby at_74) rfl (l' := #[vi p0, vj p1, ss, vj p2, ss, vi p3, vi p4, vi p5, vi (1 : Int32), vd (FP.i2d (p0 >>> ((8 : Int32) &&& 31))), ss, vi f0, vi f1, vi f2, vi (0 : Int32), uu, uu, uu, uu, uu, uu, uu, uu, uu, uu, uu, uu, uu, uu, uu, uu, uu, uu, uu, uu, uu, uu]) rfl ?_
      refine XS.iloadN X0.here hx rfl (hb hby at_76) rfl ?_
      refine XS.bipush X0.here hx rfl (hb hby at_77) ?_
      refine XS.iand X0.here hx rfl (hb hby at_79) rfl ?_
      exact kk
    clear k1807
    have jn1815 : ((((p0 &&& (16 : Int32)) = 0)) ∨ (¬ ((p0 &&& (16 : Int32)) = 0))) ∧ (own_G p e below E0 s₁ (mkF m 94 #[vi p0, vj p1, ss, vj p2, ss, vi p3, vi p4, vi p5, vi (1 : Int32), vd (FP.i2d (p0 >>> ((8 : Int32) &&& 31))), ss, vi f0, vi f1, vi f2, vi (0 : Int32), uu, uu, uu, uu, uu, uu, uu, uu, uu, uu, uu, uu, uu, uu, uu, uu, uu, uu, uu, uu, uu, uu] [(.int (0 : Int32))])) := by
      by_cases c1811 : (p0 &&& (16 : Int32)) = 0
      · skip
        have k1812 : own_G p e below E0 s₁ (mkF m 94 #[vi p0, vj p1, ss, vj p2, ss, vi p3, vi p4, vi p5, vi (1 : Int32), vd (FP.i2d (p0 >>> ((8 : Int32) &&& 31))), ss, vi f0, vi f1, vi f2, vi (0 : Int32), uu, uu, uu, uu, uu, uu, uu, uu, uu, uu, uu, uu, uu, uu, uu, uu, uu, uu, uu, uu, uu, uu] [(.int (0 : Int32))]) := by
          intro tQ kk
          refine k1810 tQ ?_
          refine XS.ifYes X0.here hx rfl (pc0 := 80) (pc' := 93) rfl (hb hby at_80) rfl (own_if_eqY c1811) (by decide) (by decide) ?_
          refine XS.iconst X0.here hx rfl (hb hby at_93) ?_
          exact kk
        clear k1810
        exact ⟨(Or.inl (c1811)), k1812⟩
      · skip
        have k1813 : own_G p e below E0 s₁ (mkF m 94 #[vi p0, vj p1, ss, vj p2, ss, vi p3, vi p4, vi p5, vi (1 : Int32), vd (FP.i2d (p0 >>> ((8 : Int32) &&& 31))), ss, vi f0, vi f1, vi f2, vi (0 : Int32), uu, uu, uu, uu, uu, uu, uu, uu, uu, uu, uu, uu, uu, uu, uu, uu, uu, uu, uu, uu, uu, uu] [(.int (0 : Int32))]) := by
          intro tQ kk
          refine k1810 tQ ?_
          refine XS.ifNo X0.here hx rfl (hb hby at_80) rfl (own_if_eqN c1811) ?_
          refine XS.iload X0.here hx rfl (hb hby at_83) rfl ?_
          refine XS.iconst X0.here hx rfl (hb hby at_85) ?_
          refine XS.icmpYes X0.here hx rfl (pc0 := 86) (pc' := 93) rfl (hb hby at_86) rfl (own_ic_neY (by decide)) (by decide) (by decide) ?_
          show Steps p.tables e below (s₁.setTop (mkF m 93 #[vi p0, vj p1, ss, vj p2, ss, vi p3, vi p4, vi p5, vi (1 : Int32), vd (FP.i2d (p0 >>> ((8 : Int32) &&& 31))), ss, vi f0, vi f1, vi f2, vi (0 : Int32), uu, uu, uu, uu, uu, uu, uu, uu, uu, uu, uu, uu, uu, uu, uu, uu, uu, uu, uu, uu, uu, uu] [])) tQ
          refine XS.iconst X0.here hx rfl (hb hby at_93) ?_
          exact kk
        clear k1810
        exact ⟨(Or.inr (c1811)), k1813⟩
    obtain ⟨hD1816, k1814⟩ := jn1815
    have k1817 : own_G p e below E0 s₁ (mkF m 100 #[vi p0, vj p1, ss, vj p2, ss, vi p3, vi p4, vi p5, vi (1 : Int32), vd (FP.i2d (p0 >>> ((8 : Int32) &&& 31))), ss, vi f0, vi f1, vi f2, vi (0 : Int32), vi (0 : Int32), uu, uu, uu, uu, uu, uu, uu, uu, uu, uu, uu, uu, uu, uu, uu, uu, uu, uu, uu, uu, uu] [(.int (p0 &&& (32 : Int32)))]) := by
      intro tQ kk
      refine k1814 tQ ?_
      refine XS.istore X0.here hx rfl (hb hby at_94) rfl (l' := #[vi p0, vj p1, ss, vj p2, ss, vi p3, vi p4, vi p5, vi (1 : Int32), vd (FP.i2d (p0 >>> ((8 : Int32) &&& 31))), ss, vi f0, vi f1, vi f2, vi (0 : Int32), vi (0 : Int32), uu, uu, uu, uu, uu, uu, uu, uu, uu, uu, uu, uu, uu, uu, uu, uu, uu, uu, uu, uu, uu]) rfl ?_
      refine XS.iloadN X0.here hx rfl (hb hby at_96) rfl ?_
      refine XS.bipush X0.here hx rfl (hb hby at_97) ?_
      refine XS.iand X0.here hx rfl (hb hby at_99) rfl ?_
      exact kk
    clear k1814
    have jn1822 : ((((p0 &&& (32 : Int32)) = 0)) ∨ (¬ ((p0 &&& (32 : Int32)) = 0))) ∧ (own_G p e below E0 s₁ (mkF m 114 #[vi p0, vj p1, ss, vj p2, ss, vi p3, vi p4, vi p5, vi (1 : Int32), vd (FP.i2d (p0 >>> ((8 : Int32) &&& 31))), ss, vi f0, vi f1, vi f2, vi (0 : Int32), vi (0 : Int32), uu, uu, uu, uu, uu, uu, uu, uu, uu, uu, uu, uu, uu, uu, uu, uu, uu, uu, uu, uu, uu] [(.int (0 : Int32))])) := by
      by_cases c1818 : (p0 &&& (32 : Int32)) = 0
      · skip
        have k1819 : own_G p e below E0 s₁ (mkF m 114 #[vi p0, vj p1, ss, vj p2, ss, vi p3, vi p4, vi p5, vi (1 : Int32), vd (FP.i2d (p0 >>> ((8 : Int32) &&& 31))), ss, vi f0, vi f1, vi f2, vi (0 : Int32), vi (0 : Int32), uu, uu, uu, uu, uu, uu, uu, uu, uu, uu, uu, uu, uu, uu, uu, uu, uu, uu, uu, uu, uu] [(.int (0 : Int32))]) := by
          intro tQ kk
          refine k1817 tQ ?_
          refine XS.ifYes X0.here hx rfl (pc0 := 100) (pc' := 113) rfl (hb hby at_100) rfl (own_if_eqY c1818) (by decide) (by decide) ?_
          refine XS.iconst X0.here hx rfl (hb hby at_113) ?_
          exact kk
        clear k1817
        exact ⟨(Or.inl (c1818)), k1819⟩
      · skip
        have k1820 : own_G p e below E0 s₁ (mkF m 114 #[vi p0, vj p1, ss, vj p2, ss, vi p3, vi p4, vi p5, vi (1 : Int32), vd (FP.i2d (p0 >>> ((8 : Int32) &&& 31))), ss, vi f0, vi f1, vi f2, vi (0 : Int32), vi (0 : Int32), uu, uu, uu, uu, uu, uu, uu, uu, uu, uu, uu, uu, uu, uu, uu, uu, uu, uu, uu, uu, uu] [(.int (0 : Int32))]) := by
          intro tQ kk
          refine k1817 tQ ?_
          refine XS.ifNo X0.here hx rfl (hb hby at_100) rfl (own_if_eqN c1818) ?_
          refine XS.iload X0.here hx rfl (hb hby at_103) rfl ?_
          refine XS.iconst X0.here hx rfl (hb hby at_105) ?_
          refine XS.icmpYes X0.here hx rfl (pc0 := 106) (pc' := 113) rfl (hb hby at_106) rfl (own_ic_neY (by decide)) (by decide) (by decide) ?_
          show Steps p.tables e below (s₁.setTop (mkF m 113 #[vi p0, vj p1, ss, vj p2, ss, vi p3, vi p4, vi p5, vi (1 : Int32), vd (FP.i2d (p0 >>> ((8 : Int32) &&& 31))), ss, vi f0, vi f1, vi f2, vi (0 : Int32), vi (0 : Int32), uu, uu, uu, uu, uu, uu, uu, uu, uu, uu, uu, uu, uu, uu, uu, uu, uu, uu, uu, uu, uu] [])) tQ
          refine XS.iconst X0.here hx rfl (hb hby at_113) ?_
          exact kk
        clear k1817
        exact ⟨(Or.inr (c1818)), k1820⟩
    obtain ⟨hD1823, k1821⟩ := jn1822
    have k1824 : own_G p e below E0 s₁ (mkF m 118 #[vi p0, vj p1, ss, vj p2, ss, vi p3, vi p4, vi p5, vi (1 : Int32), vd (FP.i2d (p0 >>> ((8 : Int32) &&& 31))), ss, vi f0, vi f1, vi f2, vi (0 : Int32), vi (0 : Int32), vi (0 : Int32), uu, uu, uu, uu, uu, uu, uu, uu, uu, uu, uu, uu, uu, uu, uu, uu, uu, uu, uu, uu] [(.int (0 : Int32)), (.long p1)]) := by
      intro tQ kk
      refine k1821 tQ ?_
      refine XS.istore X0.here hx rfl (hb hby at_114) rfl (l' := #[vi p0, vj p1, ss, vj p2, ss, vi p3, vi p4, vi p5, vi (1 : Int32), vd (FP.i2d (p0 >>> ((8 : Int32) &&& 31))), ss, vi f0, vi f1, vi f2, vi (0 : Int32), vi (0 : Int32), vi (0 : Int32), uu, uu, uu, uu, uu, uu, uu, uu, uu, uu, uu, uu, uu, uu, uu, uu, uu, uu, uu, uu]) rfl ?_
      refine XT.lloadN X0.here hx rfl (hb hby at_116) rfl ?_
      refine XS.iconst X0.here hx rfl (hb hby at_117) ?_
      exact kk
    clear k1821
    obtain ⟨_, _, ⟨T1825, L1826, kc1827, nc1828⟩, -, X1829, ⟨Lc1830, hQ1831, l1832, y1833, z1834⟩, st1835⟩ := Jvm.LawKit.callS X0 hx (y := mn0) hown (mvT hZ (tw0 hw)) (mvT hZ (tw1 hw)) (mvT hZ (tw2 hw)) (mvT hZ (tw3 hw)) (by decide) (backOf (W := 0) (rmVal l Z a0 hw [] p1 (0 : Int32) h0 n0 Z0 ) hZ (tw3 hw) (tw2 hw) (by decide) (by decide)) (g := (mkF m 118 #[vi p0, vj p1, ss, vj p2, ss, vi p3, vi p4, vi p5, vi (1 : Int32), vd (FP.i2d (p0 >>> ((8 : Int32) &&& 31))), ss, vi f0, vi f1, vi f2, vi (0 : Int32), vi (0 : Int32), vi (0 : Int32), uu, uu, uu, uu, uu, uu, uu, uu, uu, uu, uu, uu, uu, uu, uu, uu, uu, uu, uu, uu] [(.int (0 : Int32)), (.long p1)])) rfl (by rw [hml]; rfl) (argsL := [(.long p1), (.int (0 : Int32))]) (rest := []) (lenOf pd_11 rfl) rfl (by show 2 * 0 + _ ≤ _; exact Nat.le_of_eq rfl) (hb hby at_118) (fun _ _ => ⟨rfl, e0, (by decide : 0 + 0 ≤ _), (by decide : 0 + 0 ≤ _)⟩)
    dsimp only [Pt.U, Pt.locs, Pt.cells, Pt.slots] at X1829 l1832 y1833 z1834 st1835 hQ1831
    subst y1833 z1834
    obtain ⟨rfl, N1836, e1837⟩ := hQ1831
    have N1839 : Fr n0 L1826 := by rw [l1832]; exact Fr.app N0 N1836
    clear l1832 N1836
    have k1840 : own_G p e below E0 T1825 (mkF m 121 #[vi p0, vj p1, ss, vj p2, ss, vi p3, vi p4, vi p5, vi (1 : Int32), vd (FP.i2d (p0 >>> ((8 : Int32) &&& 31))), ss, vi f0, vi f1, vi f2, vi (0 : Int32), vi (0 : Int32), vi (0 : Int32), uu, uu, uu, uu, uu, uu, uu, uu, uu, uu, uu, uu, uu, uu, uu, uu, uu, uu, uu, uu] [(.int (own_val p1 (0 : Int32)))]) := fun tQ kk => k1824 tQ (st1835 _ kk)
    clear k1824 st1835
    have k1841 : own_G p e below E0 T1825 (mkF m 126 #[vi p0, vj p1, ss, vj p2, ss, vi p3, vi p4, vi p5, vi (1 : Int32), vd (FP.i2d (p0 >>> ((8 : Int32) &&& 31))), ss, vi f0, vi f1, vi f2, vi (0 : Int32), vi (0 : Int32), vi (0 : Int32), vi (own_val p1 (0 : Int32)), uu, uu, uu, uu, uu, uu, uu, uu, uu, uu, uu, uu, uu, uu, uu, uu, uu, uu, uu] [(.int (16 : Int32)), (.long p1)]) := by
      intro tQ kk
      refine k1840 tQ ?_
      refine XS.istore X1829.here hx rfl (hb hby at_121) rfl (l' := #[vi p0, vj p1, ss, vj p2, ss, vi p3, vi p4, vi p5, vi (1 : Int32), vd (FP.i2d (p0 >>> ((8 : Int32) &&& 31))), ss, vi f0, vi f1, vi f2, vi (0 : Int32), vi (0 : Int32), vi (0 : Int32), vi (own_val p1 (0 : Int32)), uu, uu, uu, uu, uu, uu, uu, uu, uu, uu, uu, uu, uu, uu, uu, uu, uu, uu, uu]) rfl ?_
      refine XT.lloadN X1829.here hx rfl (hb hby at_123) rfl ?_
      refine XS.bipush X1829.here hx rfl (hb hby at_124) ?_
      exact kk
    clear k1840
    obtain ⟨_, _, ⟨T1842, L1843, kc1844, nc1845⟩, -, X1846, ⟨Lc1847, hQ1848, l1849, y1850, z1851⟩, st1852⟩ := Jvm.LawKit.callS X1829 hx (y := mn0) hown (mvT hZ (tw0 hw)) (mvT hZ (tw1 hw)) (mvT hZ (tw2 hw)) (mvT hZ (tw3 hw)) (by decide) (backOf (W := 0) (rmVal l Z a0 hw [] p1 (16 : Int32) h0 n0 Z0 ) hZ (tw3 hw) (tw2 hw) (by decide) (by decide)) (g := (mkF m 126 #[vi p0, vj p1, ss, vj p2, ss, vi p3, vi p4, vi p5, vi (1 : Int32), vd (FP.i2d (p0 >>> ((8 : Int32) &&& 31))), ss, vi f0, vi f1, vi f2, vi (0 : Int32), vi (0 : Int32), vi (0 : Int32), vi (own_val p1 (0 : Int32)), uu, uu, uu, uu, uu, uu, uu, uu, uu, uu, uu, uu, uu, uu, uu, uu, uu, uu, uu] [(.int (16 : Int32)), (.long p1)])) rfl (by rw [hml]; rfl) (argsL := [(.long p1), (.int (16 : Int32))]) (rest := []) (lenOf pd_11 rfl) rfl (by show 2 * 0 + _ ≤ _; exact Nat.le_of_eq rfl) (hb hby at_126) (fun _ _ => ⟨rfl, e1837, (by decide : 0 + 0 ≤ _), (by decide : 0 + 0 ≤ _)⟩)
    dsimp only [Pt.U, Pt.locs, Pt.cells, Pt.slots] at X1846 l1849 y1850 z1851 st1852 hQ1848
    subst y1850 z1851
    obtain ⟨rfl, N1853, e1854⟩ := hQ1848
    have N1856 : Fr n0 L1843 := by rw [l1849]; exact Fr.app N1839 N1853
    clear l1849 N1853
    have k1857 : own_G p e below E0 T1842 (mkF m 129 #[vi p0, vj p1, ss, vj p2, ss, vi p3, vi p4, vi p5, vi (1 : Int32), vd (FP.i2d (p0 >>> ((8 : Int32) &&& 31))), ss, vi f0, vi f1, vi f2, vi (0 : Int32), vi (0 : Int32), vi (0 : Int32), vi (own_val p1 (0 : Int32)), uu, uu, uu, uu, uu, uu, uu, uu, uu, uu, uu, uu, uu, uu, uu, uu, uu, uu, uu] [(.int (own_val p1 (16 : Int32)))]) := fun tQ kk => k1841 tQ (st1852 _ kk)
    clear k1841 st1852
    have k1858 : own_G p e below E0 T1842 (mkF m 134 #[vi p0, vj p1, ss, vj p2, ss, vi p3, vi p4, vi p5, vi (1 : Int32), vd (FP.i2d (p0 >>> ((8 : Int32) &&& 31))), ss, vi f0, vi f1, vi f2, vi (0 : Int32), vi (0 : Int32), vi (0 : Int32), vi (own_val p1 (0 : Int32)), vi (own_val p1 (16 : Int32)), uu, uu, uu, uu, uu, uu, uu, uu, uu, uu, uu, uu, uu, uu, uu, uu, uu, uu] [(.int (32 : Int32)), (.long p1)]) := by
      intro tQ kk
      refine k1857 tQ ?_
      refine XS.istore X1846.here hx rfl (hb hby at_129) rfl (l' := #[vi p0, vj p1, ss, vj p2, ss, vi p3, vi p4, vi p5, vi (1 : Int32), vd (FP.i2d (p0 >>> ((8 : Int32) &&& 31))), ss, vi f0, vi f1, vi f2, vi (0 : Int32), vi (0 : Int32), vi (0 : Int32), vi (own_val p1 (0 : Int32)), vi (own_val p1 (16 : Int32)), uu, uu, uu, uu, uu, uu, uu, uu, uu, uu, uu, uu, uu, uu, uu, uu, uu, uu]) rfl ?_
      refine XT.lloadN X1846.here hx rfl (hb hby at_131) rfl ?_
      refine XS.bipush X1846.here hx rfl (hb hby at_132) ?_
      exact kk
    clear k1857
    obtain ⟨_, _, ⟨T1859, L1860, kc1861, nc1862⟩, -, X1863, ⟨Lc1864, hQ1865, l1866, y1867, z1868⟩, st1869⟩ := Jvm.LawKit.callS X1846 hx (y := mn0) hown (mvT hZ (tw0 hw)) (mvT hZ (tw1 hw)) (mvT hZ (tw2 hw)) (mvT hZ (tw3 hw)) (by decide) (backOf (W := 0) (rmVal l Z a0 hw [] p1 (32 : Int32) h0 n0 Z0 ) hZ (tw3 hw) (tw2 hw) (by decide) (by decide)) (g := (mkF m 134 #[vi p0, vj p1, ss, vj p2, ss, vi p3, vi p4, vi p5, vi (1 : Int32), vd (FP.i2d (p0 >>> ((8 : Int32) &&& 31))), ss, vi f0, vi f1, vi f2, vi (0 : Int32), vi (0 : Int32), vi (0 : Int32), vi (own_val p1 (0 : Int32)), vi (own_val p1 (16 : Int32)), uu, uu, uu, uu, uu, uu, uu, uu, uu, uu, uu, uu, uu, uu, uu, uu, uu, uu] [(.int (32 : Int32)), (.long p1)])) rfl (by rw [hml]; rfl) (argsL := [(.long p1), (.int (32 : Int32))]) (rest := []) (lenOf pd_11 rfl) rfl (by show 2 * 0 + _ ≤ _; exact Nat.le_of_eq rfl) (hb hby at_134) (fun _ _ => ⟨rfl, e1854, (by decide : 0 + 0 ≤ _), (by decide : 0 + 0 ≤ _)⟩)
    dsimp only [Pt.U, Pt.locs, Pt.cells, Pt.slots] at X1863 l1866 y1867 z1868 st1869 hQ1865
    subst y1867 z1868
    obtain ⟨rfl, N1870, e1871⟩ := hQ1865
    have N1873 : Fr n0 L1860 := by rw [l1866]; exact Fr.app N1856 N1870
    clear l1866 N1870
    have k1874 : own_G p e below E0 T1859 (mkF m 137 #[vi p0, vj p1, ss, vj p2, ss, vi p3, vi p4, vi p5, vi (1 : Int32), vd (FP.i2d (p0 >>> ((8 : Int32) &&& 31))), ss, vi f0, vi f1, vi f2, vi (0 : Int32), vi (0 : Int32), vi (0 : Int32), vi (own_val p1 (0 : Int32)), vi (own_val p1 (16 : Int32)), uu, uu, uu, uu, uu, uu, uu, uu, uu, uu, uu, uu, uu, uu, uu, uu, uu, uu] [(.int (own_val p1 (32 : Int32)))]) := fun tQ kk => k1858 tQ (st1869 _ kk)
    clear k1858 st1869
    have k1875 : own_G p e below E0 T1859 (mkF m 141 #[vi p0, vj p1, ss, vj p2, ss, vi p3, vi p4, vi p5, vi (1 : Int32), vd (FP.i2d (p0 >>> ((8 : Int32) &&& 31))), ss, vi f0, vi f1, vi f2, vi (0 : Int32), vi (0 : Int32), vi (0 : Int32), vi (own_val p1 (0 : Int32)), vi (own_val p1 (16 : Int32)), vi (own_val p1 (32 : Int32)), uu, uu, uu, uu, uu, uu, uu, uu, uu, uu, uu, uu, uu, uu, uu, uu, uu] [(.int (0 : Int32)), (.long p2)]) := by
      intro tQ kk
      refine k1874 tQ ?_
      refine XS.istore X1863.here hx rfl (hb hby at_137) rfl (l' := #[vi p0, vj p1, ss, vj p2, ss, vi p3, vi p4, vi p5, vi (1 : Int32), vd (FP.i2d (p0 >>> ((8 : Int32) &&& 31))), ss, vi f0, vi f1, vi f2, vi (0 : Int32), vi (0 : Int32), vi (0 : Int32), vi (own_val p1 (0 : Int32)), vi (own_val p1 (16 : Int32)), vi (own_val p1 (32 : Int32)), uu, uu, uu, uu, uu, uu, uu, uu, uu, uu, uu, uu, uu, uu, uu, uu, uu]) rfl ?_
      refine XT.lloadN X1863.here hx rfl (hb hby at_139) rfl ?_
      refine XS.iconst X1863.here hx rfl (hb hby at_140) ?_
      exact kk
    clear k1874
    obtain ⟨_, _, ⟨T1876, L1877, kc1878, nc1879⟩, -, X1880, ⟨Lc1881, hQ1882, l1883, y1884, z1885⟩, st1886⟩ := Jvm.LawKit.callS X1863 hx (y := mn0) hown (mvT hZ (tw0 hw)) (mvT hZ (tw1 hw)) (mvT hZ (tw2 hw)) (mvT hZ (tw3 hw)) (by decide) (backOf (W := 0) (rmVal l Z a0 hw [] p2 (0 : Int32) h0 n0 Z0 ) hZ (tw3 hw) (tw2 hw) (by decide) (by decide)) (g := (mkF m 141 #[vi p0, vj p1, ss, vj p2, ss, vi p3, vi p4, vi p5, vi (1 : Int32), vd (FP.i2d (p0 >>> ((8 : Int32) &&& 31))), ss, vi f0, vi f1, vi f2, vi (0 : Int32), vi (0 : Int32), vi (0 : Int32), vi (own_val p1 (0 : Int32)), vi (own_val p1 (16 : Int32)), vi (own_val p1 (32 : Int32)), uu, uu, uu, uu, uu, uu, uu, uu, uu, uu, uu, uu, uu, uu, uu, uu, uu] [(.int (0 : Int32)), (.long p2)])) rfl (by rw [hml]; rfl) (argsL := [(.long p2), (.int (0 : Int32))]) (rest := []) (lenOf pd_11 rfl) rfl (by show 2 * 0 + _ ≤ _; exact Nat.le_of_eq rfl) (hb hby at_141) (fun _ _ => ⟨rfl, e1871, (by decide : 0 + 0 ≤ _), (by decide : 0 + 0 ≤ _)⟩)
    dsimp only [Pt.U, Pt.locs, Pt.cells, Pt.slots] at X1880 l1883 y1884 z1885 st1886 hQ1882
    subst y1884 z1885
    obtain ⟨rfl, N1887, e1888⟩ := hQ1882
    have N1890 : Fr n0 L1877 := by rw [l1883]; exact Fr.app N1873 N1887
    clear l1883 N1887
    have k1891 : own_G p e below E0 T1876 (mkF m 144 #[vi p0, vj p1, ss, vj p2, ss, vi p3, vi p4, vi p5, vi (1 : Int32), vd (FP.i2d (p0 >>> ((8 : Int32) &&& 31))), ss, vi f0, vi f1, vi f2, vi (0 : Int32), vi (0 : Int32), vi (0 : Int32), vi (own_val p1 (0 : Int32)), vi (own_val p1 (16 : Int32)), vi (own_val p1 (32 : Int32)), uu, uu, uu, uu, uu, uu, uu, uu, uu, uu, uu, uu, uu, uu, uu, uu, uu] [(.int (own_val p2 (0 : Int32)))]) := fun tQ kk => k1875 tQ (st1886 _ kk)
    clear k1875 st1886
    have k1892 : own_G p e below E0 T1876 (mkF m 149 #[vi p0, vj p1, ss, vj p2, ss, vi p3, vi p4, vi p5, vi (1 : Int32), vd (FP.i2d (p0 >>> ((8 : Int32) &&& 31))), ss, vi f0, vi f1, vi f2, vi (0 : Int32), vi (0 : Int32), vi (0 : Int32), vi (own_val p1 (0 : Int32)), vi (own_val p1 (16 : Int32)), vi (own_val p1 (32 : Int32)), vi (own_val p2 (0 : Int32)), uu, uu, uu, uu, uu, uu, uu, uu, uu, uu, uu, uu, uu, uu, uu, uu] [(.int (16 : Int32)), (.long p2)]) := by
      intro tQ kk
      refine k1891 tQ ?_
      refine XS.istore X1880.here hx rfl (hb hby at_144) rfl (l' := #[vi p0, vj p1, ss, vj p2, ss, vi p3, vi p4, vi p5, vi (1 : Int32), vd (FP.i2d (p0 >>> ((8 : Int32) &&& 31))), ss, vi f0, vi f1, vi f2, vi (0 : Int32), vi (0 : Int32), vi (0 : Int32), vi (own_val p1 (0 : Int32)), vi (own_val p1 (16 : Int32)), vi (own_val p1 (32 : Int32)), vi (own_val p2 (0 : Int32)), uu, uu, uu, uu, uu, uu, uu, uu, uu, uu, uu, uu, uu, uu, uu, uu]) rfl ?_
      refine XT.lloadN X1880.here hx rfl (hb hby at_146) rfl ?_
      refine XS.bipush X1880.here hx rfl (hb hby at_147) ?_
      exact kk
    clear k1891
    obtain ⟨_, _, ⟨T1893, L1894, kc1895, nc1896⟩, -, X1897, ⟨Lc1898, hQ1899, l1900, y1901, z1902⟩, st1903⟩ := Jvm.LawKit.callS X1880 hx (y := mn0) hown (mvT hZ (tw0 hw)) (mvT hZ (tw1 hw)) (mvT hZ (tw2 hw)) (mvT hZ (tw3 hw)) (by decide) (backOf (W := 0) (rmVal l Z a0 hw [] p2 (16 : Int32) h0 n0 Z0 ) hZ (tw3 hw) (tw2 hw) (by decide) (by decide)) (g := (mkF m 149 #[vi p0, vj p1, ss, vj p2, ss, vi p3, vi p4, vi p5, vi (1 : Int32), vd (FP.i2d (p0 >>> ((8 : Int32) &&& 31))), ss, vi f0, vi f1, vi f2, vi (0 : Int32), vi (0 : Int32), vi (0 : Int32), vi (own_val p1 (0 : Int32)), vi (own_val p1 (16 : Int32)), vi (own_val p1 (32 : Int32)), vi (own_val p2 (0 : Int32)), uu, uu, uu, uu, uu, uu, uu, uu, uu, uu, uu, uu, uu, uu, uu, uu] [(.int (16 : Int32)), (.long p2)])) rfl (by rw [hml]; rfl) (argsL := [(.long p2), (.int (16 : Int32))]) (rest := []) (lenOf pd_11 rfl) rfl (by show 2 * 0 + _ ≤ _; exact Nat.le_of_eq rfl) (hb hby at_149) (fun _ _ => ⟨rfl, e1888, (by decide : 0 + 0 ≤ _), (by decide : 0 + 0 ≤ _)⟩)
    dsimp only [Pt.U, Pt.locs, Pt.cells, Pt.slots] at X1897 l1900 y1901 z1902 st1903 hQ1899
    subst y1901 z1902
    obtain ⟨rfl, N1904, e1905⟩ := hQ1899
    have N1907 : Fr n0 L1894 := by rw [l1900]; exact Fr.app N1890 N1904
    clear l1900 N1904
    have k1908 : own_G p e below E0 T1893 (mkF m 152 #[vi p0, vj p1, ss, vj p2, ss, vi p3, vi p4, vi p5, vi (1 : Int32), vd (FP.i2d (p0 >>> ((8 : Int32) &&& 31))), ss, vi f0, vi f1, vi f2, vi (0 : Int32), vi (0 : Int32), vi (0 : Int32), vi (own_val p1 (0 : Int32)), vi (own_val p1 (16 : Int32)), vi (own_val p1 (32 : Int32)), vi (own_val p2 (0 : Int32)), uu, uu, uu, uu, uu, uu, uu, uu, uu, uu, uu, uu, uu, uu, uu, uu] [(.int (own_val p2 (16 : Int32)))]) := fun tQ kk => k1892 tQ (st1903 _ kk)
    clear k1892 st1903
    have k1909 : own_G p e below E0 T1893 (mkF m 157 #[vi p0, vj p1, ss, vj p2, ss, vi p3, vi p4, vi p5, vi (1 : Int32), vd (FP.i2d (p0 >>> ((8 : Int32) &&& 31))), ss, vi f0, vi f1, vi f2, vi (0 : Int32), vi (0 : Int32), vi (0 : Int32), vi (own_val p1 (0 : Int32)), vi (own_val p1 (16 : Int32)), vi (own_val p1 (32 : Int32)), vi (own_val p2 (0 : Int32)), vi (own_val p2 (16 : Int32)), uu, uu, uu, uu, uu, uu, uu, uu, uu, uu, uu, uu, uu, uu, uu] [(.int (32 : Int32)), (.long p2)]) := by
      intro tQ kk
      refine k1908 tQ ?_
      refine XS.istore X1897.here hx rfl (hb hby at_152) rfl (l' := #[vi p0, vj p1, ss, vj p2, ss, vi p3, vi p4, vi p5, vi (1 : Int32), vd (FP.i2d (p0 >>> ((8 : Int32) &&& 31))), ss, vi f0, vi f1, vi f2, vi (0 : Int32), vi (0 : Int32), vi (0 : Int32), vi (own_val p1 (0 : Int32)), vi (own_val p1 (16 : Int32)), vi (own_val p1 (32 : Int32)), vi (own_val p2 (0 : Int32)), vi (own_val p2 (16 : Int32)), uu, uu, uu, uu, uu, uu, uu, uu, uu, uu, uu, uu, uu, uu, uu]) rfl ?_
      refine XT.lloadN X1897.here hx rfl (hb hby at_154) rfl ?_
      refine XS.bipush X1897.here hx rfl (hb hby at_155) ?_
      exact kk
    clear k1908
    obtain ⟨_, _, ⟨T1910, L1911, kc1912, nc1913⟩, -, X1914, ⟨Lc1915, hQ1916, l1917, y1918, z1919⟩, st1920⟩ := Jvm.LawKit.callS X1897 hx (y := mn0) hown (mvT hZ (tw0 hw)) (mvT hZ (tw1 hw)) (mvT hZ (tw2 hw)) (mvT hZ (tw3 hw)) (by decide) (backOf (W := 0) (rmVal l Z a0 hw [] p2 (32 : Int32) h0 n0 Z0 ) hZ (tw3 hw) (tw2 hw) (by decide) (by decide)) (g := (mkF m 157 #[vi p0, vj p1, ss, vj p2, ss, vi p3, vi p4, vi p5, vi (1 : Int32), vd (FP.i2d (p0 >>> ((8 : Int32) &&& 31))), ss, vi f0, vi f1, vi f2, vi (0 : Int32), vi (0 : Int32), vi (0 : Int32), vi (own_val p1 (0 : Int32)), vi (own_val p1 (16 : Int32)), vi (own_val p1 (32 : Int32)), vi (own_val p2 (0 : Int32)), vi (own_val p2 (16 : Int32)), uu, uu, uu, uu, uu, uu, uu, uu, uu, uu, uu, uu, uu, uu, uu] [(.int (32 : Int32)), (.long p2)])) rfl (by rw [hml]; rfl) (argsL := [(.long p2), (.int (32 : Int32))]) (rest := []) (lenOf pd_11 rfl) rfl (by show 2 * 0 + _ ≤ _; exact Nat.le_of_eq rfl) (hb hby at_157) (fun _ _ => ⟨rfl, e1905, (by decide : 0 + 0 ≤ _), (by decide : 0 + 0 ≤ _)⟩)
    dsimp only [Pt.U, Pt.locs, Pt.cells, Pt.slots] at X1914 l1917 y1918 z1919 st1920 hQ1916
    subst y1918 z1919
    obtain ⟨rfl, N1921, e1922⟩ := hQ1916
    have N1924 : Fr n0 L1911 := by rw [l1917]; exact Fr.app N1907 N1921
    clear l1917 N1921
    have k1925 : own_G p e below E0 T1910 (mkF m 160 #[vi p0, vj p1, ss, vj p2, ss, vi p3, vi p4, vi p5, vi (1 : Int32), vd (FP.i2d (p0 >>> ((8 : Int32) &&& 31))), ss, vi f0, vi f1, vi f2, vi (0 : Int32), vi (0 : Int32), vi (0 : Int32), vi (own_val p1 (0 : Int32)), vi (own_val p1 (16 : Int32)), vi (own_val p1 (32 : Int32)), vi (own_val p2 (0 : Int32)), vi (own_val p2 (16 : Int32)), uu, uu, uu, uu, uu, uu, uu, uu, uu, uu, uu, uu, uu, uu, uu] [(.int (own_val p2 (32 : Int32)))]) := fun tQ kk => k1909 tQ (st1920 _ kk)
    clear k1909 st1920
    have k1926 : own_G p e below E0 T1910 (mkF m 164 #[vi p0, vj p1, ss, vj p2, ss, vi p3, vi p4, vi p5, vi (1 : Int32), vd (FP.i2d (p0 >>> ((8 : Int32) &&& 31))), ss, vi f0, vi f1, vi f2, vi (0 : Int32), vi (0 : Int32), vi (0 : Int32), vi (own_val p1 (0 : Int32)), vi (own_val p1 (16 : Int32)), vi (own_val p1 (32 : Int32)), vi (own_val p2 (0 : Int32)), vi (own_val p2 (16 : Int32)), vi (own_val p2 (32 : Int32)), uu, uu, uu, uu, uu, uu, uu, uu, uu, uu, uu, uu, uu, uu] [(.int (6 : Int32))]) := by
      intro tQ kk
      refine k1925 tQ ?_
      refine XS.istore X1914.here hx rfl (hb hby at_160) rfl (l' := #[vi p0, vj p1, ss, vj p2, ss, vi p3, vi p4, vi p5, vi (1 : Int32), vd (FP.i2d (p0 >>> ((8 : Int32) &&& 31))), ss, vi f0, vi f1, vi f2, vi (0 : Int32), vi (0 : Int32), vi (0 : Int32), vi (own_val p1 (0 : Int32)), vi (own_val p1 (16 : Int32)), vi (own_val p1 (32 : Int32)), vi (own_val p2 (0 : Int32)), vi (own_val p2 (16 : Int32)), vi (own_val p2 (32 : Int32)), uu, uu, uu, uu, uu, uu, uu, uu, uu, uu, uu, uu, uu, uu]) rfl ?_
      refine XS.bipush X1914.here hx rfl (hb hby at_162) ?_
      exact kk
    clear k1925
    obtain ⟨T1927, h1928, cA1929, X1930, e1931, E1932, A1933, st1934⟩ := newP (aty := .int) X1914 hx hZ (tw4 hw) e1922 (g := (mkF m 164 #[vi p0, vj p1, ss, vj p2, ss, vi p3, vi p4, vi p5, vi (1 : Int32), vd (FP.i2d (p0 >>> ((8 : Int32) &&& 31))), ss, vi f0, vi f1, vi f2, vi (0 : Int32), vi (0 : Int32), vi (0 : Int32), vi (own_val p1 (0 : Int32)), vi (own_val p1 (16 : Int32)), vi (own_val p1 (32 : Int32)), vi (own_val p2 (0 : Int32)), vi (own_val p2 (16 : Int32)), vi (own_val p2 (32 : Int32)), uu, uu, uu, uu, uu, uu, uu, uu, uu, uu, uu, uu, uu, uu] [(.int (6 : Int32))])) rfl (hb hby at_164) rfl (by decide) (cap := 6) (by decide) (by decide) (by decide) (by decide)
    obtain ⟨a1935, g1936⟩ : ∃ zA : Nat, zA = h0.size := ⟨_, rfl⟩
    rw [← g1936] at A1933 st1934
    have ge1937 : n0 ≤ a1935 := own_ge_of Z0 g1936
    have Z1938 : n0 ≤ h1928.size := Nat.le_trans Z0 E1932.1
    have F1939 : own_A Z h1928 a1935 .int [(.int (0 : Int32)), (.int (0 : Int32)), (.int (0 : Int32)), (.int (0 : Int32)), (.int (0 : Int32)), (.int (0 : Int32))] := own_A.new A1933
    have k1940 : own_G p e below E0 T1927 (mkF m 166 #[vi p0, vj p1, ss, vj p2, ss, vi p3, vi p4, vi p5, vi (1 : Int32), vd (FP.i2d (p0 >>> ((8 : Int32) &&& 31))), ss, vi f0, vi f1, vi f2, vi (0 : Int32), vi (0 : Int32), vi (0 : Int32), vi (own_val p1 (0 : Int32)), vi (own_val p1 (16 : Int32)), vi (own_val p1 (32 : Int32)), vi (own_val p2 (0 : Int32)), vi (own_val p2 (16 : Int32)), vi (own_val p2 (32 : Int32)), uu, uu, uu, uu, uu, uu, uu, uu, uu, uu, uu, uu, uu, uu] [(.ref a1935)]) := fun tQ kk => k1926 tQ (st1934 _ kk)
    clear k1926 st1934
    have k1941 : own_G p e below E0 T1927 (mkF m 170 #[vi p0, vj p1, ss, vj p2, ss, vi p3, vi p4, vi p5, vi (1 : Int32), vd (FP.i2d (p0 >>> ((8 : Int32) &&& 31))), ss, vi f0, vi f1, vi f2, vi (0 : Int32), vi (0 : Int32), vi (0 : Int32), vi (own_val p1 (0 : Int32)), vi (own_val p1 (16 : Int32)), vi (own_val p1 (32 : Int32)), vi (own_val p2 (0 : Int32)), vi (own_val p2 (16 : Int32)), vi (own_val p2 (32 : Int32)), vr a1935, uu, uu, uu, uu, uu, uu, uu, uu, uu, uu, uu, uu, uu] [(.int (6 : Int32))]) := by
      intro tQ kk
      refine k1940 tQ ?_
      refine XS.astore X1930.here hx rfl (hb hby at_166) rfl rfl (l' := #[vi p0, vj p1, ss, vj p2, ss, vi p3, vi p4, vi p5, vi (1 : Int32), vd (FP.i2d (p0 >>> ((8 : Int32) &&& 31))), ss, vi f0, vi f1, vi f2, vi (0 : Int32), vi (0 : Int32), vi (0 : Int32), vi (own_val p1 (0 : Int32)), vi (own_val p1 (16 : Int32)), vi (own_val p1 (32 : Int32)), vi (own_val p2 (0 : Int32)), vi (own_val p2 (16 : Int32)), vi (own_val p2 (32 : Int32)), vr a1935, uu, uu, uu, uu, uu, uu, uu, uu, uu, uu, uu, uu, uu]) rfl ?_
      refine XS.bipush X1930.here hx rfl (hb hby at_168) ?_
      exact kk
    clear k1940
    obtain ⟨T1942, h1943, cA1944, X1945, e1946, E1947, A1948, st1949⟩ := newP (aty := .double) X1930 hx hZ (tw5 hw) e1931 (g := (mkF m 170 #[vi p0, vj p1, ss, vj p2, ss, vi p3, vi p4, vi p5, vi (1 : Int32), vd (FP.i2d (p0 >>> ((8 : Int32) &&& 31))), ss, vi f0, vi f1, vi f2, vi (0 : Int32), vi (0 : Int32), vi (0 : Int32), vi (own_val p1 (0 : Int32)), vi (own_val p1 (16 : Int32)), vi (own_val p1 (32 : Int32)), vi (own_val p2 (0 : Int32)), vi (own_val p2 (16 : Int32)), vi (own_val p2 (32 : Int32)), vr a1935, uu, uu, uu, uu, uu, uu, uu, uu, uu, uu, uu, uu, uu] [(.int (6 : Int32))])) rfl (hb hby at_170) rfl (by decide) (cap := 6) (by decide) (by decide) (by decide) (by decide)
    obtain ⟨a1950, g1951⟩ : ∃ zA : Nat, zA = h1928.size := ⟨_, rfl⟩
    rw [← g1951] at A1948 st1949
    have n1952 : a1935 ≠ a1950 := own_lt_ne F1939.lt g1951
    have n1953 : a1950 ≠ a1935 := fun q => n1952 q.symm
    have ge1954 : n0 ≤ a1950 := own_ge_of Z1938 g1951
    have Z1955 : n0 ≤ h1943.size := Nat.le_trans Z1938 E1947.1
    clear Z1938
    have F1956 : own_A Z h1943 a1935 .int [(.int (0 : Int32)), (.int (0 : Int32)), (.int (0 : Int32)), (.int (0 : Int32)), (.int (0 : Int32)), (.int (0 : Int32))] := F1939.ext E1947
    clear F1939
    have F1957 : own_A Z h1943 a1950 .double [(.double (0 : UInt64)), (.double (0 : UInt64)), (.double (0 : UInt64)), (.double (0 : UInt64)), (.double (0 : UInt64)), (.double (0 : UInt64))] := own_A.new A1948
    have k1958 : own_G p e below E0 T1942 (mkF m 172 #[vi p0, vj p1, ss, vj p2, ss, vi p3, vi p4, vi p5, vi (1 : Int32), vd (FP.i2d (p0 >>> ((8 : Int32) &&& 31))), ss, vi f0, vi f1, vi f2, vi (0 : Int32), vi (0 : Int32), vi (0 : Int32), vi (own_val p1 (0 : Int32)), vi (own_val p1 (16 : Int32)), vi (own_val p1 (32 : Int32)), vi (own_val p2 (0 : Int32)), vi (own_val p2 (16 : Int32)), vi (own_val p2 (32 : Int32)), vr a1935, uu, uu, uu, uu, uu, uu, uu, uu, uu, uu, uu, uu, uu] [(.ref a1950)]) := fun tQ kk => k1941 tQ (st1949 _ kk)
    clear k1941 st1949
    have P0 : own_le (0 : Int32) 0 := ⟨by decide, by decide, by decide⟩
    have lC0 := own_len6 (.int (0 : Int32))
    have lW0 := own_len6 (.double (0 : UInt64))
    have k1959 : own_G p e below E0 T1942 (mkF m 188 #[vi p0, vj p1, ss, vj p2, ss, vi p3, vi p4, vi p5, vi (1 : Int32), vd (FP.i2d (p0 >>> ((8 : Int32) &&& 31))), ss, vi f0, vi f1, vi f2, vi (0 : Int32), vi (0 : Int32), vi (0 : Int32), vi (own_val p1 (0 : Int32)), vi (own_val p1 (16 : Int32)), vi (own_val p1 (32 : Int32)), vi (own_val p2 (0 : Int32)), vi (own_val p2 (16 : Int32)), vi (own_val p2 (32 : Int32)), vr a1935, vr a1950, vi (0 : Int32), uu, uu, uu, uu, uu, uu, uu, uu, uu, uu, uu] [(.int (own_val p1 (0 : Int32))), (.int (0 : Int32)), (.int f0), (.int (0 : Int32)), (.ref a1950), (.ref a1935)]) := by
      intro tQ kk
      refine k1958 tQ ?_
      refine XS.astore X1945.here hx rfl (hb hby at_172) rfl rfl (l' := #[vi p0, vj p1, ss, vj p2, ss, vi p3, vi p4, vi p5, vi (1 : Int32), vd (FP.i2d (p0 >>> ((8 : Int32) &&& 31))), ss, vi f0, vi f1, vi f2, vi (0 : Int32), vi (0 : Int32), vi (0 : Int32), vi (own_val p1 (0 : Int32)), vi (own_val p1 (16 : Int32)), vi (own_val p1 (32 : Int32)), vi (own_val p2 (0 : Int32)), vi (own_val p2 (16 : Int32)), vi (own_val p2 (32 : Int32)), vr a1935, vr a1950, uu, uu, uu, uu, uu, uu, uu, uu, uu, uu, uu, uu]) rfl ?_
      refine XS.iconst X1945.here hx rfl (hb hby at_174) ?_
      refine XS.istore X1945.here hx rfl (hb hby at_175) rfl (l' := #[vi p0, vj p1, ss, vj p2, ss, vi p3, vi p4, vi p5, vi (1 : Int32), vd (FP.i2d (p0 >>> ((8 : Int32) &&& 31))), ss, vi f0, vi f1, vi f2, vi (0 : Int32), vi (0 : Int32), vi (0 : Int32), vi (own_val p1 (0 : Int32)), vi (own_val p1 (16 : Int32)), vi (own_val p1 (32 : Int32)), vi (own_val p2 (0 : Int32)), vi (own_val p2 (16 : Int32)), vi (own_val p2 (32 : Int32)), vr a1935, vr a1950, vi (0 : Int32), uu, uu, uu, uu, uu, uu, uu, uu, uu, uu, uu]) rfl ?_
      refine XS.aload X1945.here hx rfl (hb hby at_177) rfl rfl ?_
      show Steps p.tables e below (T1942.setTop (mkF m 179 #[vi p0, vj p1, ss, vj p2, ss, vi p3, vi p4, vi p5, vi (1 : Int32), vd (FP.i2d (p0 >>> ((8 : Int32) &&& 31))), ss, vi f0, vi f1, vi f2, vi (0 : Int32), vi (0 : Int32), vi (0 : Int32), vi (own_val p1 (0 : Int32)), vi (own_val p1 (16 : Int32)), vi (own_val p1 (32 : Int32)), vi (own_val p2 (0 : Int32)), vi (own_val p2 (16 : Int32)), vi (own_val p2 (32 : Int32)), vr a1935, vr a1950, vi (0 : Int32), uu, uu, uu, uu, uu, uu, uu, uu, uu, uu, uu] [(.ref a1935)])) tQ
      refine XS.aload X1945.here hx rfl (hb hby at_179) rfl rfl ?_
      refine XS.iload X1945.here hx rfl (hb hby at_181) rfl ?_
      refine XS.iload X1945.here hx rfl (hb hby at_183) rfl ?_
      refine XS.iconst X1945.here hx rfl (hb hby at_185) ?_
      show Steps p.tables e below (T1942.setTop (mkF m 186 #[vi p0, vj p1, ss, vj p2, ss, vi p3, vi p4, vi p5, vi (1 : Int32), vd (FP.i2d (p0 >>> ((8 : Int32) &&& 31))), ss, vi f0, vi f1, vi f2, vi (0 : Int32), vi (0 : Int32), vi (0 : Int32), vi (own_val p1 (0 : Int32)), vi (own_val p1 (16 : Int32)), vi (own_val p1 (32 : Int32)), vi (own_val p2 (0 : Int32)), vi (own_val p2 (16 : Int32)), vi (own_val p2 (32 : Int32)), vr a1935, vr a1950, vi (0 : Int32), uu, uu, uu, uu, uu, uu, uu, uu, uu, uu, uu] [(.int (0 : Int32)), (.int f0), (.int (0 : Int32)), (.ref a1950), (.ref a1935)])) tQ
      refine XS.iload X1945.here hx rfl (hb hby at_186) rfl ?_
      exact kk
    clear k1958
    obtain ⟨_, _, ⟨T1960, L1961, kc1962, nc1963⟩, -, X1964, ⟨Lc1965, hQ1966, l1967, y1968, z1969⟩, st1970⟩ := Jvm.LawKit.callS X1945 hx (y := mn1) hown (mvT hZ (tw6 hw)) (mvT hZ (tw7 hw)) (mvT hZ (tw2 hw)) (mvT hZ (tw8 hw)) (by decide) (backOf (W := 0) (rmPut l Z a0 hw [] a1935 a1950 (0 : Int32) f0 (0 : Int32) (own_val p1 (0 : Int32)) ([(.int (0 : Int32)), (.int (0 : Int32)), (.int (0 : Int32)), (.int (0 : Int32)), (.int (0 : Int32)), (.int (0 : Int32))]) ([(.double (0 : UInt64)), (.double (0 : UInt64)), (.double (0 : UInt64)), (.double (0 : UInt64)), (.double (0 : UInt64)), (.double (0 : UInt64))]) h1943 n0 Z1955 F1956 F1957 n1952 ge1937 ge1954 P0.1 (own_rg P0 (by decide) lC0) (own_rg P0 (by decide) lW0)) hZ (tw8 hw) (tw2 hw) (by decide) (by decide)) (g := (mkF m 188 #[vi p0, vj p1, ss, vj p2, ss, vi p3, vi p4, vi p5, vi (1 : Int32), vd (FP.i2d (p0 >>> ((8 : Int32) &&& 31))), ss, vi f0, vi f1, vi f2, vi (0 : Int32), vi (0 : Int32), vi (0 : Int32), vi (own_val p1 (0 : Int32)), vi (own_val p1 (16 : Int32)), vi (own_val p1 (32 : Int32)), vi (own_val p2 (0 : Int32)), vi (own_val p2 (16 : Int32)), vi (own_val p2 (32 : Int32)), vr a1935, vr a1950, vi (0 : Int32), uu, uu, uu, uu, uu, uu, uu, uu, uu, uu, uu] [(.int (own_val p1 (0 : Int32))), (.int (0 : Int32)), (.int f0), (.int (0 : Int32)), (.ref a1950), (.ref a1935)])) rfl (by rw [hml]; rfl) (argsL := [(.ref a1935), (.ref a1950), (.int (0 : Int32)), (.int f0), (.int (0 : Int32)), (.int (own_val p1 (0 : Int32)))]) (rest := []) (lenOf pd_12 rfl) rfl (by show 2 * 0 + _ ≤ _; exact Nat.le_of_eq rfl) (hb hby at_188) (fun _ _ => ⟨rfl, e1946, (by decide : 2 + 0 ≤ _), (by decide : 12 + 0 ≤ _)⟩)
    dsimp only [Pt.U, Pt.locs, Pt.cells, Pt.slots] at X1964 l1967 y1968 z1969 st1970 hQ1966
    subst y1968 z1969
    obtain ⟨rfl, N1971, K1974, g1975, g1976⟩ := hQ1966
    have N1977 : Fr n0 L1961 := by rw [l1967]; exact Fr.app N1924 N1971
    clear l1967 N1971
    have Z1978 : n0 ≤ T1960.heap.size := Nat.le_trans Z1955 K1974.1
    clear Z1955
    clear F1956
    clear F1957
    have k1979 : own_G p e below E0 T1960 (mkF m 191 #[vi p0, vj p1, ss, vj p2, ss, vi p3, vi p4, vi p5, vi (1 : Int32), vd (FP.i2d (p0 >>> ((8 : Int32) &&& 31))), ss, vi f0, vi f1, vi f2, vi (0 : Int32), vi (0 : Int32), vi (0 : Int32), vi (own_val p1 (0 : Int32)), vi (own_val p1 (16 : Int32)), vi (own_val p1 (32 : Int32)), vi (own_val p2 (0 : Int32)), vi (own_val p2 (16 : Int32)), vi (own_val p2 (32 : Int32)), vr a1935, vr a1950, vi (0 : Int32), uu, uu, uu, uu, uu, uu, uu, uu, uu, uu, uu] [(.int (own_pos (0 : Int32) f0))]) := fun tQ kk => k1959 tQ (st1970 _ kk)
    clear k1959 st1970
    obtain ⟨ps1, hps1⟩ : ∃ z, z = (own_pos (0 : Int32) f0) := ⟨_, rfl⟩
    have eq1980 : (own_pos (0 : Int32) f0) = ps1 := hps1.symm
    rw [eq1980] at k1979
    obtain ⟨LC1, hLC1⟩ : ∃ z, z = (own_putL [(.int (0 : Int32)), (.int (0 : Int32)), (.int (0 : Int32)), (.int (0 : Int32)), (.int (0 : Int32)), (.int (0 : Int32))] (0 : Int32) f0 (.int (0 : Int32))) := ⟨_, rfl⟩
    have F1981 : own_A Z T1960.heap a1935 .int LC1 := by rw [hLC1]; exact g1975
    obtain ⟨LW1, hLW1⟩ : ∃ z, z = (own_putL [(.double (0 : UInt64)), (.double (0 : UInt64)), (.double (0 : UInt64)), (.double (0 : UInt64)), (.double (0 : UInt64)), (.double (0 : UInt64))] (0 : Int32) f0 (.double (FP.i2d (own_val p1 (0 : Int32))))) := ⟨_, rfl⟩
    have F1982 : own_A Z T1960.heap a1950 .double LW1 := by rw [hLW1]; exact g1976
    have P1 : own_le ps1 1 := by rw [hps1]; exact own_pos_le P0 _
    have lC1 : LC1.length = 6 := by rw [hLC1, own_putL_len]; exact lC0
    have lW1 : LW1.length = 6 := by rw [hLW1, own_putL_len]; exact lW0
    have k1983 : own_G p e below E0 T1960 (mkF m 204 #[vi p0, vj p1, ss, vj p2, ss, vi p3, vi p4, vi p5, vi (1 : Int32), vd (FP.i2d (p0 >>> ((8 : Int32) &&& 31))), ss, vi f0, vi f1, vi f2, vi (0 : Int32), vi (0 : Int32), vi (0 : Int32), vi (own_val p1 (0 : Int32)), vi (own_val p1 (16 : Int32)), vi (own_val p1 (32 : Int32)), vi (own_val p2 (0 : Int32)), vi (own_val p2 (16 : Int32)), vi (own_val p2 (32 : Int32)), vr a1935, vr a1950, vi ps1, uu, uu, uu, uu, uu, uu, uu, uu, uu, uu, uu] [(.int (own_val p1 (16 : Int32))), (.int (1 : Int32)), (.int f1), (.int ps1), (.ref a1950), (.ref a1935)]) := by
      intro tQ kk
      refine k1979 tQ ?_
      refine XS.istore X1964.here hx rfl (hb hby at_191) rfl (l' := #[vi p0, vj p1, ss, vj p2, ss, vi p3, vi p4, vi p5, vi (1 : Int32), vd (FP.i2d (p0 >>> ((8 : Int32) &&& 31))), ss, vi f0, vi f1, vi f2, vi (0 : Int32), vi (0 : Int32), vi (0 : Int32), vi (own_val p1 (0 : Int32)), vi (own_val p1 (16 : Int32)), vi (own_val p1 (32 : Int32)), vi (own_val p2 (0 : Int32)), vi (own_val p2 (16 : Int32)), vi (own_val p2 (32 : Int32)), vr a1935, vr a1950, vi ps1, uu, uu, uu, uu, uu, uu, uu, uu, uu, uu, uu]) rfl ?_
      refine XS.aload X1964.here hx rfl (hb hby at_193) rfl rfl ?_
      refine XS.aload X1964.here hx rfl (hb hby at_195) rfl rfl ?_
      refine XS.iload X1964.here hx rfl (hb hby at_197) rfl ?_
      show Steps p.tables e below (T1960.setTop (mkF m 199 #[vi p0, vj p1, ss, vj p2, ss, vi p3, vi p4, vi p5, vi (1 : Int32), vd (FP.i2d (p0 >>> ((8 : Int32) &&& 31))), ss, vi f0, vi f1, vi f2, vi (0 : Int32), vi (0 : Int32), vi (0 : Int32), vi (own_val p1 (0 : Int32)), vi (own_val p1 (16 : Int32)), vi (own_val p1 (32 : Int32)), vi (own_val p2 (0 : Int32)), vi (own_val p2 (16 : Int32)), vi (own_val p2 (32 : Int32)), vr a1935, vr a1950, vi ps1, uu, uu, uu, uu, uu, uu, uu, uu, uu, uu, uu] [(.int ps1), (.ref a1950), (.ref a1935)])) tQ
      refine XS.iload X1964.here hx rfl (hb hby at_199) rfl ?_
      refine XS.iconst X1964.here hx rfl (hb hby at_201) ?_
      refine XS.iload X1964.here hx rfl (hb hby at_202) rfl ?_
      exact kk
    clear k1979
    obtain ⟨_, _, ⟨T1984, L1985, kc1986, nc1987⟩, -, X1988, ⟨Lc1989, hQ1990, l1991, y1992, z1993⟩, st1994⟩ := Jvm.LawKit.callS X1964 hx (y := mn1) hown (mvT hZ (tw6 hw)) (mvT hZ (tw7 hw)) (mvT hZ (tw2 hw)) (mvT hZ (tw8 hw)) (by decide) (backOf (W := 0) (rmPut l Z a0 hw [] a1935 a1950 ps1 f1 (1 : Int32) (own_val p1 (16 : Int32)) LC1 LW1 T1960.heap n0 Z1978 F1981 F1982 n1952 ge1937 ge1954 P1.1 (own_rg P1 (by decide) lC1) (own_rg P1 (by decide) lW1)) hZ (tw8 hw) (tw2 hw) (by decide) (by decide)) (g := (mkF m 204 #[vi p0, vj p1, ss, vj p2, ss, vi p3, vi p4, vi p5, vi (1 : Int32), vd (FP.i2d (p0 >>> ((8 : Int32) &&& 31))), ss, vi f0, vi f1, vi f2, vi (0 : Int32), vi (0 : Int32), vi (0 : Int32), vi (own_val p1 (0 : Int32)), vi (own_val p1 (16 : Int32)), vi (own_val p1 (32 : Int32)), vi (own_val p2 (0 : Int32)), vi (own_val p2 (16 : Int32)), vi (own_val p2 (32 : Int32)), vr a1935, vr a1950, vi ps1, uu, uu, uu, uu, uu, uu, uu, uu, uu, uu, uu] [(.int (own_val p1 (16 : Int32))), (.int (1 : Int32)), (.int f1), (.int ps1), (.ref a1950), (.ref a1935)])) rfl (by rw [hml]; rfl) (argsL := [(.ref a1935), (.ref a1950), (.int ps1), (.int f1), (.int (1 : Int32)), (.int (own_val p1 (16 : Int32)))]) (rest := []) (lenOf pd_12 rfl) rfl (by show 2 * 0 + _ ≤ _; exact Nat.le_of_eq rfl) (hb hby at_204) (fun _ _ => ⟨rfl, rfl, (by decide : 2 + 0 ≤ _), (by decide : 12 + 0 ≤ _)⟩)
    dsimp only [Pt.U, Pt.locs, Pt.cells, Pt.slots] at X1988 l1991 y1992 z1993 st1994 hQ1990
    subst y1992 z1993
    obtain ⟨rfl, N1995, K1998, g1999, g2000⟩ := hQ1990
    have N2001 : Fr n0 L1985 := by rw [l1991]; exact Fr.app N1977 N1995
    clear l1991 N1995
    have Z2002 : n0 ≤ T1984.heap.size := Nat.le_trans Z1978 K1998.1
    clear Z1978
    clear F1981
    clear F1982
    have k2003 : own_G p e below E0 T1984 (mkF m 207 #[vi p0, vj p1, ss, vj p2, ss, vi p3, vi p4, vi p5, vi (1 : Int32), vd (FP.i2d (p0 >>> ((8 : Int32) &&& 31))), ss, vi f0, vi f1, vi f2, vi (0 : Int32), vi (0 : Int32), vi (0 : Int32), vi (own_val p1 (0 : Int32)), vi (own_val p1 (16 : Int32)), vi (own_val p1 (32 : Int32)), vi (own_val p2 (0 : Int32)), vi (own_val p2 (16 : Int32)), vi (own_val p2 (32 : Int32)), vr a1935, vr a1950, vi ps1, uu, uu, uu, uu, uu, uu, uu, uu, uu, uu, uu] [(.int (own_pos ps1 f1))]) := fun tQ kk => k1983 tQ (st1994 _ kk)
    clear k1983 st1994
    obtain ⟨ps2, hps2⟩ : ∃ z, z = (own_pos ps1 f1) := ⟨_, rfl⟩
    have eq2004 : (own_pos ps1 f1) = ps2 := hps2.symm
    rw [eq2004] at k2003
    obtain ⟨LC2, hLC2⟩ : ∃ z, z = (own_putL LC1 ps1 f1 (.int (1 : Int32))) := ⟨_, rfl⟩
    have F2005 : own_A Z T1984.heap a1935 .int LC2 := by rw [hLC2]; exact g1999
    obtain ⟨LW2, hLW2⟩ : ∃ z, z = (own_putL LW1 ps1 f1 (.double (FP.i2d (own_val p1 (16 : Int32))))) := ⟨_, rfl⟩
    have F2006 : own_A Z T1984.heap a1950 .double LW2 := by rw [hLW2]; exact g2000
    have P2 : own_le ps2 2 := by rw [hps2]; exact own_pos_le P1 _
    have lC2 : LC2.length = 6 := by rw [hLC2, own_putL_len]; exact lC1
    have lW2 : LW2.length = 6 := by rw [hLW2, own_putL_len]; exact lW1
    have k2007 : own_G p e below E0 T1984 (mkF m 220 #[vi p0, vj p1, ss, vj p2, ss, vi p3, vi p4, vi p5, vi (1 : Int32), vd (FP.i2d (p0 >>> ((8 : Int32) &&& 31))), ss, vi f0, vi f1, vi f2, vi (0 : Int32), vi (0 : Int32), vi (0 : Int32), vi (own_val p1 (0 : Int32)), vi (own_val p1 (16 : Int32)), vi (own_val p1 (32 : Int32)), vi (own_val p2 (0 : Int32)), vi (own_val p2 (16 : Int32)), vi (own_val p2 (32 : Int32)), vr a1935, vr a1950, vi ps2, uu, uu, uu, uu, uu, uu, uu, uu, uu, uu, uu] [(.int (own_val p1 (32 : Int32))), (.int (2 : Int32)), (.int f2), (.int ps2), (.ref a1950), (.ref a1935)]) := by
      intro tQ kk
      refine k2003 tQ ?_
      refine XS.istore X1988.here hx rfl (hb hby at_207) rfl (l' := #[vi p0, vj p1, ss, vj p2, ss, vi p3, vi p4, vi p5, vi (1 : Int32), vd (FP.i2d (p0 >>> ((8 : Int32) &&& 31))), ss, vi f0, vi f1, vi f2, vi (0 : Int32), vi (0 : Int32), vi (0 : Int32), vi (own_val p1 (0 : Int32)), vi (own_val p1 (16 : Int32)), vi (own_val p1 (32 : Int32)), vi (own_val p2 (0 : Int32)), vi (own_val p2 (16 : Int32)), vi (own_val p2 (32 : Int32)), vr a1935, vr a1950, vi ps2, uu, uu, uu, uu, uu, uu, uu, uu, uu, uu, uu]) rfl ?_
      refine XS.aload X1988.here hx rfl (hb hby at_209) rfl rfl ?_
      refine XS.aload X1988.here hx rfl (hb hby at_211) rfl rfl ?_
      refine XS.iload X1988.here hx rfl (hb hby at_213) rfl ?_
      show Steps p.tables e below (T1984.setTop (mkF m 215 #[vi p0, vj p1, ss, vj p2, ss, vi p3, vi p4, vi p5, vi (1 : Int32), vd (FP.i2d (p0 >>> ((8 : Int32) &&& 31))), ss, vi f0, vi f1, vi f2, vi (0 : Int32), vi (0 : Int32), vi (0 : Int32), vi (own_val p1 (0 : Int32)), vi (own_val p1 (16 : Int32)), vi (own_val p1 (32 : Int32)), vi (own_val p2 (0 : Int32)), vi (own_val p2 (16 : Int32)), vi (own_val p2 (32 : Int32)), vr a1935, vr a1950, vi ps2, uu, uu, uu, uu, uu, uu, uu, uu, uu, uu, uu] [(.int ps2), (.ref a1950), (.ref a1935)])) tQ
      refine XS.iload X1988.here hx rfl (hb hby at_215) rfl ?_
      refine XS.iconst X1988.here hx rfl (hb hby at_217) ?_
      refine XS.iload X1988.here hx rfl (hb hby at_218) rfl ?_
      exact kk
    clear k2003
    obtain ⟨_, _, ⟨T2008, L2009, kc2010, nc2011⟩, -, X2012, ⟨Lc2013, hQ2014, l2015, y2016, z2017⟩, st2018⟩ := Jvm.LawKit.callS X1988 hx (y := mn1) hown (mvT hZ (tw6 hw)) (mvT hZ (tw7 hw)) (mvT hZ (tw2 hw)) (mvT hZ (tw8 hw)) (by decide) (backOf (W := 0) (rmPut l Z a0 hw [] a1935 a1950 ps2 f2 (2 : Int32) (own_val p1 (32 : Int32)) LC2 LW2 T1984.heap n0 Z2002 F2005 F2006 n1952 ge1937 ge1954 P2.1 (own_rg P2 (by decide) lC2) (own_rg P2 (by decide) lW2)) hZ (tw8 hw) (tw2 hw) (by decide) (by decide)) (g := (mkF m 220 #[vi p0, vj p1, ss, vj p2, ss, vi p3, vi p4, vi p5, vi (1 : Int32), vd (FP.i2d (p0 >>> ((8 : Int32) &&& 31))), ss, vi f0, vi f1, vi f2, vi (0 : Int32), vi (0 : Int32), vi (0 : Int32), vi (own_val p1 (0 : Int32)), vi (own_val p1 (16 : Int32)), vi (own_val p1 (32 : Int32)), vi (own_val p2 (0 : Int32)), vi (own_val p2 (16 : Int32)), vi (own_val p2 (32 : Int32)), vr a1935, vr a1950, vi ps2, uu, uu, uu, uu, uu, uu, uu, uu, uu, uu, uu] [(.int (own_val p1 (32 : Int32))), (.int (2 : Int32)), (.int f2), (.int ps2), (.ref a1950), (.ref a1935)])) rfl (by rw [hml]; rfl) (argsL := [(.ref a1935), (.ref a1950), (.int ps2), (.int f2), (.int (2 : Int32)), (.int (own_val p1 (32 : Int32)))]) (rest := []) (lenOf pd_12 rfl) rfl (by show 2 * 0 + _ ≤ _; exact Nat.le_of_eq rfl) (hb hby at_220) (fun _ _ => ⟨rfl, rfl, (by decide : 2 + 0 ≤ _), (by decide : 12 + 0 ≤ _)⟩)
    dsimp only [Pt.U, Pt.locs, Pt.cells, Pt.slots] at X2012 l2015 y2016 z2017 st2018 hQ2014
    subst y2016 z2017
    obtain ⟨rfl, N2019, K2022, g2023, g2024⟩ := hQ2014
    have N2025 : Fr n0 L2009 := by rw [l2015]; exact Fr.app N2001 N2019
    clear l2015 N2019
    have Z2026 : n0 ≤ T2008.heap.size := Nat.le_trans Z2002 K2022.1
    clear Z2002
    clear F2005
    clear F2006
    have k2027 : own_G p e below E0 T2008 (mkF m 223 #[vi p0, vj p1, ss, vj p2, ss, vi p3, vi p4, vi p5, vi (1 : Int32), vd (FP.i2d (p0 >>> ((8 : Int32) &&& 31))), ss, vi f0, vi f1, vi f2, vi (0 : Int32), vi (0 : Int32), vi (0 : Int32), vi (own_val p1 (0 : Int32)), vi (own_val p1 (16 : Int32)), vi (own_val p1 (32 : Int32)), vi (own_val p2 (0 : Int32)), vi (own_val p2 (16 : Int32)), vi (own_val p2 (32 : Int32)), vr a1935, vr a1950, vi ps2, uu, uu, uu, uu, uu, uu, uu, uu, uu, uu, uu] [(.int (own_pos ps2 f2))]) := fun tQ kk => k2007 tQ (st2018 _ kk)
    clear k2007 st2018
    obtain ⟨ps3, hps3⟩ : ∃ z, z = (own_pos ps2 f2) := ⟨_, rfl⟩
    have eq2028 : (own_pos ps2 f2) = ps3 := hps3.symm
    rw [eq2028] at k2027
    obtain ⟨LC3, hLC3⟩ : ∃ z, z = (own_putL LC2 ps2 f2 (.int (2 : Int32))) := ⟨_, rfl⟩
    have F2029 : own_A Z T2008.heap a1935 .int LC3 := by rw [hLC3]; exact g2023
    obtain ⟨LW3, hLW3⟩ : ∃ z, z = (own_putL LW2 ps2 f2 (.double (FP.i2d (own_val p1 (32 : Int32))))) := ⟨_, rfl⟩
    have F2030 : own_A Z T2008.heap a1950 .double LW3 := by rw [hLW3]; exact g2024
    have P3 : own_le ps3 3 := by rw [hps3]; exact own_pos_le P2 _
    have lC3 : LC3.length = 6 := by rw [hLC3, own_putL_len]; exact lC2
    have lW3 : LW3.length = 6 := by rw [hLW3, own_putL_len]; exact lW2
    have k2031 : own_G p e below E0 T2008 (mkF m 240 #[vi p0, vj p1, ss, vj p2, ss, vi p3, vi p4, vi p5, vi (1 : Int32), vd (FP.i2d (p0 >>> ((8 : Int32) &&& 31))), ss, vi f0, vi f1, vi f2, vi (0 : Int32), vi (0 : Int32), vi (0 : Int32), vi (own_val p1 (0 : Int32)), vi (own_val p1 (16 : Int32)), vi (own_val p1 (32 : Int32)), vi (own_val p2 (0 : Int32)), vi (own_val p2 (16 : Int32)), vi (own_val p2 (32 : Int32)), vr a1935, vr a1950, vi ps3, vi ps3, uu, uu, uu, uu, uu, uu, uu, uu, uu, uu] [(.int (own_val p2 (0 : Int32))), (.int (0 : Int32)), (.int (0 : Int32)), (.int ps3), (.ref a1950), (.ref a1935)]) := by
      intro tQ kk
      refine k2027 tQ ?_
      refine XS.istore X2012.here hx rfl (hb hby at_223) rfl (l' := #[vi p0, vj p1, ss, vj p2, ss, vi p3, vi p4, vi p5, vi (1 : Int32), vd (FP.i2d (p0 >>> ((8 : Int32) &&& 31))), ss, vi f0, vi f1, vi f2, vi (0 : Int32), vi (0 : Int32), vi (0 : Int32), vi (own_val p1 (0 : Int32)), vi (own_val p1 (16 : Int32)), vi (own_val p1 (32 : Int32)), vi (own_val p2 (0 : Int32)), vi (own_val p2 (16 : Int32)), vi (own_val p2 (32 : Int32)), vr a1935, vr a1950, vi ps3, uu, uu, uu, uu, uu, uu, uu, uu, uu, uu, uu]) rfl ?_
      refine XS.iload X2012.here hx rfl (hb hby at_225) rfl ?_
      refine XS.istore X2012.here hx rfl (hb hby at_227) rfl (l' := #[vi p0, vj p1, ss, vj p2, ss, vi p3, vi p4, vi p5, vi (1 : Int32), vd (FP.i2d (p0 >>> ((8 : Int32) &&& 31))), ss, vi f0, vi f1, vi f2, vi (0 : Int32), vi (0 : Int32), vi (0 : Int32), vi (own_val p1 (0 : Int32)), vi (own_val p1 (16 : Int32)), vi (own_val p1 (32 : Int32)), vi (own_val p2 (0 : Int32)), vi (own_val p2 (16 : Int32)), vi (own_val p2 (32 : Int32)), vr a1935, vr a1950, vi ps3, vi ps3, uu, uu, uu, uu, uu, uu, uu, uu, uu, uu]) rfl ?_
      refine XS.aload X2012.here hx rfl (hb hby at_229) rfl rfl ?_
      show Steps p.tables e below (T2008.setTop (mkF m 231 #[vi p0, vj p1, ss, vj p2, ss, vi p3, vi p4, vi p5, vi (1 : Int32), vd (FP.i2d (p0 >>> ((8 : Int32) &&& 31))), ss, vi f0, vi f1, vi f2, vi (0 : Int32), vi (0 : Int32), vi (0 : Int32), vi (own_val p1 (0 : Int32)), vi (own_val p1 (16 : Int32)), vi (own_val p1 (32 : Int32)), vi (own_val p2 (0 : Int32)), vi (own_val p2 (16 : Int32)), vi (own_val p2 (32 : Int32)), vr a1935, vr a1950, vi ps3, vi ps3, uu, uu, uu, uu, uu, uu, uu, uu, uu, uu] [(.ref a1935)])) tQ
      refine XS.aload X2012.here hx rfl (hb hby at_231) rfl rfl ?_
      refine XS.iload X2012.here hx rfl (hb hby at_233) rfl ?_
      refine XS.iload X2012.here hx rfl (hb hby at_235) rfl ?_
      refine XS.iconst X2012.here hx rfl (hb hby at_237) ?_
      show Steps p.tables e below (T2008.setTop (mkF m 238 #[vi p0, vj p1, ss, vj p2, ss, vi p3, vi p4, vi p5, vi (1 : Int32), vd (FP.i2d (p0 >>> ((8 : Int32) &&& 31))), ss, vi f0, vi f1, vi f2, vi (0 : Int32), vi (0 : Int32), vi (0 : Int32), vi (own_val p1 (0 : Int32)), vi (own_val p1 (16 : Int32)), vi (own_val p1 (32 : Int32)), vi (own_val p2 (0 : Int32)), vi (own_val p2 (16 : Int32)), vi (own_val p2 (32 : Int32)), vr a1935, vr a1950, vi ps3, vi ps3, uu, uu, uu, uu, uu, uu, uu, uu, uu, uu] [(.int (0 : Int32)), (.int (0 : Int32)), (.int ps3), (.ref a1950), (.ref a1935)])) tQ
      refine XS.iload X2012.here hx rfl (hb hby at_238) rfl ?_
      exact kk
    clear k2027
    obtain ⟨_, _, ⟨T2032, L2033, kc2034, nc2035⟩, -, X2036, ⟨Lc2037, hQ2038, l2039, y2040, z2041⟩, st2042⟩ := Jvm.LawKit.callS X2012 hx (y := mn1) hown (mvT hZ (tw6 hw)) (mvT hZ (tw7 hw)) (mvT hZ (tw2 hw)) (mvT hZ (tw8 hw)) (by decide) (backOf (W := 0) (rmPut l Z a0 hw [] a1935 a1950 ps3 (0 : Int32) (0 : Int32) (own_val p2 (0 : Int32)) LC3 LW3 T2008.heap n0 Z2026 F2029 F2030 n1952 ge1937 ge1954 P3.1 (own_rg P3 (by decide) lC3) (own_rg P3 (by decide) lW3)) hZ (tw8 hw) (tw2 hw) (by decide) (by decide)) (g := (mkF m 240 #[vi p0, vj p1, ss, vj p2, ss, vi p3, vi p4, vi p5, vi (1 : Int32), vd (FP.i2d (p0 >>> ((8 : Int32) &&& 31))), ss, vi f0, vi f1, vi f2, vi (0 : Int32), vi (0 : Int32), vi (0 : Int32), vi (own_val p1 (0 : Int32)), vi (own_val p1 (16 : Int32)), vi (own_val p1 (32 : Int32)), vi (own_val p2 (0 : Int32)), vi (own_val p2 (16 : Int32)), vi (own_val p2 (32 : Int32)), vr a1935, vr a1950, vi ps3, vi ps3, uu, uu, uu, uu, uu, uu, uu, uu, uu, uu] [(.int (own_val p2 (0 : Int32))), (.int (0 : Int32)), (.int (0 : Int32)), (.int ps3), (.ref a1950), (.ref a1935)])) rfl (by rw [hml]; rfl) (argsL := [(.ref a1935), (.ref a1950), (.int ps3), (.int (0 : Int32)), (.int (0 : Int32)), (.int (own_val p2 (0 : Int32)))]) (rest := []) (lenOf pd_12 rfl) rfl (by show 2 * 0 + _ ≤ _; exact Nat.le_of_eq rfl) (hb hby at_240) (fun _ _ => ⟨rfl, rfl, (by decide : 2 + 0 ≤ _), (by decide : 12 + 0 ≤ _)⟩)
    dsimp only [Pt.U, Pt.locs, Pt.cells, Pt.slots] at X2036 l2039 y2040 z2041 st2042 hQ2038
    subst y2040 z2041
    obtain ⟨rfl, N2043, K2046, g2047, g2048⟩ := hQ2038
    have N2049 : Fr n0 L2033 := by rw [l2039]; exact Fr.app N2025 N2043
    clear l2039 N2043
    have Z2050 : n0 ≤ T2032.heap.size := Nat.le_trans Z2026 K2046.1
    clear Z2026
    clear F2029
    clear F2030
    have k2051 : own_G p e below E0 T2032 (mkF m 243 #[vi p0, vj p1, ss, vj p2, ss, vi p3, vi p4, vi p5, vi (1 : Int32), vd (FP.i2d (p0 >>> ((8 : Int32) &&& 31))), ss, vi f0, vi f1, vi f2, vi (0 : Int32), vi (0 : Int32), vi (0 : Int32), vi (own_val p1 (0 : Int32)), vi (own_val p1 (16 : Int32)), vi (own_val p1 (32 : Int32)), vi (own_val p2 (0 : Int32)), vi (own_val p2 (16 : Int32)), vi (own_val p2 (32 : Int32)), vr a1935, vr a1950, vi ps3, vi ps3, uu, uu, uu, uu, uu, uu, uu, uu, uu, uu] [(.int (own_pos ps3 (0 : Int32)))]) := fun tQ kk => k2031 tQ (st2042 _ kk)
    clear k2031 st2042
    obtain ⟨ps4, hps4⟩ : ∃ z, z = (own_pos ps3 (0 : Int32)) := ⟨_, rfl⟩
    have eq2052 : (own_pos ps3 (0 : Int32)) = ps4 := hps4.symm
    rw [eq2052] at k2051
    obtain ⟨LC4, hLC4⟩ : ∃ z, z = (own_putL LC3 ps3 (0 : Int32) (.int (0 : Int32))) := ⟨_, rfl⟩
    have F2053 : own_A Z T2032.heap a1935 .int LC4 := by rw [hLC4]; exact g2047
    obtain ⟨LW4, hLW4⟩ : ∃ z, z = (own_putL LW3 ps3 (0 : Int32) (.double (FP.i2d (own_val p2 (0 : Int32))))) := ⟨_, rfl⟩
    have F2054 : own_A Z T2032.heap a1950 .double LW4 := by rw [hLW4]; exact g2048
    have P4 : own_le ps4 4 := by rw [hps4]; exact own_pos_le P3 _
    have lC4 : LC4.length = 6 := by rw [hLC4, own_putL_len]; exact lC3
    have lW4 : LW4.length = 6 := by rw [hLW4, own_putL_len]; exact lW3
    have k2055 : own_G p e below E0 T2032 (mkF m 256 #[vi p0, vj p1, ss, vj p2, ss, vi p3, vi p4, vi p5, vi (1 : Int32), vd (FP.i2d (p0 >>> ((8 : Int32) &&& 31))), ss, vi f0, vi f1, vi f2, vi (0 : Int32), vi (0 : Int32), vi (0 : Int32), vi (own_val p1 (0 : Int32)), vi (own_val p1 (16 : Int32)), vi (own_val p1 (32 : Int32)), vi (own_val p2 (0 : Int32)), vi (own_val p2 (16 : Int32)), vi (own_val p2 (32 : Int32)), vr a1935, vr a1950, vi ps4, vi ps3, uu, uu, uu, uu, uu, uu, uu, uu, uu, uu] [(.int (own_val p2 (16 : Int32))), (.int (1 : Int32)), (.int (0 : Int32)), (.int ps4), (.ref a1950), (.ref a1935)]) := by
      intro tQ kk
      refine k2051 tQ ?_
      refine XS.istore X2036.here hx rfl (hb hby at_243) rfl (l' := #[vi p0, vj p1, ss, vj p2, ss, vi p3, vi p4, vi p5, vi (1 : Int32), vd (FP.i2d (p0 >>> ((8 : Int32) &&& 31))), ss, vi f0, vi f1, vi f2, vi (0 : Int32), vi (0 : Int32), vi (0 : Int32), vi (own_val p1 (0 : Int32)), vi (own_val p1 (16 : Int32)), vi (own_val p1 (32 : Int32)), vi (own_val p2 (0 : Int32)), vi (own_val p2 (16 : Int32)), vi (own_val p2 (32 : Int32)), vr a1935, vr a1950, vi ps4, vi ps3, uu, uu, uu, uu, uu, uu, uu, uu, uu, uu]) rfl ?_
      refine XS.aload X2036.here hx rfl (hb hby at_245) rfl rfl ?_
      refine XS.aload X2036.here hx rfl (hb hby at_247) rfl rfl ?_
      refine XS.iload X2036.here hx rfl (hb hby at_249) rfl ?_
      show Steps p.tables e below (T2032.setTop (mkF m 251 #[vi p0, vj p1, ss, vj p2, ss, vi p3, vi p4, vi p5, vi (1 : Int32), vd (FP.i2d (p0 >>> ((8 : Int32) &&& 31))), ss, vi f0, vi f1, vi f2, vi (0 : Int32), vi (0 : Int32), vi (0 : Int32), vi (own_val p1 (0 : Int32)), vi (own_val p1 (16 : Int32)), vi (own_val p1 (32 : Int32)), vi (own_val p2 (0 : Int32)), vi (own_val p2 (16 : Int32)), vi (own_val p2 (32 : Int32)), vr a1935, vr a1950, vi ps4, vi ps3, uu, uu, uu, uu, uu, uu, uu, uu, uu, uu] [(.int ps4), (.ref a1950), (.ref a1935)])) tQ
      refine XS.iload X2036.here hx rfl (hb hby at_251) rfl ?_
      refine XS.iconst X2036.here hx rfl (hb hby at_253) ?_
      refine XS.iload X2036.here hx rfl (hb hby at_254) rfl ?_
      exact kk
    clear k2051
    obtain ⟨_, _, ⟨T2056, L2057, kc2058, nc2059⟩, -, X2060, ⟨Lc2061, hQ2062, l2063, y2064, z2065⟩, st2066⟩ := Jvm.LawKit.callS X2036 hx (y := mn1) hown (mvT hZ (tw6 hw)) (mvT hZ (tw7 hw)) (mvT hZ (tw2 hw)) (mvT hZ (tw8 hw)) (by decide) (backOf (W := 0) (rmPut l Z a0 hw [] a1935 a1950 ps4 (0 : Int32) (1 : Int32) (own_val p2 (16 : Int32)) LC4 LW4 T2032.heap n0 Z2050 F2053 F2054 n1952 ge1937 ge1954 P4.1 (own_rg P4 (by decide) lC4) (own_rg P4 (by decide) lW4)) hZ (tw8 hw) (tw2 hw) (by decide) (by decide)) (g := (mkF m 256 #[vi p0, vj p1, ss, vj p2, ss, vi p3, vi p4, vi p5, vi (1 : Int32), vd (FP.i2d (p0 >>> ((8 : Int32) &&& 31))), ss, vi f0, vi f1, vi f2, vi (0 : Int32), vi (0 : Int32), vi (0 : Int32), vi (own_val p1 (0 : Int32)), vi (own_val p1 (16 : Int32)), vi (own_val p1 (32 : Int32)), vi (own_val p2 (0 : Int32)), vi (own_val p2 (16 : Int32)), vi (own_val p2 (32 : Int32)), vr a1935, vr a1950, vi ps4, vi ps3, uu, uu, uu, uu, uu, uu, uu, uu, uu, uu] [(.int (own_val p2 (16 : Int32))), (.int (1 : Int32)), (.int (0 : Int32)), (.int ps4), (.ref a1950), (.ref a1935)])) rfl (by rw [hml]; rfl) (argsL := [(.ref a1935), (.ref a1950), (.int ps4), (.int (0 : Int32)), (.int (1 : Int32)), (.int (own_val p2 (16 : Int32)))]) (rest := []) (lenOf pd_12 rfl) rfl (by show 2 * 0 + _ ≤ _; exact Nat.le_of_eq rfl) (hb hby at_256) (fun _ _ => ⟨rfl, rfl, (by decide : 2 + 0 ≤ _), (by decide : 12 + 0 ≤ _)⟩)
    dsimp only [Pt.U, Pt.locs, Pt.cells, Pt.slots] at X2060 l2063 y2064 z2065 st2066 hQ2062
    subst y2064 z2065
    obtain ⟨rfl, N2067, K2070, g2071, g2072⟩ := hQ2062
    have N2073 : Fr n0 L2057 := by rw [l2063]; exact Fr.app N2049 N2067
    clear l2063 N2067
    have Z2074 : n0 ≤ T2056.heap.size := Nat.le_trans Z2050 K2070.1
    clear Z2050
    clear F2053
    clear F2054
    have k2075 : own_G p e below E0 T2056 (mkF m 259 #[vi p0, vj p1, ss, vj p2, ss, vi p3, vi p4, vi p5, vi (1 : Int32), vd (FP.i2d (p0 >>> ((8 : Int32) &&& 31))), ss, vi f0, vi f1, vi f2, vi (0 : Int32), vi (0 : Int32), vi (0 : Int32), vi (own_val p1 (0 : Int32)), vi (own_val p1 (16 : Int32)), vi (own_val p1 (32 : Int32)), vi (own_val p2 (0 : Int32)), vi (own_val p2 (16 : Int32)), vi (own_val p2 (32 : Int32)), vr a1935, vr a1950, vi ps4, vi ps3, uu, uu, uu, uu, uu, uu, uu, uu, uu, uu] [(.int (own_pos ps4 (0 : Int32)))]) := fun tQ kk => k2055 tQ (st2066 _ kk)
    clear k2055 st2066
    obtain ⟨ps5, hps5⟩ : ∃ z, z = (own_pos ps4 (0 : Int32)) := ⟨_, rfl⟩
    have eq2076 : (own_pos ps4 (0 : Int32)) = ps5 := hps5.symm
    rw [eq2076] at k2075
    obtain ⟨LC5, hLC5⟩ : ∃ z, z = (own_putL LC4 ps4 (0 : Int32) (.int (1 : Int32))) := ⟨_, rfl⟩
    have F2077 : own_A Z T2056.heap a1935 .int LC5 := by rw [hLC5]; exact g2071
    obtain ⟨LW5, hLW5⟩ : ∃ z, z = (own_putL LW4 ps4 (0 : Int32) (.double (FP.i2d (own_val p2 (16 : Int32))))) := ⟨_, rfl⟩
    have F2078 : own_A Z T2056.heap a1950 .double LW5 := by rw [hLW5]; exact g2072
    have P5 : own_le ps5 5 := by rw [hps5]; exact own_pos_le P4 _
    have lC5 : LC5.length = 6 := by rw [hLC5, own_putL_len]; exact lC4
    have lW5 : LW5.length = 6 := by rw [hLW5, own_putL_len]; exact lW4
    have k2079 : own_G p e below E0 T2056 (mkF m 272 #[vi p0, vj p1, ss, vj p2, ss, vi p3, vi p4, vi p5, vi (1 : Int32), vd (FP.i2d (p0 >>> ((8 : Int32) &&& 31))), ss, vi f0, vi f1, vi f2, vi (0 : Int32), vi (0 : Int32), vi (0 : Int32), vi (own_val p1 (0 : Int32)), vi (own_val p1 (16 : Int32)), vi (own_val p1 (32 : Int32)), vi (own_val p2 (0 : Int32)), vi (own_val p2 (16 : Int32)), vi (own_val p2 (32 : Int32)), vr a1935, vr a1950, vi ps5, vi ps3, uu, uu, uu, uu, uu, uu, uu, uu, uu, uu] [(.int (own_val p2 (32 : Int32))), (.int (2 : Int32)), (.int (0 : Int32)), (.int ps5), (.ref a1950), (.ref a1935)]) := by
      intro tQ kk
      refine k2075 tQ ?_
      refine XS.istore X2060.here hx rfl (hb hby at_259) rfl (l' := #[vi p0, vj p1, ss, vj p2, ss, vi p3, vi p4, vi p5, vi (1 : Int32), vd (FP.i2d (p0 >>> ((8 : Int32) &&& 31))), ss, vi f0, vi f1, vi f2, vi (0 : Int32), vi (0 : Int32), vi (0 : Int32), vi (own_val p1 (0 : Int32)), vi (own_val p1 (16 : Int32)), vi (own_val p1 (32 : Int32)), vi (own_val p2 (0 : Int32)), vi (own_val p2 (16 : Int32)), vi (own_val p2 (32 : Int32)), vr a1935, vr a1950, vi ps5, vi ps3, uu, uu, uu, uu, uu, uu, uu, uu, uu, uu]) rfl ?_
      refine XS.aload X2060.here hx rfl (hb hby at_261) rfl rfl ?_
      refine XS.aload X2060.here hx rfl (hb hby at_263) rfl rfl ?_
      refine XS.iload X2060.here hx rfl (hb hby at_265) rfl ?_
      show Steps p.tables e below (T2056.setTop (mkF m 267 #[vi p0, vj p1, ss, vj p2, ss, vi p3, vi p4, vi p5, vi (1 : Int32), vd (FP.i2d (p0 >>> ((8 : Int32) &&& 31))), ss, vi f0, vi f1, vi f2, vi (0 : Int32), vi (0 : Int32), vi (0 : Int32), vi (own_val p1 (0 : Int32)), vi (own_val p1 (16 : Int32)), vi (own_val p1 (32 : Int32)), vi (own_val p2 (0 : Int32)), vi (own_val p2 (16 : Int32)), vi (own_val p2 (32 : Int32)), vr a1935, vr a1950, vi ps5, vi ps3, uu, uu, uu, uu, uu, uu, uu, uu, uu, uu] [(.int ps5), (.ref a1950), (.ref a1935)])) tQ
      refine XS.iload X2060.here hx rfl (hb hby at_267) rfl ?_
      refine XS.iconst X2060.here hx rfl (hb hby at_269) ?_
      refine XS.iload X2060.here hx rfl (hb hby at_270) rfl ?_
      exact kk
    clear k2075
    obtain ⟨_, _, ⟨T2080, L2081, kc2082, nc2083⟩, -, X2084, ⟨Lc2085, hQ2086, l2087, y2088, z2089⟩, st2090⟩ := Jvm.LawKit.callS X2060 hx (y := mn1) hown (mvT hZ (tw6 hw)) (mvT hZ (tw7 hw)) (mvT hZ (tw2 hw)) (mvT hZ (tw8 hw)) (by decide) (backOf (W := 0) (rmPut l Z a0 hw [] a1935 a1950 ps5 (0 : Int32) (2 : Int32) (own_val p2 (32 : Int32)) LC5 LW5 T2056.heap n0 Z2074 F2077 F2078 n1952 ge1937 ge1954 P5.1 (own_rg P5 (by decide) lC5) (own_rg P5 (by decide) lW5)) hZ (tw8 hw) (tw2 hw) (by decide) (by decide)) (g := (mkF m 272 #[vi p0, vj p1, ss, vj p2, ss, vi p3, vi p4, vi p5, vi (1 : Int32), vd (FP.i2d (p0 >>> ((8 : Int32) &&& 31))), ss, vi f0, vi f1, vi f2, vi (0 : Int32), vi (0 : Int32), vi (0 : Int32), vi (own_val p1 (0 : Int32)), vi (own_val p1 (16 : Int32)), vi (own_val p1 (32 : Int32)), vi (own_val p2 (0 : Int32)), vi (own_val p2 (16 : Int32)), vi (own_val p2 (32 : Int32)), vr a1935, vr a1950, vi ps5, vi ps3, uu, uu, uu, uu, uu, uu, uu, uu, uu, uu] [(.int (own_val p2 (32 : Int32))), (.int (2 : Int32)), (.int (0 : Int32)), (.int ps5), (.ref a1950), (.ref a1935)])) rfl (by rw [hml]; rfl) (argsL := [(.ref a1935), (.ref a1950), (.int ps5), (.int (0 : Int32)), (.int (2 : Int32)), (.int (own_val p2 (32 : Int32)))]) (rest := []) (lenOf pd_12 rfl) rfl (by show 2 * 0 + _ ≤ _; exact Nat.le_of_eq rfl) (hb hby at_272) (fun _ _ => ⟨rfl, rfl, (by decide : 2 + 0 ≤ _), (by decide : 12 + 0 ≤ _)⟩)
    dsimp only [Pt.U, Pt.locs, Pt.cells, Pt.slots] at X2084 l2087 y2088 z2089 st2090 hQ2086
    subst y2088 z2089
    obtain ⟨rfl, N2091, K2094, g2095, g2096⟩ := hQ2086
    have N2097 : Fr n0 L2081 := by rw [l2087]; exact Fr.app N2073 N2091
    clear l2087 N2091
    have Z2098 : n0 ≤ T2080.heap.size := Nat.le_trans Z2074 K2094.1
    clear Z2074
    clear F2077
    clear F2078
    have k2099 : own_G p e below E0 T2080 (mkF m 275 #[vi p0, vj p1, ss, vj p2, ss, vi p3, vi p4, vi p5, vi (1 : Int32), vd (FP.i2d (p0 >>> ((8 : Int32) &&& 31))), ss, vi f0, vi f1, vi f2, vi (0 : Int32), vi (0 : Int32), vi (0 : Int32), vi (own_val p1 (0 : Int32)), vi (own_val p1 (16 : Int32)), vi (own_val p1 (32 : Int32)), vi (own_val p2 (0 : Int32)), vi (own_val p2 (16 : Int32)), vi (own_val p2 (32 : Int32)), vr a1935, vr a1950, vi ps5, vi ps3, uu, uu, uu, uu, uu, uu, uu, uu, uu, uu] [(.int (own_pos ps5 (0 : Int32)))]) := fun tQ kk => k2079 tQ (st2090 _ kk)
    clear k2079 st2090
    obtain ⟨ps6, hps6⟩ : ∃ z, z = (own_pos ps5 (0 : Int32)) := ⟨_, rfl⟩
    have eq2100 : (own_pos ps5 (0 : Int32)) = ps6 := hps6.symm
    rw [eq2100] at k2099
    obtain ⟨LC6, hLC6⟩ : ∃ z, z = (own_putL LC5 ps5 (0 : Int32) (.int (2 : Int32))) := ⟨_, rfl⟩
    have F2101 : own_A Z T2080.heap a1935 .int LC6 := by rw [hLC6]; exact g2095
    obtain ⟨LW6, hLW6⟩ : ∃ z, z = (own_putL LW5 ps5 (0 : Int32) (.double (FP.i2d (own_val p2 (32 : Int32))))) := ⟨_, rfl⟩
    have F2102 : own_A Z T2080.heap a1950 .double LW6 := by rw [hLW6]; exact g2096
    have P6 : own_le ps6 6 := by rw [hps6]; exact own_pos_le P5 _
    have lC6 : LC6.length = 6 := by rw [hLC6, own_putL_len]; exact lC5
    have lW6 : LW6.length = 6 := by rw [hLW6, own_putL_len]; exact lW5
    have k2103 : own_G p e below E0 T2080 (mkF m 305 #[vi p0, vj p1, ss, vj p2, ss, vi p3, vi p4, vi p5, vi (1 : Int32), vd (FP.i2d (p0 >>> ((8 : Int32) &&& 31))), ss, vi f0, vi f1, vi f2, vi (0 : Int32), vi (0 : Int32), vi (0 : Int32), vi (own_val p1 (0 : Int32)), vi (own_val p1 (16 : Int32)), vi (own_val p1 (32 : Int32)), vi (own_val p2 (0 : Int32)), vi (own_val p2 (16 : Int32)), vi (own_val p2 (32 : Int32)), vr a1935, vr a1950, vi ps6, vi ps3, vi ps6, uu, uu, uu, uu, uu, uu, uu, uu, uu] [(.int (2 : Int32))]) := by
      intro tQ kk
      refine k2099 tQ ?_
      refine XS.istore X2084.here hx rfl (hb hby at_275) rfl (l' := #[vi p0, vj p1, ss, vj p2, ss, vi p3, vi p4, vi p5, vi (1 : Int32), vd (FP.i2d (p0 >>> ((8 : Int32) &&& 31))), ss, vi f0, vi f1, vi f2, vi (0 : Int32), vi (0 : Int32), vi (0 : Int32), vi (own_val p1 (0 : Int32)), vi (own_val p1 (16 : Int32)), vi (own_val p1 (32 : Int32)), vi (own_val p2 (0 : Int32)), vi (own_val p2 (16 : Int32)), vi (own_val p2 (32 : Int32)), vr a1935, vr a1950, vi ps6, vi ps3, uu, uu, uu, uu, uu, uu, uu, uu, uu, uu]) rfl ?_
      refine XS.iload X2084.here hx rfl (hb hby at_277) rfl ?_
      refine XS.istore X2084.here hx rfl (hb hby at_279) rfl (l' := #[vi p0, vj p1, ss, vj p2, ss, vi p3, vi p4, vi p5, vi (1 : Int32), vd (FP.i2d (p0 >>> ((8 : Int32) &&& 31))), ss, vi f0, vi f1, vi f2, vi (0 : Int32), vi (0 : Int32), vi (0 : Int32), vi (own_val p1 (0 : Int32)), vi (own_val p1 (16 : Int32)), vi (own_val p1 (32 : Int32)), vi (own_val p2 (0 : Int32)), vi (own_val p2 (16 : Int32)), vi (own_val p2 (32 : Int32)), vr a1935, vr a1950, vi ps6, vi ps3, vi ps6, uu, uu, uu, uu, uu, uu, uu, uu, uu]) rfl ?_
      refine XS.iload X2084.here hx rfl (hb hby at_281) rfl ?_
      show Steps p.tables e below (T2080.setTop (mkF m 283 #[vi p0, vj p1, ss, vj p2, ss, vi p3, vi p4, vi p5, vi (1 : Int32), vd (FP.i2d (p0 >>> ((8 : Int32) &&& 31))), ss, vi f0, vi f1, vi f2, vi (0 : Int32), vi (0 : Int32), vi (0 : Int32), vi (own_val p1 (0 : Int32)), vi (own_val p1 (16 : Int32)), vi (own_val p1 (32 : Int32)), vi (own_val p2 (0 : Int32)), vi (own_val p2 (16 : Int32)), vi (own_val p2 (32 : Int32)), vr a1935, vr a1950, vi ps6, vi ps3, vi ps6, uu, uu, uu, uu, uu, uu, uu, uu, uu] [(.int (1 : Int32))])) tQ
      refine XS.ifYes X2084.here hx rfl (pc0 := 283) (pc' := 298) rfl (hb hby at_283) rfl (own_if_neY (by decide)) (by decide) (by decide) ?_
      refine XS.iload X2084.here hx rfl (hb hby at_298) rfl ?_
      refine XS.iconst X2084.here hx rfl (hb hby at_300) ?_
      refine XS.icmpNo X2084.here hx rfl (hb hby at_301) rfl (own_ic_neN (by decide)) ?_
      show Steps p.tables e below (T2080.setTop (mkF m 304 #[vi p0, vj p1, ss, vj p2, ss, vi p3, vi p4, vi p5, vi (1 : Int32), vd (FP.i2d (p0 >>> ((8 : Int32) &&& 31))), ss, vi f0, vi f1, vi f2, vi (0 : Int32), vi (0 : Int32), vi (0 : Int32), vi (own_val p1 (0 : Int32)), vi (own_val p1 (16 : Int32)), vi (own_val p1 (32 : Int32)), vi (own_val p2 (0 : Int32)), vi (own_val p2 (16 : Int32)), vi (own_val p2 (32 : Int32)), vr a1935, vr a1950, vi ps6, vi ps3, vi ps6, uu, uu, uu, uu, uu, uu, uu, uu, uu] [])) tQ
      refine XS.iconst X2084.here hx rfl (hb hby at_304) ?_
      exact kk
    clear k2099
    obtain ⟨T2104, h2105, cA2106, X2107, e2108, E2109, A2110, st2111⟩ := newP (aty := .int) X2084 hx hZ (tw4 hw) rfl (g := (mkF m 305 #[vi p0, vj p1, ss, vj p2, ss, vi p3, vi p4, vi p5, vi (1 : Int32), vd (FP.i2d (p0 >>> ((8 : Int32) &&& 31))), ss, vi f0, vi f1, vi f2, vi (0 : Int32), vi (0 : Int32), vi (0 : Int32), vi (own_val p1 (0 : Int32)), vi (own_val p1 (16 : Int32)), vi (own_val p1 (32 : Int32)), vi (own_val p2 (0 : Int32)), vi (own_val p2 (16 : Int32)), vi (own_val p2 (32 : Int32)), vr a1935, vr a1950, vi ps6, vi ps3, vi ps6, uu, uu, uu, uu, uu, uu, uu, uu, uu] [(.int (2 : Int32))])) rfl (hb hby at_305) rfl (by decide) (cap := 2) (by decide) (by decide) (by decide) (by decide)
    obtain ⟨a2112, g2113⟩ : ∃ zA : Nat, zA = T2080.heap.size := ⟨_, rfl⟩
    rw [← g2113] at A2110 st2111
    have n2114 : a1935 ≠ a2112 := own_lt_ne F2101.lt g2113
    have n2115 : a2112 ≠ a1935 := fun q => n2114 q.symm
    have n2116 : a1950 ≠ a2112 := own_lt_ne F2102.lt g2113
    have n2117 : a2112 ≠ a1950 := fun q => n2116 q.symm
    have ge2118 : n0 ≤ a2112 := own_ge_of Z2098 g2113
    have Z2119 : n0 ≤ h2105.size := Nat.le_trans Z2098 E2109.1
    clear Z2098
    have F2120 : own_A Z h2105 a1935 .int LC6 := F2101.ext E2109
    clear F2101
    have F2121 : own_A Z h2105 a1950 .double LW6 := F2102.ext E2109
    clear F2102
    have F2122 : own_A Z h2105 a2112 .int [(.int (0 : Int32)), (.int (0 : Int32))] := own_A.new A2110
    have k2123 : own_G p e below E0 T2104 (mkF m 307 #[vi p0, vj p1, ss, vj p2, ss, vi p3, vi p4, vi p5, vi (1 : Int32), vd (FP.i2d (p0 >>> ((8 : Int32) &&& 31))), ss, vi f0, vi f1, vi f2, vi (0 : Int32), vi (0 : Int32), vi (0 : Int32), vi (own_val p1 (0 : Int32)), vi (own_val p1 (16 : Int32)), vi (own_val p1 (32 : Int32)), vi (own_val p2 (0 : Int32)), vi (own_val p2 (16 : Int32)), vi (own_val p2 (32 : Int32)), vr a1935, vr a1950, vi ps6, vi ps3, vi ps6, uu, uu, uu, uu, uu, uu, uu, uu, uu] [(.ref a2112)]) := fun tQ kk => k2103 tQ (st2111 _ kk)
    clear k2103 st2111
    have k2124 : own_G p e below E0 T2104 (mkF m 310 #[vi p0, vj p1, ss, vj p2, ss, vi p3, vi p4, vi p5, vi (1 : Int32), vd (FP.i2d (p0 >>> ((8 : Int32) &&& 31))), ss, vi f0, vi f1, vi f2, vi (0 : Int32), vi (0 : Int32), vi (0 : Int32), vi (own_val p1 (0 : Int32)), vi (own_val p1 (16 : Int32)), vi (own_val p1 (32 : Int32)), vi (own_val p2 (0 : Int32)), vi (own_val p2 (16 : Int32)), vi (own_val p2 (32 : Int32)), vr a1935, vr a1950, vi ps6, vi ps3, vi ps6, uu, uu, uu, uu, uu, uu, uu, uu, uu] [(.int (0 : Int32)), (.int (0 : Int32)), (.ref a2112), (.ref a2112)]) := by
      intro tQ kk
      refine k2123 tQ ?_
      refine XS.dup X2107.here hx rfl (hb hby at_307) rfl rfl ?_
      refine XS.iconst X2107.here hx rfl (hb hby at_308) ?_
      refine XS.iconst X2107.here hx rfl (hb hby at_309) ?_
      exact kk
    clear k2123
    obtain ⟨T2125, h2126, X2127, e2128, W2129, F2130, st2131⟩ := own_A.ist X2107 hx hZ e2108 F2122 (j := (0 : Int32)) (by decide) rfl (g := (mkF m 310 #[vi p0, vj p1, ss, vj p2, ss, vi p3, vi p4, vi p5, vi (1 : Int32), vd (FP.i2d (p0 >>> ((8 : Int32) &&& 31))), ss, vi f0, vi f1, vi f2, vi (0 : Int32), vi (0 : Int32), vi (0 : Int32), vi (own_val p1 (0 : Int32)), vi (own_val p1 (16 : Int32)), vi (own_val p1 (32 : Int32)), vi (own_val p2 (0 : Int32)), vi (own_val p2 (16 : Int32)), vi (own_val p2 (32 : Int32)), vr a1935, vr a1950, vi ps6, vi ps3, vi ps6, uu, uu, uu, uu, uu, uu, uu, uu, uu] [(.int (0 : Int32)), (.int (0 : Int32)), (.ref a2112), (.ref a2112)])) rfl rfl (hb hby at_310)
    have N2132 := Fr.snoc X2127 N2097 ge2118
    have k2133 : own_G p e below E0 T2125 (mkF m 311 #[vi p0, vj p1, ss, vj p2, ss, vi p3, vi p4, vi p5, vi (1 : Int32), vd (FP.i2d (p0 >>> ((8 : Int32) &&& 31))), ss, vi f0, vi f1, vi f2, vi (0 : Int32), vi (0 : Int32), vi (0 : Int32), vi (own_val p1 (0 : Int32)), vi (own_val p1 (16 : Int32)), vi (own_val p1 (32 : Int32)), vi (own_val p2 (0 : Int32)), vi (own_val p2 (16 : Int32)), vi (own_val p2 (32 : Int32)), vr a1935, vr a1950, vi ps6, vi ps3, vi ps6, uu, uu, uu, uu, uu, uu, uu, uu, uu] [(.ref a2112)]) := fun tQ kk => k2124 tQ (st2131 _ kk)
    clear k2124 st2131
    have F2134 : own_A Z h2126 a1935 .int LC6 := F2120.other W2129 n2114
    clear F2120
    have F2135 : own_A Z h2126 a1950 .double LW6 := F2121.other W2129 n2116
    clear F2121
    have Z2136 : n0 ≤ h2126.size := by rw [W2129.size]; exact Z2119
    clear Z2119
    have F2137 : own_A Z h2126 a2112 .int [(.int (0 : Int32)), (.int (0 : Int32))] := F2130
    have k2138 : own_G p e below E0 T2125 (mkF m 315 #[vi p0, vj p1, ss, vj p2, ss, vi p3, vi p4, vi p5, vi (1 : Int32), vd (FP.i2d (p0 >>> ((8 : Int32) &&& 31))), ss, vi f0, vi f1, vi f2, vi (0 : Int32), vi (0 : Int32), vi (0 : Int32), vi (own_val p1 (0 : Int32)), vi (own_val p1 (16 : Int32)), vi (own_val p1 (32 : Int32)), vi (own_val p2 (0 : Int32)), vi (own_val p2 (16 : Int32)), vi (own_val p2 (32 : Int32)), vr a1935, vr a1950, vi ps6, vi ps3, vi ps6, uu, uu, uu, uu, uu, uu, uu, uu, uu] [(.int ps3), (.int (1 : Int32)), (.ref a2112), (.ref a2112)]) := by
      intro tQ kk
      refine k2133 tQ ?_
      refine XS.dup X2127.here hx rfl (hb hby at_311) rfl rfl ?_
      refine XS.iconst X2127.here hx rfl (hb hby at_312) ?_
      refine XS.iload X2127.here hx rfl (hb hby at_313) rfl ?_
      exact kk
    clear k2133
    obtain ⟨T2139, h2140, X2141, e2142, W2143, F2144, st2145⟩ := own_A.ist X2127 hx hZ e2128 F2137 (j := (1 : Int32)) (by decide) rfl (g := (mkF m 315 #[vi p0, vj p1, ss, vj p2, ss, vi p3, vi p4, vi p5, vi (1 : Int32), vd (FP.i2d (p0 >>> ((8 : Int32) &&& 31))), ss, vi f0, vi f1, vi f2, vi (0 : Int32), vi (0 : Int32), vi (0 : Int32), vi (own_val p1 (0 : Int32)), vi (own_val p1 (16 : Int32)), vi (own_val p1 (32 : Int32)), vi (own_val p2 (0 : Int32)), vi (own_val p2 (16 : Int32)), vi (own_val p2 (32 : Int32)), vr a1935, vr a1950, vi ps6, vi ps3, vi ps6, uu, uu, uu, uu, uu, uu, uu, uu, uu] [(.int ps3), (.int (1 : Int32)), (.ref a2112), (.ref a2112)])) rfl rfl (hb hby at_315)
    have N2146 := Fr.snoc X2141 N2132 ge2118
    have k2147 : own_G p e below E0 T2139 (mkF m 316 #[vi p0, vj p1, ss, vj p2, ss, vi p3, vi p4, vi p5, vi (1 : Int32), vd (FP.i2d (p0 >>> ((8 : Int32) &&& 31))), ss, vi f0, vi f1, vi f2, vi (0 : Int32), vi (0 : Int32), vi (0 : Int32), vi (own_val p1 (0 : Int32)), vi (own_val p1 (16 : Int32)), vi (own_val p1 (32 : Int32)), vi (own_val p2 (0 : Int32)), vi (own_val p2 (16 : Int32)), vi (own_val p2 (32 : Int32)), vr a1935, vr a1950, vi ps6, vi ps3, vi ps6, uu, uu, uu, uu, uu, uu, uu, uu, uu] [(.ref a2112)]) := fun tQ kk => k2138 tQ (st2145 _ kk)
    clear k2138 st2145
    have F2148 : own_A Z h2140 a1935 .int LC6 := F2134.other W2143 n2114
    clear F2134
    have F2149 : own_A Z h2140 a1950 .double LW6 := F2135.other W2143 n2116
    clear F2135
    have Z2150 : n0 ≤ h2140.size := by rw [W2143.size]; exact Z2136
    clear Z2136
    have F2151 : own_A Z h2140 a2112 .int [(.int (0 : Int32)), (.int ps3)] := F2144
    have k2152 : own_G p e below E0 T2139 (mkF m 341 #[vi p0, vj p1, ss, vj p2, ss, vi p3, vi p4, vi p5, vi (1 : Int32), vd (FP.i2d (p0 >>> ((8 : Int32) &&& 31))), ss, vi f0, vi f1, vi f2, vi (0 : Int32), vi (0 : Int32), vi (0 : Int32), vi (own_val p1 (0 : Int32)), vi (own_val p1 (16 : Int32)), vi (own_val p1 (32 : Int32)), vi (own_val p2 (0 : Int32)), vi (own_val p2 (16 : Int32)), vi (own_val p2 (32 : Int32)), vr a1935, vr a1950, vi ps6, vi ps3, vi ps6, vr a2112, uu, uu, uu, uu, uu, uu, uu, uu] [(.int (3 : Int32))]) := by
      intro tQ kk
      refine k2147 tQ ?_
      refine XS.astore X2141.here hx rfl (hb hby at_316) rfl rfl (l' := #[vi p0, vj p1, ss, vj p2, ss, vi p3, vi p4, vi p5, vi (1 : Int32), vd (FP.i2d (p0 >>> ((8 : Int32) &&& 31))), ss, vi f0, vi f1, vi f2, vi (0 : Int32), vi (0 : Int32), vi (0 : Int32), vi (own_val p1 (0 : Int32)), vi (own_val p1 (16 : Int32)), vi (own_val p1 (32 : Int32)), vi (own_val p2 (0 : Int32)), vi (own_val p2 (16 : Int32)), vi (own_val p2 (32 : Int32)), vr a1935, vr a1950, vi ps6, vi ps3, vi ps6, vr a2112, uu, uu, uu, uu, uu, uu, uu, uu]) rfl ?_
      refine XS.goto X2141.here hx rfl (pc0 := 318) (pc' := 340) rfl (hb hby at_318) (by decide) (by decide) ?_
      refine XS.iconst X2141.here hx rfl (hb hby at_340) ?_
      exact kk
    clear k2147
    obtain ⟨T2153, h2154, cA2155, X2156, e2157, E2158, A2159, st2160⟩ := newP (aty := .double) X2141 hx hZ (tw5 hw) e2142 (g := (mkF m 341 #[vi p0, vj p1, ss, vj p2, ss, vi p3, vi p4, vi p5, vi (1 : Int32), vd (FP.i2d (p0 >>> ((8 : Int32) &&& 31))), ss, vi f0, vi f1, vi f2, vi (0 : Int32), vi (0 : Int32), vi (0 : Int32), vi (own_val p1 (0 : Int32)), vi (own_val p1 (16 : Int32)), vi (own_val p1 (32 : Int32)), vi (own_val p2 (0 : Int32)), vi (own_val p2 (16 : Int32)), vi (own_val p2 (32 : Int32)), vr a1935, vr a1950, vi ps6, vi ps3, vi ps6, vr a2112, uu, uu, uu, uu, uu, uu, uu, uu] [(.int (3 : Int32))])) rfl (hb hby at_341) rfl (by decide) (cap := 3) (by decide) (by decide) (by decide) (by decide)
    obtain ⟨a2161, g2162⟩ : ∃ zA : Nat, zA = h2140.size := ⟨_, rfl⟩
    rw [← g2162] at A2159 st2160
    have n2163 : a1935 ≠ a2161 := own_lt_ne F2148.lt g2162
    have n2164 : a2161 ≠ a1935 := fun q => n2163 q.symm
    have n2165 : a1950 ≠ a2161 := own_lt_ne F2149.lt g2162
    have n2166 : a2161 ≠ a1950 := fun q => n2165 q.symm
    have n2167 : a2112 ≠ a2161 := own_lt_ne F2151.lt g2162
    have n2168 : a2161 ≠ a2112 := fun q => n2167 q.symm
    have ge2169 : n0 ≤ a2161 := own_ge_of Z2150 g2162
    have Z2170 : n0 ≤ h2154.size := Nat.le_trans Z2150 E2158.1
    clear Z2150
    have F2171 : own_A Z h2154 a1935 .int LC6 := F2148.ext E2158
    clear F2148
    have F2172 : own_A Z h2154 a1950 .double LW6 := F2149.ext E2158
    clear F2149
    have F2173 : own_A Z h2154 a2112 .int [(.int (0 : Int32)), (.int ps3)] := F2151.ext E2158
    clear F2151
    have F2174 : own_A Z h2154 a2161 .double [(.double (0 : UInt64)), (.double (0 : UInt64)), (.double (0 : UInt64))] := own_A.new A2159
    have k2175 : own_G p e below E0 T2153 (mkF m 343 #[vi p0, vj p1, ss, vj p2, ss, vi p3, vi p4, vi p5, vi (1 : Int32), vd (FP.i2d (p0 >>> ((8 : Int32) &&& 31))), ss, vi f0, vi f1, vi f2, vi (0 : Int32), vi (0 : Int32), vi (0 : Int32), vi (own_val p1 (0 : Int32)), vi (own_val p1 (16 : Int32)), vi (own_val p1 (32 : Int32)), vi (own_val p2 (0 : Int32)), vi (own_val p2 (16 : Int32)), vi (own_val p2 (32 : Int32)), vr a1935, vr a1950, vi ps6, vi ps3, vi ps6, vr a2112, uu, uu, uu, uu, uu, uu, uu, uu] [(.ref a2161)]) := fun tQ kk => k2152 tQ (st2160 _ kk)
    clear k2152 st2160
    have k2176 : own_G p e below E0 T2153 (mkF m 348 #[vi p0, vj p1, ss, vj p2, ss, vi p3, vi p4, vi p5, vi (1 : Int32), vd (FP.i2d (p0 >>> ((8 : Int32) &&& 31))), ss, vi f0, vi f1, vi f2, vi (0 : Int32), vi (0 : Int32), vi (0 : Int32), vi (own_val p1 (0 : Int32)), vi (own_val p1 (16 : Int32)), vi (own_val p1 (32 : Int32)), vi (own_val p2 (0 : Int32)), vi (own_val p2 (16 : Int32)), vi (own_val p2 (32 : Int32)), vr a1935, vr a1950, vi ps6, vi ps3, vi ps6, vr a2112, uu, uu, uu, uu, uu, uu, uu, uu] [(.double (FP.i2d p3)), (.int (0 : Int32)), (.ref a2161), (.ref a2161)]) := by
      intro tQ kk
      refine k2175 tQ ?_
      refine XS.dup X2156.here hx rfl (hb hby at_343) rfl rfl ?_
      refine XS.iconst X2156.here hx rfl (hb hby at_344) ?_
      refine XS.iload X2156.here hx rfl (hb hby at_345) rfl ?_
      refine XS.i2dS X2156.here hx rfl (hb hby at_347) rfl rfl ?_
      exact kk
    clear k2175
    obtain ⟨T2177, h2178, X2179, e2180, W2181, F2182, st2183⟩ := own_A.dst X2156 hx hZ e2157 F2174 (j := (0 : Int32)) (by decide) rfl (g := (mkF m 348 #[vi p0, vj p1, ss, vj p2, ss, vi p3, vi p4, vi p5, vi (1 : Int32), vd (FP.i2d (p0 >>> ((8 : Int32) &&& 31))), ss, vi f0, vi f1, vi f2, vi (0 : Int32), vi (0 : Int32), vi (0 : Int32), vi (own_val p1 (0 : Int32)), vi (own_val p1 (16 : Int32)), vi (own_val p1 (32 : Int32)), vi (own_val p2 (0 : Int32)), vi (own_val p2 (16 : Int32)), vi (own_val p2 (32 : Int32)), vr a1935, vr a1950, vi ps6, vi ps3, vi ps6, vr a2112, uu, uu, uu, uu, uu, uu, uu, uu] [(.double (FP.i2d p3)), (.int (0 : Int32)), (.ref a2161), (.ref a2161)])) rfl rfl (hb hby at_348)
    have N2184 := Fr.snoc X2179 N2146 ge2169
    have k2185 : own_G p e below E0 T2177 (mkF m 349 #[vi p0, vj p1, ss, vj p2, ss, vi p3, vi p4, vi p5, vi (1 : Int32), vd (FP.i2d (p0 >>> ((8 : Int32) &&& 31))), ss, vi f0, vi f1, vi f2, vi (0 : Int32), vi (0 : Int32), vi (0 : Int32), vi (own_val p1 (0 : Int32)), vi (own_val p1 (16 : Int32)), vi (own_val p1 (32 : Int32)), vi (own_val p2 (0 : Int32)), vi (own_val p2 (16 : Int32)), vi (own_val p2 (32 : Int32)), vr a1935, vr a1950, vi ps6, vi ps3, vi ps6, vr a2112, uu, uu, uu, uu, uu, uu, uu, uu] [(.ref a2161)]) := fun tQ kk => k2176 tQ (st2183 _ kk)
    clear k2176 st2183
    have F2186 : own_A Z h2178 a1935 .int LC6 := F2171.other W2181 n2163
    clear F2171
    have F2187 : own_A Z h2178 a1950 .double LW6 := F2172.other W2181 n2165
    clear F2172
    have F2188 : own_A Z h2178 a2112 .int [(.int (0 : Int32)), (.int ps3)] := F2173.other W2181 n2167
    clear F2173
    have Z2189 : n0 ≤ h2178.size := by rw [W2181.size]; exact Z2170
    clear Z2170
    have F2190 : own_A Z h2178 a2161 .double [(.double (FP.i2d p3)), (.double (0 : UInt64)), (.double (0 : UInt64))] := F2182
    have k2191 : own_G p e below E0 T2177 (mkF m 354 #[vi p0, vj p1, ss, vj p2, ss, vi p3, vi p4, vi p5, vi (1 : Int32), vd (FP.i2d (p0 >>> ((8 : Int32) &&& 31))), ss, vi f0, vi f1, vi f2, vi (0 : Int32), vi (0 : Int32), vi (0 : Int32), vi (own_val p1 (0 : Int32)), vi (own_val p1 (16 : Int32)), vi (own_val p1 (32 : Int32)), vi (own_val p2 (0 : Int32)), vi (own_val p2 (16 : Int32)), vi (own_val p2 (32 : Int32)), vr a1935, vr a1950, vi ps6, vi ps3, vi ps6, vr a2112, uu, uu, uu, uu, uu, uu, uu, uu] [(.double (FP.i2d p4)), (.int (1 : Int32)), (.ref a2161), (.ref a2161)]) := by
      intro tQ kk
      refine k2185 tQ ?_
      refine XS.dup X2179.here hx rfl (hb hby at_349) rfl rfl ?_
      refine XS.iconst X2179.here hx rfl (hb hby at_350) ?_
      refine XS.iload X2179.here hx rfl (hb hby at_351) rfl ?_
      refine XS.i2dS X2179.here hx rfl (hb hby at_353) rfl rfl ?_
      exact kk
    clear k2185
    obtain ⟨T2192, h2193, X2194, e2195, W2196, F2197, st2198⟩ := own_A.dst X2179 hx hZ e2180 F2190 (j := (1 : Int32)) (by decide) rfl (g := (mkF m 354 #[vi p0, vj p1, ss, vj p2, ss, vi p3, vi p4, vi p5, vi (1 : Int32), vd (FP.i2d (p0 >>> ((8 : Int32) &&& 31))), ss, vi f0, vi f1, vi f2, vi (0 : Int32), vi (0 : Int32), vi (0 : Int32), vi (own_val p1 (0 : Int32)), vi (own_val p1 (16 : Int32)), vi (own_val p1 (32 : Int32)), vi (own_val p2 (0 : Int32)), vi (own_val p2 (16 : Int32)), vi (own_val p2 (32 : Int32)), vr a1935, vr a1950, vi ps6, vi ps3, vi ps6, vr a2112, uu, uu, uu, uu, uu, uu, uu, uu] [(.double (FP.i2d p4)), (.int (1 : Int32)), (.ref a2161), (.ref a2161)])) rfl rfl (hb hby at_354)
    have N2199 := Fr.snoc X2194 N2184 ge2169
    have k2200 : own_G p e below E0 T2192 (mkF m 355 #[vi p0, vj p1, ss, vj p2, ss, vi p3, vi p4, vi p5, vi (1 : Int32), vd (FP.i2d (p0 >>> ((8 : Int32) &&& 31))), ss, vi f0, vi f1, vi f2, vi (0 : Int32), vi (0 : Int32), vi (0 : Int32), vi (own_val p1 (0 : Int32)), vi (own_val p1 (16 : Int32)), vi (own_val p1 (32 : Int32)), vi (own_val p2 (0 : Int32)), vi (own_val p2 (16 : Int32)), vi (own_val p2 (32 : Int32)), vr a1935, vr a1950, vi ps6, vi ps3, vi ps6, vr a2112, uu, uu, uu, uu, uu, uu, uu, uu] [(.ref a2161)]) := fun tQ kk => k2191 tQ (st2198 _ kk)
    clear k2191 st2198
    have F2201 : own_A Z h2193 a1935 .int LC6 := F2186.other W2196 n2163
    clear F2186
    have F2202 : own_A Z h2193 a1950 .double LW6 := F2187.other W2196 n2165
    clear F2187
    have F2203 : own_A Z h2193 a2112 .int [(.int (0 : Int32)), (.int ps3)] := F2188.other W2196 n2167
    clear F2188
    have Z2204 : n0 ≤ h2193.size := by rw [W2196.size]; exact Z2189
    clear Z2189
    have F2205 : own_A Z h2193 a2161 .double [(.double (FP.i2d p3)), (.double (FP.i2d p4)), (.double (0 : UInt64))] := F2197
    have k2206 : own_G p e below E0 T2192 (mkF m 360 #[vi p0, vj p1, ss, vj p2, ss, vi p3, vi p4, vi p5, vi (1 : Int32), vd (FP.i2d (p0 >>> ((8 : Int32) &&& 31))), ss, vi f0, vi f1, vi f2, vi (0 : Int32), vi (0 : Int32), vi (0 : Int32), vi (own_val p1 (0 : Int32)), vi (own_val p1 (16 : Int32)), vi (own_val p1 (32 : Int32)), vi (own_val p2 (0 : Int32)), vi (own_val p2 (16 : Int32)), vi (own_val p2 (32 : Int32)), vr a1935, vr a1950, vi ps6, vi ps3, vi ps6, vr a2112, uu, uu, uu, uu, uu, uu, uu, uu] [(.double (FP.i2d p5)), (.int (2 : Int32)), (.ref a2161), (.ref a2161)]) := by
      intro tQ kk
      refine k2200 tQ ?_
      refine XS.dup X2194.here hx rfl (hb hby at_355) rfl rfl ?_
      refine XS.iconst X2194.here hx rfl (hb hby at_356) ?_
      refine XS.iload X2194.here hx rfl (hb hby at_357) rfl ?_
      refine XS.i2dS X2194.here hx rfl (hb hby at_359) rfl rfl ?_
      exact kk
    clear k2200
    obtain ⟨T2207, h2208, X2209, e2210, W2211, F2212, st2213⟩ := own_A.dst X2194 hx hZ e2195 F2205 (j := (2 : Int32)) (by decide) rfl (g := (mkF m 360 #[vi p0, vj p1, ss, vj p2, ss, vi p3, vi p4, vi p5, vi (1 : Int32), vd (FP.i2d (p0 >>> ((8 : Int32) &&& 31))), ss, vi f0, vi f1, vi f2, vi (0 : Int32), vi (0 : Int32), vi (0 : Int32), vi (own_val p1 (0 : Int32)), vi (own_val p1 (16 : Int32)), vi (own_val p1 (32 : Int32)), vi (own_val p2 (0 : Int32)), vi (own_val p2 (16 : Int32)), vi (own_val p2 (32 : Int32)), vr a1935, vr a1950, vi ps6, vi ps3, vi ps6, vr a2112, uu, uu, uu, uu, uu, uu, uu, uu] [(.double (FP.i2d p5)), (.int (2 : Int32)), (.ref a2161), (.ref a2161)])) rfl rfl (hb hby at_360)
    have N2214 := Fr.snoc X2209 N2199 ge2169
    have k2215 : own_G p e below E0 T2207 (mkF m 361 #[vi p0, vj p1, ss, vj p2, ss, vi p3, vi p4, vi p5, vi (1 : Int32), vd (FP.i2d (p0 >>> ((8 : Int32) &&& 31))), ss, vi f0, vi f1, vi f2, vi (0 : Int32), vi (0 : Int32), vi (0 : Int32), vi (own_val p1 (0 : Int32)), vi (own_val p1 (16 : Int32)), vi (own_val p1 (32 : Int32)), vi (own_val p2 (0 : Int32)), vi (own_val p2 (16 : Int32)), vi (own_val p2 (32 : Int32)), vr a1935, vr a1950, vi ps6, vi ps3, vi ps6, vr a2112, uu, uu, uu, uu, uu, uu, uu, uu] [(.ref a2161)]) := fun tQ kk => k2206 tQ (st2213 _ kk)
    clear k2206 st2213
    have F2216 : own_A Z h2208 a1935 .int LC6 := F2201.other W2211 n2163
    clear F2201
    have F2217 : own_A Z h2208 a1950 .double LW6 := F2202.other W2211 n2165
    clear F2202
    have F2218 : own_A Z h2208 a2112 .int [(.int (0 : Int32)), (.int ps3)] := F2203.other W2211 n2167
    clear F2203
    have Z2219 : n0 ≤ h2208.size := by rw [W2211.size]; exact Z2204
    clear Z2204
    have F2220 : own_A Z h2208 a2161 .double [(.double (FP.i2d p3)), (.double (FP.i2d p4)), (.double (FP.i2d p5))] := F2212
    have k2221 : own_G p e below E0 T2207 (mkF m 365 #[vi p0, vj p1, ss, vj p2, ss, vi p3, vi p4, vi p5, vi (1 : Int32), vd (FP.i2d (p0 >>> ((8 : Int32) &&& 31))), ss, vi f0, vi f1, vi f2, vi (0 : Int32), vi (0 : Int32), vi (0 : Int32), vi (own_val p1 (0 : Int32)), vi (own_val p1 (16 : Int32)), vi (own_val p1 (32 : Int32)), vi (own_val p2 (0 : Int32)), vi (own_val p2 (16 : Int32)), vi (own_val p2 (32 : Int32)), vr a1935, vr a1950, vi ps6, vi ps3, vi ps6, vr a2112, vr a2161, uu, uu, uu, uu, uu, uu, uu] [(.int (1 : Int32))]) := by
      intro tQ kk
      refine k2215 tQ ?_
      refine XS.astore X2209.here hx rfl (hb hby at_361) rfl rfl (l' := #[vi p0, vj p1, ss, vj p2, ss, vi p3, vi p4, vi p5, vi (1 : Int32), vd (FP.i2d (p0 >>> ((8 : Int32) &&& 31))), ss, vi f0, vi f1, vi f2, vi (0 : Int32), vi (0 : Int32), vi (0 : Int32), vi (own_val p1 (0 : Int32)), vi (own_val p1 (16 : Int32)), vi (own_val p1 (32 : Int32)), vi (own_val p2 (0 : Int32)), vi (own_val p2 (16 : Int32)), vi (own_val p2 (32 : Int32)), vr a1935, vr a1950, vi ps6, vi ps3, vi ps6, vr a2112, vr a2161, uu, uu, uu, uu, uu, uu, uu]) rfl ?_
      refine XS.iload X2209.here hx rfl (hb hby at_363) rfl ?_
      exact kk
    clear k2215
    obtain ⟨T2222, h2223, cA2224, X2225, e2226, E2227, A2228, st2229⟩ := newP (aty := .double) X2209 hx hZ (tw5 hw) e2210 (g := (mkF m 365 #[vi p0, vj p1, ss, vj p2, ss, vi p3, vi p4, vi p5, vi (1 : Int32), vd (FP.i2d (p0 >>> ((8 : Int32) &&& 31))), ss, vi f0, vi f1, vi f2, vi (0 : Int32), vi (0 : Int32), vi (0 : Int32), vi (own_val p1 (0 : Int32)), vi (own_val p1 (16 : Int32)), vi (own_val p1 (32 : Int32)), vi (own_val p2 (0 : Int32)), vi (own_val p2 (16 : Int32)), vi (own_val p2 (32 : Int32)), vr a1935, vr a1950, vi ps6, vi ps3, vi ps6, vr a2112, vr a2161, uu, uu, uu, uu, uu, uu, uu] [(.int (1 : Int32))])) rfl (hb hby at_365) rfl (by decide) (cap := 1) (by decide) (by decide) (by decide) (by decide)
    obtain ⟨a2230, g2231⟩ : ∃ zA : Nat, zA = h2208.size := ⟨_, rfl⟩
    rw [← g2231] at A2228 st2229
    have n2232 : a1935 ≠ a2230 := own_lt_ne F2216.lt g2231
    have n2233 : a2230 ≠ a1935 := fun q => n2232 q.symm
    have n2234 : a1950 ≠ a2230 := own_lt_ne F2217.lt g2231
    have n2235 : a2230 ≠ a1950 := fun q => n2234 q.symm
    have n2236 : a2112 ≠ a2230 := own_lt_ne F2218.lt g2231
    have n2237 : a2230 ≠ a2112 := fun q => n2236 q.symm
    have n2238 : a2161 ≠ a2230 := own_lt_ne F2220.lt g2231
    have n2239 : a2230 ≠ a2161 := fun q => n2238 q.symm
    have ge2240 : n0 ≤ a2230 := own_ge_of Z2219 g2231
    have Z2241 : n0 ≤ h2223.size := Nat.le_trans Z2219 E2227.1
    clear Z2219
    have F2242 : own_A Z h2223 a1935 .int LC6 := F2216.ext E2227
    clear F2216
    have F2243 : own_A Z h2223 a1950 .double LW6 := F2217.ext E2227
    clear F2217
    have F2244 : own_A Z h2223 a2112 .int [(.int (0 : Int32)), (.int ps3)] := F2218.ext E2227
    clear F2218
    have F2245 : own_A Z h2223 a2161 .double [(.double (FP.i2d p3)), (.double (FP.i2d p4)), (.double (FP.i2d p5))] := F2220.ext E2227
    clear F2220
    have F2246 : own_A Z h2223 a2230 .double [(.double (0 : UInt64))] := own_A.new A2228
    have k2247 : own_G p e below E0 T2222 (mkF m 367 #[vi p0, vj p1, ss, vj p2, ss, vi p3, vi p4, vi p5, vi (1 : Int32), vd (FP.i2d (p0 >>> ((8 : Int32) &&& 31))), ss, vi f0, vi f1, vi f2, vi (0 : Int32), vi (0 : Int32), vi (0 : Int32), vi (own_val p1 (0 : Int32)), vi (own_val p1 (16 : Int32)), vi (own_val p1 (32 : Int32)), vi (own_val p2 (0 : Int32)), vi (own_val p2 (16 : Int32)), vi (own_val p2 (32 : Int32)), vr a1935, vr a1950, vi ps6, vi ps3, vi ps6, vr a2112, vr a2161, uu, uu, uu, uu, uu, uu, uu] [(.ref a2230)]) := fun tQ kk => k2221 tQ (st2229 _ kk)
    clear k2221 st2229
    have k2248 : own_G p e below E0 T2222 (mkF m 380 #[vi p0, vj p1, ss, vj p2, ss, vi p3, vi p4, vi p5, vi (1 : Int32), vd (FP.i2d (p0 >>> ((8 : Int32) &&& 31))), ss, vi f0, vi f1, vi f2, vi (0 : Int32), vi (0 : Int32), vi (0 : Int32), vi (own_val p1 (0 : Int32)), vi (own_val p1 (16 : Int32)), vi (own_val p1 (32 : Int32)), vi (own_val p2 (0 : Int32)), vi (own_val p2 (16 : Int32)), vi (own_val p2 (32 : Int32)), vr a1935, vr a1950, vi ps6, vi ps3, vi ps6, vr a2112, vr a2161, vr a2230, uu, uu, uu, uu, uu, uu] [(.double (FP.i2d (p0 >>> ((8 : Int32) &&& 31)))), (.int (0 : Int32)), (.ref a2230)]) := by
      intro tQ kk
      refine k2247 tQ ?_
      refine XS.astore X2225.here hx rfl (hb hby at_367) rfl rfl (l' := #[vi p0, vj p1, ss, vj p2, ss, vi p3, vi p4, vi p5, vi (1 : Int32), vd (FP.i2d (p0 >>> ((8 : Int32) &&& 31))), ss, vi f0, vi f1, vi f2, vi (0 : Int32), vi (0 : Int32), vi (0 : Int32), vi (own_val p1 (0 : Int32)), vi (own_val p1 (16 : Int32)), vi (own_val p1 (32 : Int32)), vi (own_val p2 (0 : Int32)), vi (own_val p2 (16 : Int32)), vi (own_val p2 (32 : Int32)), vr a1935, vr a1950, vi ps6, vi ps3, vi ps6, vr a2112, vr a2161, vr a2230, uu, uu, uu, uu, uu, uu]) rfl ?_
      refine XS.iload X2225.here hx rfl (hb hby at_369) rfl ?_
      refine XS.iconst X2225.here hx rfl (hb hby at_371) ?_
      refine XS.icmpNo X2225.here hx rfl (hb hby at_372) rfl (own_ic_ltN (by decide)) ?_
      show Steps p.tables e below (T2222.setTop (mkF m 375 #[vi p0, vj p1, ss, vj p2, ss, vi p3, vi p4, vi p5, vi (1 : Int32), vd (FP.i2d (p0 >>> ((8 : Int32) &&& 31))), ss, vi f0, vi f1, vi f2, vi (0 : Int32), vi (0 : Int32), vi (0 : Int32), vi (own_val p1 (0 : Int32)), vi (own_val p1 (16 : Int32)), vi (own_val p1 (32 : Int32)), vi (own_val p2 (0 : Int32)), vi (own_val p2 (16 : Int32)), vi (own_val p2 (32 : Int32)), vr a1935, vr a1950, vi ps6, vi ps3, vi ps6, vr a2112, vr a2161, vr a2230, uu, uu, uu, uu, uu, uu] [])) tQ
      refine XS.aload X2225.here hx rfl (hb hby at_375) rfl rfl ?_
      refine XS.iconst X2225.here hx rfl (hb hby at_377) ?_
      refine XS.dload X2225.here hx rfl (hb hby at_378) rfl ?_
      exact kk
    clear k2247
    obtain ⟨T2249, h2250, X2251, e2252, W2253, F2254, st2255⟩ := own_A.dst X2225 hx hZ e2226 F2246 (j := (0 : Int32)) (by decide) rfl (g := (mkF m 380 #[vi p0, vj p1, ss, vj p2, ss, vi p3, vi p4, vi p5, vi (1 : Int32), vd (FP.i2d (p0 >>> ((8 : Int32) &&& 31))), ss, vi f0, vi f1, vi f2, vi (0 : Int32), vi (0 : Int32), vi (0 : Int32), vi (own_val p1 (0 : Int32)), vi (own_val p1 (16 : Int32)), vi (own_val p1 (32 : Int32)), vi (own_val p2 (0 : Int32)), vi (own_val p2 (16 : Int32)), vi (own_val p2 (32 : Int32)), vr a1935, vr a1950, vi ps6, vi ps3, vi ps6, vr a2112, vr a2161, vr a2230, uu, uu, uu, uu, uu, uu] [(.double (FP.i2d (p0 >>> ((8 : Int32) &&& 31)))), (.int (0 : Int32)), (.ref a2230)])) rfl rfl (hb hby at_380)
    have N2256 := Fr.snoc X2251 N2214 ge2240
    have k2257 : own_G p e below E0 T2249 (mkF m 381 #[vi p0, vj p1, ss, vj p2, ss, vi p3, vi p4, vi p5, vi (1 : Int32), vd (FP.i2d (p0 >>> ((8 : Int32) &&& 31))), ss, vi f0, vi f1, vi f2, vi (0 : Int32), vi (0 : Int32), vi (0 : Int32), vi (own_val p1 (0 : Int32)), vi (own_val p1 (16 : Int32)), vi (own_val p1 (32 : Int32)), vi (own_val p2 (0 : Int32)), vi (own_val p2 (16 : Int32)), vi (own_val p2 (32 : Int32)), vr a1935, vr a1950, vi ps6, vi ps3, vi ps6, vr a2112, vr a2161, vr a2230, uu, uu, uu, uu, uu, uu] []) := fun tQ kk => k2248 tQ (st2255 _ kk)
    clear k2248 st2255
    have F2258 : own_A Z h2250 a1935 .int LC6 := F2242.other W2253 n2232
    clear F2242
    have F2259 : own_A Z h2250 a1950 .double LW6 := F2243.other W2253 n2234
    clear F2243
    have F2260 : own_A Z h2250 a2112 .int [(.int (0 : Int32)), (.int ps3)] := F2244.other W2253 n2236
    clear F2244
    have F2261 : own_A Z h2250 a2161 .double [(.double (FP.i2d p3)), (.double (FP.i2d p4)), (.double (FP.i2d p5))] := F2245.other W2253 n2238
    clear F2245
    have Z2262 : n0 ≤ h2250.size := by rw [W2253.size]; exact Z2241
    clear Z2241
    have F2263 : own_A Z h2250 a2230 .double [(.double (FP.i2d (p0 >>> ((8 : Int32) &&& 31))))] := F2254
    have k2264 : own_G p e below E0 T2249 (mkF m 393 #[vi p0, vj p1, ss, vj p2, ss, vi p3, vi p4, vi p5, vi (1 : Int32), vd (FP.i2d (p0 >>> ((8 : Int32) &&& 31))), ss, vi f0, vi f1, vi f2, vi (0 : Int32), vi (0 : Int32), vi (0 : Int32), vi (own_val p1 (0 : Int32)), vi (own_val p1 (16 : Int32)), vi (own_val p1 (32 : Int32)), vi (own_val p2 (0 : Int32)), vi (own_val p2 (16 : Int32)), vi (own_val p2 (32 : Int32)), vr a1935, vr a1950, vi ps6, vi ps3, vi ps6, vr a2112, vr a2161, vr a2230, uu, uu, uu, uu, uu, uu] []) := by
      intro tQ kk
      refine k2257 tQ ?_
      refine XS.iload X2251.here hx rfl (hb hby at_381) rfl ?_
      refine XS.iconst X2251.here hx rfl (hb hby at_383) ?_
      refine XS.icmpYes X2251.here hx rfl (pc0 := 384) (pc' := 393) rfl (hb hby at_384) rfl (own_ic_ltY (by decide)) (by decide) (by decide) ?_
      exact kk
    clear k2257
    obtain ⟨T2265, h2266, X2267, e2268, E2269, A2270, D2271, -, st2272⟩ := newO X2251 hx hZ hown (tw9 hw) (tw10 hw) (tw11 hw) e2252 (g := (mkF m 393 #[vi p0, vj p1, ss, vj p2, ss, vi p3, vi p4, vi p5, vi (1 : Int32), vd (FP.i2d (p0 >>> ((8 : Int32) &&& 31))), ss, vi f0, vi f1, vi f2, vi (0 : Int32), vi (0 : Int32), vi (0 : Int32), vi (own_val p1 (0 : Int32)), vi (own_val p1 (16 : Int32)), vi (own_val p1 (32 : Int32)), vi (own_val p2 (0 : Int32)), vi (own_val p2 (16 : Int32)), vi (own_val p2 (32 : Int32)), vr a1935, vr a1950, vi ps6, vi ps3, vi ps6, vr a2112, vr a2161, vr a2230, uu, uu, uu, uu, uu, uu] [])) rfl (hb hby at_393) (by decide) (by decide)
    obtain ⟨a2273, g2274⟩ : ∃ zA : Nat, zA = h2250.size := ⟨_, rfl⟩
    rw [← g2274] at A2270 D2271 st2272
    have n2275 : a1935 ≠ a2273 := own_lt_ne F2258.lt g2274
    have n2276 : a2273 ≠ a1935 := fun q => n2275 q.symm
    have n2277 : a1950 ≠ a2273 := own_lt_ne F2259.lt g2274
    have n2278 : a2273 ≠ a1950 := fun q => n2277 q.symm
    have n2279 : a2112 ≠ a2273 := own_lt_ne F2260.lt g2274
    have n2280 : a2273 ≠ a2112 := fun q => n2279 q.symm
    have n2281 : a2161 ≠ a2273 := own_lt_ne F2261.lt g2274
    have n2282 : a2273 ≠ a2161 := fun q => n2281 q.symm
    have n2283 : a2230 ≠ a2273 := own_lt_ne F2263.lt g2274
    have n2284 : a2273 ≠ a2230 := fun q => n2283 q.symm
    have ge2285 : n0 ≤ a2273 := own_ge_of Z2262 g2274
    have Z2286 : n0 ≤ h2266.size := Nat.le_trans Z2262 E2269.1
    clear Z2262
    have F2287 : own_A Z h2266 a1935 .int LC6 := F2258.ext E2269
    clear F2258
    have F2288 : own_A Z h2266 a1950 .double LW6 := F2259.ext E2269
    clear F2259
    have F2289 : own_A Z h2266 a2112 .int [(.int (0 : Int32)), (.int ps3)] := F2260.ext E2269
    clear F2260
    have F2290 : own_A Z h2266 a2161 .double [(.double (FP.i2d p3)), (.double (FP.i2d p4)), (.double (FP.i2d p5))] := F2261.ext E2269
    clear F2261
    have F2291 : own_A Z h2266 a2230 .double [(.double (FP.i2d (p0 >>> ((8 : Int32) &&& 31))))] := F2263.ext E2269
    clear F2263
    have F2292 : Fld Z h2266 a2273 "com/example/velvet_postings/velvetpostings/search/SparseMatrix" "rowCount" "I" (.int (0 : Int32)) := (D2271 (Or.inr (tw19 hw)) (ty := .int) (by decide))
    have F2293 : Fld Z h2266 a2273 "com/example/velvet_postings/velvetpostings/search/SparseMatrix" "columnCount" "I" (.int (0 : Int32)) := (D2271 (Or.inr (tw21 hw)) (ty := .int) (by decide))
    have F2294 : Fld Z h2266 a2273 "com/example/velvet_postings/velvetpostings/search/SparseMatrix" "rowStarts" "[I" .null := (D2271 (Or.inr (tw23 hw)) (ty := (.array .int)) (by decide))
    have F2295 : Fld Z h2266 a2273 "com/example/velvet_postings/velvetpostings/search/SparseMatrix" "columns" "[I" .null := (D2271 (Or.inr (tw25 hw)) (ty := (.array .int)) (by decide))
    have F2296 : Fld Z h2266 a2273 "com/example/velvet_postings/velvetpostings/search/SparseMatrix" "values" "[D" .null := (D2271 (Or.inr (tw27 hw)) (ty := (.array .double)) (by decide))
    have k2297 : own_G p e below E0 T2265 (mkF m 396 #[vi p0, vj p1, ss, vj p2, ss, vi p3, vi p4, vi p5, vi (1 : Int32), vd (FP.i2d (p0 >>> ((8 : Int32) &&& 31))), ss, vi f0, vi f1, vi f2, vi (0 : Int32), vi (0 : Int32), vi (0 : Int32), vi (own_val p1 (0 : Int32)), vi (own_val p1 (16 : Int32)), vi (own_val p1 (32 : Int32)), vi (own_val p2 (0 : Int32)), vi (own_val p2 (16 : Int32)), vi (own_val p2 (32 : Int32)), vr a1935, vr a1950, vi ps6, vi ps3, vi ps6, vr a2112, vr a2161, vr a2230, uu, uu, uu, uu, uu, uu] [(.ref a2273)]) := fun tQ kk => k2264 tQ (st2272 _ kk)
    clear k2264 st2272
    have k2298 : own_G p e below E0 T2265 (mkF m 406 #[vi p0, vj p1, ss, vj p2, ss, vi p3, vi p4, vi p5, vi (1 : Int32), vd (FP.i2d (p0 >>> ((8 : Int32) &&& 31))), ss, vi f0, vi f1, vi f2, vi (0 : Int32), vi (0 : Int32), vi (0 : Int32), vi (own_val p1 (0 : Int32)), vi (own_val p1 (16 : Int32)), vi (own_val p1 (32 : Int32)), vi (own_val p2 (0 : Int32)), vi (own_val p2 (16 : Int32)), vi (own_val p2 (32 : Int32)), vr a1935, vr a1950, vi ps6, vi ps3, vi ps6, vr a2112, vr a2161, vr a2230, uu, uu, uu, uu, uu, uu] [(.ref a1950), (.ref a1935), (.ref a2112), (.int (3 : Int32)), (.int (1 : Int32)), (.ref a2273), (.ref a2273)]) := by
      intro tQ kk
      refine k2297 tQ ?_
      refine XS.dup X2267.here hx rfl (hb hby at_396) rfl rfl ?_
      refine XS.iload X2267.here hx rfl (hb hby at_397) rfl ?_
      refine XS.iconst X2267.here hx rfl (hb hby at_399) ?_
      refine XS.aload X2267.here hx rfl (hb hby at_400) rfl rfl ?_
      show Steps p.tables e below (T2265.setTop (mkF m 402 #[vi p0, vj p1, ss, vj p2, ss, vi p3, vi p4, vi p5, vi (1 : Int32), vd (FP.i2d (p0 >>> ((8 : Int32) &&& 31))), ss, vi f0, vi f1, vi f2, vi (0 : Int32), vi (0 : Int32), vi (0 : Int32), vi (own_val p1 (0 : Int32)), vi (own_val p1 (16 : Int32)), vi (own_val p1 (32 : Int32)), vi (own_val p2 (0 : Int32)), vi (own_val p2 (16 : Int32)), vi (own_val p2 (32 : Int32)), vr a1935, vr a1950, vi ps6, vi ps3, vi ps6, vr a2112, vr a2161, vr a2230, uu, uu, uu, uu, uu, uu] [(.ref a2112), (.int (3 : Int32)), (.int (1 : Int32)), (.ref a2273), (.ref a2273)])) tQ
      refine XS.aload X2267.here hx rfl (hb hby at_402) rfl rfl ?_
      refine XS.aload X2267.here hx rfl (hb hby at_404) rfl rfl ?_
      exact kk
    clear k2297
    obtain ⟨_, _, ⟨T2299, L2300, kc2301, nc2302⟩, -, X2303, ⟨Lc2304, hQ2305, l2306, y2307, z2308⟩, st2309⟩ := X2267.specialBack hx (y := mn9) rfl hown (mvT hZ (tw12 hw)) (mvT hZ (tw13 hw)) (mvT hZ (tw14 hw)) (by decide) (backOf (W := 1) (rmI1 l Z a0 hw [] a2273 a2112 a1935 a1950 h2266 n0 Z2286 A2270 F2292 F2293 F2294 F2295 F2296 ge2285) hZ (tw14 hw) (tw11 hw) (by decide) (by decide)) (g := (mkF m 406 #[vi p0, vj p1, ss, vj p2, ss, vi p3, vi p4, vi p5, vi (1 : Int32), vd (FP.i2d (p0 >>> ((8 : Int32) &&& 31))), ss, vi f0, vi f1, vi f2, vi (0 : Int32), vi (0 : Int32), vi (0 : Int32), vi (own_val p1 (0 : Int32)), vi (own_val p1 (16 : Int32)), vi (own_val p1 (32 : Int32)), vi (own_val p2 (0 : Int32)), vi (own_val p2 (16 : Int32)), vi (own_val p2 (32 : Int32)), vr a1935, vr a1950, vi ps6, vi ps3, vi ps6, vr a2112, vr a2161, vr a2230, uu, uu, uu, uu, uu, uu] [(.ref a1950), (.ref a1935), (.ref a2112), (.int (3 : Int32)), (.int (1 : Int32)), (.ref a2273), (.ref a2273)])) rfl (by rw [hml]; rfl) (Steps.refl _) (a := a2273) (argsL := [(.int (1 : Int32)), (.int (3 : Int32)), (.ref a2112), (.ref a1935), (.ref a1950)]) (rest := [(.ref a2273)]) (lenOf pd_13 rfl) rfl (by show 2 * 0 + _ ≤ _; exact Nat.le_of_eq rfl) (hb hby at_406) (fun _ _ => ⟨rfl, e2268, (by decide : 6 + 0 ≤ _), (by decide : 23 + 0 ≤ _)⟩)
    dsimp only [Pt.U, Pt.locs, Pt.cells, Pt.slots] at X2303 l2306 y2307 z2308 st2309 hQ2305
    subst y2307 z2308
    obtain ⟨rfl, N2310, K2313, g2314, g2315, g2316, g2317, g2318⟩ := hQ2305
    have N2319 : Fr n0 L2300 := by rw [l2306]; exact Fr.app N2256 N2310
    clear l2306 N2310
    have Z2320 : n0 ≤ T2299.heap.size := Nat.le_trans Z2286 K2313.1
    clear Z2286
    have F2321 : own_A Z T2299.heap a1935 .int LC6 := F2287.keep K2313 (ninS n2275 nin0)
    clear F2287
    have F2322 : own_A Z T2299.heap a1950 .double LW6 := F2288.keep K2313 (ninS n2277 nin0)
    clear F2288
    have F2323 : own_A Z T2299.heap a2112 .int [(.int (0 : Int32)), (.int ps3)] := F2289.keep K2313 (ninS n2279 nin0)
    clear F2289
    have F2324 : own_A Z T2299.heap a2161 .double [(.double (FP.i2d p3)), (.double (FP.i2d p4)), (.double (FP.i2d p5))] := F2290.keep K2313 (ninS n2281 nin0)
    clear F2290
    have F2325 : own_A Z T2299.heap a2230 .double [(.double (FP.i2d (p0 >>> ((8 : Int32) &&& 31))))] := F2291.keep K2313 (ninS n2283 nin0)
    clear F2291
    have F2326 : xa8 Z T2299.heap a2273 := A2270.keep K2313
    clear A2270
    clear F2292
    clear F2293
    clear F2294
    clear F2295
    clear F2296
    have k2327 : own_G p e below E0 T2299 (mkF m 409 #[vi p0, vj p1, ss, vj p2, ss, vi p3, vi p4, vi p5, vi (1 : Int32), vd (FP.i2d (p0 >>> ((8 : Int32) &&& 31))), ss, vi f0, vi f1, vi f2, vi (0 : Int32), vi (0 : Int32), vi (0 : Int32), vi (own_val p1 (0 : Int32)), vi (own_val p1 (16 : Int32)), vi (own_val p1 (32 : Int32)), vi (own_val p2 (0 : Int32)), vi (own_val p2 (16 : Int32)), vi (own_val p2 (32 : Int32)), vr a1935, vr a1950, vi ps6, vi ps3, vi ps6, vr a2112, vr a2161, vr a2230, uu, uu, uu, uu, uu, uu] [(.ref a2273)]) := fun tQ kk => k2298 tQ (st2309.trans kk)
    clear k2298 st2309
    have hrows := own_rows hf0 hf1 hf2 (Or.inl rfl) (Or.inl rfl) (Or.inl rfl) (own_valb p1 (0 : Int32)) (own_valb p1 (16 : Int32)) (own_valb p1 (32 : Int32)) (own_valb p2 (0 : Int32)) (own_valb p2 (16 : Int32)) (own_valb p2 (32 : Int32)) p3 p4 p5 hps1 hps2 hps3 hps4 hps5 hps6 hLC1 hLW1 hLC2 hLW2 hLC3 hLW3 hLC4 hLW4 hLC5 hLW5 hLC6 hLW6
    have k2328 : own_G p e below E0 T2299 (mkF m 417 #[vi p0, vj p1, ss, vj p2, ss, vi p3, vi p4, vi p5, vi (1 : Int32), vd (FP.i2d (p0 >>> ((8 : Int32) &&& 31))), ss, vi f0, vi f1, vi f2, vi (0 : Int32), vi (0 : Int32), vi (0 : Int32), vi (own_val p1 (0 : Int32)), vi (own_val p1 (16 : Int32)), vi (own_val p1 (32 : Int32)), vi (own_val p2 (0 : Int32)), vi (own_val p2 (16 : Int32)), vi (own_val p2 (32 : Int32)), vr a1935, vr a1950, vi ps6, vi ps3, vi ps6, vr a2112, vr a2161, vr a2230, vr a2273, uu, uu, uu, uu, uu] [(.ref a2230), (.ref a2161), (.ref a2273)]) := by
      intro tQ kk
      refine k2327 tQ ?_
      refine XS.astore X2303.here hx rfl (hb hby at_409) rfl rfl (l' := #[vi p0, vj p1, ss, vj p2, ss, vi p3, vi p4, vi p5, vi (1 : Int32), vd (FP.i2d (p0 >>> ((8 : Int32) &&& 31))), ss, vi f0, vi f1, vi f2, vi (0 : Int32), vi (0 : Int32), vi (0 : Int32), vi (own_val p1 (0 : Int32)), vi (own_val p1 (16 : Int32)), vi (own_val p1 (32 : Int32)), vi (own_val p2 (0 : Int32)), vi (own_val p2 (16 : Int32)), vi (own_val p2 (32 : Int32)), vr a1935, vr a1950, vi ps6, vi ps3, vi ps6, vr a2112, vr a2161, vr a2230, vr a2273, uu, uu, uu, uu, uu]) rfl ?_
      refine XS.aload X2303.here hx rfl (hb hby at_411) rfl rfl ?_
      refine XS.aload X2303.here hx rfl (hb hby at_413) rfl rfl ?_
      refine XS.aload X2303.here hx rfl (hb hby at_415) rfl rfl ?_
      exact kk
    clear k2327
    obtain ⟨cq2340, kq2341, qa2342, qb2343, qc2344⟩ := isOf hZ rfl F2326
    obtain ⟨_, _, ⟨T2329, L2330, kc2331, nc2332⟩, -, X2333, ⟨Lc2334, hQ2335, l2336, y2337, z2338⟩, st2339⟩ := X2303.virtualBack hx (y := mn10) (z := mn10) hown (mvT hZ (tw28 hw)) (mvT hZ (tw29 hw)) (notFace_of_selects (args := #[]) (mvT hZ (tw31 hw))) (mvT hZ (tw31 hw)) (mvT hZ (tw30 hw)) (by decide) (backOf (W := 0) (rmM1 l Z a0 hw [] a2273 a2161 a2230 a2112 a1935 a1950 LC6 LW6 (FP.i2d p3) (FP.i2d p4) (FP.i2d p5) (0 : Int32) ps3 (own_t f0 (own_val p1 (0 : Int32)) p3 + own_t f1 (own_val p1 (16 : Int32)) p4 + own_t f2 (own_val p1 (32 : Int32)) p5) (FP.i2d (p0 >>> ((8 : Int32) &&& 31))) T2299.heap n0 Z2320 g2314 g2315 g2316 g2317 g2318 F2323 F2321 F2322 F2324 F2325 n2283 n2237 n2233 n2235 n2239 ge2240 hrows.1) hZ (tw32 hw) (tw11 hw) (by decide) (by decide)) qa2342 qc2344 (g := (mkF m 417 #[vi p0, vj p1, ss, vj p2, ss, vi p3, vi p4, vi p5, vi (1 : Int32), vd (FP.i2d (p0 >>> ((8 : Int32) &&& 31))), ss, vi f0, vi f1, vi f2, vi (0 : Int32), vi (0 : Int32), vi (0 : Int32), vi (own_val p1 (0 : Int32)), vi (own_val p1 (16 : Int32)), vi (own_val p1 (32 : Int32)), vi (own_val p2 (0 : Int32)), vi (own_val p2 (16 : Int32)), vi (own_val p2 (32 : Int32)), vr a1935, vr a1950, vi ps6, vi ps3, vi ps6, vr a2112, vr a2161, vr a2230, vr a2273, uu, uu, uu, uu, uu] [(.ref a2230), (.ref a2161), (.ref a2273)])) rfl (by rw [hml]; rfl) (Steps.refl _) (argsL := [(.ref a2161), (.ref a2230)]) (rest := []) (lenOf pd_14 rfl) rfl (by show 2 * 0 + _ ≤ _; exact Nat.le_of_eq rfl) (hb hby at_417) (fun _ _ => ⟨rfl, rfl, (by decide : 6 + 0 ≤ _), (by decide : 23 + 0 ≤ _)⟩)
    dsimp only [Pt.U, Pt.locs, Pt.cells, Pt.slots] at X2333 l2336 y2337 z2338 st2339 hQ2335
    subst y2337 z2338
    obtain ⟨s02348, rfl, N2345, K2349, g2350, g2351⟩ := hQ2335
    have N2352 : Fr n0 L2330 := by rw [l2336]; exact Fr.app N2319 N2345
    clear l2336 N2345
    have Z2353 : n0 ≤ T2329.heap.size := Nat.le_trans Z2320 K2349.1
    clear Z2320
    have F2354 : own_A Z T2329.heap a1935 .int LC6 := F2321.keep K2349 (ninS n2232 nin0)
    clear F2321
    have F2355 : own_A Z T2329.heap a1950 .double LW6 := F2322.keep K2349 (ninS n2234 nin0)
    clear F2322
    have F2356 : own_A Z T2329.heap a2112 .int [(.int (0 : Int32)), (.int ps3)] := F2323.keep K2349 (ninS n2236 nin0)
    clear F2323
    have F2357 : own_A Z T2329.heap a2161 .double [(.double (FP.i2d p3)), (.double (FP.i2d p4)), (.double (FP.i2d p5))] := F2324.keep K2349 (ninS n2238 nin0)
    clear F2324
    clear F2325
    have F2358 : xa8 Z T2329.heap a2273 := F2326.keep K2349
    clear F2326
    have F2359 : fd3 Z T2329.heap a2273 (.int (1 : Int32)) := g2314.keep K2349 (ninS n2284 nin0)
    clear g2314
    have F2360 : fd4 Z T2329.heap a2273 (.int (3 : Int32)) := g2315.keep K2349 (ninS n2284 nin0)
    clear g2315
    have F2361 : fd5 Z T2329.heap a2273 (.ref a2112) := g2316.keep K2349 (ninS n2284 nin0)
    clear g2316
    have F2362 : fd6 Z T2329.heap a2273 (.ref a1935) := g2317.keep K2349 (ninS n2284 nin0)
    clear g2317
    have F2363 : fd7 Z T2329.heap a2273 (.ref a1950) := g2318.keep K2349 (ninS n2284 nin0)
    clear g2318
    have k2364 : own_G p e below E0 T2329 (mkF m 420 #[vi p0, vj p1, ss, vj p2, ss, vi p3, vi p4, vi p5, vi (1 : Int32), vd (FP.i2d (p0 >>> ((8 : Int32) &&& 31))), ss, vi f0, vi f1, vi f2, vi (0 : Int32), vi (0 : Int32), vi (0 : Int32), vi (own_val p1 (0 : Int32)), vi (own_val p1 (16 : Int32)), vi (own_val p1 (32 : Int32)), vi (own_val p2 (0 : Int32)), vi (own_val p2 (16 : Int32)), vi (own_val p2 (32 : Int32)), vr a1935, vr a1950, vi ps6, vi ps3, vi ps6, vr a2112, vr a2161, vr a2230, vr a2273, uu, uu, uu, uu, uu] []) := fun tQ kk => k2328 tQ (st2339.trans kk)
    clear k2328 st2339
    have k2365 : own_G p e below E0 T2329 (mkF m 426 #[vi p0, vj p1, ss, vj p2, ss, vi p3, vi p4, vi p5, vi (1 : Int32), vd (FP.i2d (p0 >>> ((8 : Int32) &&& 31))), ss, vi f0, vi f1, vi f2, vi (0 : Int32), vi (0 : Int32), vi (0 : Int32), vi (own_val p1 (0 : Int32)), vi (own_val p1 (16 : Int32)), vi (own_val p1 (32 : Int32)), vi (own_val p2 (0 : Int32)), vi (own_val p2 (16 : Int32)), vi (own_val p2 (32 : Int32)), vr a1935, vr a1950, vi ps6, vi ps3, vi ps6, vr a2112, vr a2161, vr a2230, vr a2273, uu, uu, uu, uu, uu] [(.int p3), (.int (own_val p1 (0 : Int32))), (.int f0)]) := by
      intro tQ kk
      refine k2364 tQ ?_
      refine XS.iload X2333.here hx rfl (hb hby at_420) rfl ?_
      refine XS.iload X2333.here hx rfl (hb hby at_422) rfl ?_
      refine XS.iload X2333.here hx rfl (hb hby at_424) rfl ?_
      exact kk
    clear k2364
    obtain ⟨_, _, ⟨T2366, L2367, kc2368, nc2369⟩, -, X2370, ⟨Lc2371, hQ2372, l2373, y2374, z2375⟩, st2376⟩ := Jvm.LawKit.callS X2333 hx (y := mn2) hown (mvT hZ (tw33 hw)) (mvT hZ (tw34 hw)) (mvT hZ (tw2 hw)) (mvT hZ (tw35 hw)) (by decide) (backOf (W := 0) (rmTe l Z a0 hw [] f0 (own_val p1 (0 : Int32)) p3 T2329.heap n0 Z2353 ) hZ (tw35 hw) (tw2 hw) (by decide) (by decide)) (g := (mkF m 426 #[vi p0, vj p1, ss, vj p2, ss, vi p3, vi p4, vi p5, vi (1 : Int32), vd (FP.i2d (p0 >>> ((8 : Int32) &&& 31))), ss, vi f0, vi f1, vi f2, vi (0 : Int32), vi (0 : Int32), vi (0 : Int32), vi (own_val p1 (0 : Int32)), vi (own_val p1 (16 : Int32)), vi (own_val p1 (32 : Int32)), vi (own_val p2 (0 : Int32)), vi (own_val p2 (16 : Int32)), vi (own_val p2 (32 : Int32)), vr a1935, vr a1950, vi ps6, vi ps3, vi ps6, vr a2112, vr a2161, vr a2230, vr a2273, uu, uu, uu, uu, uu] [(.int p3), (.int (own_val p1 (0 : Int32))), (.int f0)])) rfl (by rw [hml]; rfl) (argsL := [(.int f0), (.int (own_val p1 (0 : Int32))), (.int p3)]) (rest := []) (lenOf pd_15 rfl) rfl (by show 2 * 0 + _ ≤ _; exact Nat.le_of_eq rfl) (hb hby at_426) (fun _ _ => ⟨rfl, rfl, (by decide : 6 + 0 ≤ _), (by decide : 23 + 0 ≤ _)⟩)
    dsimp only [Pt.U, Pt.locs, Pt.cells, Pt.slots] at X2370 l2373 y2374 z2375 st2376 hQ2372
    subst y2374 z2375
    obtain ⟨rfl, N2377, e2378⟩ := hQ2372
    have N2380 : Fr n0 L2367 := by rw [l2373]; exact Fr.app N2352 N2377
    clear l2373 N2377
    have k2381 : own_G p e below E0 T2366 (mkF m 429 #[vi p0, vj p1, ss, vj p2, ss, vi p3, vi p4, vi p5, vi (1 : Int32), vd (FP.i2d (p0 >>> ((8 : Int32) &&& 31))), ss, vi f0, vi f1, vi f2, vi (0 : Int32), vi (0 : Int32), vi (0 : Int32), vi (own_val p1 (0 : Int32)), vi (own_val p1 (16 : Int32)), vi (own_val p1 (32 : Int32)), vi (own_val p2 (0 : Int32)), vi (own_val p2 (16 : Int32)), vi (own_val p2 (32 : Int32)), vr a1935, vr a1950, vi ps6, vi ps3, vi ps6, vr a2112, vr a2161, vr a2230, vr a2273, uu, uu, uu, uu, uu] [(.long (own_tm f0 (own_val p1 (0 : Int32)) p3))]) := fun tQ kk => k2365 tQ (st2376 _ kk)
    clear k2365 st2376
    have k2382 : own_G p e below E0 T2366 (mkF m 435 #[vi p0, vj p1, ss, vj p2, ss, vi p3, vi p4, vi p5, vi (1 : Int32), vd (FP.i2d (p0 >>> ((8 : Int32) &&& 31))), ss, vi f0, vi f1, vi f2, vi (0 : Int32), vi (0 : Int32), vi (0 : Int32), vi (own_val p1 (0 : Int32)), vi (own_val p1 (16 : Int32)), vi (own_val p1 (32 : Int32)), vi (own_val p2 (0 : Int32)), vi (own_val p2 (16 : Int32)), vi (own_val p2 (32 : Int32)), vr a1935, vr a1950, vi ps6, vi ps3, vi ps6, vr a2112, vr a2161, vr a2230, vr a2273, uu, uu, uu, uu, uu] [(.int p4), (.int (own_val p1 (16 : Int32))), (.int f1), (.long (own_tm f0 (own_val p1 (0 : Int32)) p3))]) := by
      intro tQ kk
      refine k2381 tQ ?_
      refine XS.iload X2370.here hx rfl (hb hby at_429) rfl ?_
      refine XS.iload X2370.here hx rfl (hb hby at_431) rfl ?_
      refine XS.iload X2370.here hx rfl (hb hby at_433) rfl ?_
      exact kk
    clear k2381
    obtain ⟨_, _, ⟨T2383, L2384, kc2385, nc2386⟩, -, X2387, ⟨Lc2388, hQ2389, l2390, y2391, z2392⟩, st2393⟩ := Jvm.LawKit.callS X2370 hx (y := mn2) hown (mvT hZ (tw33 hw)) (mvT hZ (tw34 hw)) (mvT hZ (tw2 hw)) (mvT hZ (tw35 hw)) (by decide) (backOf (W := 2) (rmTe l Z a0 hw [] f1 (own_val p1 (16 : Int32)) p4 T2329.heap n0 Z2353 ) hZ (tw35 hw) (tw2 hw) (by decide) (by decide)) (g := (mkF m 435 #[vi p0, vj p1, ss, vj p2, ss, vi p3, vi p4, vi p5, vi (1 : Int32), vd (FP.i2d (p0 >>> ((8 : Int32) &&& 31))), ss, vi f0, vi f1, vi f2, vi (0 : Int32), vi (0 : Int32), vi (0 : Int32), vi (own_val p1 (0 : Int32)), vi (own_val p1 (16 : Int32)), vi (own_val p1 (32 : Int32)), vi (own_val p2 (0 : Int32)), vi (own_val p2 (16 : Int32)), vi (own_val p2 (32 : Int32)), vr a1935, vr a1950, vi ps6, vi ps3, vi ps6, vr a2112, vr a2161, vr a2230, vr a2273, uu, uu, uu, uu, uu] [(.int p4), (.int (own_val p1 (16 : Int32))), (.int f1), (.long (own_tm f0 (own_val p1 (0 : Int32)) p3))])) rfl (by rw [hml]; rfl) (argsL := [(.int f1), (.int (own_val p1 (16 : Int32))), (.int p4)]) (rest := [(.long (own_tm f0 (own_val p1 (0 : Int32)) p3))]) (lenOf pd_15 rfl) rfl (by show 2 * 0 + _ ≤ _; exact Nat.le_of_eq rfl) (hb hby at_435) (fun _ _ => ⟨rfl, e2378, (by decide : 6 + 0 ≤ _), (by decide : 23 + 0 ≤ _)⟩)
    dsimp only [Pt.U, Pt.locs, Pt.cells, Pt.slots] at X2387 l2390 y2391 z2392 st2393 hQ2389
    subst y2391 z2392
    obtain ⟨rfl, N2394, e2395⟩ := hQ2389
    have N2397 : Fr n0 L2384 := by rw [l2390]; exact Fr.app N2380 N2394
    clear l2390 N2394
    have k2398 : own_G p e below E0 T2383 (mkF m 438 #[vi p0, vj p1, ss, vj p2, ss, vi p3, vi p4, vi p5, vi (1 : Int32), vd (FP.i2d (p0 >>> ((8 : Int32) &&& 31))), ss, vi f0, vi f1, vi f2, vi (0 : Int32), vi (0 : Int32), vi (0 : Int32), vi (own_val p1 (0 : Int32)), vi (own_val p1 (16 : Int32)), vi (own_val p1 (32 : Int32)), vi (own_val p2 (0 : Int32)), vi (own_val p2 (16 : Int32)), vi (own_val p2 (32 : Int32)), vr a1935, vr a1950, vi ps6, vi ps3, vi ps6, vr a2112, vr a2161, vr a2230, vr a2273, uu, uu, uu, uu, uu] [(.long (own_tm f1 (own_val p1 (16 : Int32)) p4)), (.long (own_tm f0 (own_val p1 (0 : Int32)) p3))]) := fun tQ kk => k2382 tQ (st2393 _ kk)
    clear k2382 st2393
    have k2399 : own_G p e below E0 T2383 (mkF m 445 #[vi p0, vj p1, ss, vj p2, ss, vi p3, vi p4, vi p5, vi (1 : Int32), vd (FP.i2d (p0 >>> ((8 : Int32) &&& 31))), ss, vi f0, vi f1, vi f2, vi (0 : Int32), vi (0 : Int32), vi (0 : Int32), vi (own_val p1 (0 : Int32)), vi (own_val p1 (16 : Int32)), vi (own_val p1 (32 : Int32)), vi (own_val p2 (0 : Int32)), vi (own_val p2 (16 : Int32)), vi (own_val p2 (32 : Int32)), vr a1935, vr a1950, vi ps6, vi ps3, vi ps6, vr a2112, vr a2161, vr a2230, vr a2273, uu, uu, uu, uu, uu] [(.int p5), (.int (own_val p1 (32 : Int32))), (.int f2), (.long ((own_tm f0 (own_val p1 (0 : Int32)) p3) + (own_tm f1 (own_val p1 (16 : Int32)) p4)))]) := by
      intro tQ kk
      refine k2398 tQ ?_
      refine XT.ladd X2387.here hx rfl (hb hby at_438) rfl ?_
      refine XS.iload X2387.here hx rfl (hb hby at_439) rfl ?_
      refine XS.iload X2387.here hx rfl (hb hby at_441) rfl ?_
      refine XS.iload X2387.here hx rfl (hb hby at_443) rfl ?_
      exact kk
    clear k2398
    obtain ⟨_, _, ⟨T2400, L2401, kc2402, nc2403⟩, -, X2404, ⟨Lc2405, hQ2406, l2407, y2408, z2409⟩, st2410⟩ := Jvm.LawKit.callS X2387 hx (y := mn2) hown (mvT hZ (tw33 hw)) (mvT hZ (tw34 hw)) (mvT hZ (tw2 hw)) (mvT hZ (tw35 hw)) (by decide) (backOf (W := 2) (rmTe l Z a0 hw [] f2 (own_val p1 (32 : Int32)) p5 T2329.heap n0 Z2353 ) hZ (tw35 hw) (tw2 hw) (by decide) (by decide)) (g := (mkF m 445 #[vi p0, vj p1, ss, vj p2, ss, vi p3, vi p4, vi p5, vi (1 : Int32), vd (FP.i2d (p0 >>> ((8 : Int32) &&& 31))), ss, vi f0, vi f1, vi f2, vi (0 : Int32), vi (0 : Int32), vi (0 : Int32), vi (own_val p1 (0 : Int32)), vi (own_val p1 (16 : Int32)), vi (own_val p1 (32 : Int32)), vi (own_val p2 (0 : Int32)), vi (own_val p2 (16 : Int32)), vi (own_val p2 (32 : Int32)), vr a1935, vr a1950, vi ps6, vi ps3, vi ps6, vr a2112, vr a2161, vr a2230, vr a2273, uu, uu, uu, uu, uu] [(.int p5), (.int (own_val p1 (32 : Int32))), (.int f2), (.long ((own_tm f0 (own_val p1 (0 : Int32)) p3) + (own_tm f1 (own_val p1 (16 : Int32)) p4)))])) rfl (by rw [hml]; rfl) (argsL := [(.int f2), (.int (own_val p1 (32 : Int32))), (.int p5)]) (rest := [(.long ((own_tm f0 (own_val p1 (0 : Int32)) p3) + (own_tm f1 (own_val p1 (16 : Int32)) p4)))]) (lenOf pd_15 rfl) rfl (by show 2 * 0 + _ ≤ _; exact Nat.le_of_eq rfl) (hb hby at_445) (fun _ _ => ⟨rfl, e2395, (by decide : 6 + 0 ≤ _), (by decide : 23 + 0 ≤ _)⟩)
    dsimp only [Pt.U, Pt.locs, Pt.cells, Pt.slots] at X2404 l2407 y2408 z2409 st2410 hQ2406
    subst y2408 z2409
    obtain ⟨rfl, N2411, e2412⟩ := hQ2406
    have N2414 : Fr n0 L2401 := by rw [l2407]; exact Fr.app N2397 N2411
    clear l2407 N2411
    have k2415 : own_G p e below E0 T2400 (mkF m 448 #[vi p0, vj p1, ss, vj p2, ss, vi p3, vi p4, vi p5, vi (1 : Int32), vd (FP.i2d (p0 >>> ((8 : Int32) &&& 31))), ss, vi f0, vi f1, vi f2, vi (0 : Int32), vi (0 : Int32), vi (0 : Int32), vi (own_val p1 (0 : Int32)), vi (own_val p1 (16 : Int32)), vi (own_val p1 (32 : Int32)), vi (own_val p2 (0 : Int32)), vi (own_val p2 (16 : Int32)), vi (own_val p2 (32 : Int32)), vr a1935, vr a1950, vi ps6, vi ps3, vi ps6, vr a2112, vr a2161, vr a2230, vr a2273, uu, uu, uu, uu, uu] [(.long (own_tm f2 (own_val p1 (32 : Int32)) p5)), (.long ((own_tm f0 (own_val p1 (0 : Int32)) p3) + (own_tm f1 (own_val p1 (16 : Int32)) p4)))]) := fun tQ kk => k2399 tQ (st2410 _ kk)
    clear k2399 st2410
    have k2416 : own_G p e below E0 T2400 (mkF m 457 #[vi p0, vj p1, ss, vj p2, ss, vi p3, vi p4, vi p5, vi (1 : Int32), vd (FP.i2d (p0 >>> ((8 : Int32) &&& 31))), ss, vi f0, vi f1, vi f2, vi (0 : Int32), vi (0 : Int32), vi (0 : Int32), vi (own_val p1 (0 : Int32)), vi (own_val p1 (16 : Int32)), vi (own_val p1 (32 : Int32)), vi (own_val p2 (0 : Int32)), vi (own_val p2 (16 : Int32)), vi (own_val p2 (32 : Int32)), vr a1935, vr a1950, vi ps6, vi ps3, vi ps6, vr a2112, vr a2161, vr a2230, vr a2273, vj (((own_tm f0 (own_val p1 (0 : Int32)) p3) + (own_tm f1 (own_val p1 (16 : Int32)) p4)) + (own_tm f2 (own_val p1 (32 : Int32)) p5)), ss, uu, uu, uu] [(.int p3), (.int (own_val p2 (0 : Int32))), (.int (0 : Int32))]) := by
      intro tQ kk
      refine k2415 tQ ?_
      refine XT.ladd X2404.here hx rfl (hb hby at_448) rfl ?_
      refine XT.lstore X2404.here hx rfl (hb hby at_449) rfl (l' := #[vi p0, vj p1, ss, vj p2, ss, vi p3, vi p4, vi p5, vi (1 : Int32), vd (FP.i2d (p0 >>> ((8 : Int32) &&& 31))), ss, vi f0, vi f1, vi f2, vi (0 : Int32), vi (0 : Int32), vi (0 : Int32), vi (own_val p1 (0 : Int32)), vi (own_val p1 (16 : Int32)), vi (own_val p1 (32 : Int32)), vi (own_val p2 (0 : Int32)), vi (own_val p2 (16 : Int32)), vi (own_val p2 (32 : Int32)), vr a1935, vr a1950, vi ps6, vi ps3, vi ps6, vr a2112, vr a2161, vr a2230, vr a2273, vj (((own_tm f0 (own_val p1 (0 : Int32)) p3) + (own_tm f1 (own_val p1 (16 : Int32)) p4)) + (own_tm f2 (own_val p1 (32 : Int32)) p5)), ss, uu, uu, uu]) rfl ?_
      refine XS.iload X2404.here hx rfl (hb hby at_451) rfl ?_
      refine XS.iload X2404.here hx rfl (hb hby at_453) rfl ?_
      show Steps p.tables e below (T2400.setTop (mkF m 455 #[vi p0, vj p1, ss, vj p2, ss, vi p3, vi p4, vi p5, vi (1 : Int32), vd (FP.i2d (p0 >>> ((8 : Int32) &&& 31))), ss, vi f0, vi f1, vi f2, vi (0 : Int32), vi (0 : Int32), vi (0 : Int32), vi (own_val p1 (0 : Int32)), vi (own_val p1 (16 : Int32)), vi (own_val p1 (32 : Int32)), vi (own_val p2 (0 : Int32)), vi (own_val p2 (16 : Int32)), vi (own_val p2 (32 : Int32)), vr a1935, vr a1950, vi ps6, vi ps3, vi ps6, vr a2112, vr a2161, vr a2230, vr a2273, vj (((own_tm f0 (own_val p1 (0 : Int32)) p3) + (own_tm f1 (own_val p1 (16 : Int32)) p4)) + (own_tm f2 (own_val p1 (32 : Int32)) p5)), ss, uu, uu, uu] [(.int (own_val p2 (0 : Int32))), (.int (0 : Int32))])) tQ
      refine XS.iload X2404.here hx rfl (hb hby at_455) rfl ?_
      exact kk
    clear k2415
    obtain ⟨_, _, ⟨T2417, L2418, kc2419, nc2420⟩, -, X2421, ⟨Lc2422, hQ2423, l2424, y2425, z2426⟩, st2427⟩ := Jvm.LawKit.callS X2404 hx (y := mn2) hown (mvT hZ (tw33 hw)) (mvT hZ (tw34 hw)) (mvT hZ (tw2 hw)) (mvT hZ (tw35 hw)) (by decide) (backOf (W := 0) (rmTe l Z a0 hw [] (0 : Int32) (own_val p2 (0 : Int32)) p3 T2329.heap n0 Z2353 ) hZ (tw35 hw) (tw2 hw) (by decide) (by decide)) (g := (mkF m 457 #[vi p0, vj p1, ss, vj p2, ss, vi p3, vi p4, vi p5, vi (1 : Int32), vd (FP.i2d (p0 >>> ((8 : Int32) &&& 31))), ss, vi f0, vi f1, vi f2, vi (0 : Int32), vi (0 : Int32), vi (0 : Int32), vi (own_val p1 (0 : Int32)), vi (own_val p1 (16 : Int32)), vi (own_val p1 (32 : Int32)), vi (own_val p2 (0 : Int32)), vi (own_val p2 (16 : Int32)), vi (own_val p2 (32 : Int32)), vr a1935, vr a1950, vi ps6, vi ps3, vi ps6, vr a2112, vr a2161, vr a2230, vr a2273, vj (((own_tm f0 (own_val p1 (0 : Int32)) p3) + (own_tm f1 (own_val p1 (16 : Int32)) p4)) + (own_tm f2 (own_val p1 (32 : Int32)) p5)), ss, uu, uu, uu] [(.int p3), (.int (own_val p2 (0 : Int32))), (.int (0 : Int32))])) rfl (by rw [hml]; rfl) (argsL := [(.int (0 : Int32)), (.int (own_val p2 (0 : Int32))), (.int p3)]) (rest := []) (lenOf pd_15 rfl) rfl (by show 2 * 0 + _ ≤ _; exact Nat.le_of_eq rfl) (hb hby at_457) (fun _ _ => ⟨rfl, e2412, (by decide : 6 + 0 ≤ _), (by decide : 23 + 0 ≤ _)⟩)
    dsimp only [Pt.U, Pt.locs, Pt.cells, Pt.slots] at X2421 l2424 y2425 z2426 st2427 hQ2423
    subst y2425 z2426
    obtain ⟨rfl, N2428, e2429⟩ := hQ2423
    have N2431 : Fr n0 L2418 := by rw [l2424]; exact Fr.app N2414 N2428
    clear l2424 N2428
    have k2432 : own_G p e below E0 T2417 (mkF m 460 #[vi p0, vj p1, ss, vj p2, ss, vi p3, vi p4, vi p5, vi (1 : Int32), vd (FP.i2d (p0 >>> ((8 : Int32) &&& 31))), ss, vi f0, vi f1, vi f2, vi (0 : Int32), vi (0 : Int32), vi (0 : Int32), vi (own_val p1 (0 : Int32)), vi (own_val p1 (16 : Int32)), vi (own_val p1 (32 : Int32)), vi (own_val p2 (0 : Int32)), vi (own_val p2 (16 : Int32)), vi (own_val p2 (32 : Int32)), vr a1935, vr a1950, vi ps6, vi ps3, vi ps6, vr a2112, vr a2161, vr a2230, vr a2273, vj (((own_tm f0 (own_val p1 (0 : Int32)) p3) + (own_tm f1 (own_val p1 (16 : Int32)) p4)) + (own_tm f2 (own_val p1 (32 : Int32)) p5)), ss, uu, uu, uu] [(.long (own_tm (0 : Int32) (own_val p2 (0 : Int32)) p3))]) := fun tQ kk => k2416 tQ (st2427 _ kk)
    clear k2416 st2427
    have k2433 : own_G p e below E0 T2417 (mkF m 466 #[vi p0, vj p1, ss, vj p2, ss, vi p3, vi p4, vi p5, vi (1 : Int32), vd (FP.i2d (p0 >>> ((8 : Int32) &&& 31))), ss, vi f0, vi f1, vi f2, vi (0 : Int32), vi (0 : Int32), vi (0 : Int32), vi (own_val p1 (0 : Int32)), vi (own_val p1 (16 : Int32)), vi (own_val p1 (32 : Int32)), vi (own_val p2 (0 : Int32)), vi (own_val p2 (16 : Int32)), vi (own_val p2 (32 : Int32)), vr a1935, vr a1950, vi ps6, vi ps3, vi ps6, vr a2112, vr a2161, vr a2230, vr a2273, vj (((own_tm f0 (own_val p1 (0 : Int32)) p3) + (own_tm f1 (own_val p1 (16 : Int32)) p4)) + (own_tm f2 (own_val p1 (32 : Int32)) p5)), ss, uu, uu, uu] [(.int p4), (.int (own_val p2 (16 : Int32))), (.int (0 : Int32)), (.long (own_tm (0 : Int32) (own_val p2 (0 : Int32)) p3))]) := by
      intro tQ kk
      refine k2432 tQ ?_
      refine XS.iload X2421.here hx rfl (hb hby at_460) rfl ?_
      refine XS.iload X2421.here hx rfl (hb hby at_462) rfl ?_
      refine XS.iload X2421.here hx rfl (hb hby at_464) rfl ?_
      exact kk
    clear k2432
    obtain ⟨_, _, ⟨T2434, L2435, kc2436, nc2437⟩, -, X2438, ⟨Lc2439, hQ2440, l2441, y2442, z2443⟩, st2444⟩ := Jvm.LawKit.callS X2421 hx (y := mn2) hown (mvT hZ (tw33 hw)) (mvT hZ (tw34 hw)) (mvT hZ (tw2 hw)) (mvT hZ (tw35 hw)) (by decide) (backOf (W := 2) (rmTe l Z a0 hw [] (0 : Int32) (own_val p2 (16 : Int32)) p4 T2329.heap n0 Z2353 ) hZ (tw35 hw) (tw2 hw) (by decide) (by decide)) (g := (mkF m 466 #[vi p0, vj p1, ss, vj p2, ss, vi p3, vi p4, vi p5, vi (1 : Int32), vd (FP.i2d (p0 >>> ((8 : Int32) &&& 31))), ss, vi f0, vi f1, vi f2, vi (0 : Int32), vi (0 : Int32), vi (0 : Int32), vi (own_val p1 (0 : Int32)), vi (own_val p1 (16 : Int32)), vi (own_val p1 (32 : Int32)), vi (own_val p2 (0 : Int32)), vi (own_val p2 (16 : Int32)), vi (own_val p2 (32 : Int32)), vr a1935, vr a1950, vi ps6, vi ps3, vi ps6, vr a2112, vr a2161, vr a2230, vr a2273, vj (((own_tm f0 (own_val p1 (0 : Int32)) p3) + (own_tm f1 (own_val p1 (16 : Int32)) p4)) + (own_tm f2 (own_val p1 (32 : Int32)) p5)), ss, uu, uu, uu] [(.int p4), (.int (own_val p2 (16 : Int32))), (.int (0 : Int32)), (.long (own_tm (0 : Int32) (own_val p2 (0 : Int32)) p3))])) rfl (by rw [hml]; rfl) (argsL := [(.int (0 : Int32)), (.int (own_val p2 (16 : Int32))), (.int p4)]) (rest := [(.long (own_tm (0 : Int32) (own_val p2 (0 : Int32)) p3))]) (lenOf pd_15 rfl) rfl (by show 2 * 0 + _ ≤ _; exact Nat.le_of_eq rfl) (hb hby at_466) (fun _ _ => ⟨rfl, e2429, (by decide : 6 + 0 ≤ _), (by decide : 23 + 0 ≤ _)⟩)
    dsimp only [Pt.U, Pt.locs, Pt.cells, Pt.slots] at X2438 l2441 y2442 z2443 st2444 hQ2440
    subst y2442 z2443
    obtain ⟨rfl, N2445, e2446⟩ := hQ2440
    have N2448 : Fr n0 L2435 := by rw [l2441]; exact Fr.app N2431 N2445
    clear l2441 N2445
    have k2449 : own_G p e below E0 T2434 (mkF m 469 #[vi p0, vj p1, ss, vj p2, ss, vi p3, vi p4, vi p5, vi (1 : Int32), vd (FP.i2d (p0 >>> ((8 : Int32) &&& 31))), ss, vi f0, vi f1, vi f2, vi (0 : Int32), vi (0 : Int32), vi (0 : Int32), vi (own_val p1 (0 : Int32)), vi (own_val p1 (16 : Int32)), vi (own_val p1 (32 : Int32)), vi (own_val p2 (0 : Int32)), vi (own_val p2 (16 : Int32)), vi (own_val p2 (32 : Int32)), vr a1935, vr a1950, vi ps6, vi ps3, vi ps6, vr a2112, vr a2161, vr a2230, vr a2273, vj (((own_tm f0 (own_val p1 (0 : Int32)) p3) + (own_tm f1 (own_val p1 (16 : Int32)) p4)) + (own_tm f2 (own_val p1 (32 : Int32)) p5)), ss, uu, uu, uu] [(.long (own_tm (0 : Int32) (own_val p2 (16 : Int32)) p4)), (.long (own_tm (0 : Int32) (own_val p2 (0 : Int32)) p3))]) := fun tQ kk => k2433 tQ (st2444 _ kk)
    clear k2433 st2444
    have k2450 : own_G p e below E0 T2434 (mkF m 476 #[vi p0, vj p1, ss, vj p2, ss, vi p3, vi p4, vi p5, vi (1 : Int32), vd (FP.i2d (p0 >>> ((8 : Int32) &&& 31))), ss, vi f0, vi f1, vi f2, vi (0 : Int32), vi (0 : Int32), vi (0 : Int32), vi (own_val p1 (0 : Int32)), vi (own_val p1 (16 : Int32)), vi (own_val p1 (32 : Int32)), vi (own_val p2 (0 : Int32)), vi (own_val p2 (16 : Int32)), vi (own_val p2 (32 : Int32)), vr a1935, vr a1950, vi ps6, vi ps3, vi ps6, vr a2112, vr a2161, vr a2230, vr a2273, vj (((own_tm f0 (own_val p1 (0 : Int32)) p3) + (own_tm f1 (own_val p1 (16 : Int32)) p4)) + (own_tm f2 (own_val p1 (32 : Int32)) p5)), ss, uu, uu, uu] [(.int p5), (.int (own_val p2 (32 : Int32))), (.int (0 : Int32)), (.long ((own_tm (0 : Int32) (own_val p2 (0 : Int32)) p3) + (own_tm (0 : Int32) (own_val p2 (16 : Int32)) p4)))]) := by
      intro tQ kk
      refine k2449 tQ ?_
      refine XT.ladd X2438.here hx rfl (hb hby at_469) rfl ?_
      refine XS.iload X2438.here hx rfl (hb hby at_470) rfl ?_
      refine XS.iload X2438.here hx rfl (hb hby at_472) rfl ?_
      refine XS.iload X2438.here hx rfl (hb hby at_474) rfl ?_
      exact kk
    clear k2449
    obtain ⟨_, _, ⟨T2451, L2452, kc2453, nc2454⟩, -, X2455, ⟨Lc2456, hQ2457, l2458, y2459, z2460⟩, st2461⟩ := Jvm.LawKit.callS X2438 hx (y := mn2) hown (mvT hZ (tw33 hw)) (mvT hZ (tw34 hw)) (mvT hZ (tw2 hw)) (mvT hZ (tw35 hw)) (by decide) (backOf (W := 2) (rmTe l Z a0 hw [] (0 : Int32) (own_val p2 (32 : Int32)) p5 T2329.heap n0 Z2353 ) hZ (tw35 hw) (tw2 hw) (by decide) (by decide)) (g := (mkF m 476 #[vi p0, vj p1, ss, vj p2, ss, vi p3, vi p4, vi p5, vi (1 : Int32), vd (FP.i2d (p0 >>> ((8 : Int32) &&& 31))), ss, vi f0, vi f1, vi f2, vi (0 : Int32), vi (0 : Int32), vi (0 : Int32), vi (own_val p1 (0 : Int32)), vi (own_val p1 (16 : Int32)), vi (own_val p1 (32 : Int32)), vi (own_val p2 (0 : Int32)), vi (own_val p2 (16 : Int32)), vi (own_val p2 (32 : Int32)), vr a1935, vr a1950, vi ps6, vi ps3, vi ps6, vr a2112, vr a2161, vr a2230, vr a2273, vj (((own_tm f0 (own_val p1 (0 : Int32)) p3) + (own_tm f1 (own_val p1 (16 : Int32)) p4)) + (own_tm f2 (own_val p1 (32 : Int32)) p5)), ss, uu, uu, uu] [(.int p5), (.int (own_val p2 (32 : Int32))), (.int (0 : Int32)), (.long ((own_tm (0 : Int32) (own_val p2 (0 : Int32)) p3) + (own_tm (0 : Int32) (own_val p2 (16 : Int32)) p4)))])) rfl (by rw [hml]; rfl) (argsL := [(.int (0 : Int32)), (.int (own_val p2 (32 : Int32))), (.int p5)]) (rest := [(.long ((own_tm (0 : Int32) (own_val p2 (0 : Int32)) p3) + (own_tm (0 : Int32) (own_val p2 (16 : Int32)) p4)))]) (lenOf pd_15 rfl) rfl (by show 2 * 0 + _ ≤ _; exact Nat.le_of_eq rfl) (hb hby at_476) (fun _ _ => ⟨rfl, e2446, (by decide : 6 + 0 ≤ _), (by decide : 23 + 0 ≤ _)⟩)
    dsimp only [Pt.U, Pt.locs, Pt.cells, Pt.slots] at X2455 l2458 y2459 z2460 st2461 hQ2457
    subst y2459 z2460
    obtain ⟨rfl, N2462, e2463⟩ := hQ2457
    have N2465 : Fr n0 L2452 := by rw [l2458]; exact Fr.app N2448 N2462
    clear l2458 N2462
    have k2466 : own_G p e below E0 T2451 (mkF m 479 #[vi p0, vj p1, ss, vj p2, ss, vi p3, vi p4, vi p5, vi (1 : Int32), vd (FP.i2d (p0 >>> ((8 : Int32) &&& 31))), ss, vi f0, vi f1, vi f2, vi (0 : Int32), vi (0 : Int32), vi (0 : Int32), vi (own_val p1 (0 : Int32)), vi (own_val p1 (16 : Int32)), vi (own_val p1 (32 : Int32)), vi (own_val p2 (0 : Int32)), vi (own_val p2 (16 : Int32)), vi (own_val p2 (32 : Int32)), vr a1935, vr a1950, vi ps6, vi ps3, vi ps6, vr a2112, vr a2161, vr a2230, vr a2273, vj (((own_tm f0 (own_val p1 (0 : Int32)) p3) + (own_tm f1 (own_val p1 (16 : Int32)) p4)) + (own_tm f2 (own_val p1 (32 : Int32)) p5)), ss, uu, uu, uu] [(.long (own_tm (0 : Int32) (own_val p2 (32 : Int32)) p5)), (.long ((own_tm (0 : Int32) (own_val p2 (0 : Int32)) p3) + (own_tm (0 : Int32) (own_val p2 (16 : Int32)) p4)))]) := fun tQ kk => k2450 tQ (st2461 _ kk)
    clear k2450 st2461
    have k2467 : own_G p e below E0 T2451 (mkF m 485 #[vi p0, vj p1, ss, vj p2, ss, vi p3, vi p4, vi p5, vi (1 : Int32), vd (FP.i2d (p0 >>> ((8 : Int32) &&& 31))), ss, vi f0, vi f1, vi f2, vi (0 : Int32), vi (0 : Int32), vi (0 : Int32), vi (own_val p1 (0 : Int32)), vi (own_val p1 (16 : Int32)), vi (own_val p1 (32 : Int32)), vi (own_val p2 (0 : Int32)), vi (own_val p2 (16 : Int32)), vi (own_val p2 (32 : Int32)), vr a1935, vr a1950, vi ps6, vi ps3, vi ps6, vr a2112, vr a2161, vr a2230, vr a2273, vj (((own_tm f0 (own_val p1 (0 : Int32)) p3) + (own_tm f1 (own_val p1 (16 : Int32)) p4)) + (own_tm f2 (own_val p1 (32 : Int32)) p5)), ss, vj (((own_tm (0 : Int32) (own_val p2 (0 : Int32)) p3) + (own_tm (0 : Int32) (own_val p2 (16 : Int32)) p4)) + (own_tm (0 : Int32) (own_val p2 (32 : Int32)) p5)), ss, uu] [(.int (0 : Int32)), (.ref a2161)]) := by
      intro tQ kk
      refine k2466 tQ ?_
      refine XT.ladd X2455.here hx rfl (hb hby at_479) rfl ?_
      refine XT.lstore X2455.here hx rfl (hb hby at_480) rfl (l' := #[vi p0, vj p1, ss, vj p2, ss, vi p3, vi p4, vi p5, vi (1 : Int32), vd (FP.i2d (p0 >>> ((8 : Int32) &&& 31))), ss, vi f0, vi f1, vi f2, vi (0 : Int32), vi (0 : Int32), vi (0 : Int32), vi (own_val p1 (0 : Int32)), vi (own_val p1 (16 : Int32)), vi (own_val p1 (32 : Int32)), vi (own_val p2 (0 : Int32)), vi (own_val p2 (16 : Int32)), vi (own_val p2 (32 : Int32)), vr a1935, vr a1950, vi ps6, vi ps3, vi ps6, vr a2112, vr a2161, vr a2230, vr a2273, vj (((own_tm f0 (own_val p1 (0 : Int32)) p3) + (own_tm f1 (own_val p1 (16 : Int32)) p4)) + (own_tm f2 (own_val p1 (32 : Int32)) p5)), ss, vj (((own_tm (0 : Int32) (own_val p2 (0 : Int32)) p3) + (own_tm (0 : Int32) (own_val p2 (16 : Int32)) p4)) + (own_tm (0 : Int32) (own_val p2 (32 : Int32)) p5)), ss, uu]) rfl ?_
      refine XS.aload X2455.here hx rfl (hb hby at_482) rfl rfl ?_
      refine XS.iconst X2455.here hx rfl (hb hby at_484) ?_
      exact kk
    clear k2466
    have st2468 := fun tQ => own_A.dld X2455 hx hZ e2463 F2357 (j := (0 : Int32)) (v := (.double (FP.i2d p3))) (by decide) rfl (g := (mkF m 485 #[vi p0, vj p1, ss, vj p2, ss, vi p3, vi p4, vi p5, vi (1 : Int32), vd (FP.i2d (p0 >>> ((8 : Int32) &&& 31))), ss, vi f0, vi f1, vi f2, vi (0 : Int32), vi (0 : Int32), vi (0 : Int32), vi (own_val p1 (0 : Int32)), vi (own_val p1 (16 : Int32)), vi (own_val p1 (32 : Int32)), vi (own_val p2 (0 : Int32)), vi (own_val p2 (16 : Int32)), vi (own_val p2 (32 : Int32)), vr a1935, vr a1950, vi ps6, vi ps3, vi ps6, vr a2112, vr a2161, vr a2230, vr a2273, vj (((own_tm f0 (own_val p1 (0 : Int32)) p3) + (own_tm f1 (own_val p1 (16 : Int32)) p4)) + (own_tm f2 (own_val p1 (32 : Int32)) p5)), ss, vj (((own_tm (0 : Int32) (own_val p2 (0 : Int32)) p3) + (own_tm (0 : Int32) (own_val p2 (16 : Int32)) p4)) + (own_tm (0 : Int32) (own_val p2 (32 : Int32)) p5)), ss, uu] [(.int (0 : Int32)), (.ref a2161)])) rfl rfl (hb hby at_485) tQ
    have k2469 : own_G p e below E0 T2451 (mkF m 486 #[vi p0, vj p1, ss, vj p2, ss, vi p3, vi p4, vi p5, vi (1 : Int32), vd (FP.i2d (p0 >>> ((8 : Int32) &&& 31))), ss, vi f0, vi f1, vi f2, vi (0 : Int32), vi (0 : Int32), vi (0 : Int32), vi (own_val p1 (0 : Int32)), vi (own_val p1 (16 : Int32)), vi (own_val p1 (32 : Int32)), vi (own_val p2 (0 : Int32)), vi (own_val p2 (16 : Int32)), vi (own_val p2 (32 : Int32)), vr a1935, vr a1950, vi ps6, vi ps3, vi ps6, vr a2112, vr a2161, vr a2230, vr a2273, vj (((own_tm f0 (own_val p1 (0 : Int32)) p3) + (own_tm f1 (own_val p1 (16 : Int32)) p4)) + (own_tm f2 (own_val p1 (32 : Int32)) p5)), ss, vj (((own_tm (0 : Int32) (own_val p2 (0 : Int32)) p3) + (own_tm (0 : Int32) (own_val p2 (16 : Int32)) p4)) + (own_tm (0 : Int32) (own_val p2 (32 : Int32)) p5)), ss, uu] [(.double (FP.i2d p3))]) := fun tQ kk => k2467 tQ (st2468 _ kk)
    clear k2467 st2468
    have k2470 : own_G p e below E0 T2451 (mkF m 496 #[vi p0, vj p1, ss, vj p2, ss, vi p3, vi p4, vi p5, vi (1 : Int32), vd (FP.i2d (p0 >>> ((8 : Int32) &&& 31))), ss, vi f0, vi f1, vi f2, vi (0 : Int32), vi (0 : Int32), vi (0 : Int32), vi (own_val p1 (0 : Int32)), vi (own_val p1 (16 : Int32)), vi (own_val p1 (32 : Int32)), vi (own_val p2 (0 : Int32)), vi (own_val p2 (16 : Int32)), vi (own_val p2 (32 : Int32)), vr a1935, vr a1950, vi ps6, vi ps3, vi ps6, vr a2112, vr a2161, vr a2230, vr a2273, vj (((own_tm f0 (own_val p1 (0 : Int32)) p3) + (own_tm f1 (own_val p1 (16 : Int32)) p4)) + (own_tm f2 (own_val p1 (32 : Int32)) p5)), ss, vj (((own_tm (0 : Int32) (own_val p2 (0 : Int32)) p3) + (own_tm (0 : Int32) (own_val p2 (16 : Int32)) p4)) + (own_tm (0 : Int32) (own_val p2 (32 : Int32)) p5)), ss, uu] [(.int (1 : Int32)), (.ref a2161)]) := by
      intro tQ kk
      refine k2469 tQ ?_
      refine XS.iload X2455.here hx rfl (hb hby at_486) rfl ?_
      refine XS.i2dS X2455.here hx rfl (hb hby at_488) rfl rfl ?_
      refine XS.dcmpS (v := (0 : Int32)) X2455.here hx rfl (hb hby at_489) rfl (own_eq0 .l (FP.Core.i2d_int p3) (FP.Core.i2d_int p3)) ?_
      refine XS.ifNo X2455.here hx rfl (hb hby at_490) rfl (own_if_neN (by decide)) ?_
      show Steps p.tables e below (T2451.setTop (mkF m 493 #[vi p0, vj p1, ss, vj p2, ss, vi p3, vi p4, vi p5, vi (1 : Int32), vd (FP.i2d (p0 >>> ((8 : Int32) &&& 31))), ss, vi f0, vi f1, vi f2, vi (0 : Int32), vi (0 : Int32), vi (0 : Int32), vi (own_val p1 (0 : Int32)), vi (own_val p1 (16 : Int32)), vi (own_val p1 (32 : Int32)), vi (own_val p2 (0 : Int32)), vi (own_val p2 (16 : Int32)), vi (own_val p2 (32 : Int32)), vr a1935, vr a1950, vi ps6, vi ps3, vi ps6, vr a2112, vr a2161, vr a2230, vr a2273, vj (((own_tm f0 (own_val p1 (0 : Int32)) p3) + (own_tm f1 (own_val p1 (16 : Int32)) p4)) + (own_tm f2 (own_val p1 (32 : Int32)) p5)), ss, vj (((own_tm (0 : Int32) (own_val p2 (0 : Int32)) p3) + (own_tm (0 : Int32) (own_val p2 (16 : Int32)) p4)) + (own_tm (0 : Int32) (own_val p2 (32 : Int32)) p5)), ss, uu] [])) tQ
      refine XS.aload X2455.here hx rfl (hb hby at_493) rfl rfl ?_
      refine XS.iconst X2455.here hx rfl (hb hby at_495) ?_
      exact kk
    clear k2469
    have st2471 := fun tQ => own_A.dld X2455 hx hZ e2463 F2357 (j := (1 : Int32)) (v := (.double (FP.i2d p4))) (by decide) rfl (g := (mkF m 496 #[vi p0, vj p1, ss, vj p2, ss, vi p3, vi p4, vi p5, vi (1 : Int32), vd (FP.i2d (p0 >>> ((8 : Int32) &&& 31))), ss, vi f0, vi f1, vi f2, vi (0 : Int32), vi (0 : Int32), vi (0 : Int32), vi (own_val p1 (0 : Int32)), vi (own_val p1 (16 : Int32)), vi (own_val p1 (32 : Int32)), vi (own_val p2 (0 : Int32)), vi (own_val p2 (16 : Int32)), vi (own_val p2 (32 : Int32)), vr a1935, vr a1950, vi ps6, vi ps3, vi ps6, vr a2112, vr a2161, vr a2230, vr a2273, vj (((own_tm f0 (own_val p1 (0 : Int32)) p3) + (own_tm f1 (own_val p1 (16 : Int32)) p4)) + (own_tm f2 (own_val p1 (32 : Int32)) p5)), ss, vj (((own_tm (0 : Int32) (own_val p2 (0 : Int32)) p3) + (own_tm (0 : Int32) (own_val p2 (16 : Int32)) p4)) + (own_tm (0 : Int32) (own_val p2 (32 : Int32)) p5)), ss, uu] [(.int (1 : Int32)), (.ref a2161)])) rfl rfl (hb hby at_496) tQ
    have k2472 : own_G p e below E0 T2451 (mkF m 497 #[vi p0, vj p1, ss, vj p2, ss, vi p3, vi p4, vi p5, vi (1 : Int32), vd (FP.i2d (p0 >>> ((8 : Int32) &&& 31))), ss, vi f0, vi f1, vi f2, vi (0 : Int32), vi (0 : Int32), vi (0 : Int32), vi (own_val p1 (0 : Int32)), vi (own_val p1 (16 : Int32)), vi (own_val p1 (32 : Int32)), vi (own_val p2 (0 : Int32)), vi (own_val p2 (16 : Int32)), vi (own_val p2 (32 : Int32)), vr a1935, vr a1950, vi ps6, vi ps3, vi ps6, vr a2112, vr a2161, vr a2230, vr a2273, vj (((own_tm f0 (own_val p1 (0 : Int32)) p3) + (own_tm f1 (own_val p1 (16 : Int32)) p4)) + (own_tm f2 (own_val p1 (32 : Int32)) p5)), ss, vj (((own_tm (0 : Int32) (own_val p2 (0 : Int32)) p3) + (own_tm (0 : Int32) (own_val p2 (16 : Int32)) p4)) + (own_tm (0 : Int32) (own_val p2 (32 : Int32)) p5)), ss, uu] [(.double (FP.i2d p4))]) := fun tQ kk => k2470 tQ (st2471 _ kk)
    clear k2470 st2471
    have k2473 : own_G p e below E0 T2451 (mkF m 507 #[vi p0, vj p1, ss, vj p2, ss, vi p3, vi p4, vi p5, vi (1 : Int32), vd (FP.i2d (p0 >>> ((8 : Int32) &&& 31))), ss, vi f0, vi f1, vi f2, vi (0 : Int32), vi (0 : Int32), vi (0 : Int32), vi (own_val p1 (0 : Int32)), vi (own_val p1 (16 : Int32)), vi (own_val p1 (32 : Int32)), vi (own_val p2 (0 : Int32)), vi (own_val p2 (16 : Int32)), vi (own_val p2 (32 : Int32)), vr a1935, vr a1950, vi ps6, vi ps3, vi ps6, vr a2112, vr a2161, vr a2230, vr a2273, vj (((own_tm f0 (own_val p1 (0 : Int32)) p3) + (own_tm f1 (own_val p1 (16 : Int32)) p4)) + (own_tm f2 (own_val p1 (32 : Int32)) p5)), ss, vj (((own_tm (0 : Int32) (own_val p2 (0 : Int32)) p3) + (own_tm (0 : Int32) (own_val p2 (16 : Int32)) p4)) + (own_tm (0 : Int32) (own_val p2 (32 : Int32)) p5)), ss, uu] [(.int (2 : Int32)), (.ref a2161)]) := by
      intro tQ kk
      refine k2472 tQ ?_
      refine XS.iload X2455.here hx rfl (hb hby at_497) rfl ?_
      refine XS.i2dS X2455.here hx rfl (hb hby at_499) rfl rfl ?_
      refine XS.dcmpS (v := (0 : Int32)) X2455.here hx rfl (hb hby at_500) rfl (own_eq0 .l (FP.Core.i2d_int p4) (FP.Core.i2d_int p4)) ?_
      refine XS.ifNo X2455.here hx rfl (hb hby at_501) rfl (own_if_neN (by decide)) ?_
      show Steps p.tables e below (T2451.setTop (mkF m 504 #[vi p0, vj p1, ss, vj p2, ss, vi p3, vi p4, vi p5, vi (1 : Int32), vd (FP.i2d (p0 >>> ((8 : Int32) &&& 31))), ss, vi f0, vi f1, vi f2, vi (0 : Int32), vi (0 : Int32), vi (0 : Int32), vi (own_val p1 (0 : Int32)), vi (own_val p1 (16 : Int32)), vi (own_val p1 (32 : Int32)), vi (own_val p2 (0 : Int32)), vi (own_val p2 (16 : Int32)), vi (own_val p2 (32 : Int32)), vr a1935, vr a1950, vi ps6, vi ps3, vi ps6, vr a2112, vr a2161, vr a2230, vr a2273, vj (((own_tm f0 (own_val p1 (0 : Int32)) p3) + (own_tm f1 (own_val p1 (16 : Int32)) p4)) + (own_tm f2 (own_val p1 (32 : Int32)) p5)), ss, vj (((own_tm (0 : Int32) (own_val p2 (0 : Int32)) p3) + (own_tm (0 : Int32) (own_val p2 (16 : Int32)) p4)) + (own_tm (0 : Int32) (own_val p2 (32 : Int32)) p5)), ss, uu] [])) tQ
      refine XS.aload X2455.here hx rfl (hb hby at_504) rfl rfl ?_
      refine XS.iconst X2455.here hx rfl (hb hby at_506) ?_
      exact kk
    clear k2472
    have st2474 := fun tQ => own_A.dld X2455 hx hZ e2463 F2357 (j := (2 : Int32)) (v := (.double (FP.i2d p5))) (by decide) rfl (g := (mkF m 507 #[vi p0, vj p1, ss, vj p2, ss, vi p3, vi p4, vi p5, vi (1 : Int32), vd (FP.i2d (p0 >>> ((8 : Int32) &&& 31))), ss, vi f0, vi f1, vi f2, vi (0 : Int32), vi (0 : Int32), vi (0 : Int32), vi (own_val p1 (0 : Int32)), vi (own_val p1 (16 : Int32)), vi (own_val p1 (32 : Int32)), vi (own_val p2 (0 : Int32)), vi (own_val p2 (16 : Int32)), vi (own_val p2 (32 : Int32)), vr a1935, vr a1950, vi ps6, vi ps3, vi ps6, vr a2112, vr a2161, vr a2230, vr a2273, vj (((own_tm f0 (own_val p1 (0 : Int32)) p3) + (own_tm f1 (own_val p1 (16 : Int32)) p4)) + (own_tm f2 (own_val p1 (32 : Int32)) p5)), ss, vj (((own_tm (0 : Int32) (own_val p2 (0 : Int32)) p3) + (own_tm (0 : Int32) (own_val p2 (16 : Int32)) p4)) + (own_tm (0 : Int32) (own_val p2 (32 : Int32)) p5)), ss, uu] [(.int (2 : Int32)), (.ref a2161)])) rfl rfl (hb hby at_507) tQ
    have k2475 : own_G p e below E0 T2451 (mkF m 508 #[vi p0, vj p1, ss, vj p2, ss, vi p3, vi p4, vi p5, vi (1 : Int32), vd (FP.i2d (p0 >>> ((8 : Int32) &&& 31))), ss, vi f0, vi f1, vi f2, vi (0 : Int32), vi (0 : Int32), vi (0 : Int32), vi (own_val p1 (0 : Int32)), vi (own_val p1 (16 : Int32)), vi (own_val p1 (32 : Int32)), vi (own_val p2 (0 : Int32)), vi (own_val p2 (16 : Int32)), vi (own_val p2 (32 : Int32)), vr a1935, vr a1950, vi ps6, vi ps3, vi ps6, vr a2112, vr a2161, vr a2230, vr a2273, vj (((own_tm f0 (own_val p1 (0 : Int32)) p3) + (own_tm f1 (own_val p1 (16 : Int32)) p4)) + (own_tm f2 (own_val p1 (32 : Int32)) p5)), ss, vj (((own_tm (0 : Int32) (own_val p2 (0 : Int32)) p3) + (own_tm (0 : Int32) (own_val p2 (16 : Int32)) p4)) + (own_tm (0 : Int32) (own_val p2 (32 : Int32)) p5)), ss, uu] [(.double (FP.i2d p5))]) := fun tQ kk => k2473 tQ (st2474 _ kk)
    clear k2473 st2474
    have k2476 : own_G p e below E0 T2451 (mkF m 536 #[vi p0, vj p1, ss, vj p2, ss, vi p3, vi p4, vi p5, vi (1 : Int32), vd (FP.i2d (p0 >>> ((8 : Int32) &&& 31))), ss, vi f0, vi f1, vi f2, vi (0 : Int32), vi (0 : Int32), vi (0 : Int32), vi (own_val p1 (0 : Int32)), vi (own_val p1 (16 : Int32)), vi (own_val p1 (32 : Int32)), vi (own_val p2 (0 : Int32)), vi (own_val p2 (16 : Int32)), vi (own_val p2 (32 : Int32)), vr a1935, vr a1950, vi ps6, vi ps3, vi ps6, vr a2112, vr a2161, vr a2230, vr a2273, vj (((own_tm f0 (own_val p1 (0 : Int32)) p3) + (own_tm f1 (own_val p1 (16 : Int32)) p4)) + (own_tm f2 (own_val p1 (32 : Int32)) p5)), ss, vj (((own_tm (0 : Int32) (own_val p2 (0 : Int32)) p3) + (own_tm (0 : Int32) (own_val p2 (16 : Int32)) p4)) + (own_tm (0 : Int32) (own_val p2 (32 : Int32)) p5)), ss, vi (1 : Int32)] [(.int (0 : Int32)), (.ref a2230)]) := by
      intro tQ kk
      refine k2475 tQ ?_
      refine XS.iload X2455.here hx rfl (hb hby at_508) rfl ?_
      refine XS.i2dS X2455.here hx rfl (hb hby at_510) rfl rfl ?_
      refine XS.dcmpS (v := (0 : Int32)) X2455.here hx rfl (hb hby at_511) rfl (own_eq0 .l (FP.Core.i2d_int p5) (FP.Core.i2d_int p5)) ?_
      refine XS.ifNo X2455.here hx rfl (hb hby at_512) rfl (own_if_neN (by decide)) ?_
      show Steps p.tables e below (T2451.setTop (mkF m 515 #[vi p0, vj p1, ss, vj p2, ss, vi p3, vi p4, vi p5, vi (1 : Int32), vd (FP.i2d (p0 >>> ((8 : Int32) &&& 31))), ss, vi f0, vi f1, vi f2, vi (0 : Int32), vi (0 : Int32), vi (0 : Int32), vi (own_val p1 (0 : Int32)), vi (own_val p1 (16 : Int32)), vi (own_val p1 (32 : Int32)), vi (own_val p2 (0 : Int32)), vi (own_val p2 (16 : Int32)), vi (own_val p2 (32 : Int32)), vr a1935, vr a1950, vi ps6, vi ps3, vi ps6, vr a2112, vr a2161, vr a2230, vr a2273, vj (((own_tm f0 (own_val p1 (0 : Int32)) p3) + (own_tm f1 (own_val p1 (16 : Int32)) p4)) + (own_tm f2 (own_val p1 (32 : Int32)) p5)), ss, vj (((own_tm (0 : Int32) (own_val p2 (0 : Int32)) p3) + (own_tm (0 : Int32) (own_val p2 (16 : Int32)) p4)) + (own_tm (0 : Int32) (own_val p2 (32 : Int32)) p5)), ss, uu] [])) tQ
      refine XS.iconst X2455.here hx rfl (hb hby at_515) ?_
      refine XS.goto X2455.here hx rfl (pc0 := 516) (pc' := 520) rfl (hb hby at_516) (by decide) (by decide) ?_
      refine XS.istore X2455.here hx rfl (hb hby at_520) rfl (l' := #[vi p0, vj p1, ss, vj p2, ss, vi p3, vi p4, vi p5, vi (1 : Int32), vd (FP.i2d (p0 >>> ((8 : Int32) &&& 31))), ss, vi f0, vi f1, vi f2, vi (0 : Int32), vi (0 : Int32), vi (0 : Int32), vi (own_val p1 (0 : Int32)), vi (own_val p1 (16 : Int32)), vi (own_val p1 (32 : Int32)), vi (own_val p2 (0 : Int32)), vi (own_val p2 (16 : Int32)), vi (own_val p2 (32 : Int32)), vr a1935, vr a1950, vi ps6, vi ps3, vi ps6, vr a2112, vr a2161, vr a2230, vr a2273, vj (((own_tm f0 (own_val p1 (0 : Int32)) p3) + (own_tm f1 (own_val p1 (16 : Int32)) p4)) + (own_tm f2 (own_val p1 (32 : Int32)) p5)), ss, vj (((own_tm (0 : Int32) (own_val p2 (0 : Int32)) p3) + (own_tm (0 : Int32) (own_val p2 (16 : Int32)) p4)) + (own_tm (0 : Int32) (own_val p2 (32 : Int32)) p5)), ss, vi (1 : Int32)]) rfl ?_
      refine XS.iload X2455.here hx rfl (hb hby at_522) rfl ?_
      show Steps p.tables e below (T2451.setTop (mkF m 524 #[vi p0, vj p1, ss, vj p2, ss, vi p3, vi p4, vi p5, vi (1 : Int32), vd (FP.i2d (p0 >>> ((8 : Int32) &&& 31))), ss, vi f0, vi f1, vi f2, vi (0 : Int32), vi (0 : Int32), vi (0 : Int32), vi (own_val p1 (0 : Int32)), vi (own_val p1 (16 : Int32)), vi (own_val p1 (32 : Int32)), vi (own_val p2 (0 : Int32)), vi (own_val p2 (16 : Int32)), vi (own_val p2 (32 : Int32)), vr a1935, vr a1950, vi ps6, vi ps3, vi ps6, vr a2112, vr a2161, vr a2230, vr a2273, vj (((own_tm f0 (own_val p1 (0 : Int32)) p3) + (own_tm f1 (own_val p1 (16 : Int32)) p4)) + (own_tm f2 (own_val p1 (32 : Int32)) p5)), ss, vj (((own_tm (0 : Int32) (own_val p2 (0 : Int32)) p3) + (own_tm (0 : Int32) (own_val p2 (16 : Int32)) p4)) + (own_tm (0 : Int32) (own_val p2 (32 : Int32)) p5)), ss, vi (1 : Int32)] [(.int (1 : Int32))])) tQ
      refine XS.iconst X2455.here hx rfl (hb hby at_524) ?_
      refine XS.icmpNo X2455.here hx rfl (hb hby at_525) rfl (own_ic_ltN (by decide)) ?_
      refine XS.iload X2455.here hx rfl (hb hby at_528) rfl ?_
      refine XS.ifNo X2455.here hx rfl (hb hby at_530) rfl (own_if_eqN (by decide)) ?_
      show Steps p.tables e below (T2451.setTop (mkF m 533 #[vi p0, vj p1, ss, vj p2, ss, vi p3, vi p4, vi p5, vi (1 : Int32), vd (FP.i2d (p0 >>> ((8 : Int32) &&& 31))), ss, vi f0, vi f1, vi f2, vi (0 : Int32), vi (0 : Int32), vi (0 : Int32), vi (own_val p1 (0 : Int32)), vi (own_val p1 (16 : Int32)), vi (own_val p1 (32 : Int32)), vi (own_val p2 (0 : Int32)), vi (own_val p2 (16 : Int32)), vi (own_val p2 (32 : Int32)), vr a1935, vr a1950, vi ps6, vi ps3, vi ps6, vr a2112, vr a2161, vr a2230, vr a2273, vj (((own_tm f0 (own_val p1 (0 : Int32)) p3) + (own_tm f1 (own_val p1 (16 : Int32)) p4)) + (own_tm f2 (own_val p1 (32 : Int32)) p5)), ss, vj (((own_tm (0 : Int32) (own_val p2 (0 : Int32)) p3) + (own_tm (0 : Int32) (own_val p2 (16 : Int32)) p4)) + (own_tm (0 : Int32) (own_val p2 (32 : Int32)) p5)), ss, vi (1 : Int32)] [])) tQ
      refine XS.aload X2455.here hx rfl (hb hby at_533) rfl rfl ?_
      refine XS.iconst X2455.here hx rfl (hb hby at_535) ?_
      exact kk
    clear k2475
    have st2477 := fun tQ => own_A.dld X2455 hx hZ e2463 g2350 (j := (0 : Int32)) (v := (.double s02348)) (by decide) rfl (g := (mkF m 536 #[vi p0, vj p1, ss, vj p2, ss, vi p3, vi p4, vi p5, vi (1 : Int32), vd (FP.i2d (p0 >>> ((8 : Int32) &&& 31))), ss, vi f0, vi f1, vi f2, vi (0 : Int32), vi (0 : Int32), vi (0 : Int32), vi (own_val p1 (0 : Int32)), vi (own_val p1 (16 : Int32)), vi (own_val p1 (32 : Int32)), vi (own_val p2 (0 : Int32)), vi (own_val p2 (16 : Int32)), vi (own_val p2 (32 : Int32)), vr a1935, vr a1950, vi ps6, vi ps3, vi ps6, vr a2112, vr a2161, vr a2230, vr a2273, vj (((own_tm f0 (own_val p1 (0 : Int32)) p3) + (own_tm f1 (own_val p1 (16 : Int32)) p4)) + (own_tm f2 (own_val p1 (32 : Int32)) p5)), ss, vj (((own_tm (0 : Int32) (own_val p2 (0 : Int32)) p3) + (own_tm (0 : Int32) (own_val p2 (16 : Int32)) p4)) + (own_tm (0 : Int32) (own_val p2 (32 : Int32)) p5)), ss, vi (1 : Int32)] [(.int (0 : Int32)), (.ref a2230)])) rfl rfl (hb hby at_536) tQ
    have k2478 : own_G p e below E0 T2451 (mkF m 537 #[vi p0, vj p1, ss, vj p2, ss, vi p3, vi p4, vi p5, vi (1 : Int32), vd (FP.i2d (p0 >>> ((8 : Int32) &&& 31))), ss, vi f0, vi f1, vi f2, vi (0 : Int32), vi (0 : Int32), vi (0 : Int32), vi (own_val p1 (0 : Int32)), vi (own_val p1 (16 : Int32)), vi (own_val p1 (32 : Int32)), vi (own_val p2 (0 : Int32)), vi (own_val p2 (16 : Int32)), vi (own_val p2 (32 : Int32)), vr a1935, vr a1950, vi ps6, vi ps3, vi ps6, vr a2112, vr a2161, vr a2230, vr a2273, vj (((own_tm f0 (own_val p1 (0 : Int32)) p3) + (own_tm f1 (own_val p1 (16 : Int32)) p4)) + (own_tm f2 (own_val p1 (32 : Int32)) p5)), ss, vj (((own_tm (0 : Int32) (own_val p2 (0 : Int32)) p3) + (own_tm (0 : Int32) (own_val p2 (16 : Int32)) p4)) + (own_tm (0 : Int32) (own_val p2 (32 : Int32)) p5)), ss, vi (1 : Int32)] [(.double s02348)]) := fun tQ kk => k2476 tQ (st2477 _ kk)
    clear k2476 st2477
    have k2479 : own_G p e below E0 T2451 (mkF m 582 #[vi p0, vj p1, ss, vj p2, ss, vi p3, vi p4, vi p5, vi (1 : Int32), vd (FP.i2d (p0 >>> ((8 : Int32) &&& 31))), ss, vi f0, vi f1, vi f2, vi (0 : Int32), vi (0 : Int32), vi (0 : Int32), vi (own_val p1 (0 : Int32)), vi (own_val p1 (16 : Int32)), vi (own_val p1 (32 : Int32)), vi (own_val p2 (0 : Int32)), vi (own_val p2 (16 : Int32)), vi (own_val p2 (32 : Int32)), vr a1935, vr a1950, vi ps6, vi ps3, vi ps6, vr a2112, vr a2161, vr a2230, vr a2273, vj (((own_tm f0 (own_val p1 (0 : Int32)) p3) + (own_tm f1 (own_val p1 (16 : Int32)) p4)) + (own_tm f2 (own_val p1 (32 : Int32)) p5)), ss, vj (((own_tm (0 : Int32) (own_val p2 (0 : Int32)) p3) + (own_tm (0 : Int32) (own_val p2 (16 : Int32)) p4)) + (own_tm (0 : Int32) (own_val p2 (32 : Int32)) p5)), ss, vi (1 : Int32)] [(.int (1 : Int32))]) := by
      intro tQ kk
      refine k2478 tQ ?_
      refine XT.lload X2455.here hx rfl (hb hby at_537) rfl ?_
      refine XS.l2dS X2455.here hx rfl (hb hby at_539) rfl rfl ?_
      refine XS.dcmpS (v := (0 : Int32)) X2455.here hx rfl (hb hby at_540) rfl (own_eq0 .l g2351 (own_tsum f0 f1 f2 (own_valb p1 (0 : Int32)) (own_valb p1 (16 : Int32)) (own_valb p1 (32 : Int32)) p3 p4 p5)) ?_
      refine XS.ifNo X2455.here hx rfl (hb hby at_541) rfl (own_if_neN (by decide)) ?_
      show Steps p.tables e below (T2451.setTop (mkF m 544 #[vi p0, vj p1, ss, vj p2, ss, vi p3, vi p4, vi p5, vi (1 : Int32), vd (FP.i2d (p0 >>> ((8 : Int32) &&& 31))), ss, vi f0, vi f1, vi f2, vi (0 : Int32), vi (0 : Int32), vi (0 : Int32), vi (own_val p1 (0 : Int32)), vi (own_val p1 (16 : Int32)), vi (own_val p1 (32 : Int32)), vi (own_val p2 (0 : Int32)), vi (own_val p2 (16 : Int32)), vi (own_val p2 (32 : Int32)), vr a1935, vr a1950, vi ps6, vi ps3, vi ps6, vr a2112, vr a2161, vr a2230, vr a2273, vj (((own_tm f0 (own_val p1 (0 : Int32)) p3) + (own_tm f1 (own_val p1 (16 : Int32)) p4)) + (own_tm f2 (own_val p1 (32 : Int32)) p5)), ss, vj (((own_tm (0 : Int32) (own_val p2 (0 : Int32)) p3) + (own_tm (0 : Int32) (own_val p2 (16 : Int32)) p4)) + (own_tm (0 : Int32) (own_val p2 (32 : Int32)) p5)), ss, vi (1 : Int32)] [])) tQ
      refine XS.iconst X2455.here hx rfl (hb hby at_544) ?_
      refine XS.goto X2455.here hx rfl (pc0 := 545) (pc' := 549) rfl (hb hby at_545) (by decide) (by decide) ?_
      refine XS.istore X2455.here hx rfl (hb hby at_549) rfl (l' := #[vi p0, vj p1, ss, vj p2, ss, vi p3, vi p4, vi p5, vi (1 : Int32), vd (FP.i2d (p0 >>> ((8 : Int32) &&& 31))), ss, vi f0, vi f1, vi f2, vi (0 : Int32), vi (0 : Int32), vi (0 : Int32), vi (own_val p1 (0 : Int32)), vi (own_val p1 (16 : Int32)), vi (own_val p1 (32 : Int32)), vi (own_val p2 (0 : Int32)), vi (own_val p2 (16 : Int32)), vi (own_val p2 (32 : Int32)), vr a1935, vr a1950, vi ps6, vi ps3, vi ps6, vr a2112, vr a2161, vr a2230, vr a2273, vj (((own_tm f0 (own_val p1 (0 : Int32)) p3) + (own_tm f1 (own_val p1 (16 : Int32)) p4)) + (own_tm f2 (own_val p1 (32 : Int32)) p5)), ss, vj (((own_tm (0 : Int32) (own_val p2 (0 : Int32)) p3) + (own_tm (0 : Int32) (own_val p2 (16 : Int32)) p4)) + (own_tm (0 : Int32) (own_val p2 (32 : Int32)) p5)), ss, vi (1 : Int32)]) rfl ?_
      refine XS.iload X2455.here hx rfl (hb hby at_551) rfl ?_
      show Steps p.tables e below (T2451.setTop (mkF m 553 #[vi p0, vj p1, ss, vj p2, ss, vi p3, vi p4, vi p5, vi (1 : Int32), vd (FP.i2d (p0 >>> ((8 : Int32) &&& 31))), ss, vi f0, vi f1, vi f2, vi (0 : Int32), vi (0 : Int32), vi (0 : Int32), vi (own_val p1 (0 : Int32)), vi (own_val p1 (16 : Int32)), vi (own_val p1 (32 : Int32)), vi (own_val p2 (0 : Int32)), vi (own_val p2 (16 : Int32)), vi (own_val p2 (32 : Int32)), vr a1935, vr a1950, vi ps6, vi ps3, vi ps6, vr a2112, vr a2161, vr a2230, vr a2273, vj (((own_tm f0 (own_val p1 (0 : Int32)) p3) + (own_tm f1 (own_val p1 (16 : Int32)) p4)) + (own_tm f2 (own_val p1 (32 : Int32)) p5)), ss, vj (((own_tm (0 : Int32) (own_val p2 (0 : Int32)) p3) + (own_tm (0 : Int32) (own_val p2 (16 : Int32)) p4)) + (own_tm (0 : Int32) (own_val p2 (32 : Int32)) p5)), ss, vi (1 : Int32)] [(.int (1 : Int32))])) tQ
      refine XS.iconst X2455.here hx rfl (hb hby at_553) ?_
      refine XS.icmpYes X2455.here hx rfl (pc0 := 554) (pc' := 580) rfl (hb hby at_554) rfl (own_ic_ltY (by decide)) (by decide) (by decide) ?_
      refine XS.iload X2455.here hx rfl (hb hby at_580) rfl ?_
      exact kk
    clear k2478
    obtain ⟨fs, hr, hrun, hended, hW, hsame⟩ := X2455.leave (v := some (.int (1 : Int32))) (fun h => by rw [Bd.returns] at h; cases h)
    have hrun0 := k2479 _ (retOut X2455 hx Bd.returns (t := .boolean) rfl (Or.inl ⟨rfl, Or.inr (Or.inl rfl), _, rfl⟩) (hb hby at_582) hr)
    subst hE0
    refine ⟨_, _, hrun0, hrun, hended, _, _, rfl, ?_, ⟨_, rfl⟩, hW, hsame.mono (by decide) (by decide)⟩
    show Qrm0 Z p0 p1 p2 p3 p4 p5 h0 n0 _ T2451.heap _
    rw [e2463]
    exact ⟨rfl, N2465⟩
  · skip
    have k2480 : own_G p e below E0 s₁ (mkF m 20 #[vi p0, vj p1, ss, vj p2, ss, vi p3, vi p4, vi p5, vi (2 : Int32), vd (FP.i2d (p0 >>> ((8 : Int32) &&& 31))), ss, uu, uu, uu, uu, uu, uu, uu, uu, uu, uu, uu, uu, uu, uu, uu, uu, uu, uu, uu, uu, uu, uu, uu, uu, uu, uu] [(.int (p0 &&& (1 : Int32)))]) := by
      intro tQ kk
      refine k1131 tQ ?_
      refine XS.istore X0.here hx rfl (hb hby at_8) rfl (l' := #[vi p0, vj p1, ss, vj p2, ss, vi p3, vi p4, vi p5, vi (2 : Int32), uu, uu, uu, uu, uu, uu, uu, uu, uu, uu, uu, uu, uu, uu, uu, uu, uu, uu, uu, uu, uu, uu, uu, uu, uu, uu, uu, uu]) rfl ?_
      refine XS.iloadN X0.here hx rfl (hb hby at_10) rfl ?_
      refine XS.bipush X0.here hx rfl (hb hby at_11) ?_
      refine XT.ishr X0.here hx rfl (hb hby at_13) rfl ?_
      show Steps p.tables e below (s₁.setTop (mkF m 14 #[vi p0, vj p1, ss, vj p2, ss, vi p3, vi p4, vi p5, vi (2 : Int32), uu, uu, uu, uu, uu, uu, uu, uu, uu, uu, uu, uu, uu, uu, uu, uu, uu, uu, uu, uu, uu, uu, uu, uu, uu, uu, uu, uu] [(.int (p0 >>> ((8 : Int32) &&& 31)))])) tQ
      refine XS.i2dS X0.here hx rfl (hb hby at_14) rfl rfl ?_
      refine XS.dstore X0.here hx rfl (hb hby at_15) rfl (l' := #[vi p0, vj p1, ss, vj p2, ss, vi p3, vi p4, vi p5, vi (2 : Int32), vd (FP.i2d (p0 >>> ((8 : Int32) &&& 31))), ss, uu, uu, uu, uu, uu, uu, uu, uu, uu, uu, uu, uu, uu, uu, uu, uu, uu, uu, uu, uu, uu, uu, uu, uu, uu, uu]) rfl ?_
      refine XS.iloadN X0.here hx rfl (hb hby at_17) rfl ?_
      refine XS.iconst X0.here hx rfl (hb hby at_18) ?_
      show Steps p.tables e below (s₁.setTop (mkF m 19 #[vi p0, vj p1, ss, vj p2, ss, vi p3, vi p4, vi p5, vi (2 : Int32), vd (FP.i2d (p0 >>> ((8 : Int32) &&& 31))), ss, uu, uu, uu, uu, uu, uu, uu, uu, uu, uu, uu, uu, uu, uu, uu, uu, uu, uu, uu, uu, uu, uu, uu, uu, uu, uu] [(.int (1 : Int32)), (.int p0)])) tQ
      refine XS.iand X0.here hx rfl (hb hby at_19) rfl ?_
      exact kk
    clear k1131
    have jn2485 : ∃ (f0 : Int32), (own_f01 f0) ∧ (own_G p e below E0 s₁ (mkF m 28 #[vi p0, vj p1, ss, vj p2, ss, vi p3, vi p4, vi p5, vi (2 : Int32), vd (FP.i2d (p0 >>> ((8 : Int32) &&& 31))), ss, uu, uu, uu, uu, uu, uu, uu, uu, uu, uu, uu, uu, uu, uu, uu, uu, uu, uu, uu, uu, uu, uu, uu, uu, uu, uu] [(.int f0)])) := by
      by_cases c2481 : (p0 &&& (1 : Int32)) = 0
      · skip
        have k2482 : own_G p e below E0 s₁ (mkF m 28 #[vi p0, vj p1, ss, vj p2, ss, vi p3, vi p4, vi p5, vi (2 : Int32), vd (FP.i2d (p0 >>> ((8 : Int32) &&& 31))), ss, uu, uu, uu, uu, uu, uu, uu, uu, uu, uu, uu, uu, uu, uu, uu, uu, uu, uu, uu, uu, uu, uu, uu, uu, uu, uu] [(.int (0 : Int32))]) := by
          intro tQ kk
          refine k2480 tQ ?_
          refine XS.ifYes X0.here hx rfl (pc0 := 20) (pc' := 27) rfl (hb hby at_20) rfl (own_if_eqY c2481) (by decide) (by decide) ?_
          refine XS.iconst X0.here hx rfl (hb hby at_27) ?_
          exact kk
        clear k2480
        exact ⟨(0 : Int32), ((Or.inl rfl)), k2482⟩
      · skip
        have k2483 : own_G p e below E0 s₁ (mkF m 28 #[vi p0, vj p1, ss, vj p2, ss, vi p3, vi p4, vi p5, vi (2 : Int32), vd (FP.i2d (p0 >>> ((8 : Int32) &&& 31))), ss, uu, uu, uu, uu, uu, uu, uu, uu, uu, uu, uu, uu, uu, uu, uu, uu, uu, uu, uu, uu, uu, uu, uu, uu, uu, uu] [(.int (1 : Int32))]) := by
          intro tQ kk
          refine k2480 tQ ?_
          refine XS.ifNo X0.here hx rfl (hb hby at_20) rfl (own_if_eqN c2481) ?_
          refine XS.iconst X0.here hx rfl (hb hby at_23) ?_
          refine XS.goto X0.here hx rfl (pc0 := 24) (pc' := 28) rfl (hb hby at_24) (by decide) (by decide) ?_
          exact kk
        clear k2480
        exact ⟨(1 : Int32), ((Or.inr rfl)), k2483⟩
    obtain ⟨f0, hD2486, k2484⟩ := jn2485
    have hf0 := hD2486
    have k2487 : own_G p e below E0 s₁ (mkF m 33 #[vi p0, vj p1, ss, vj p2, ss, vi p3, vi p4, vi p5, vi (2 : Int32), vd (FP.i2d (p0 >>> ((8 : Int32) &&& 31))), ss, vi f0, uu, uu, uu, uu, uu, uu, uu, uu, uu, uu, uu, uu, uu, uu, uu, uu, uu, uu, uu, uu, uu, uu, uu, uu, uu] [(.int (p0 &&& (2 : Int32)))]) := by
      intro tQ kk
      refine k2484 tQ ?_
      refine XS.istore X0.here hx rfl (hb hby at_28) rfl (l' := #[vi p0, vj p1, ss, vj p2, ss, vi p3, vi p4, vi p5, vi (2 : Int32), vd (FP.i2d (p0 >>> ((8 : Int32) &&& 31))), ss, vi f0, uu, uu, uu, uu, uu, uu, uu, uu, uu, uu, uu, uu, uu, uu, uu, uu, uu, uu, uu, uu, uu, uu, uu, uu, uu]) rfl ?_
      refine XS.iloadN X0.here hx rfl (hb hby at_30) rfl ?_
      refine XS.iconst X0.here hx rfl (hb hby at_31) ?_
      refine XS.iand X0.here hx rfl (hb hby at_32) rfl ?_
      exact kk
    clear k2484
    have jn2492 : ∃ (f1 : Int32), (own_f01 f1) ∧ (own_G p e below E0 s₁ (mkF m 41 #[vi p0, vj p1, ss, vj p2, ss, vi p3, vi p4, vi p5, vi (2 : Int32), vd (FP.i2d (p0 >>> ((8 : Int32) &&& 31))), ss, vi f0, uu, uu, uu, uu, uu, uu, uu, uu, uu, uu, uu, uu, uu, uu, uu, uu, uu, uu, uu, uu, uu, uu, uu, uu, uu] [(.int f1)])) := by
      by_cases c2488 : (p0 &&& (2 : Int32)) = 0
      · skip
        have k2489 : own_G p e below E0 s₁ (mkF m 41 #[vi p0, vj p1, ss, vj p2, ss, vi p3, vi p4, vi p5, vi (2 : Int32), vd (FP.i2d (p0 >>> ((8 : Int32) &&& 31))), ss, vi f0, uu, uu, uu, uu, uu, uu, uu, uu, uu, uu, uu, uu, uu, uu, uu, uu, uu, uu, uu, uu, uu, uu, uu, uu, uu] [(.int (0 : Int32))]) := by
          intro tQ kk
          refine k2487 tQ ?_
          refine XS.ifYes X0.here hx rfl (pc0 := 33) (pc' := 40) rfl (hb hby at_33) rfl (own_if_eqY c2488) (by decide) (by decide) ?_
          refine XS.iconst X0.here hx rfl (hb hby at_40) ?_
          exact kk
        clear k2487
        exact ⟨(0 : Int32), ((Or.inl rfl)), k2489⟩
      · skip
        have k2490 : own_G p e below E0 s₁ (mkF m 41 #[vi p0, vj p1, ss, vj p2, ss, vi p3, vi p4, vi p5, vi (2 : Int32), vd (FP.i2d (p0 >>> ((8 : Int32) &&& 31))), ss, vi f0, uu, uu, uu, uu, uu, uu, uu, uu, uu, uu, uu, uu, uu, uu, uu, uu, uu, uu, uu, uu, uu, uu, uu, uu, uu] [(.int (1 : Int32))]) := by
          intro tQ kk
          refine k2487 tQ ?_
          refine XS.ifNo X0.here hx rfl (hb hby at_33) rfl (own_if_eqN c2488) ?_
          refine XS.iconst X0.here hx rfl (hb hby at_36) ?_
          refine XS.goto X0.here hx rfl (pc0 := 37) (pc' := 41) rfl (hb hby at_37) (by decide) (by decide) ?_
          exact kk
        clear k2487
        exact ⟨(1 : Int32), ((Or.inr rfl)), k2490⟩
    obtain ⟨f1, hD2493, k2491⟩ := jn2492
    have hf1 := hD2493
    have k2494 : own_G p e below E0 s₁ (mkF m 46 #[vi p0, vj p1, ss, vj p2, ss, vi p3, vi p4, vi p5, vi (2 : Int32), vd (FP.i2d (p0 >>> ((8 : Int32) &&& 31))), ss, vi f0, vi f1, uu, uu, uu, uu, uu, uu, uu, uu, uu, uu, uu, uu, uu, uu, uu, uu, uu, uu, uu, uu, uu, uu, uu, uu] [(.int (p0 &&& (4 : Int32)))]) := by
      intro tQ kk
      refine k2491 tQ ?_
      refine XS.istore X0.here hx rfl (hb hby at_41) rfl (l' := #[vi p0, vj p1, ss, vj p2, ss, vi p3, vi p4, vi p5, vi (2 : Int32), vd (FP.i2d (p0 >>> ((8 : Int32) &&& 31))), ss, vi f0, vi f1, uu, uu, uu, uu, uu, uu, uu, uu, uu, uu, uu, uu, uu, uu, uu, uu, uu, uu, uu, uu, uu, uu, uu, uu]) rfl ?_
      refine XS.iloadN X0.here hx rfl (hb hby at_43) rfl ?_
      refine XS.iconst X0.here hx rfl (hb hby at_44) ?_
      refine XS.iand X0.here hx rfl (hb hby at_45) rfl ?_
      exact kk
    clear k2491
    have jn2499 : ∃ (f2 : Int32), (own_f01 f2) ∧ (own_G p e below E0 s₁ (mkF m 54 #[vi p0, vj p1, ss, vj p2, ss, vi p3, vi p4, vi p5, vi (2 : Int32), vd (FP.i2d (p0 >>> ((8 : Int32) &&& 31))), ss, vi f0, vi f1, uu, uu, uu, uu, uu, uu, uu, uu, uu, uu, uu, uu, uu, uu, uu, uu, uu, uu, uu, uu, uu, uu, uu, uu] [(.int f2)])) := by
      by_cases c2495 : (p0 &&& (4 : Int32)) = 0
      · skip
        have k2496 : own_G p e below E0 s₁ (mkF m 54 #[vi p0, vj p1, ss, vj p2, ss, vi p3, vi p4, vi p5, vi (2 : Int32), vd (FP.i2d (p0 >>> ((8 : Int32) &&& 31))), ss, vi f0, vi f1, uu, uu, uu, uu, uu, uu, uu, uu, uu, uu, uu, uu, uu, uu, uu, uu, uu, uu, uu, uu, uu, uu, uu, uu] [(.int (0 : Int32))]) := by
          intro tQ kk
          refine k2494 tQ ?_
          refine XS.ifYes X0.here hx rfl (pc0 := 46) (pc' := 53) rfl (hb hby at_46) rfl (own_if_eqY c2495) (by decide) (by decide) ?_
          refine XS.iconst X0.here hx rfl (hb hby at_53) ?_
          exact kk
        clear k2494
        exact ⟨(0 : Int32), ((Or.inl rfl)), k2496⟩
      · skip
        have k2497 : own_G p e below E0 s₁ (mkF m 54 #[vi p0, vj p1, ss, vj p2, ss, vi p3, vi p4, vi p5, vi (2 : Int32), vd (FP.i2d (p0 >>> ((8 : Int32) &&& 31))), ss, vi f0, vi f1, uu, uu, uu, uu, uu, uu, uu, uu, uu, uu, uu, uu, uu, uu, uu, uu, uu, uu, uu, uu, uu, uu, uu, uu] [(.int (1 : Int32))]) := by
          intro tQ kk
          refine k2494 tQ ?_
          refine XS.ifNo X0.here hx rfl (hb hby at_46) rfl (own_if_eqN c2495) ?_
          refine XS.iconst X0.here hx rfl (hb hby at_49) ?_
          refine XS.goto X0.here hx rfl (pc0 := 50) (pc' := 54) rfl (hb hby at_50) (by decide) (by decide) ?_
          exact kk
        clear k2494
        exact ⟨(1 : Int32), ((Or.inr rfl)), k2497⟩
    obtain ⟨f2, hD2500, k2498⟩ := jn2499
    have hf2 := hD2500
    have k2501 : own_G p e below E0 s₁ (mkF m 60 #[vi p0, vj p1, ss, vj p2, ss, vi p3, vi p4, vi p5, vi (2 : Int32), vd (FP.i2d (p0 >>> ((8 : Int32) &&& 31))), ss, vi f0, vi f1, vi f2, uu, uu, uu, uu, uu, uu, uu, uu, uu, uu, uu, uu, uu, uu, uu, uu, uu, uu, uu, uu, uu, uu, uu] [(.int (p0 &&& (8 : Int32)))]) := by
      intro tQ kk
      refine k2498 tQ ?_
      refine XS.istore X0.here hx rfl (hb hby at_54) rfl (l' := #[vi p0, vj p1, ss, vj p2, ss, vi p3, vi p4, vi p5, vi (2 : Int32), vd (FP.i2d (p0 >>> ((8 : Int32) &&& 31))), ss, vi f0, vi f1, vi f2, uu, uu, uu, uu, uu, uu, uu, uu, uu, uu, uu, uu, uu, uu, uu, uu, uu, uu, uu, uu, uu, uu, uu]) rfl ?_
      refine XS.iloadN X0.here hx rfl (hb hby at_56) rfl ?_
      refine XS.bipush X0.here hx rfl (hb hby at_57) ?_
      refine XS.iand X0.here hx rfl (hb hby at_59) rfl ?_
      exact kk
    clear k2498
    have jn2506 : ∃ (g0 : Int32), (own_f01 g0) ∧ (own_G p e below E0 s₁ (mkF m 74 #[vi p0, vj p1, ss, vj p2, ss, vi p3, vi p4, vi p5, vi (2 : Int32), vd (FP.i2d (p0 >>> ((8 : Int32) &&& 31))), ss, vi f0, vi f1, vi f2, uu, uu, uu, uu, uu, uu, uu, uu, uu, uu, uu, uu, uu, uu, uu, uu, uu, uu, uu, uu, uu, uu, uu] [(.int g0)])) := by
      by_cases c2502 : (p0 &&& (8 : Int32)) = 0
      · skip
        have k2503 : own_G p e below E0 s₁ (mkF m 74 #[vi p0, vj p1, ss, vj p2, ss, vi p3, vi p4, vi p5, vi (2 : Int32), vd (FP.i2d (p0 >>> ((8 : Int32) &&& 31))), ss, vi f0, vi f1, vi f2, uu, uu, uu, uu, uu, uu, uu, uu, uu, uu, uu, uu, uu, uu, uu, uu, uu, uu, uu, uu, uu, uu, uu] [(.int (0 : Int32))]) := by
          intro tQ kk
          refine k2501 tQ ?_
          refine XS.ifYes X0.here hx rfl (pc0 := 60) (pc' := 73) rfl (hb hby at_60) rfl (own_if_eqY c2502) (by decide) (by decide) ?_
          refine XS.iconst X0.here hx rfl (hb hby at_73) ?_
          exact kk
        clear k2501
        exact ⟨(0 : Int32), ((Or.inl rfl)), k2503⟩
      · skip
        have k2504 : own_G p e below E0 s₁ (mkF m 74 #[vi p0, vj p1, ss, vj p2, ss, vi p3, vi p4, vi p5, vi (2 : Int32), vd (FP.i2d (p0 >>> ((8 : Int32) &&& 31))), ss, vi f0, vi f1, vi f2, uu, uu, uu, uu, uu, uu, uu, uu, uu, uu, uu, uu, uu, uu, uu, uu, uu, uu, uu, uu, uu, uu, uu] [(.int (1 : Int32))]) := by
          intro tQ kk
          refine k2501 tQ ?_
          refine XS.ifNo X0.here hx rfl (hb hby at_60) rfl (own_if_eqN c2502) ?_
          refine XS.iload X0.here hx rfl (hb hby at_63) rfl ?_
          refine XS.iconst X0.here hx rfl (hb hby at_65) ?_
          refine XS.icmpNo X0.here hx rfl (hb hby at_66) rfl (own_ic_neN (by decide)) ?_
          show Steps p.tables e below (s₁.setTop (mkF m 69 #[vi p0, vj p1, ss, vj p2, ss, vi p3, vi p4, vi p5, vi (2 : Int32), vd (FP.i2d (p0 >>> ((8 : Int32) &&& 31))), ss, vi f0, vi f1, vi f2, uu, uu, uu, uu, uu, uu, uu, uu, uu, uu, uu, uu, uu, uu, uu, uu, uu, uu, uu, uu, uu, uu, uu] [])) tQ
          refine XS.iconst X0.here hx rfl (hb hby at_69) ?_
          refine XS.goto X0.here hx rfl (pc0 := 70) (pc' := 74) rfl (hb hby at_70) (by decide) (by decide) ?_
          exact kk
        clear k2501
        exact ⟨(1 : Int32), ((Or.inr rfl)), k2504⟩
    obtain ⟨g0, hD2507, k2505⟩ := jn2506
    have hg0 := hD2507
    have k2508 : own_G p e below E0 s₁ (mkF m 80 #[vi p0, vj p1, ss, vj p2, ss, vi p3, vi p4, vi p5, vi (2 : Int32), vd (FP.i2d (p0 >>> ((8 : Int32) &&& 31))), ss, vi f0, vi f1, vi f2, vi g0, uu, uu, uu, uu, uu, uu, uu, uu, uu, uu, uu, uu, uu, uu, uu, uu, uu, uu, uu, uu, uu, uu] [(.int (p0 &&& (16 : Int32)))]) := by
      intro tQ kk
      refine k2505 tQ ?_
      refine XS.istore X0.here hx rfl (hb hby at_74) rfl (l' := #[vi p0, vj p1, ss, vj p2, ss, vi p3, vi p4, vi p5, vi (2 : Int32), vd (FP.i2d (p0 >>> ((8 : Int32) &&& 31))), ss, vi f0, vi f1, vi f2, vi g0, uu, uu, uu, uu, uu, uu, uu, uu, uu, uu, uu, uu, uu, uu, uu, uu, uu, uu, uu, uu, uu, uu]) rfl ?_
      refine XS.iloadN X0.here hx rfl (hb hby at_76) rfl ?_
      refine XS.bipush X0.here hx rfl (hb hby at_77) ?_
      refine XS.iand X0.here hx rfl (hb hby at_79) rfl ?_
      exact kk
    clear k2505
    have jn2513 : ∃ (g1 : Int32), (own_f01 g1) ∧ (own_G p e below E0 s₁ (mkF m 94 #[vi p0, vj p1, ss, vj p2, ss, vi p3, vi p4, vi p5, vi (2 : Int32), vd (FP.i2d (p0 >>> ((8 : Int32) &&& 31))), ss, vi f0, vi f1, vi f2, vi g0, uu, uu, uu, uu, uu, uu, uu, uu, uu, uu, uu, uu, uu, uu, uu, uu, uu, uu, uu, uu, uu, uu] [(.int g1)])) := by
      by_cases c2509 : (p0 &&& (16 : Int32)) = 0
      · skip
        have k2510 : own_G p e below E0 s₁ (mkF m 94 #[vi p0, vj p1, ss, vj p2, ss, vi p3, vi p4, vi p5, vi (2 : Int32), vd (FP.i2d (p0 >>> ((8 : Int32) &&& 31))), ss, vi f0, vi f1, vi f2, vi g0, uu, uu, uu, uu, uu, uu, uu, uu, uu, uu, uu, uu, uu, uu, uu, uu, uu, uu, uu, uu, uu, uu] [(.int (0 : Int32))]) := by
          intro tQ kk
          refine k2508 tQ ?_
          refine XS.ifYes X0.here hx rfl (pc0 := 80) (pc' := 93) rfl (hb hby at_80) rfl (own_if_eqY c2509) (by decide) (by decide) ?_
          refine XS.iconst X0.here hx rfl (hb hby at_93) ?_
          exact kk
        clear k2508
        exact ⟨(0 : Int32), ((Or.inl rfl)), k2510⟩
      · skip
        have k2511 : own_G p e below E0 s₁ (mkF m 94 #[vi p0, vj p1, ss, vj p2, ss, vi p3, vi p4, vi p5, vi (2 : Int32), vd (FP.i2d (p0 >>> ((8 : Int32) &&& 31))), ss, vi f0, vi f1, vi f2, vi g0, uu, uu, uu, uu, uu, uu, uu, uu, uu, uu, uu, uu, uu, uu, uu, uu, uu, uu, uu, uu, uu, uu] [(.int (1 : Int32))]) := by
          intro tQ kk
          refine k2508 tQ ?_
          refine XS.ifNo X0.here hx rfl (hb hby at_80) rfl (own_if_eqN c2509) ?_
          refine XS.iload X0.here hx rfl (hb hby at_83) rfl ?_
          refine XS.iconst X0.here hx rfl (hb hby at_85) ?_
          refine XS.icmpNo X0.here hx rfl (hb hby at_86) rfl (own_ic_neN (by decide)) ?_
          show Steps p.tables e below (s₁.setTop (mkF m 89 #[vi p0, vj p1, ss, vj p2, ss, vi p3, vi p4, vi p5, vi (2 : Int32), vd (FP.i2d (p0 >>> ((8 : Int32) &&& 31))), ss, vi f0, vi f1, vi f2, vi g0, uu, uu, uu, uu, uu, uu, uu, uu, uu, uu, uu, uu, uu, uu, uu, uu, uu, uu, uu, uu, uu, uu] [])) tQ
          refine XS.iconst X0.here hx rfl (hb hby at_89) ?_
          refine XS.goto X0.here hx rfl (pc0 := 90) (pc' := 94) rfl (hb hby at_90) (by decide) (by decide) ?_
          exact kk
        clear k2508
        exact ⟨(1 : Int32), ((Or.inr rfl)), k2511⟩
    obtain ⟨g1, hD2514, k2512⟩ := jn2513
    have hg1 := hD2514
    have k2515 : own_G p e below E0 s₁ (mkF m 100 #[vi p0, vj p1, ss, vj p2, ss, vi p3, vi p4, vi p5, vi (2 : Int32), vd (FP.i2d (p0 >>> ((8 : Int32) &&& 31))), ss, vi f0, vi f1, vi f2, vi g0, vi g1, uu, uu, uu, uu, uu, uu, uu, uu, uu, uu, uu, uu, uu, uu, uu, uu, uu, uu, uu, uu, uu] [(.int (p0 &&& (32 : Int32)))]) := by
      intro tQ kk
      refine k2512 tQ ?_
      refine XS.istore X0.here hx rfl (hb hby at_94) rfl (l' := #[vi p0, vj p1, ss, vj p2, ss, vi p3, vi p4, vi p5, vi (2 : Int32), vd (FP.i2d (p0 >>> ((8 : Int32) &&& 31))), ss, vi f0, vi f1, vi f2, vi g0, vi g1, uu, uu, uu, uu, uu, uu, uu, uu, uu, uu, uu, uu, uu, uu, uu, uu, uu, uu, uu, uu, uu]) rfl ?_
      refine XS.iloadN X0.here hx rfl (hb hby at_96) rfl ?_
      refine XS.bipush X0.here hx rfl (hb hby at_97) ?_
      refine XS.iand X0.here hx rfl (hb hby at_99) rfl ?_
      exact kk
    clear k2512
    have jn2520 : ∃ (g2 : Int32), (own_f01 g2) ∧ (own_G p e below E0 s₁ (mkF m 114 #[vi p0, vj p1, ss, vj p2, ss, vi p3, vi p4, vi p5, vi (2 : Int32), vd (FP.i2d (p0 >>> ((8 : Int32) &&& 31))), ss, vi f0, vi f1, vi f2, vi g0, vi g1, uu, uu, uu, uu, uu, uu, uu, uu, uu, uu, uu, uu, uu, uu, uu, uu, uu, uu, uu, uu, uu] [(.int g2)])) := by
      by_cases c2516 : (p0 &&& (32 : Int32)) = 0
      · skip
        have k2517 : own_G p e below E0 s₁ (mkF m 114 #[vi p0, vj p1, ss, vj p2, ss, vi p3, vi p4, vi p5, vi (2 : Int32), vd (FP.i2d (p0 >>> ((8 : Int32) &&& 31))), ss, vi f0, vi f1, vi f2, vi g0, vi g1, uu, uu, uu, uu, uu, uu, uu, uu, uu, uu, uu, uu, uu, uu, uu, uu, uu, uu, uu, uu, uu] [(.int (0 : Int32))]) := by
          intro tQ kk
          refine k2515 tQ ?_
          refine XS.ifYes X0.here hx rfl (pc0 := 100) (pc' := 113) rfl (hb hby at_100) rfl (own_if_eqY c2516) (by decide) (by decide) ?_
          refine XS.iconst X0.here hx rfl (hb hby at_113) ?_
          exact kk
        clear k2515
        exact ⟨(0 : Int32), ((Or.inl rfl)), k2517⟩
      · skip
        have k2518 : own_G p e below E0 s₁ (mkF m 114 #[vi p0, vj p1, ss, vj p2, ss, vi p3, vi p4, vi p5, vi (2 : Int32), vd (FP.i2d (p0 >>> ((8 : Int32) &&& 31))), ss, vi f0, vi f1, vi f2, vi g0, vi g1, uu, uu, uu, uu, uu, uu, uu, uu, uu, uu, uu, uu, uu, uu, uu, uu, uu, uu, uu, uu, uu] [(.int (1 : Int32))]) := by
          intro tQ kk
          refine k2515 tQ ?_
          refine XS.ifNo X0.here hx rfl (hb hby at_100) rfl (own_if_eqN c2516) ?_
          refine XS.iload X0.here hx rfl (hb hby at_103) rfl ?_
          refine XS.iconst X0.here hx rfl (hb hby at_105) ?_
          refine XS.icmpNo X0.here hx rfl (hb hby at_106) rfl (own_ic_neN (by decide)) ?_
          show Steps p.tables e below (s₁.setTop (mkF m 109 #[vi p0, vj p1, ss, vj p2, ss, vi p3, vi p4, vi p5, vi (2 : Int32), vd (FP.i2d (p0 >>> ((8 : Int32) &&& 31))), ss, vi f0, vi f1, vi f2, vi g0, vi g1, uu, uu, uu, uu, uu, uu, uu, uu, uu, uu, uu, uu, uu, uu, uu, uu, uu, uu, uu, uu, uu] [])) tQ
          refine XS.iconst X0.here hx rfl (hb hby at_109) ?_
          refine XS.goto X0.here hx rfl (pc0 := 110) (pc' := 114) rfl (hb hby at_110) (by decide) (by decide) ?_
          exact kk
        clear k2515
        exact ⟨(1 : Int32), ((Or.inr rfl)), k2518⟩
    obtain ⟨g2, hD2521, k2519⟩ := jn2520
    have hg2 := hD2521
    have k2522 : own_G p e below E0 s₁ (mkF m 118 #[vi p0, vj p1, ss, vj p2, ss, vi p3, vi p4, vi p5, vi (2 : Int32), vd (FP.i2d (p0 >>> ((8 : Int32) &&& 31))), ss, vi f0, vi f1, vi f2, vi g0, vi g1, vi g2, uu, uu, uu, uu, uu, uu, uu, uu, uu, uu, uu, uu, uu, uu, uu, uu, uu, uu, uu, uu] [(.int (0 : Int32)), (.long p1)]) := by
      intro tQ kk
      refine k2519 tQ ?_
      refine XS.istore X0.here hx rfl (hb hby at_114) rfl (l' := #[vi p0, vj p1, ss, vj p2, ss, vi p3, vi p4, vi p5, vi (2 : Int32), vd (FP.i2d (p0 >>> ((8 : Int32) &&& 31))), ss, vi f0, vi f1, vi f2, vi g0, vi g1, vi g2, uu, uu, uu, uu, uu, uu, uu, uu, uu, uu, uu, uu, uu, uu, uu, uu, uu, uu, uu, uu]) rfl ?_
      refine XT.lloadN X0.here hx rfl (hb hby at_116) rfl ?_
      refine XS.iconst X0.here hx rfl (hb hby at_117) ?_
      exact kk
    clear k2519
    obtain ⟨_, _, ⟨T2523, L2524, kc2525, nc2526⟩, -, X2527, ⟨Lc2528, hQ2529, l2530, y2531, z2532⟩, st2533⟩ := Jvm.LawKit.callS X0 hx (y := mn0) hown (mvT hZ (tw0 hw)) (mvT hZ (tw1 hw)) (mvT hZ (tw2 hw)) (mvT hZ (tw3 hw)) (by decide) (backOf (W := 0) (rmVal l Z a0 hw [] p1 (0 : Int32) h0 n0 Z0 ) hZ (tw3 hw) (tw2 hw) (by decide) (by decide)) (g := (mkF m 118 #[vi p0, vj p1, ss, vj p2, ss, vi p3, vi p4, vi p5, vi (2 : Int32), vd (FP.i2d (p0 >>> ((8 : Int32) &&& 31))), ss, vi f0, vi f1, vi f2, vi g0, vi g1, vi g2, uu, uu, uu, uu, uu, uu, uu, uu, uu, uu, uu, uu, uu, uu, uu, uu, uu, uu, uu, uu] [(.int (0 : Int32)), (.long p1)])) rfl (by rw [hml]; rfl) (argsL := [(.long p1), (.int (0 : Int32))]) (rest := []) (lenOf pd_11 rfl) rfl (by show 2 * 0 + _ ≤ _; exact Nat.le_of_eq rfl) (hb hby at_118) (fun _ _ => ⟨rfl, e0, (by decide : 0 + 0 ≤ _), (by decide : 0 + 0 ≤ _)⟩)
    dsimp only [Pt.U, Pt.locs, Pt.cells, Pt.slots] at X2527 l2530 y2531 z2532 st2533 hQ2529
    subst y2531 z2532
    obtain ⟨rfl, N2534, e2535⟩ := hQ2529
    have N2537 : Fr n0 L2524 := by rw [l2530]; exact Fr.app N0 N2534
    clear l2530 N2534
    have k2538 : own_G p e below E0 T2523 (mkF m 121 #[vi p0, vj p1, ss, vj p2, ss, vi p3, vi p4, vi p5, vi (2 : Int32), vd (FP.i2d (p0 >>> ((8 : Int32) &&& 31))), ss, vi f0, vi f1, vi f2, vi g0, vi g1, vi g2, uu, uu, uu, uu, uu, uu, uu, uu, uu, uu, uu, uu, uu, uu, uu, uu, uu, uu, uu, uu] [(.int (own_val p1 (0 : Int32)))]) := fun tQ kk => k2522 tQ (st2533 _ kk)
    clear k2522 st2533
    have k2539 : own_G p e below E0 T2523 (mkF m 126 #[vi p0, vj p1, ss, vj p2, ss, vi p3, vi p4, vi p5, vi (2 : Int32), vd (FP.i2d (p0 >>> ((8 : Int32) &&& 31))), ss, vi f0, vi f1, vi f2, vi g0, vi g1, vi g2, vi (own_val p1 (0 : Int32)), uu, uu, uu, uu, uu, uu, uu, uu, uu, uu, uu, uu, uu, uu, uu, uu, uu, uu, uu] [(.int (16 : Int32)), (.long p1)]) := by
      intro tQ kk
      refine k2538 tQ ?_
      refine XS.istore X2527.here hx rfl (hb hby at_121) rfl (l' := #[vi p0, vj p1, ss, vj p2, ss, vi p3, vi p4, vi p5, vi (2 : Int32), vd (FP.i2d (p0 >>> ((8 : Int32) &&& 31))), ss, vi f0, vi f1, vi f2, vi g0, vi g1, vi g2, vi (own_val p1 (0 : Int32)), uu, uu, uu, uu, uu, uu, uu, uu, uu, uu, uu, uu, uu, uu, uu, uu, uu, uu, uu]) rfl ?_
      refine XT.lloadN X2527.here hx rfl (hb hby at_123) rfl ?_
      refine XS.bipush X2527.here hx rfl (hb hby at_124) ?_
      exact kk
    clear k2538
    obtain ⟨_, _, ⟨T2540, L2541, kc2542, nc2543⟩, -, X2544, ⟨Lc2545, hQ2546, l2547, y2548, z2549⟩, st2550⟩ := Jvm.LawKit.callS X2527 hx (y := mn0) hown (mvT hZ (tw0 hw)) (mvT hZ (tw1 hw)) (mvT hZ (tw2 hw)) (mvT hZ (tw3 hw)) (by decide) (backOf (W := 0) (rmVal l Z a0 hw [] p1 (16 : Int32) h0 n0 Z0 ) hZ (tw3 hw) (tw2 hw) (by decide) (by decide)) (g := (mkF m 126 #[vi p0, vj p1, ss, vj p2, ss, vi p3, vi p4, vi p5, vi (2 : Int32), vd (FP.i2d (p0 >>> ((8 : Int32) &&& 31))), ss, vi f0, vi f1, vi f2, vi g0, vi g1, vi g2, vi (own_val p1 (0 : Int32)), uu, uu, uu, uu, uu, uu, uu, uu, uu, uu, uu, uu, uu, uu, uu, uu, uu, uu, uu] [(.int (16 : Int32)), (.long p1)])) rfl (by rw [hml]; rfl) (argsL := [(.long p1), (.int (16 : Int32))]) (rest := []) (lenOf pd_11 rfl) rfl (by show 2 * 0 + _ ≤ _; exact Nat.le_of_eq rfl) (hb hby at_126) (fun _ _ => ⟨rfl, e2535, (by decide : 0 + 0 ≤ _), (by decide : 0 + 0 ≤ _)⟩)
    dsimp only [Pt.U, Pt.locs, Pt.cells, Pt.slots] at X2544 l2547 y2548 z2549 st2550 hQ2546
    subst y2548 z2549
    obtain ⟨rfl, N2551, e2552⟩ := hQ2546
    have N2554 : Fr n0 L2541 := by rw [l2547]; exact Fr.app N2537 N2551
    clear l2547 N2551
    have k2555 : own_G p e below E0 T2540 (mkF m 129 #[vi p0, vj p1, ss, vj p2, ss, vi p3, vi p4, vi p5, vi (2 : Int32), vd (FP.i2d (p0 >>> ((8 : Int32) &&& 31))), ss, vi f0, vi f1, vi f2, vi g0, vi g1, vi g2, vi (own_val p1 (0 : Int32)), uu, uu, uu, uu, uu, uu, uu, uu, uu, uu, uu, uu, uu, uu, uu, uu, uu, uu, uu] [(.int (own_val p1 (16 : Int32)))]) := fun tQ kk => k2539 tQ (st2550 _ kk)
    clear k2539 st2550
    have k2556 : own_G p e below E0 T2540 (mkF m 134 #[vi p0, vj p1, ss, vj p2, ss, vi p3, vi p4, vi p5, vi (2 : Int32), vd (FP.i2d (p0 >>> ((8 : Int32) &&& 31))), ss, vi f0, vi f1, vi f2, vi g0, vi g1, vi g2, vi (own_val p1 (0 : Int32)), vi (own_val p1 (16 : Int32)), uu, uu, uu, uu, uu, uu, uu, uu, uu, uu, uu, uu, uu, uu, uu, uu, uu, uu] [(.int (32 : Int32)), (.long p1)]) := by
      intro tQ kk
      refine k2555 tQ ?_
      refine XS.istore X2544.here hx rfl (hb hby at_129) rfl (l' := #[vi p0, vj p1, ss, vj p2, ss, vi p3, vi p4, vi p5, vi (2 : Int32), vd (FP.i2d (p0 >>> ((8 : Int32) &&& 31))), ss, vi f0, vi f1, vi f2, vi g0, vi g1, vi g2, vi (own_val p1 (0 : Int32)), vi (own_val p1 (16 : Int32)), uu, uu, uu, uu, uu, uu, uu, uu, uu, uu, uu, uu, uu, uu, uu, uu, uu, uu]) rfl ?_
      refine XT.lloadN X2544.here hx rfl (hb hby at_131) rfl ?_
      refine XS.bipush X2544.here hx rfl (hb hby at_132) ?_
      exact kk
    clear k2555
    obtain ⟨_, _, ⟨T2557, L2558, kc2559, nc2560⟩, -, X2561, ⟨Lc2562, hQ2563, l2564, y2565, z2566⟩, st2567⟩ := Jvm.LawKit.callS X2544 hx (y := mn0) hown (mvT hZ (tw0 hw)) (mvT hZ (tw1 hw)) (mvT hZ (tw2 hw)) (mvT hZ (tw3 hw)) (by decide) (backOf (W := 0) (rmVal l Z a0 hw [] p1 (32 : Int32) h0 n0 Z0 ) hZ (tw3 hw) (tw2 hw) (by decide) (by decide)) (g := (mkF m 134 #[vi p0, vj p1, ss, vj p2, ss, vi p3, vi p4, vi p5, vi (2 : Int32), vd (FP.i2d (p0 >>> ((8 : Int32) &&& 31))), ss, vi f0, vi f1, vi f2, vi g0, vi g1, vi g2, vi (own_val p1 (0 : Int32)), vi (own_val p1 (16 : Int32)), uu, uu, uu, uu, uu, uu, uu, uu, uu, uu, uu, uu, uu, uu, uu, uu, uu, uu] [(.int (32 : Int32)), (.long p1)])) rfl (by rw [hml]; rfl) (argsL := [(.long p1), (.int (32 : Int32))]) (rest := []) (lenOf pd_11 rfl) rfl (by show 2 * 0 + _ ≤ _; exact Nat.le_of_eq rfl) (hb hby at_134) (fun _ _ => ⟨rfl, e2552, (by decide : 0 + 0 ≤ _), (by decide : 0 + 0 ≤ _)⟩)
    dsimp only [Pt.U, Pt.locs, Pt.cells, Pt.slots] at X2561 l2564 y2565 z2566 st2567 hQ2563
    subst y2565 z2566
    obtain ⟨rfl, N2568, e2569⟩ := hQ2563
    have N2571 : Fr n0 L2558 := by rw [l2564]; exact Fr.app N2554 N2568
    clear l2564 N2568
    have k2572 : own_G p e below E0 T2557 (mkF m 137 #[vi p0, vj p1, ss, vj p2, ss, vi p3, vi p4, vi p5, vi (2 : Int32), vd (FP.i2d (p0 >>> ((8 : Int32) &&& 31))), ss, vi f0, vi f1, vi f2, vi g0, vi g1, vi g2, vi (own_val p1 (0 : Int32)), vi (own_val p1 (16 : Int32)), uu, uu, uu, uu, uu, uu, uu, uu, uu, uu, uu, uu, uu, uu, uu, uu, uu, uu] [(.int (own_val p1 (32 : Int32)))]) := fun tQ kk => k2556 tQ (st2567 _ kk)
    clear k2556 st2567
    have k2573 : own_G p e below E0 T2557 (mkF m 141 #[vi p0, vj p1, ss, vj p2, ss, vi p3, vi p4, vi p5, vi (2 : Int32), vd (FP.i2d (p0 >>> ((8 : Int32) &&& 31))), ss, vi f0, vi f1, vi f2, vi g0, vi g1, vi g2, vi (own_val p1 (0 : Int32)), vi (own_val p1 (16 : Int32)), vi (own_val p1 (32 : Int32)), uu, uu, uu, uu, uu, uu, uu, uu, uu, uu, uu, uu, uu, uu, uu, uu, uu] [(.int (0 : Int32)), (.long p2)]) := by
      intro tQ kk
      refine k2572 tQ ?_
      refine XS.istore X2561.here hx rfl (hb hby at_137) rfl (l' := #[vi p0, vj p1, ss, vj p2, ss, vi p3, vi p4, vi p5, vi (2 : Int32), vd (FP.i2d (p0 >>> ((8 : Int32) &&& 31))), ss, vi f0, vi f1, vi f2, vi g0, vi g1, vi g2, vi (own_val p1 (0 : Int32)), vi (own_val p1 (16 : Int32)), vi (own_val p1 (32 : Int32)), uu, uu, uu, uu, uu, uu, uu, uu, uu, uu, uu, uu, uu, uu, uu, uu, uu]) rfl ?_
      refine XT.lloadN X2561.here hx rfl (hb hby at_139) rfl ?_
      refine XS.iconst X2561.here hx rfl (hb hby at_140) ?_
      exact kk
    clear k2572
    obtain ⟨_, _, ⟨T2574, L2575, kc2576, nc2577⟩, -, X2578, ⟨Lc2579, hQ2580, l2581, y2582, z2583⟩, st2584⟩ := Jvm.LawKit.callS X2561 hx (y := mn0) hown (mvT hZ (tw0 hw)) (mvT hZ (tw1 hw)) (mvT hZ (tw2 hw)) (mvT hZ (tw3 hw)) (by decide) (backOf (W := 0) (rmVal l Z a0 hw [] p2 (0 : Int32) h0 n0 Z0 ) hZ (tw3 hw) (tw2 hw) (by decide) (by decide)) (g := (mkF m 141 #[vi p0, vj p1, ss, vj p2, ss, vi p3, vi p4, vi p5, vi (2 : Int32), vd (FP.i2d (p0 >>> ((8 : Int32) &&& 31))), ss, vi f0, vi f1, vi f2, vi g0, vi g1, vi g2, vi (own_val p1 (0 : Int32)), vi (own_val p1 (16 : Int32)), vi (own_val p1 (32 : Int32)), uu, uu, uu, uu, uu, uu, uu, uu, uu, uu, uu, uu, uu, uu, uu, uu, uu] [(.int (0 : Int32)), (.long p2)])) rfl (by rw [hml]; rfl) (argsL := [(.long p2), (.int (0 : Int32))]) (rest := []) (lenOf pd_11 rfl) rfl (by show 2 * 0 + _ ≤ _; exact Nat.le_of_eq rfl) (hb hby at_141) (fun _ _ => ⟨rfl, e2569, (by decide : 0 + 0 ≤ _), (by decide : 0 + 0 ≤ _)⟩)
    dsimp only [Pt.U, Pt.locs, Pt.cells, Pt.slots] at X2578 l2581 y2582 z2583 st2584 hQ2580
    subst y2582 z2583
    obtain ⟨rfl, N2585, e2586⟩ := hQ2580
    have N2588 : Fr n0 L2575 := by rw [l2581]; exact Fr.app N2571 N2585
    clear l2581 N2585
    have k2589 : own_G p e below E0 T2574 (mkF m 144 #[vi p0, vj p1, ss, vj p2, ss, vi p3, vi p4, vi p5, vi (2 : Int32), vd (FP.i2d (p0 >>> ((8 : Int32) &&& 31))), ss, vi f0, vi f1, vi f2, vi g0, vi g1, vi g2, vi (own_val p1 (0 : Int32)), vi (own_val p1 (16 : Int32)), vi (own_val p1 (32 : Int32)), uu, uu, uu, uu, uu, uu, uu, uu, uu, uu, uu, uu, uu, uu, uu, uu, uu] [(.int (own_val p2 (0 : Int32)))]) := fun tQ kk => k2573 tQ (st2584 _ kk)
    clear k2573 st2584
    have k2590 : own_G p e below E0 T2574 (mkF m 149 #[vi p0, vj p1, ss, vj p2, ss, vi p3, vi p4, vi p5, vi (2 : Int32), vd (FP.i2d (p0 >>> ((8 : Int32) &&& 31))), ss, vi f0, vi f1, vi f2, vi g0, vi g1, vi g2, vi (own_val p1 (0 : Int32)), vi (own_val p1 (16 : Int32)), vi (own_val p1 (32 : Int32)), vi (own_val p2 (0 : Int32)), uu, uu, uu, uu, uu, uu, uu, uu, uu, uu, uu, uu, uu, uu, uu, uu] [(.int (16 : Int32)), (.long p2)]) := by
      intro tQ kk
      refine k2589 tQ ?_
      refine XS.istore X2578.here hx rfl (hb hby at_144) rfl (l' := #[vi p0, vj p1, ss, vj p2, ss, vi p3, vi p4, vi p5, vi (2 : Int32), vd (FP.i2d (p0 >>> ((8 : Int32) &&& 31))), ss, vi f0, vi f1, vi f2, vi g0, vi g1, vi g2, vi (own_val p1 (0 : Int32)), vi (own_val p1 (16 : Int32)), vi (own_val p1 (32 : Int32)), vi (own_val p2 (0 : Int32)), uu, uu, uu, uu, uu, uu, uu, uu, uu, uu, uu, uu, uu, uu, uu, uu]) rfl ?_
      refine XT.lloadN X2578.here hx rfl (hb hby at_146) rfl ?_
      refine XS.bipush X2578.here hx rfl (hb hby at_147) ?_
      exact kk
    clear k2589
    obtain ⟨_, _, ⟨T2591, L2592, kc2593, nc2594⟩, -, X2595, ⟨Lc2596, hQ2597, l2598, y2599, z2600⟩, st2601⟩ := Jvm.LawKit.callS X2578 hx (y := mn0) hown (mvT hZ (tw0 hw)) (mvT hZ (tw1 hw)) (mvT hZ (tw2 hw)) (mvT hZ (tw3 hw)) (by decide) (backOf (W := 0) (rmVal l Z a0 hw [] p2 (16 : Int32) h0 n0 Z0 ) hZ (tw3 hw) (tw2 hw) (by decide) (by decide)) (g := (mkF m 149 #[vi p0, vj p1, ss, vj p2, ss, vi p3, vi p4, vi p5, vi (2 : Int32), vd (FP.i2d (p0 >>> ((8 : Int32) &&& 31))), ss, vi f0, vi f1, vi f2, vi g0, vi g1, vi g2, vi (own_val p1 (0 : Int32)), vi (own_val p1 (16 : Int32)), vi (own_val p1 (32 : Int32)), vi (own_val p2 (0 : Int32)), uu, uu, uu, uu, uu, uu, uu, uu, uu, uu, uu, uu, uu, uu, uu, uu] [(.int (16 : Int32)), (.long p2)])) rfl (by rw [hml]; rfl) (argsL := [(.long p2), (.int (16 : Int32))]) (rest := []) (lenOf pd_11 rfl) rfl (by show 2 * 0 + _ ≤ _; exact Nat.le_of_eq rfl) (hb hby at_149) (fun _ _ => ⟨rfl, e2586, (by decide : 0 + 0 ≤ _), (by decide : 0 + 0 ≤ _)⟩)
    dsimp only [Pt.U, Pt.locs, Pt.cells, Pt.slots] at X2595 l2598 y2599 z2600 st2601 hQ2597
    subst y2599 z2600
    obtain ⟨rfl, N2602, e2603⟩ := hQ2597
    have N2605 : Fr n0 L2592 := by rw [l2598]; exact Fr.app N2588 N2602
    clear l2598 N2602
    have k2606 : own_G p e below E0 T2591 (mkF m 152 #[vi p0, vj p1, ss, vj p2, ss, vi p3, vi p4, vi p5, vi (2 : Int32), vd (FP.i2d (p0 >>> ((8 : Int32) &&& 31))), ss, vi f0, vi f1, vi f2, vi g0, vi g1, vi g2, vi (own_val p1 (0 : Int32)), vi (own_val p1 (16 : Int32)), vi (own_val p1 (32 : Int32)), vi (own_val p2 (0 : Int32)), uu, uu, uu, uu, uu, uu, uu, uu, uu, uu, uu, uu, uu, uu, uu, uu] [(.int (own_val p2 (16 : Int32)))]) := fun tQ kk => k2590 tQ (st2601 _ kk)
    clear k2590 st2601
    have k2607 : own_G p e below E0 T2591 (mkF m 157 #[vi p0, vj p1, ss, vj p2, ss, vi p3, vi p4, vi p5, vi (2 : Int32), vd (FP.i2d (p0 >>> ((8 : Int32) &&& 31))), ss, vi f0, vi f1, vi f2, vi g0, vi g1, vi g2, vi (own_val p1 (0 : Int32)), vi (own_val p1 (16 : Int32)), vi (own_val p1 (32 : Int32)), vi (own_val p2 (0 : Int32)), vi (own_val p2 (16 : Int32)), uu, uu, uu, uu, uu, uu, uu, uu, uu, uu, uu, uu, uu, uu, uu] [(.int (32 : Int32)), (.long p2)]) := by
      intro tQ kk
      refine k2606 tQ ?_
      refine XS.istore X2595.here hx rfl (hb hby at_152) rfl (l' := #[vi p0, vj p1, ss, vj p2, ss, vi p3, vi p4, vi p5, vi (2 : Int32), vd (FP.i2d (p0 >>> ((8 : Int32) &&& 31))), ss, vi f0, vi f1, vi f2, vi g0, vi g1, vi g2, vi (own_val p1 (0 : Int32)), vi (own_val p1 (16 : Int32)), vi (own_val p1 (32 : Int32)), vi (own_val p2 (0 : Int32)), vi (own_val p2 (16 : Int32)), uu, uu, uu, uu, uu, uu, uu, uu, uu, uu, uu, uu, uu, uu, uu]) rfl ?_
      refine XT.lloadN X2595.here hx rfl (hb hby at_154) rfl ?_
      refine XS.bipush X2595.here hx rfl (hb hby at_155) ?_
      exact kk
    clear k2606
    obtain ⟨_, _, ⟨T2608, L2609, kc2610, nc2611⟩, -, X2612, ⟨Lc2613, hQ2614, l2615, y2616, z2617⟩, st2618⟩ := Jvm.LawKit.callS X2595 hx (y := mn0) hown (mvT hZ (tw0 hw)) (mvT hZ (tw1 hw)) (mvT hZ (tw2 hw)) (mvT hZ (tw3 hw)) (by decide) (backOf (W := 0) (rmVal l Z a0 hw [] p2 (32 : Int32) h0 n0 Z0 ) hZ (tw3 hw) (tw2 hw) (by decide) (by decide)) (g := (mkF m 157 #[vi p0, vj p1, ss, vj p2, ss, vi p3, vi p4, vi p5, vi (2 : Int32), vd (FP.i2d (p0 >>> ((8 : Int32) &&& 31))), ss, vi f0, vi f1, vi f2, vi g0, vi g1, vi g2, vi (own_val p1 (0 : Int32)), vi (own_val p1 (16 : Int32)), vi (own_val p1 (32 : Int32)), vi (own_val p2 (0 : Int32)), vi (own_val p2 (16 : Int32)), uu, uu, uu, uu, uu, uu, uu, uu, uu, uu, uu, uu, uu, uu, uu] [(.int (32 : Int32)), (.long p2)])) rfl (by rw [hml]; rfl) (argsL := [(.long p2), (.int (32 : Int32))]) (rest := []) (lenOf pd_11 rfl) rfl (by show 2 * 0 + _ ≤ _; exact Nat.le_of_eq rfl) (hb hby at_157) (fun _ _ => ⟨rfl, e2603, (by decide : 0 + 0 ≤ _), (by decide : 0 + 0 ≤ _)⟩)
    dsimp only [Pt.U, Pt.locs, Pt.cells, Pt.slots] at X2612 l2615 y2616 z2617 st2618 hQ2614
    subst y2616 z2617
    obtain ⟨rfl, N2619, e2620⟩ := hQ2614
    have N2622 : Fr n0 L2609 := by rw [l2615]; exact Fr.app N2605 N2619
    clear l2615 N2619
    have k2623 : own_G p e below E0 T2608 (mkF m 160 #[vi p0, vj p1, ss, vj p2, ss, vi p3, vi p4, vi p5, vi (2 : Int32), vd (FP.i2d (p0 >>> ((8 : Int32) &&& 31))), ss, vi f0, vi f1, vi f2, vi g0, vi g1, vi g2, vi (own_val p1 (0 : Int32)), vi (own_val p1 (16 : Int32)), vi (own_val p1 (32 : Int32)), vi (own_val p2 (0 : Int32)), vi (own_val p2 (16 : Int32)), uu, uu, uu, uu, uu, uu, uu, uu, uu, uu, uu, uu, uu, uu, uu] [(.int (own_val p2 (32 : Int32)))]) := fun tQ kk => k2607 tQ (st2618 _ kk)
    clear k2607 st2618
    have k2624 : own_G p e below E0 T2608 (mkF m 164 #[vi p0, vj p1, ss, vj p2, ss, vi p3, vi p4, vi p5, vi (2 : Int32), vd (FP.i2d (p0 >>> ((8 : Int32) &&& 31))), ss, vi f0, vi f1, vi f2, vi g0, vi g1, vi g2, vi (own_val p1 (0 : Int32)), vi (own_val p1 (16 : Int32)), vi (own_val p1 (32 : Int32)), vi (own_val p2 (0 : Int32)), vi (own_val p2 (16 : Int32)), vi (own_val p2 (32 : Int32)), uu, uu, uu, uu, uu, uu, uu, uu, uu, uu, uu, uu, uu, uu] [(.int (6 : Int32))]) := by
      intro tQ kk
      refine k2623 tQ ?_
      refine XS.istore X2612.here hx rfl (hb hby at_160) rfl (l' := #[vi p0, vj p1, ss, vj p2, ss, vi p3, vi p4, vi p5, vi (2 : Int32), vd (FP.i2d (p0 >>> ((8 : Int32) &&& 31))), ss, vi f0, vi f1, vi f2, vi g0, vi g1, vi g2, vi (own_val p1 (0 : Int32)), vi (own_val p1 (16 : Int32)), vi (own_val p1 (32 : Int32)), vi (own_val p2 (0 : Int32)), vi (own_val p2 (16 : Int32)), vi (own_val p2 (32 : Int32)), uu, uu, uu, uu, uu, uu, uu, uu, uu, uu, uu, uu, uu, uu]) rfl ?_
      refine XS.bipush X2612.here hx rfl (hb hby at_162) ?_
      exact kk
    clear k2623
    obtain ⟨T2625, h2626, cA2627, X2628, e2629, E2630, A2631, st2632⟩ := newP (aty := .int) X2612 hx hZ (tw4 hw) e2620 (g := (mkF m 164 #[vi p0, vj p1, ss, vj p2, ss, vi p3, vi p4, vi p5, vi (2 : Int32), vd (FP.i2d (p0 >>> ((8 : Int32) &&& 31))), ss, vi f0, vi f1, vi f2, vi g0, vi g1, vi g2, vi (own_val p1 (0 : Int32)), vi (own_val p1 (16 : Int32)), vi (own_val p1 (32 : Int32)), vi (own_val p2 (0 : Int32)), vi (own_val p2 (16 : Int32)), vi (own_val p2 (32 : Int32)), uu, uu, uu, uu, uu, uu, uu, uu, uu, uu, uu, uu, uu, uu] [(.int (6 : Int32))])) rfl (hb hby at_164) rfl (by decide) (cap := 6) (by decide) (by decide) (by decide) (by decide)
    obtain ⟨a2633, g2634⟩ : ∃ zA : Nat, zA = h0.size := ⟨_, rfl⟩
    rw [← g2634] at A2631 st2632
    have ge2635 : n0 ≤ a2633 := own_ge_of Z0 g2634
    have Z2636 : n0 ≤ h2626.size := Nat.le_trans Z0 E2630.1
    have F2637 : own_A Z h2626 a2633 .int [(.int (0 : Int32)), (.int (0 : Int32)), (.int (0 : Int32)), (.int (0 : Int32)), (.int (0 : Int32)), (.int (0 : Int32))] := own_A.new A2631
    have k2638 : own_G p e below E0 T2625 (mkF m 166 #[vi p0, vj p1, ss, vj p2, ss, vi p3, vi p4, vi p5, vi (2 : Int32), vd (FP.i2d (p0 >>> ((8 : Int32) &&& 31))), ss, vi f0, vi f1, vi f2, vi g0, vi g1, vi g2, vi (own_val p1 (0 : Int32)), vi (own_val p1 (16 : Int32)), vi (own_val p1 (32 : Int32)), vi (own_val p2 (0 : Int32)), vi (own_val p2 (16 : Int32)), vi (own_val p2 (32 : Int32)), uu, uu, uu, uu, uu, uu, uu, uu, uu, uu, uu, uu, uu, uu] [(.ref a2633)]) := fun tQ kk => k2624 tQ (st2632 _ kk)
    clear k2624 st2632
    have k2639 : own_G p e below E0 T2625 (mkF m 170 #[vi p0, vj p1, ss, vj p2, ss, vi p3, vi p4, vi p5, vi (2 : Int32), vd (FP.i2d (p0 >>> ((8 : Int32) &&& 31))), ss, vi f0, vi f1, vi f2, vi g0, vi g1, vi g2, vi (own_val p1 (0 : Int32)), vi (own_val p1 (16 : Int32)), vi (own_val p1 (32 : Int32)), vi (own_val p2 (0 : Int32)), vi (own_val p2 (16 : Int32)), vi (own_val p2 (32 : Int32)), vr a2633, uu, uu, uu, uu, uu, uu, uu, uu, uu, uu, uu, uu, uu] [(.int (6 : Int32))]) := by
      intro tQ kk
      refine k2638 tQ ?_
      refine XS.astore X2628.here hx rfl (hb hby at_166) rfl rfl (l' := #[vi p0, vj p1, ss, vj p2, ss, vi p3, vi p4, vi p5, vi (2 : Int32), vd (FP.i2d (p0 >>> ((8 : Int32) &&& 31))), ss, vi f0, vi f1, vi f2, vi g0, vi g1, vi g2, vi (own_val p1 (0 : Int32)), vi (own_val p1 (16 : Int32)), vi (own_val p1 (32 : Int32)), vi (own_val p2 (0 : Int32)), vi (own_val p2 (16 : Int32)), vi (own_val p2 (32 : Int32)), vr a2633, uu, uu, uu, uu, uu, uu, uu, uu, uu, uu, uu, uu, uu]) rfl ?_
      refine XS.bipush X2628.here hx rfl (hb hby at_168) ?_
      exact kk
    clear k2638
    obtain ⟨T2640, h2641, cA2642, X2643, e2644, E2645, A2646, st2647⟩ := newP (aty := .double) X2628 hx hZ (tw5 hw) e2629 (g := (mkF m 170 #[vi p0, vj p1, ss, vj p2, ss, vi p3, vi p4, vi p5, vi (2 : Int32), vd (FP.i2d (p0 >>> ((8 : Int32) &&& 31))), ss, vi f0, vi f1, vi f2, vi g0, vi g1, vi g2, vi (own_val p1 (0 : Int32)), vi (own_val p1 (16 : Int32)), vi (own_val p1 (32 : Int32)), vi (own_val p2 (0 : Int32)), vi (own_val p2 (16 : Int32)), vi (own_val p2 (32 : Int32)), vr a2633, uu, uu, uu, uu, uu, uu, uu, uu, uu, uu, uu, uu, uu] [(.int (6 : Int32))])) rfl (hb hby at_170) rfl (by decide) (cap := 6) (by decide) (by decide) (by decide) (by decide)
    obtain ⟨a2648, g2649⟩ : ∃ zA : Nat, zA = h2626.size := ⟨_, rfl⟩
    rw [← g2649] at A2646 st2647
    have n2650 : a2633 ≠ a2648 := own_lt_ne F2637.lt g2649
    have n2651 : a2648 ≠ a2633 := fun q => n2650 q.symm
    have ge2652 : n0 ≤ a2648 := own_ge_of Z2636 g2649
    have Z2653 : n0 ≤ h2641.size := Nat.le_trans Z2636 E2645.1
    clear Z2636
    have F2654 : own_A Z h2641 a2633 .int [(.int (0 : Int32)), (.int (0 : Int32)), (.int (0 : Int32)), (.int (0 : Int32)), (.int (0 : Int32)), (.int (0 : Int32))] := F2637.ext E2645
    clear F2637
    have F2655 : own_A Z h2641 a2648 .double [(.double (0 : UInt64)), (.double (0 : UInt64)), (.double (0 : UInt64)), (.double (0 : UInt64)), (.double (0 : UInt64)), (.double (0 : UInt64))] := own_A.new A2646
    have k2656 : own_G p e below E0 T2640 (mkF m 172 #[vi p0, vj p1, ss, vj p2, ss, vi p3, vi p4, vi p5, vi (2 : Int32), vd (FP.i2d (p0 >>> ((8 : Int32) &&& 31))), ss, vi f0, vi f1, vi f2, vi g0, vi g1, vi g2, vi (own_val p1 (0 : Int32)), vi (own_val p1 (16 : Int32)), vi (own_val p1 (32 : Int32)), vi (own_val p2 (0 : Int32)), vi (own_val p2 (16 : Int32)), vi (own_val p2 (32 : Int32)), vr a2633, uu, uu, uu, uu, uu, uu, uu, uu, uu, uu, uu, uu, uu] [(.ref a2648)]) := fun tQ kk => k2639 tQ (st2647 _ kk)
    clear k2639 st2647
    have P0 : own_le (0 : Int32) 0 := ⟨by decide, by decide, by decide⟩
    have lC0 := own_len6 (.int (0 : Int32))
    have lW0 := own_len6 (.double (0 : UInt64))
    have k2657 : own_G p e below E0 T2640 (mkF m 188 #[vi p0, vj p1, ss, vj p2, ss, vi p3, vi p4, vi p5, vi (2 : Int32), vd (FP.i2d (p0 >>> ((8 : Int32) &&& 31))), ss, vi f0, vi f1, vi f2, vi g0, vi g1, vi g2, vi (own_val p1 (0 : Int32)), vi (own_val p1 (16 : Int32)), vi (own_val p1 (32 : Int32)), vi (own_val p2 (0 : Int32)), vi (own_val p2 (16 : Int32)), vi (own_val p2 (32 : Int32)), vr a2633, vr a2648, vi (0 : Int32), uu, uu, uu, uu, uu, uu, uu, uu, uu, uu, uu] [(.int (own_val p1 (0 : Int32))), (.int (0 : Int32)), (.int f0), (.int (0 : Int32)), (.ref a2648), (.ref a2633)]) := by
      intro tQ kk
      refine k2656 tQ ?_
      refine XS.astore X2643.here hx rfl (hb hby at_172) rfl rfl (l' := #[vi p0, vj p1, ss, vj p2, ss, vi p3, vi p4, vi p5, vi (2 : Int32), vd (FP.i2d (p0 >>> ((8 : Int32) &&& 31))), ss, vi f0, vi f1, vi f2, vi g0, vi g1, vi g2, vi (own_val p1 (0 : Int32)), vi (own_val p1 (16 : Int32)), vi (own_val p1 (32 : Int32)), vi (own_val p2 (0 : Int32)), vi (own_val p2 (16 : Int32)), vi (own_val p2 (32 : Int32)), vr a2633, vr a2648, uu, uu, uu, uu, uu, uu, uu, uu, uu, uu, uu, uu]) rfl ?_
      refine XS.iconst X2643.here hx rfl (hb hby at_174) ?_
      refine XS.istore X2643.here hx rfl (hb hby at_175) rfl (l' := #[vi p0, vj p1, ss, vj p2, ss, vi p3, vi p4, vi p5, vi (2 : Int32), vd (FP.i2d (p0 >>> ((8 : Int32) &&& 31))), ss, vi f0, vi f1, vi f2, vi g0, vi g1, vi g2, vi (own_val p1 (0 : Int32)), vi (own_val p1 (16 : Int32)), vi (own_val p1 (32 : Int32)), vi (own_val p2 (0 : Int32)), vi (own_val p2 (16 : Int32)), vi (own_val p2 (32 : Int32)), vr a2633, vr a2648, vi (0 : Int32), uu, uu, uu, uu, uu, uu, uu, uu, uu, uu, uu]) rfl ?_
      refine XS.aload X2643.here hx rfl (hb hby at_177) rfl rfl ?_
      show Steps p.tables e below (T2640.setTop (mkF m 179 #[vi p0, vj p1, ss, vj p2, ss, vi p3, vi p4, vi p5, vi (2 : Int32), vd (FP.i2d (p0 >>> ((8 : Int32) &&& 31))), ss, vi f0, vi f1, vi f2, vi g0, vi g1, vi g2, vi (own_val p1 (0 : Int32)), vi (own_val p1 (16 : Int32)), vi (own_val p1 (32 : Int32)), vi (own_val p2 (0 : Int32)), vi (own_val p2 (16 : Int32)), vi (own_val p2 (32 : Int32)), vr a2633, vr a2648, vi (0 : Int32), uu, uu, uu, uu, uu, uu, uu, uu, uu, uu, uu] [(.ref a2633)])) tQ
      refine XS.aload X2643.here hx rfl (hb hby at_179) rfl rfl ?_
      refine XS.iload X2643.here hx rfl (hb hby at_181) rfl ?_
      refine XS.iload X2643.here hx rfl (hb hby at_183) rfl ?_
      refine XS.iconst X2643.here hx rfl (hb hby at_185) ?_
      show Steps p.tables e below (T2640.setTop (mkF m 186 #[vi p0, vj p1, ss, vj p2, ss, vi p3, vi p4, vi p5, vi (2 : Int32), vd (FP.i2d (p0 >>> ((8 : Int32) &&& 31))), ss, vi f0, vi f1, vi f2, vi g0, vi g1, vi g2, vi (own_val p1 (0 : Int32)), vi (own_val p1 (16 : Int32)), vi (own_val p1 (32 : Int32)), vi (own_val p2 (0 : Int32)), vi (own_val p2 (16 : Int32)), vi (own_val p2 (32 : Int32)), vr a2633, vr a2648, vi (0 : Int32), uu, uu, uu, uu, uu, uu, uu, uu, uu, uu, uu] [(.int (0 : Int32)), (.int f0), (.int (0 : Int32)), (.ref a2648), (.ref a2633)])) tQ
      refine XS.iload X2643.here hx rfl (hb hby at_186) rfl ?_
      exact kk
    clear k2656
    obtain ⟨_, _, ⟨T2658, L2659, kc2660, nc2661⟩, -, X2662, ⟨Lc2663, hQ2664, l2665, y2666, z2667⟩, st2668⟩ := Jvm.LawKit.callS X2643 hx (y := mn1) hown (mvT hZ (tw6 hw)) (mvT hZ (tw7 hw)) (mvT hZ (tw2 hw)) (mvT hZ (tw8 hw)) (by decide) (backOf (W := 0) (rmPut l Z a0 hw [] a2633 a2648 (0 : Int32) f0 (0 : Int32) (own_val p1 (0 : Int32)) ([(.int (0 : Int32)), (.int (0 : Int32)), (.int (0 : Int32)), (.int (0 : Int32)), (.int (0 : Int32)), (.int (0 : Int32))]) ([(.double (0 : UInt64)), (.double (0 : UInt64)), (.double (0 : UInt64)), (.double (0 : UInt64)), (.double (0 : UInt64)), (.double (0 : UInt64))]) h2641 n0 Z2653 F2654 F2655 n2650 ge2635 ge2652 P0.1 (own_rg P0 (by decide) lC0) (own_rg P0 (by decide) lW0)) hZ (tw8 hw) (tw2 hw) (by decide) (by decide)) (g := (mkF m 188 #[vi p0, vj p1, ss, vj p2, ss, vi p3, vi p4, vi p5, vi (2 : Int32), vd (FP.i2d (p0 >>> ((8 : Int32) &&& 31))), ss, vi f0, vi f1, vi f2, vi g0, vi g1, vi g2, vi (own_val p1 (0 : Int32)), vi (own_val p1 (16 : Int32)), vi (own_val p1 (32 : Int32)), vi (own_val p2 (0 : Int32)), vi (own_val p2 (16 : Int32)), vi (own_val p2 (32 : Int32)), vr a2633, vr a2648, vi (0 : Int32), uu, uu, uu, uu, uu, uu, uu, uu, uu, uu, uu] [(.int (own_val p1 (0 : Int32))), (.int (0 : Int32)), (.int f0), (.int (0 : Int32)), (.ref a2648), (.ref a2633)])) rfl (by rw [hml]; rfl) (argsL := [(.ref a2633), (.ref a2648), (.int (0 : Int32)), (.int f0), (.int (0 : Int32)), (.int (own_val p1 (0 : Int32)))]) (rest := []) (lenOf pd_12 rfl) rfl (by show 2 * 0 + _ ≤ _; exact Nat.le_of_eq rfl) (hb hby at_188) (fun _ _ => ⟨rfl, e2644, (by decide : 2 + 0 ≤ _), (by decide : 12 + 0 ≤ _)⟩)
    dsimp only [Pt.U, Pt.locs, Pt.cells, Pt.slots] at X2662 l2665 y2666 z2667 st2668 hQ2664
    subst y2666 z2667
    obtain ⟨rfl, N2669, K2672, g2673, g2674⟩ := hQ2664
    have N2675 : Fr n0 L2659 := by rw [l2665]; exact Fr.app N2622 N2669
    clear l2665 N2669
    have Z2676 : n0 ≤ T2658.heap.size := Nat.le_trans Z2653 K2672.1
    clear Z2653
    clear F2654
    clear F2655
    have k2677 : own_G p e below E0 T2658 (mkF m 191 #[vi p0, vj p1, ss, vj p2, ss, vi p3, vi p4, vi p5, vi (2 : Int32), vd (FP.i2d (p0 >>> ((8 : Int32) &&& 31))), ss, vi f0, vi f1, vi f2, vi g0, vi g1, vi g2, vi (own_val p1 (0 : Int32)), vi (own_val p1 (16 : Int32)), vi (own_val p1 (32 : Int32)), vi (own_val p2 (0 : Int32)), vi (own_val p2 (16 : Int32)), vi (own_val p2 (32 : Int32)), vr a2633, vr a2648, vi (0 : Int32), uu, uu, uu, uu, uu, uu, uu, uu, uu, uu, uu] [(.int (own_pos (0 : Int32) f0))]) := fun tQ kk => k2657 tQ (st2668 _ kk)
    clear k2657 st2668
    obtain ⟨ps1, hps1⟩ : ∃ z, z = (own_pos (0 : Int32) f0) := ⟨_, rfl⟩
    have eq2678 : (own_pos (0 : Int32) f0) = ps1 := hps1.symm
    rw [eq2678] at k2677
    obtain ⟨LC1, hLC1⟩ : ∃ z, z = (own_putL [(.int (0 : Int32)), (.int (0 : Int32)), (.int (0 : Int32)), (.int (0 : Int32)), (.int (0 : Int32)), (.int (0 : Int32))] (0 : Int32) f0 (.int (0 : Int32))) := ⟨_, rfl⟩
    have F2679 : own_A Z T2658.heap a2633 .int LC1 := by rw [hLC1]; exact g2673
    obtain ⟨LW1, hLW1⟩ : ∃ z, z = (own_putL [(.double (0 : UInt64)), (.double (0 : UInt64)), (.double (0 : UInt64)), (.double (0 : UInt64)), (.double (0 : UInt64)), (.double (0 : UInt64))] (0 : Int32) f0 (.double (FP.i2d (own_val p1 (0 : Int32))))) := ⟨_, rfl⟩
    have F2680 : own_A Z T2658.heap a2648 .double LW1 := by rw [hLW1]; exact g2674
    have P1 : own_le ps1 1 := by rw [hps1]; exact own_pos_le P0 _
    have lC1 : LC1.length = 6 := by rw [hLC1, own_putL_len]; exact lC0
    have lW1 : LW1.length = 6 := by rw [hLW1, own_putL_len]; exact lW0
    have k2681 : own_G p e below E0 T2658 (mkF m 204 #[vi p0, vj p1, ss, vj p2, ss, vi p3, vi p4, vi p5, vi (2 : Int32), vd (FP.i2d (p0 >>> ((8 : Int32) &&& 31))), ss, vi f0, vi f1, vi f2, vi g0, vi g1, vi g2, vi (own_val p1 (0 : Int32)), vi (own_val p1 (16 : Int32)), vi (own_val p1 (32 : Int32)), vi (own_val p2 (0 : Int32)), vi (own_val p2 (16 : Int32)), vi (own_val p2 (32 : Int32)), vr a2633, vr a2648, vi ps1, uu, uu, uu, uu, uu, uu, uu, uu, uu, uu, uu] [(.int (own_val p1 (16 : Int32))), (.int (1 : Int32)), (.int f1), (.int ps1), (.ref a2648), (.ref a2633)]) := by
      intro tQ kk
      refine k2677 tQ ?_
      refine XS.istore X2662.here hx rfl (hb hby at_191) rfl (l' := #[vi p0, vj p1, ss, vj p2, ss, vi p3, vi p4, vi p5, vi (2 : Int32), vd (FP.i2d (p0 >>> ((8 : Int32) &&& 31))), ss, vi f0, vi f1, vi f2, vi g0, vi g1, vi g2, vi (own_val p1 (0 : Int32)), vi (own_val p1 (16 : Int32)), vi (own_val p1 (32 : Int32)), vi (own_val p2 (0 : Int32)), vi (own_val p2 (16 : Int32)), vi (own_val p2 (32 : Int32)), vr a2633, vr a2648, vi ps1, uu, uu, uu, uu, uu, uu, uu, uu, uu, uu, uu]) rfl ?_
      refine XS.aload X2662.here hx rfl (hb hby at_193) rfl rfl ?_
      refine XS.aload X2662.here hx rfl (hb hby at_195) rfl rfl ?_
      refine XS.iload X2662.here hx rfl (hb hby at_197) rfl ?_
      show Steps p.tables e below (T2658.setTop (mkF m 199 #[vi p0, vj p1, ss, vj p2, ss, vi p3, vi p4, vi p5, vi (2 : Int32), vd (FP.i2d (p0 >>> ((8 : Int32) &&& 31))), ss, vi f0, vi f1, vi f2, vi g0, vi g1, vi g2, vi (own_val p1 (0 : Int32)), vi (own_val p1 (16 : Int32)), vi (own_val p1 (32 : Int32)), vi (own_val p2 (0 : Int32)), vi (own_val p2 (16 : Int32)), vi (own_val p2 (32 : Int32)), vr a2633, vr a2648, vi ps1, uu, uu, uu, uu, uu, uu, uu, uu, uu, uu, uu] [(.int ps1), (.ref a2648), (.ref a2633)])) tQ
      refine XS.iload X2662.here hx rfl (hb hby at_199) rfl ?_
      refine XS.iconst X2662.here hx rfl (hb hby at_201) ?_
      refine XS.iload X2662.here hx rfl (hb hby at_202) rfl ?_
      exact kk
    clear k2677
    obtain ⟨_, _, ⟨T2682, L2683, kc2684, nc2685⟩, -, X2686, ⟨Lc2687, hQ2688, l2689, y2690, z2691⟩, st2692⟩ := Jvm.LawKit.callS X2662 hx (y := mn1) hown (mvT hZ (tw6 hw)) (mvT hZ (tw7 hw)) (mvT hZ (tw2 hw)) (mvT hZ (tw8 hw)) (by decide) (backOf (W := 0) (rmPut l Z a0 hw [] a2633 a2648 ps1 f1 (1 : Int32) (own_val p1 (16 : Int32)) LC1 LW1 T2658.heap n0 Z2676 F2679 F2680 n2650 ge2635 ge2652 P1.1 (own_rg P1 (by decide) lC1) (own_rg P1 (by decide) lW1)) hZ (tw8 hw) (tw2 hw) (by decide) (by decide)) (g := (mkF m 204 #[vi p0, vj p1, ss, vj p2, ss, vi p3, vi p4, vi p5, vi (2 : Int32), vd (FP.i2d (p0 >>> ((8 : Int32) &&& 31))), ss, vi f0, vi f1, vi f2, vi g0, vi g1, vi g2, vi (own_val p1 (0 : Int32)), vi (own_val p1 (16 : Int32)), vi (own_val p1 (32 : Int32)), vi (own_val p2 (0 : Int32)), vi (own_val p2 (16 : Int32)), vi (own_val p2 (32 : Int32)), vr a2633, vr a2648, vi ps1, uu, uu, uu, uu, uu, uu, uu, uu, uu, uu, uu] [(.int (own_val p1 (16 : Int32))), (.int (1 : Int32)), (.int f1), (.int ps1), (.ref a2648), (.ref a2633)])) rfl (by rw [hml]; rfl) (argsL := [(.ref a2633), (.ref a2648), (.int ps1), (.int f1), (.int (1 : Int32)), (.int (own_val p1 (16 : Int32)))]) (rest := []) (lenOf pd_12 rfl) rfl (by show 2 * 0 + _ ≤ _; exact Nat.le_of_eq rfl) (hb hby at_204) (fun _ _ => ⟨rfl, rfl, (by decide : 2 + 0 ≤ _), (by decide : 12 + 0 ≤ _)⟩)
    dsimp only [Pt.U, Pt.locs, Pt.cells, Pt.slots] at X2686 l2689 y2690 z2691 st2692 hQ2688
    subst y2690 z2691
    obtain ⟨rfl, N2693, K2696, g2697, g2698⟩ := hQ2688
    have N2699 : Fr n0 L2683 := by rw [l2689]; exact Fr.app N2675 N2693
    clear l2689 N2693
    have Z2700 : n0 ≤ T2682.heap.size := Nat.le_trans Z2676 K2696.1
    clear Z2676
    clear F2679
    clear F2680
    have k2701 : own_G p e below E0 T2682 (mkF m 207 #[vi p0, vj p1, ss, vj p2, ss, vi p3, vi p4, vi p5, vi (2 : Int32), vd (FP.i2d (p0 >>> ((8 : Int32) &&& 31))), ss, vi f0, vi f1, vi f2, vi g0, vi g1, vi g2, vi (own_val p1 (0 : Int32)), vi (own_val p1 (16 : Int32)), vi (own_val p1 (32 : Int32)), vi (own_val p2 (0 : Int32)), vi (own_val p2 (16 : Int32)), vi (own_val p2 (32 : Int32)), vr a2633, vr a2648, vi ps1, uu, uu, uu, uu, uu, uu, uu, uu, uu, uu, uu] [(.int (own_pos ps1 f1))]) := fun tQ kk => k2681 tQ (st2692 _ kk)
    clear k2681 st2692
    obtain ⟨ps2, hps2⟩ : ∃ z, z = (own_pos ps1 f1) := ⟨_, rfl⟩
    have eq2702 : (own_pos ps1 f1) = ps2 := hps2.symm
    rw [eq2702] at k2701
    obtain ⟨LC2, hLC2⟩ : ∃ z, z = (own_putL LC1 ps1 f1 (.int (1 : Int32))) := ⟨_, rfl⟩
    have F2703 : own_A Z T2682.heap a2633 .int LC2 := by rw [hLC2]; exact g2697
    obtain ⟨LW2, hLW2⟩ : ∃ z, z = (own_putL LW1 ps1 f1 (.double (FP.i2d (own_val p1 (16 : Int32))))) := ⟨_, rfl⟩
    have F2704 : own_A Z T2682.heap a2648 .double LW2 := by rw [hLW2]; exact g2698
    have P2 : own_le ps2 2 := by rw [hps2]; exact own_pos_le P1 _
    have lC2 : LC2.length = 6 := by rw [hLC2, own_putL_len]; exact lC1
    have lW2 : LW2.length = 6 := by rw [hLW2, own_putL_len]; exact lW1
    have k2705 : own_G p e below E0 T2682 (mkF m 220 #[vi p0, vj p1, ss, vj p2, ss, vi p3, vi p4, vi p5, vi (2 : Int32), vd (FP.i2d (p0 >>> ((8 : Int32) &&& 31))), ss, vi f0, vi f1, vi f2, vi g0, vi g1, vi g2, vi (own_val p1 (0 : Int32)), vi (own_val p1 (16 : Int32)), vi (own_val p1 (32 : Int32)), vi (own_val p2 (0 : Int32)), vi (own_val p2 (16 : Int32)), vi (own_val p2 (32 : Int32)), vr a2633, vr a2648, vi ps2, uu, uu, uu, uu, uu, uu, uu, uu, uu, uu, uu] [(.int (own_val p1 (32 : Int32))), (.int (2 : Int32)), (.int f2), (.int ps2), (.ref a2648), (.ref a2633)]) := by
      intro tQ kk
      refine k2701 tQ ?_
      refine XS.istore X2686.here hx rfl (hb hby at_207) rfl (l' := #[vi p0, vj p1, ss, vj p2, ss, vi p3, vi p4, vi p5, vi (2 : Int32), vd (FP.i2d (p0 >>> ((8 : Int32) &&& 31))), ss, vi f0, vi f1, vi f2, vi g0, vi g1, vi g2, vi (own_val p1 (0 : Int32)), vi (own_val p1 (16 : Int32)), vi (own_val p1 (32 : Int32)), vi (own_val p2 (0 : Int32)), vi (own_val p2 (16 : Int32)), vi (own_val p2 (32 : Int32)), vr a2633, vr a2648, vi ps2, uu, uu, uu, uu, uu, uu, uu, uu, uu, uu, uu]) rfl ?_
      refine XS.aload X2686.here hx rfl (hb hby at_209) rfl rfl ?_
      refine XS.aload X2686.here hx rfl (hb hby at_211) rfl rfl ?_
      refine XS.iload X2686.here hx rfl (hb hby at_213) rfl ?_
      show Steps p.tables e below (T2682.setTop (mkF m 215 #[vi p0, vj p1, ss, vj p2, ss, vi p3, vi p4, vi p5, vi (2 : Int32), vd (FP.i2d (p0 >>> ((8 : Int32) &&& 31))), ss, vi f0, vi f1, vi f2, vi g0, vi g1, vi g2, vi (own_val p1 (0 : Int32)), vi (own_val p1 (16 : Int32)), vi (own_val p1 (32 : Int32)), vi (own_val p2 (0 : Int32)), vi (own_val p2 (16 : Int32)), vi (own_val p2 (32 : Int32)), vr a2633, vr a2648, vi ps2, uu, uu, uu, uu, uu, uu, uu, uu, uu, uu, uu] [(.int ps2), (.ref a2648), (.ref a2633)])) tQ
      refine XS.iload X2686.here hx rfl (hb hby at_215) rfl ?_
      refine XS.iconst X2686.here hx rfl (hb hby at_217) ?_
      refine XS.iload X2686.here hx rfl (hb hby at_218) rfl ?_
      exact kk
    clear k2701
    obtain ⟨_, _, ⟨T2706, L2707, kc2708, nc2709⟩, -, X2710, ⟨Lc2711, hQ2712, l2713, y2714, z2715⟩, st2716⟩ := Jvm.LawKit.callS X2686 hx (y := mn1) hown (mvT hZ (tw6 hw)) (mvT hZ (tw7 hw)) (mvT hZ (tw2 hw)) (mvT hZ (tw8 hw)) (by decide) (backOf (W := 0) (rmPut l Z a0 hw [] a2633 a2648 ps2 f2 (2 : Int32) (own_val p1 (32 : Int32)) LC2 LW2 T2682.heap n0 Z2700 F2703 F2704 n2650 ge2635 ge2652 P2.1 (own_rg P2 (by decide) lC2) (own_rg P2 (by decide) lW2)) hZ (tw8 hw) (tw2 hw) (by decide) (by decide)) (g := (mkF m 220 #[vi p0, vj p1, ss, vj p2, ss, vi p3, vi p4, vi p5, vi (2 : Int32), vd (FP.i2d (p0 >>> ((8 : Int32) &&& 31))), ss, vi f0, vi f1, vi f2, vi g0, vi g1, vi g2, vi (own_val p1 (0 : Int32)), vi (own_val p1 (16 : Int32)), vi (own_val p1 (32 : Int32)), vi (own_val p2 (0 : Int32)), vi (own_val p2 (16 : Int32)), vi (own_val p2 (32 : Int32)), vr a2633, vr a2648, vi ps2, uu, uu, uu, uu, uu, uu, uu, uu, uu, uu, uu] [(.int (own_val p1 (32 : Int32))), (.int (2 : Int32)), (.int f2), (.int ps2), (.ref a2648), (.ref a2633)])) rfl (by rw [hml]; rfl) (argsL := [(.ref a2633), (.ref a2648), (.int ps2), (.int f2), (.int (2 : Int32)), (.int (own_val p1 (32 : Int32)))]) (rest := []) (lenOf pd_12 rfl) rfl (by show 2 * 0 + _ ≤ _; exact Nat.le_of_eq rfl) (hb hby at_220) (fun _ _ => ⟨rfl, rfl, (by decide : 2 + 0 ≤ _), (by decide : 12 + 0 ≤ _)⟩)
    dsimp only [Pt.U, Pt.locs, Pt.cells, Pt.slots] at X2710 l2713 y2714 z2715 st2716 hQ2712
    subst y2714 z2715
    obtain ⟨rfl, N2717, K2720, g2721, g2722⟩ := hQ2712
    have N2723 : Fr n0 L2707 := by rw [l2713]; exact Fr.app N2699 N2717
    clear l2713 N2717
    have Z2724 : n0 ≤ T2706.heap.size := Nat.le_trans Z2700 K2720.1
    clear Z2700
    clear F2703
    clear F2704
    have k2725 : own_G p e below E0 T2706 (mkF m 223 #[vi p0, vj p1, ss, vj p2, ss, vi p3, vi p4, vi p5, vi (2 : Int32), vd (FP.i2d (p0 >>> ((8 : Int32) &&& 31))), ss, vi f0, vi f1, vi f2, vi g0, vi g1, vi g2, vi (own_val p1 (0 : Int32)), vi (own_val p1 (16 : Int32)), vi (own_val p1 (32 : Int32)), vi (own_val p2 (0 : Int32)), vi (own_val p2 (16 : Int32)), vi (own_val p2 (32 : Int32)), vr a2633, vr a2648, vi ps2, uu, uu, uu, uu, uu, uu, uu, uu, uu, uu, uu] [(.int (own_pos ps2 f2))]) := fun tQ kk => k2705 tQ (st2716 _ kk)
    clear k2705 st2716
    obtain ⟨ps3, hps3⟩ : ∃ z, z = (own_pos ps2 f2) := ⟨_, rfl⟩
    have eq2726 : (own_pos ps2 f2) = ps3 := hps3.symm
    rw [eq2726] at k2725
    obtain ⟨LC3, hLC3⟩ : ∃ z, z = (own_putL LC2 ps2 f2 (.int (2 : Int32))) := ⟨_, rfl⟩
    have F2727 : own_A Z T2706.heap a2633 .int LC3 := by rw [hLC3]; exact g2721
    obtain ⟨LW3, hLW3⟩ : ∃ z, z = (own_putL LW2 ps2 f2 (.double (FP.i2d (own_val p1 (32 : Int32))))) := ⟨_, rfl⟩
    have F2728 : own_A Z T2706.heap a2648 .double LW3 := by rw [hLW3]; exact g2722
    have P3 : own_le ps3 3 := by rw [hps3]; exact own_pos_le P2 _
    have lC3 : LC3.length = 6 := by rw [hLC3, own_putL_len]; exact lC2
    have lW3 : LW3.length = 6 := by rw [hLW3, own_putL_len]; exact lW2
    have k2729 : own_G p e below E0 T2706 (mkF m 240 #[vi p0, vj p1, ss, vj p2, ss, vi p3, vi p4, vi p5, vi (2 : Int32), vd (FP.i2d (p0 >>> ((8 : Int32) &&& 31))), ss, vi f0, vi f1, vi f2, vi g0, vi g1, vi g2, vi (own_val p1 (0 : Int32)), vi (own_val p1 (16 : Int32)), vi (own_val p1 (32 : Int32)), vi (own_val p2 (0 : Int32)), vi (own_val p2 (16 : Int32)), vi (own_val p2 (32 : Int32)), vr a2633, vr a2648, vi ps3, vi ps3, uu, uu, uu, uu, uu, uu, uu, uu, uu, uu] [(.int (own_val p2 (0 : Int32))), (.int (0 : Int32)), (.int g0), (.int ps3), (.ref a2648), (.ref a2633)]) := by
      intro tQ kk
      refine k2725 tQ ?_
      refine XS.istore X2710.here hx rfl (hb hby at_223) rfl (l' := #[vi p0, vj p1, ss, vj p2, ss, vi p3, vi p4, vi p5, vi (2 : Int32), vd (FP.i2d (p0 >>> ((8 : Int32) &&& 31))), ss, vi f0, vi f1, vi f2, vi g0, vi g1, vi g2, vi (own_val p1 (0 : Int32)), vi (own_val p1 (16 : Int32)), vi (own_val p1 (32 : Int32)), vi (own_val p2 (0 : Int32)), vi (own_val p2 (16 : Int32)), vi (own_val p2 (32 : Int32)), vr a2633, vr a2648, vi ps3, uu, uu, uu, uu, uu, uu, uu, uu, uu, uu, uu]) rfl ?_
      refine XS.iload X2710.here hx rfl (hb hby at_225) rfl ?_
      refine XS.istore X2710.here hx rfl (hb hby at_227) rfl (l' := #[vi p0, vj p1, ss, vj p2, ss, vi p3, vi p4, vi p5, vi (2 : Int32), vd (FP.i2d (p0 >>> ((8 : Int32) &&& 31))), ss, vi f0, vi f1, vi f2, vi g0, vi g1, vi g2, vi (own_val p1 (0 : Int32)), vi (own_val p1 (16 : Int32)), vi (own_val p1 (32 : Int32)), vi (own_val p2 (0 : Int32)), vi (own_val p2 (16 : Int32)), vi (own_val p2 (32 : Int32)), vr a2633, vr a2648, vi ps3, vi ps3, uu, uu, uu, uu, uu, uu, uu, uu, uu, uu]) rfl ?_
      refine XS.aload X2710.here hx rfl (hb hby at_229) rfl rfl ?_
      show Steps p.tables e below (T2706.setTop (mkF m 231 #[vi p0, vj p1, ss, vj p2, ss, vi p3, vi p4, vi p5, vi (2 : Int32), vd (FP.i2d (p0 >>> ((8 : Int32) &&& 31))), ss, vi f0, vi f1, vi f2, vi g0, vi g1, vi g2, vi (own_val p1 (0 : Int32)), vi (own_val p1 (16 : Int32)), vi (own_val p1 (32 : Int32)), vi (own_val p2 (0 : Int32)), vi (own_val p2 (16 : Int32)), vi (own_val p2 (32 : Int32)), vr a2633, vr a2648, vi ps3, vi ps3, uu, uu, uu, uu, uu, uu, uu, uu, uu, uu] [(.ref a2633)])) tQ
      refine XS.aload X2710.here hx rfl (hb hby at_231) rfl rfl ?_
      refine XS.iload X2710.here hx rfl (hb hby at_233) rfl ?_
      refine XS.iload X2710.here hx rfl (hb hby at_235) rfl ?_
      refine XS.iconst X2710.here hx rfl (hb hby at_237) ?_
      show Steps p.tables e below (T2706.setTop (mkF m 238 #[vi p0, vj p1, ss, vj p2, ss, vi p3, vi p4, vi p5, vi (2 : Int32), vd (FP.i2d (p0 >>> ((8 : Int32) &&& 31))), ss, vi f0, vi f1, vi f2, vi g0, vi g1, vi g2, vi (own_val p1 (0 : Int32)), vi (own_val p1 (16 : Int32)), vi (own_val p1 (32 : Int32)), vi (own_val p2 (0 : Int32)), vi (own_val p2 (16 : Int32)), vi (own_val p2 (32 : Int32)), vr a2633, vr a2648, vi ps3, vi ps3, uu, uu, uu, uu, uu, uu, uu, uu, uu, uu] [(.int (0 : Int32)), (.int g0), (.int ps3), (.ref a2648), (.ref a2633)])) tQ
      refine XS.iload X2710.here hx rfl (hb hby at_238) rfl ?_
      exact kk
    clear k2725
    obtain ⟨_, _, ⟨T2730, L2731, kc2732, nc2733⟩, -, X2734, ⟨Lc2735, hQ2736, l2737, y2738, z2739⟩, st2740⟩ := Jvm.LawKit.callS X2710 hx (y := mn1) hown (mvT hZ (tw6 hw)) (mvT hZ (tw7 hw)) (mvT hZ (tw2 hw)) (mvT hZ (tw8 hw)) (by decide) (backOf (W := 0) (rmPut l Z a0 hw [] a2633 a2648 ps3 g0 (0 : Int32) (own_val p2 (0 : Int32)) LC3 LW3 T2706.heap n0 Z2724 F2727 F2728 n2650 ge2635 ge2652 P3.1 (own_rg P3 (by decide) lC3) (own_rg P3 (by decide) lW3)) hZ (tw8 hw) (tw2 hw) (by decide) (by decide)) (g := (mkF m 240 #[vi p0, vj p1, ss, vj p2, ss, vi p3, vi p4, vi p5, vi (2 : Int32), vd (FP.i2d (p0 >>> ((8 : Int32) &&& 31))), ss, vi f0, vi f1, vi f2, vi g0, vi g1, vi g2, vi (own_val p1 (0 : Int32)), vi (own_val p1 (16 : Int32)), vi (own_val p1 (32 : Int32)), vi (own_val p2 (0 : Int32)), vi (own_val p2 (16 : Int32)), vi (own_val p2 (32 : Int32)), vr a2633, vr a2648, vi ps3, vi ps3, uu, uu, uu, uu, uu, uu, uu, uu, uu, uu] [(.int (own_val p2 (0 : Int32))), (.int (0 : Int32)), (.int g0), (.int ps3), (.ref a2648), (.ref a2633)])) rfl (by rw [hml]; rfl) (argsL := [(.ref a2633), (.ref a2648), (.int ps3), (.int g0), (.int (0 : Int32)), (.int (own_val p2 (0 : Int32)))]) (rest := []) (lenOf pd_12 rfl) rfl (by show 2 * 0 + _ ≤ _; exact Nat.le_of_eq rfl) (hb hby at_240) (fun _ _ => ⟨rfl, rfl, (by decide : 2 + 0 ≤ _), (by decide : 12 + 0 ≤ _)⟩)
    dsimp only [Pt.U, Pt.locs, Pt.cells, Pt.slots] at X2734 l2737 y2738 z2739 st2740 hQ2736
    subst y2738 z2739
    obtain ⟨rfl, N2741, K2744, g2745, g2746⟩ := hQ2736
    have N2747 : Fr n0 L2731 := by rw [l2737]; exact Fr.app N2723 N2741
    clear l2737 N2741
    have Z2748 : n0 ≤ T2730.heap.size := Nat.le_trans Z2724 K2744.1
    clear Z2724
    clear F2727
    clear F2728
    have k2749 : own_G p e below E0 T2730 (mkF m 243 #[vi p0, vj p1, ss, vj p2, ss, vi p3, vi p4, vi p5, vi (2 : Int32), vd (FP.i2d (p0 >>> ((8 : Int32) &&& 31))), ss, vi f0, vi f1, vi f2, vi g0, vi g1, vi g2, vi (own_val p1 (0 : Int32)), vi (own_val p1 (16 : Int32)), vi (own_val p1 (32 : Int32)), vi (own_val p2 (0 : Int32)), vi (own_val p2 (16 : Int32)), vi (own_val p2 (32 : Int32)), vr a2633, vr a2648, vi ps3, vi ps3, uu, uu, uu, uu, uu, uu, uu, uu, uu, uu] [(.int (own_pos ps3 g0))]) := fun tQ kk => k2729 tQ (st2740 _ kk)
    clear k2729 st2740
    obtain ⟨ps4, hps4⟩ : ∃ z, z = (own_pos ps3 g0) := ⟨_, rfl⟩
    have eq2750 : (own_pos ps3 g0) = ps4 := hps4.symm
    rw [eq2750] at k2749
    obtain ⟨LC4, hLC4⟩ : ∃ z, z = (own_putL LC3 ps3 g0 (.int (0 : Int32))) := ⟨_, rfl⟩
    have F2751 : own_A Z T2730.heap a2633 .int LC4 := by rw [hLC4]; exact g2745
    obtain ⟨LW4, hLW4⟩ : ∃ z, z = (own_putL LW3 ps3 g0 (.double (FP.i2d (own_val p2 (0 : Int32))))) := ⟨_, rfl⟩
    have F2752 : own_A Z T2730.heap a2648 .double LW4 := by rw [hLW4]; exact g2746
    have P4 : own_le ps4 4 := by rw [hps4]; exact own_pos_le P3 _
    have lC4 : LC4.length = 6 := by rw [hLC4, own_putL_len]; exact lC3
    have lW4 : LW4.length = 6 := by rw [hLW4, own_putL_len]; exact lW3
    have k2753 : own_G p e below E0 T2730 (mkF m 256 #[vi p0, vj p1, ss, vj p2, ss, vi p3, vi p4, vi p5, vi (2 : Int32), vd (FP.i2d (p0 >>> ((8 : Int32) &&& 31))), ss, vi f0, vi f1, vi f2, vi g0, vi g1, vi g2, vi (own_val p1 (0 : Int32)), vi (own_val p1 (16 : Int32)), vi (own_val p1 (32 : Int32)), vi (own_val p2 (0 : Int32)), vi (own_val p2 (16 : Int32)), vi (own_val p2 (32 : Int32)), vr a2633, vr a2648, vi ps4, vi ps3, uu, uu, uu, uu, uu, uu, uu, uu, uu, uu] [(.int (own_val p2 (16 : Int32))), (.int (1 : Int32)), (.int g1), (.int ps4), (.ref a2648), (.ref a2633)]) := by
      intro tQ kk
      refine k2749 tQ ?_
      refine XS.istore X2734.here hx rfl (hb hby at_243) rfl (l' := #[vi p0, vj p1, ss, vj p2, ss, vi p3, vi p4, vi p5, vi (2 : Int32), vd (FP.i2d (p0 >>> ((8 : Int32) &&& 31))), ss, vi f0, vi f1, vi f2, vi g0, vi g1, vi g2, vi (own_val p1 (0 : Int32)), vi (own_val p1 (16 : Int32)), vi (own_val p1 (32 : Int32)), vi (own_val p2 (0 : Int32)), vi (own_val p2 (16 : Int32)), vi (own_val p2 (32 : Int32)), vr a2633, vr a2648, vi ps4, vi ps3, uu, uu, uu, uu, uu, uu, uu, uu, uu, uu]) rfl ?_
      refine XS.aload X2734.here hx rfl (hb hby at_245) rfl rfl ?_
      refine XS.aload X2734.here hx rfl (hb hby at_247) rfl rfl ?_
      refine XS.iload X2734.here hx rfl (hb hby at_249) rfl ?_
      show Steps p.tables e below (T2730.setTop (mkF m 251 #[vi p0, vj p1, ss, vj p2, ss, vi p3, vi p4, vi p5, vi (2 : Int32), vd (FP.i2d (p0 >>> ((8 : Int32) &&& 31))), ss, vi f0, vi f1, vi f2, vi g0, vi g1, vi g2, vi (own_val p1 (0 : Int32)), vi (own_val p1 (16 : Int32)), vi (own_val p1 (32 : Int32)), vi (own_val p2 (0 : Int32)), vi (own_val p2 (16 : Int32)), vi (own_val p2 (32 : Int32)), vr a2633, vr a2648, vi ps4, vi ps3, uu, uu, uu, uu, uu, uu, uu, uu, uu, uu] [(.int ps4), (.ref a2648), (.ref a2633)])) tQ
      refine XS.iload X2734.here hx rfl (hb hby at_251) rfl ?_
      refine XS.iconst X2734.here hx rfl (hb hby at_253) ?_
      refine XS.iload X2734.here hx rfl (hb hby at_254) rfl ?_
      exact kk
    clear k2749
    obtain ⟨_, _, ⟨T2754, L2755, kc2756, nc2757⟩, -, X2758, ⟨Lc2759, hQ2760, l2761, y2762, z2763⟩, st2764⟩ := Jvm.LawKit.callS X2734 hx (y := mn1) hown (mvT hZ (tw6 hw)) (mvT hZ (tw7 hw)) (mvT hZ (tw2 hw)) (mvT hZ (tw8 hw)) (by decide) (backOf (W := 0) (rmPut l Z a0 hw [] a2633 a2648 ps4 g1 (1 : Int32) (own_val p2 (16 : Int32)) LC4 LW4 T2730.heap n0 Z2748 F2751 F2752 n2650 ge2635 ge2652 P4.1 (own_rg P4 (by decide) lC4) (own_rg P4 (by decide) lW4)) hZ (tw8 hw) (tw2 hw) (by decide) (by decide)) (g := (mkF m 256 #[vi p0, vj p1, ss, vj p2, ss, vi p3, vi p4, vi p5, vi (2 : Int32), vd (FP.i2d (p0 >>> ((8 : Int32) &&& 31))), ss, vi f0, vi f1, vi f2, vi g0, vi g1, vi g2, vi (own_val p1 (0 : Int32)), vi (own_val p1 (16 : Int32)), vi (own_val p1 (32 : Int32)), vi (own_val p2 (0 : Int32)), vi (own_val p2 (16 : Int32)), vi (own_val p2 (32 : Int32)), vr a2633, vr a2648, vi ps4, vi ps3, uu, uu, uu, uu, uu, uu, uu, uu, uu, uu] [(.int (own_val p2 (16 : Int32))), (.int (1 : Int32)), (.int g1), (.int ps4), (.ref a2648), (.ref a2633)])) rfl (by rw [hml]; rfl) (argsL := [(.ref a2633), (.ref a2648), (.int ps4), (.int g1), (.int (1 : Int32)), (.int (own_val p2 (16 : Int32)))]) (rest := []) (lenOf pd_12 rfl) rfl (by show 2 * 0 + _ ≤ _; exact Nat.le_of_eq rfl) (hb hby at_256) (fun _ _ => ⟨rfl, rfl, (by decide : 2 + 0 ≤ _), (by decide : 12 + 0 ≤ _)⟩)
    dsimp only [Pt.U, Pt.locs, Pt.cells, Pt.slots] at X2758 l2761 y2762 z2763 st2764 hQ2760
    subst y2762 z2763
    obtain ⟨rfl, N2765, K2768, g2769, g2770⟩ := hQ2760
    have N2771 : Fr n0 L2755 := by rw [l2761]; exact Fr.app N2747 N2765
    clear l2761 N2765
    have Z2772 : n0 ≤ T2754.heap.size := Nat.le_trans Z2748 K2768.1
    clear Z2748
    clear F2751
    clear F2752
    have k2773 : own_G p e below E0 T2754 (mkF m 259 #[vi p0, vj p1, ss, vj p2, ss, vi p3, vi p4, vi p5, vi (2 : Int32), vd (FP.i2d (p0 >>> ((8 : Int32) &&& 31))), ss, vi f0, vi f1, vi f2, vi g0, vi g1, vi g2, vi (own_val p1 (0 : Int32)), vi (own_val p1 (16 : Int32)), vi (own_val p1 (32 : Int32)), vi (own_val p2 (0 : Int32)), vi (own_val p2 (16 : Int32)), vi (own_val p2 (32 : Int32)), vr a2633, vr a2648, vi ps4, vi ps3, uu, uu, uu, uu, uu, uu, uu, uu, uu, uu] [(.int (own_pos ps4 g1))]) := fun tQ kk => k2753 tQ (st2764 _ kk)
    clear k2753 st2764
    obtain ⟨ps5, hps5⟩ : ∃ z, z = (own_pos ps4 g1) := ⟨_, rfl⟩
    have eq2774 : (own_pos ps4 g1) = ps5 := hps5.symm
    rw [eq2774] at k2773
    obtain ⟨LC5, hLC5⟩ : ∃ z, z = (own_putL LC4 ps4 g1 (.int (1 : Int32))) := ⟨_, rfl⟩
    have F2775 : own_A Z T2754.heap a2633 .int LC5 := by rw [hLC5]; exact g2769
    obtain ⟨LW5, hLW5⟩ : ∃ z, z = (own_putL LW4 ps4 g1 (.double (FP.i2d (own_val p2 (16 : Int32))))) := ⟨_, rfl⟩
    have F2776 : own_A Z T2754.heap a2648 .double LW5 := by rw [hLW5]; exact g2770
    have P5 : own_le ps5 5 := by rw [hps5]; exact own_pos_le P4 _
    have lC5 : LC5.length = 6 := by rw [hLC5, own_putL_len]; exact lC4
    have lW5 : LW5.length = 6 := by rw [hLW5, own_putL_len]; exact lW4
    have k2777 : own_G p e below E0 T2754 (mkF m 272 #[vi p0, vj p1, ss, vj p2, ss, vi p3, vi p4, vi p5, vi (2 : Int32), vd (FP.i2d (p0 >>> ((8 : Int32) &&& 31))), ss, vi f0, vi f1, vi f2, vi g0, vi g1, vi g2, vi (own_val p1 (0 : Int32)), vi (own_val p1 (16 : Int32)), vi (own_val p1 (32 : Int32)), vi (own_val p2 (0 : Int32)), vi (own_val p2 (16 : Int32)), vi (own_val p2 (32 : Int32)), vr a2633, vr a2648, vi ps5, vi ps3, uu, uu, uu, uu, uu, uu, uu, uu, uu, uu] [(.int (own_val p2 (32 : Int32))), (.int (2 : Int32)), (.int g2), (.int ps5), (.ref a2648), (.ref a2633)]) := by
      intro tQ kk
      refine k2773 tQ ?_
      refine XS.istore X2758.here hx rfl (hb hby at_259) rfl (l' := #[vi p0, vj p1, ss, vj p2, ss, vi p3, vi p4, vi p5, vi (2 : Int32), vd (FP.i2d (p0 >>> ((8 : Int32) &&& 31))), ss, vi f0, vi f1, vi f2, vi g0, vi g1, vi g2, vi (own_val p1 (0 : Int32)), vi (own_val p1 (16 : Int32)), vi (own_val p1 (32 : Int32)), vi (own_val p2 (0 : Int32)), vi (own_val p2 (16 : Int32)), vi (own_val p2 (32 : Int32)), vr a2633, vr a2648, vi ps5, vi ps3, uu, uu, uu, uu, uu, uu, uu, uu, uu, uu]) rfl ?_
      refine XS.aload X2758.here hx rfl (hb hby at_261) rfl rfl ?_
      refine XS.aload X2758.here hx rfl (hb hby at_263) rfl rfl ?_
      refine XS.iload X2758.here hx rfl (hb hby at_265) rfl ?_
      show Steps p.tables e below (T2754.setTop (mkF m 267 #[vi p0, vj p1, ss, vj p2, ss, vi p3, vi p4, vi p5, vi (2 : Int32), vd (FP.i2d (p0 >>> ((8 : Int32) &&& 31))), ss, vi f0, vi f1, vi f2, vi g0, vi g1, vi g2, vi (own_val p1 (0 : Int32)), vi (own_val p1 (16 : Int32)), vi (own_val p1 (32 : Int32)), vi (own_val p2 (0 : Int32)), vi (own_val p2 (16 : Int32)), vi (own_val p2 (32 : Int32)), vr a2633, vr a2648, vi ps5, vi ps3, uu, uu, uu, uu, uu, uu, uu, uu, uu, uu] [(.int ps5), (.ref a2648), (.ref a2633)])) tQ
      refine XS.iload X2758.here hx rfl (hb hby at_267) rfl ?_
      refine XS.iconst X2758.here hx rfl (hb hby at_269) ?_
      refine XS.iload X2758.here hx rfl (hb hby at_270) rfl ?_
      exact kk
    clear k2773
    obtain ⟨_, _, ⟨T2778, L2779, kc2780, nc2781⟩, -, X2782, ⟨Lc2783, hQ2784, l2785, y2786, z2787⟩, st2788⟩ := Jvm.LawKit.callS X2758 hx (y := mn1) hown (mvT hZ (tw6 hw)) (mvT hZ (tw7 hw)) (mvT hZ (tw2 hw)) (mvT hZ (tw8 hw)) (by decide) (backOf (W := 0) (rmPut l Z a0 hw [] a2633 a2648 ps5 g2 (2 : Int32) (own_val p2 (32 : Int32)) LC5 LW5 T2754.heap n0 Z2772 F2775 F2776 n2650 ge2635 ge2652 P5.1 (own_rg P5 (by decide) lC5) (own_rg P5 (by decide) lW5)) hZ (tw8 hw) (tw2 hw) (by decide) (by decide)) (g := (mkF m 272 #[vi p0, vj p1, ss, vj p2, ss, vi p3, vi p4, vi p5, vi (2 : Int32), vd (FP.i2d (p0 >>> ((8 : Int32) &&& 31))), ss, vi f0, vi f1, vi f2, vi g0, vi g1, vi g2, vi (own_val p1 (0 : Int32)), vi (own_val p1 (16 : Int32)), vi (own_val p1 (32 : Int32)), vi (own_val p2 (0 : Int32)), vi (own_val p2 (16 : Int32)), vi (own_val p2 (32 : Int32)), vr a2633, vr a2648, vi ps5, vi ps3, uu, uu, uu, uu, uu, uu, uu, uu, uu, uu] [(.int (own_val p2 (32 : Int32))), (.int (2 : Int32)), (.int g2), (.int ps5), (.ref a2648), (.ref a2633)])) rfl (by rw [hml]; rfl) (argsL := [(.ref a2633), (.ref a2648), (.int ps5), (.int g2), (.int (2 : Int32)), (.int (own_val p2 (32 : Int32)))]) (rest := []) (lenOf pd_12 rfl) rfl (by show 2 * 0 + _ ≤ _; exact Nat.le_of_eq rfl) (hb hby at_272) (fun _ _ => ⟨rfl, rfl, (by decide : 2 + 0 ≤ _), (by decide : 12 + 0 ≤ _)⟩)
    dsimp only [Pt.U, Pt.locs, Pt.cells, Pt.slots] at X2782 l2785 y2786 z2787 st2788 hQ2784
    subst y2786 z2787
    obtain ⟨rfl, N2789, K2792, g2793, g2794⟩ := hQ2784
    have N2795 : Fr n0 L2779 := by rw [l2785]; exact Fr.app N2771 N2789
    clear l2785 N2789
    have Z2796 : n0 ≤ T2778.heap.size := Nat.le_trans Z2772 K2792.1
    clear Z2772
    clear F2775
    clear F2776
    have k2797 : own_G p e below E0 T2778 (mkF m 275 #[vi p0, vj p1, ss, vj p2, ss, vi p3, vi p4, vi p5, vi (2 : Int32), vd (FP.i2d (p0 >>> ((8 : Int32) &&& 31))), ss, vi f0, vi f1, vi f2, vi g0, vi g1, vi g2, vi (own_val p1 (0 : Int32)), vi (own_val p1 (16 : Int32)), vi (own_val p1 (32 : Int32)), vi (own_val p2 (0 : Int32)), vi (own_val p2 (16 : Int32)), vi (own_val p2 (32 : Int32)), vr a2633, vr a2648, vi ps5, vi ps3, uu, uu, uu, uu, uu, uu, uu, uu, uu, uu] [(.int (own_pos ps5 g2))]) := fun tQ kk => k2777 tQ (st2788 _ kk)
    clear k2777 st2788
    obtain ⟨ps6, hps6⟩ : ∃ z, z = (own_pos ps5 g2) := ⟨_, rfl⟩
    have eq2798 : (own_pos ps5 g2) = ps6 := hps6.symm
    rw [eq2798] at k2797
    obtain ⟨LC6, hLC6⟩ : ∃ z, z = (own_putL LC5 ps5 g2 (.int (2 : Int32))) := ⟨_, rfl⟩
    have F2799 : own_A Z T2778.heap a2633 .int LC6 := by rw [hLC6]; exact g2793
    obtain ⟨LW6, hLW6⟩ : ∃ z, z = (own_putL LW5 ps5 g2 (.double (FP.i2d (own_val p2 (32 : Int32))))) := ⟨_, rfl⟩
    have F2800 : own_A Z T2778.heap a2648 .double LW6 := by rw [hLW6]; exact g2794
    have P6 : own_le ps6 6 := by rw [hps6]; exact own_pos_le P5 _
    have lC6 : LC6.length = 6 := by rw [hLC6, own_putL_len]; exact lC5
    have lW6 : LW6.length = 6 := by rw [hLW6, own_putL_len]; exact lW5
    have k2801 : own_G p e below E0 T2778 (mkF m 322 #[vi p0, vj p1, ss, vj p2, ss, vi p3, vi p4, vi p5, vi (2 : Int32), vd (FP.i2d (p0 >>> ((8 : Int32) &&& 31))), ss, vi f0, vi f1, vi f2, vi g0, vi g1, vi g2, vi (own_val p1 (0 : Int32)), vi (own_val p1 (16 : Int32)), vi (own_val p1 (32 : Int32)), vi (own_val p2 (0 : Int32)), vi (own_val p2 (16 : Int32)), vi (own_val p2 (32 : Int32)), vr a2633, vr a2648, vi ps6, vi ps3, vi ps6, uu, uu, uu, uu, uu, uu, uu, uu, uu] [(.int (3 : Int32))]) := by
      intro tQ kk
      refine k2797 tQ ?_
      refine XS.istore X2782.here hx rfl (hb hby at_275) rfl (l' := #[vi p0, vj p1, ss, vj p2, ss, vi p3, vi p4, vi p5, vi (2 : Int32), vd (FP.i2d (p0 >>> ((8 : Int32) &&& 31))), ss, vi f0, vi f1, vi f2, vi g0, vi g1, vi g2, vi (own_val p1 (0 : Int32)), vi (own_val p1 (16 : Int32)), vi (own_val p1 (32 : Int32)), vi (own_val p2 (0 : Int32)), vi (own_val p2 (16 : Int32)), vi (own_val p2 (32 : Int32)), vr a2633, vr a2648, vi ps6, vi ps3, uu, uu, uu, uu, uu, uu, uu, uu, uu, uu]) rfl ?_
      refine XS.iload X2782.here hx rfl (hb hby at_277) rfl ?_
      refine XS.istore X2782.here hx rfl (hb hby at_279) rfl (l' := #[vi p0, vj p1, ss, vj p2, ss, vi p3, vi p4, vi p5, vi (2 : Int32), vd (FP.i2d (p0 >>> ((8 : Int32) &&& 31))), ss, vi f0, vi f1, vi f2, vi g0, vi g1, vi g2, vi (own_val p1 (0 : Int32)), vi (own_val p1 (16 : Int32)), vi (own_val p1 (32 : Int32)), vi (own_val p2 (0 : Int32)), vi (own_val p2 (16 : Int32)), vi (own_val p2 (32 : Int32)), vr a2633, vr a2648, vi ps6, vi ps3, vi ps6, uu, uu, uu, uu, uu, uu, uu, uu, uu]) rfl ?_
      refine XS.iload X2782.here hx rfl (hb hby at_281) rfl ?_
      show Steps p.tables e below (T2778.setTop (mkF m 283 #[vi p0, vj p1, ss, vj p2, ss, vi p3, vi p4, vi p5, vi (2 : Int32), vd (FP.i2d (p0 >>> ((8 : Int32) &&& 31))), ss, vi f0, vi f1, vi f2, vi g0, vi g1, vi g2, vi (own_val p1 (0 : Int32)), vi (own_val p1 (16 : Int32)), vi (own_val p1 (32 : Int32)), vi (own_val p2 (0 : Int32)), vi (own_val p2 (16 : Int32)), vi (own_val p2 (32 : Int32)), vr a2633, vr a2648, vi ps6, vi ps3, vi ps6, uu, uu, uu, uu, uu, uu, uu, uu, uu] [(.int (2 : Int32))])) tQ
      refine XS.ifYes X2782.here hx rfl (pc0 := 283) (pc' := 298) rfl (hb hby at_283) rfl (own_if_neY (by decide)) (by decide) (by decide) ?_
      refine XS.iload X2782.here hx rfl (hb hby at_298) rfl ?_
      refine XS.iconst X2782.here hx rfl (hb hby at_300) ?_
      refine XS.icmpYes X2782.here hx rfl (pc0 := 301) (pc' := 321) rfl (hb hby at_301) rfl (own_ic_neY (by decide)) (by decide) (by decide) ?_
      show Steps p.tables e below (T2778.setTop (mkF m 321 #[vi p0, vj p1, ss, vj p2, ss, vi p3, vi p4, vi p5, vi (2 : Int32), vd (FP.i2d (p0 >>> ((8 : Int32) &&& 31))), ss, vi f0, vi f1, vi f2, vi g0, vi g1, vi g2, vi (own_val p1 (0 : Int32)), vi (own_val p1 (16 : Int32)), vi (own_val p1 (32 : Int32)), vi (own_val p2 (0 : Int32)), vi (own_val p2 (16 : Int32)), vi (own_val p2 (32 : Int32)), vr a2633, vr a2648, vi ps6, vi ps3, vi ps6, uu, uu, uu, uu, uu, uu, uu, uu, uu] [])) tQ
      refine XS.iconst X2782.here hx rfl (hb hby at_321) ?_
      exact kk
    clear k2797
    obtain ⟨T2802, h2803, cA2804, X2805, e2806, E2807, A2808, st2809⟩ := newP (aty := .int) X2782 hx hZ (tw4 hw) rfl (g := (mkF m 322 #[vi p0, vj p1, ss, vj p2, ss, vi p3, vi p4, vi p5, vi (2 : Int32), vd (FP.i2d (p0 >>> ((8 : Int32) &&& 31))), ss, vi f0, vi f1, vi f2, vi g0, vi g1, vi g2, vi (own_val p1 (0 : Int32)), vi (own_val p1 (16 : Int32)), vi (own_val p1 (32 : Int32)), vi (own_val p2 (0 : Int32)), vi (own_val p2 (16 : Int32)), vi (own_val p2 (32 : Int32)), vr a2633, vr a2648, vi ps6, vi ps3, vi ps6, uu, uu, uu, uu, uu, uu, uu, uu, uu] [(.int (3 : Int32))])) rfl (hb hby at_322) rfl (by decide) (cap := 3) (by decide) (by decide) (by decide) (by decide)
    obtain ⟨a2810, g2811⟩ : ∃ zA : Nat, zA = T2778.heap.size := ⟨_, rfl⟩
    rw [← g2811] at A2808 st2809
    have n2812 : a2633 ≠ a2810 := own_lt_ne F2799.lt g2811
    have n2813 : a2810 ≠ a2633 := fun q => n2812 q.symm
    have n2814 : a2648 ≠ a2810 := own_lt_ne F2800.lt g2811
    have n2815 : a2810 ≠ a2648 := fun q => n2814 q.symm
    have ge2816 : n0 ≤ a2810 := own_ge_of Z2796 g2811
    have Z2817 : n0 ≤ h2803.size := Nat.le_trans Z2796 E2807.1
    clear Z2796
    have F2818 : own_A Z h2803 a2633 .int LC6 := F2799.ext E2807
    clear F2799
    have F2819 : own_A Z h2803 a2648 .double LW6 := F2800.ext E2807
    clear F2800
    have F2820 : own_A Z h2803 a2810 .int [(.int (0 : Int32)), (.int (0 : Int32)), (.int (0 : Int32))] := own_A.new A2808
    have k2821 : own_G p e below E0 T2802 (mkF m 324 #[vi p0, vj p1, ss, vj p2, ss, vi p3, vi p4, vi p5, vi (2 : Int32), vd (FP.i2d (p0 >>> ((8 : Int32) &&& 31))), ss, vi f0, vi f1, vi f2, vi g0, vi g1, vi g2, vi (own_val p1 (0 : Int32)), vi (own_val p1 (16 : Int32)), vi (own_val p1 (32 : Int32)), vi (own_val p2 (0 : Int32)), vi (own_val p2 (16 : Int32)), vi (own_val p2 (32 : Int32)), vr a2633, vr a2648, vi ps6, vi ps3, vi ps6, uu, uu, uu, uu, uu, uu, uu, uu, uu] [(.ref a2810)]) := fun tQ kk => k2801 tQ (st2809 _ kk)
    clear k2801 st2809
    have k2822 : own_G p e below E0 T2802 (mkF m 327 #[vi p0, vj p1, ss, vj p2, ss, vi p3, vi p4, vi p5, vi (2 : Int32), vd (FP.i2d (p0 >>> ((8 : Int32) &&& 31))), ss, vi f0, vi f1, vi f2, vi g0, vi g1, vi g2, vi (own_val p1 (0 : Int32)), vi (own_val p1 (16 : Int32)), vi (own_val p1 (32 : Int32)), vi (own_val p2 (0 : Int32)), vi (own_val p2 (16 : Int32)), vi (own_val p2 (32 : Int32)), vr a2633, vr a2648, vi ps6, vi ps3, vi ps6, uu, uu, uu, uu, uu, uu, uu, uu, uu] [(.int (0 : Int32)), (.int (0 : Int32)), (.ref a2810), (.ref a2810)]) := by
      intro tQ kk
      refine k2821 tQ ?_
      refine XS.dup X2805.here hx rfl (hb hby at_324) rfl rfl ?_
      refine XS.iconst X2805.here hx rfl (hb hby at_325) ?_
      refine XS.iconst X2805.here hx rfl (hb hby at_326) ?_
      exact kk
    clear k2821
    obtain ⟨T2823, h2824, X2825, e2826, W2827, F2828, st2829⟩ := own_A.ist X2805 hx hZ e2806 F2820 (j := (0 : Int32)) (by decide) rfl (g := (mkF m 327 #[vi p0, vj p1, ss, vj p2, ss, vi p3, vi p4, vi p5, vi (2 : Int32), vd (FP.i2d (p0 >>> ((8 : Int32) &&& 31))), ss, vi f0, vi f1, vi f2, vi g0, vi g1, vi g2, vi (own_val p1 (0 : Int32)), vi (own_val p1 (16 : Int32)), vi (own_val p1 (32 : Int32)), vi (own_val p2 (0 : Int32)), vi (own_val p2 (16 : Int32)), vi (own_val p2 (32 : Int32)), vr a2633, vr a2648, vi ps6, vi ps3, vi ps6, uu, uu, uu, uu, uu, uu, uu, uu, uu] [(.int (0 : Int32)), (.int (0 : Int32)), (.ref a2810), (.ref a2810)])) rfl rfl (hb hby at_327)
    have N2830 := Fr.snoc X2825 N2795 ge2816
    have k2831 : own_G p e below E0 T2823 (mkF m 328 #[vi p0, vj p1, ss, vj p2, ss, vi p3, vi p4, vi p5, vi (2 : Int32), vd (FP.i2d (p0 >>> ((8 : Int32) &&& 31))), ss, vi f0, vi f1, vi f2, vi g0, vi g1, vi g2, vi (own_val p1 (0 : Int32)), vi (own_val p1 (16 : Int32)), vi (own_val p1 (32 : Int32)), vi (own_val p2 (0 : Int32)), vi (own_val p2 (16 : Int32)), vi (own_val p2 (32 : Int32)), vr a2633, vr a2648, vi ps6, vi ps3, vi ps6, uu, uu, uu, uu, uu, uu, uu, uu, uu] [(.ref a2810)]) := fun tQ kk => k2822 tQ (st2829 _ kk)
    clear k2822 st2829
    have F2832 : own_A Z h2824 a2633 .int LC6 := F2818.other W2827 n2812
    clear F2818
    have F2833 : own_A Z h2824 a2648 .double LW6 := F2819.other W2827 n2814
    clear F2819
    have Z2834 : n0 ≤ h2824.size := by rw [W2827.size]; exact Z2817
    clear Z2817
    have F2835 : own_A Z h2824 a2810 .int [(.int (0 : Int32)), (.int (0 : Int32)), (.int (0 : Int32))] := F2828
    have k2836 : own_G p e below E0 T2823 (mkF m 332 #[vi p0, vj p1, ss, vj p2, ss, vi p3, vi p4, vi p5, vi (2 : Int32), vd (FP.i2d (p0 >>> ((8 : Int32) &&& 31))), ss, vi f0, vi f1, vi f2, vi g0, vi g1, vi g2, vi (own_val p1 (0 : Int32)), vi (own_val p1 (16 : Int32)), vi (own_val p1 (32 : Int32)), vi (own_val p2 (0 : Int32)), vi (own_val p2 (16 : Int32)), vi (own_val p2 (32 : Int32)), vr a2633, vr a2648, vi ps6, vi ps3, vi ps6, uu, uu, uu, uu, uu, uu, uu, uu, uu] [(.int ps3), (.int (1 : Int32)), (.ref a2810), (.ref a2810)]) := by
      intro tQ kk
      refine k2831 tQ ?_
      refine XS.dup X2825.here hx rfl (hb hby at_328) rfl rfl ?_
      refine XS.iconst X2825.here hx rfl (hb hby at_329) ?_
      refine XS.iload X2825.here hx rfl (hb hby at_330) rfl ?_
      exact kk
    clear k2831
    obtain ⟨T2837, h2838, X2839, e2840, W2841, F2842, st2843⟩ := own_A.ist X2825 hx hZ e2826 F2835 (j := (1 : Int32)) (by decide) rfl (g := (mkF m 332 #[vi p0, vj p1, ss, vj p2, ss, vi p3, vi p4, vi p5, vi (2 : Int32), vd (FP.i2d (p0 >>> ((8 : Int32) &&& 31))), ss, vi f0, vi f1, vi f2, vi g0, vi g1, vi g2, vi (own_val p1 (0 : Int32)), vi (own_val p1 (16 : Int32)), vi (own_val p1 (32 : Int32)), vi (own_val p2 (0 : Int32)), vi (own_val p2 (16 : Int32)), vi (own_val p2 (32 : Int32)), vr a2633, vr a2648, vi ps6, vi ps3, vi ps6, uu, uu, uu, uu, uu, uu, uu, uu, uu] [(.int ps3), (.int (1 : Int32)), (.ref a2810), (.ref a2810)])) rfl rfl (hb hby at_332)
    have N2844 := Fr.snoc X2839 N2830 ge2816
    have k2845 : own_G p e below E0 T2837 (mkF m 333 #[vi p0, vj p1, ss, vj p2, ss, vi p3, vi p4, vi p5, vi (2 : Int32), vd (FP.i2d (p0 >>> ((8 : Int32) &&& 31))), ss, vi f0, vi f1, vi f2, vi g0, vi g1, vi g2, vi (own_val p1 (0 : Int32)), vi (own_val p1 (16 : Int32)), vi (own_val p1 (32 : Int32)), vi (own_val p2 (0 : Int32)), vi (own_val p2 (16 : Int32)), vi (own_val p2 (32 : Int32)), vr a2633, vr a2648, vi ps6, vi ps3, vi ps6, uu, uu, uu, uu, uu, uu, uu, uu, uu] [(.ref a2810)]) := fun tQ kk => k2836 tQ (st2843 _ kk)
    clear k2836 st2843
    have F2846 : own_A Z h2838 a2633 .int LC6 := F2832.other W2841 n2812
    clear F2832
    have F2847 : own_A Z h2838 a2648 .double LW6 := F2833.other W2841 n2814
    clear F2833
    have Z2848 : n0 ≤ h2838.size := by rw [W2841.size]; exact Z2834
    clear Z2834
    have F2849 : own_A Z h2838 a2810 .int [(.int (0 : Int32)), (.int ps3), (.int (0 : Int32))] := F2842
    have k2850 : own_G p e below E0 T2837 (mkF m 337 #[vi p0, vj p1, ss, vj p2, ss, vi p3, vi p4, vi p5, vi (2 : Int32), vd (FP.i2d (p0 >>> ((8 : Int32) &&& 31))), ss, vi f0, vi f1, vi f2, vi g0, vi g1, vi g2, vi (own_val p1 (0 : Int32)), vi (own_val p1 (16 : Int32)), vi (own_val p1 (32 : Int32)), vi (own_val p2 (0 : Int32)), vi (own_val p2 (16 : Int32)), vi (own_val p2 (32 : Int32)), vr a2633, vr a2648, vi ps6, vi ps3, vi ps6, uu, uu, uu, uu, uu, uu, uu, uu, uu] [(.int ps6), (.int (2 : Int32)), (.ref a2810), (.ref a2810)]) := by
      intro tQ kk
      refine k2845 tQ ?_
      refine XS.dup X2839.here hx rfl (hb hby at_333) rfl rfl ?_
      refine XS.iconst X2839.here hx rfl (hb hby at_334) ?_
      refine XS.iload X2839.here hx rfl (hb hby at_335) rfl ?_
      exact kk
    clear k2845
    obtain ⟨T2851, h2852, X2853, e2854, W2855, F2856, st2857⟩ := own_A.ist X2839 hx hZ e2840 F2849 (j := (2 : Int32)) (by decide) rfl (g := (mkF m 337 #[vi p0, vj p1, ss, vj p2, ss, vi p3, vi p4, vi p5, vi (2 : Int32), vd (FP.i2d (p0 >>> ((8 : Int32) &&& 31))), ss, vi f0, vi f1, vi f2, vi g0, vi g1, vi g2, vi (own_val p1 (0 : Int32)), vi (own_val p1 (16 : Int32)), vi (own_val p1 (32 : Int32)), vi (own_val p2 (0 : Int32)), vi (own_val p2 (16 : Int32)), vi (own_val p2 (32 : Int32)), vr a2633, vr a2648, vi ps6, vi ps3, vi ps6, uu, uu, uu, uu, uu, uu, uu, uu, uu] [(.int ps6), (.int (2 : Int32)), (.ref a2810), (.ref a2810)])) rfl rfl (hb hby at_337)
    have N2858 := Fr.snoc X2853 N2844 ge2816
    have k2859 : own_G p e below E0 T2851 (mkF m 338 #[vi p0, vj p1, ss, vj p2, ss, vi p3, vi p4, vi p5, vi (2 : Int32), vd (FP.i2d (p0 >>> ((8 : Int32) &&& 31))), ss, vi f0, vi f1, vi f2, vi g0, vi g1, vi g2, vi (own_val p1 (0 : Int32)), vi (own_val p1 (16 : Int32)), vi (own_val p1 (32 : Int32)), vi (own_val p2 (0 : Int32)), vi (own_val p2 (16 : Int32)), vi (own_val p2 (32 : Int32)), vr a2633, vr a2648, vi ps6, vi ps3, vi ps6, uu, uu, uu, uu, uu, uu, uu, uu, uu] [(.ref a2810)]) := fun tQ kk => k2850 tQ (st2857 _ kk)
    clear k2850 st2857
    have F2860 : own_A Z h2852 a2633 .int LC6 := F2846.other W2855 n2812
    clear F2846
    have F2861 : own_A Z h2852 a2648 .double LW6 := F2847.other W2855 n2814
    clear F2847
    have Z2862 : n0 ≤ h2852.size := by rw [W2855.size]; exact Z2848
    clear Z2848
    have F2863 : own_A Z h2852 a2810 .int [(.int (0 : Int32)), (.int ps3), (.int ps6)] := F2856
    have k2864 : own_G p e below E0 T2851 (mkF m 341 #[vi p0, vj p1, ss, vj p2, ss, vi p3, vi p4, vi p5, vi (2 : Int32), vd (FP.i2d (p0 >>> ((8 : Int32) &&& 31))), ss, vi f0, vi f1, vi f2, vi g0, vi g1, vi g2, vi (own_val p1 (0 : Int32)), vi (own_val p1 (16 : Int32)), vi (own_val p1 (32 : Int32)), vi (own_val p2 (0 : Int32)), vi (own_val p2 (16 : Int32)), vi (own_val p2 (32 : Int32)), vr a2633, vr a2648, vi ps6, vi ps3, vi ps6, vr a2810, uu, uu, uu, uu, uu, uu, uu, uu] [(.int (3 : Int32))]) := by
      intro tQ kk
      refine k2859 tQ ?_
      refine XS.astore X2853.here hx rfl (hb hby at_338) rfl rfl (l' := #[vi p0, vj p1, ss, vj p2, ss, vi p3, vi p4, vi p5, vi (2 : Int32), vd (FP.i2d (p0 >>> ((8 : Int32) &&& 31))), ss, vi f0, vi f1, vi f2, vi g0, vi g1, vi g2, vi (own_val p1 (0 : Int32)), vi (own_val p1 (16 : Int32)), vi (own_val p1 (32 : Int32)), vi (own_val p2 (0 : Int32)), vi (own_val p2 (16 : Int32)), vi (own_val p2 (32 : Int32)), vr a2633, vr a2648, vi ps6, vi ps3, vi ps6, vr a2810, uu, uu, uu, uu, uu, uu, uu, uu]) rfl ?_
      refine XS.iconst X2853.here hx rfl (hb hby at_340) ?_
      exact kk
    clear k2859
    obtain ⟨T2865, h2866, cA2867, X2868, e2869, E2870, A2871, st2872⟩ := newP (aty := .double) X2853 hx hZ (tw5 hw) e2854 (g := (mkF m 341 #[vi p0, vj p1, ss, vj p2, ss, vi p3, vi p4, vi p5, vi (2 : Int32), vd (FP.i2d (p0 >>> ((8 : Int32) &&& 31))), ss, vi f0, vi f1, vi f2, vi g0, vi g1, vi g2, vi (own_val p1 (0 : Int32)), vi (own_val p1 (16 : Int32)), vi (own_val p1 (32 : Int32)), vi (own_val p2 (0 : Int32)), vi (own_val p2 (16 : Int32)), vi (own_val p2 (32 : Int32)), vr a2633, vr a2648, vi ps6, vi ps3, vi ps6, vr a2810, uu, uu, uu, uu, uu, uu, uu, uu] [(.int (3 : Int32))])) rfl (hb hby at_341) rfl (by decide) (cap := 3) (by decide) (by decide) (by decide) (by decide)
    obtain ⟨a2873, g2874⟩ : ∃ zA : Nat, zA = h2852.size := ⟨_, rfl⟩
    rw [← g2874] at A2871 st2872
    have n2875 : a2633 ≠ a2873 := own_lt_ne F2860.lt g2874
    have n2876 : a2873 ≠ a2633 := fun q => n2875 q.symm
    have n2877 : a2648 ≠ a2873 := own_lt_ne F2861.lt g2874
    have n2878 : a2873 ≠ a2648 := fun q => n2877 q.symm
    have n2879 : a2810 ≠ a2873 := own_lt_ne F2863.lt g2874
    have n2880 : a2873 ≠ a2810 := fun q => n2879 q.symm
    have ge2881 : n0 ≤ a2873 := own_ge_of Z2862 g2874
    have Z2882 : n0 ≤ h2866.size := Nat.le_trans Z2862 E2870.1
    clear Z2862
    have F2883 : own_A Z h2866 a2633 .int LC6 := F2860.ext E2870
    clear F2860
    have F2884 : own_A Z h2866 a2648 .double LW6 := F2861.ext E2870
    clear F2861
    have F2885 : own_A Z h2866 a2810 .int [(.int (0 : Int32)), (.int ps3), (.int ps6)] := F2863.ext E2870
    clear F2863
    have F2886 : own_A Z h2866 a2873 .double [(.double (0 : UInt64)), (.double (0 : UInt64)), (.double (0 : UInt64))] := own_A.new A2871
    have k2887 : own_G p e below E0 T2865 (mkF m 343 #[vi p0, vj p1, ss, vj p2, ss, vi p3, vi p4, vi p5, vi (2 : Int32), vd (FP.i2d (p0 >>> ((8 : Int32) &&& 31))), ss, vi f0, vi f1, vi f2, vi g0, vi g1, vi g2, vi (own_val p1 (0 : Int32)), vi (own_val p1 (16 : Int32)), vi (own_val p1 (32 : Int32)), vi (own_val p2 (0 : Int32)), vi (own_val p2 (16 : Int32)), vi (own_val p2 (32 : Int32)), vr a2633, vr a2648, vi ps6, vi ps3, vi ps6, vr a2810, uu, uu, uu, uu, uu, uu, uu, uu] [(.ref a2873)]) := fun tQ kk => k2864 tQ (st2872 _ kk)
    clear k2864 st2872
    have k2888 : own_G p e below E0 T2865 (mkF m 348 #[vi p0, vj p1, ss, vj p2, ss, vi p3, vi p4, vi p5, vi (2 : Int32), vd (FP.i2d (p0 >>> ((8 : Int32) &&& 31))), ss, vi f0, vi f1, vi f2, vi g0, vi g1, vi g2, vi (own_val p1 (0 : Int32)), vi (own_val p1 (16 : Int32)), vi (own_val p1 (32 : Int32)), vi (own_val p2 (0 : Int32)), vi (own_val p2 (16 : Int32)), vi (own_val p2 (32 : Int32)), vr a2633, vr a2648, vi ps6, vi ps3, vi ps6, vr a2810, uu, uu, uu, uu, uu, uu, uu, uu] [(.double (FP.i2d p3)), (.int (0 : Int32)), (.ref a2873), (.ref a2873)]) := by
      intro tQ kk
      refine k2887 tQ ?_
      refine XS.dup X2868.here hx rfl (hb hby at_343) rfl rfl ?_
      refine XS.iconst X2868.here hx rfl (hb hby at_344) ?_
      refine XS.iload X2868.here hx rfl (hb hby at_345) rfl ?_
      refine XS.i2dS X2868.here hx rfl (hb hby at_347) rfl rfl ?_
      exact kk
    clear k2887
    obtain ⟨T2889, h2890, X2891, e2892, W2893, F2894, st2895⟩ := own_A.dst X2868 hx hZ e2869 F2886 (j := (0 : Int32)) (by decide) rfl (g := (mkF m 348 #[vi p0, vj p1, ss, vj p2, ss, vi p3, vi p4, vi p5, vi (2 : Int32), vd (FP.i2d (p0 >>> ((8 : Int32) &&& 31))), ss, vi f0, vi f1, vi f2, vi g0, vi g1, vi g2, vi (own_val p1 (0 : Int32)), vi (own_val p1 (16 : Int32)), vi (own_val p1 (32 : Int32)), vi (own_val p2 (0 : Int32)), vi (own_val p2 (16 : Int32)), vi (own_val p2 (32 : Int32)), vr a2633, vr a2648, vi ps6, vi ps3, vi ps6, vr a2810, uu, uu, uu, uu, uu, uu, uu, uu] [(.double (FP.i2d p3)), (.int (0 : Int32)), (.ref a2873), (.ref a2873)])) rfl rfl (hb hby at_348)
    have N2896 := Fr.snoc X2891 N2858 ge2881
    have k2897 : own_G p e below E0 T2889 (mkF m 349 #[vi p0, vj p1, ss, vj p2, ss, vi p3, vi p4, vi p5, vi (2 : Int32), vd (FP.i2d (p0 >>> ((8 : Int32) &&& 31))), ss, vi f0, vi f1, vi f2, vi g0, vi g1, vi g2, vi (own_val p1 (0 : Int32)), vi (own_val p1 (16 : Int32)), vi (own_val p1 (32 : Int32)), vi (own_val p2 (0 : Int32)), vi (own_val p2 (16 : Int32)), vi (own_val p2 (32 : Int32)), vr a2633, vr a2648, vi ps6, vi ps3, vi ps6, vr a2810, uu, uu, uu, uu, uu, uu, uu, uu] [(.ref a2873)]) := fun tQ kk => k2888 tQ (st2895 _ kk)
    clear k2888 st2895
    have F2898 : own_A Z h2890 a2633 .int LC6 := F2883.other W2893 n2875
    clear F2883
    have F2899 : own_A Z h2890 a2648 .double LW6 := F2884.other W2893 n2877
    clear F2884
    have F2900 : own_A Z h2890 a2810 .int [(.int (0 : Int32)), (.int ps3), (.int ps6)] := F2885.other W2893 n2879
    clear F2885
    have Z2901 : n0 ≤ h2890.size := by rw [W2893.size]; exact Z2882
    clear Z2882
    have F2902 : own_A Z h2890 a2873 .double [(.double (FP.i2d p3)), (.double (0 : UInt64)), (.double (0 : UInt64))] := F2894
    have k2903 : own_G p e below E0 T2889 (mkF m 354 #[vi p0, vj p1, ss, vj p2, ss, vi p3, vi p4, vi p5, vi (2 : Int32), vd (FP.i2d (p0 >>> ((8 : Int32) &&& 31))), ss, vi f0, vi f1, vi f2, vi g0, vi g1, vi g2, vi (own_val p1 (0 : Int32)), vi (own_val p1 (16 : Int32)), vi (own_val p1 (32 : Int32)), vi (own_val p2 (0 : Int32)), vi (own_val p2 (16 : Int32)), vi (own_val p2 (32 : Int32)), vr a2633, vr a2648, vi ps6, vi ps3, vi ps6, vr a2810, uu, uu, uu, uu, uu, uu, uu, uu] [(.double (FP.i2d p4)), (.int (1 : Int32)), (.ref a2873), (.ref a2873)]) := by
      intro tQ kk
      refine k2897 tQ ?_
      refine XS.dup X2891.here hx rfl (hb hby at_349) rfl rfl ?_
      refine XS.iconst X2891.here hx rfl (hb hby at_350) ?_
      refine XS.iload X2891.here hx rfl (hb hby at_351) rfl ?_
      refine XS.i2dS X2891.here hx rfl (hb hby at_353) rfl rfl ?_
      exact kk
    clear k2897
    obtain ⟨T2904, h2905, X2906, e2907, W2908, F2909, st2910⟩ := own_A.dst X2891 hx hZ e2892 F2902 (j := (1 : Int32)) (by decide) rfl (g := (mkF m 354 #[vi p0, vj p1, ss, vj p2, ss, vi p3, vi p4, vi p5, vi (2 : Int32), vd (FP.i2d (p0 >>> ((8 : Int32) &&& 31))), ss, vi f0, vi f1, vi f2, vi g0, vi g1, vi g2, vi (own_val p1 (0 : Int32)), vi (own_val p1 (16 : Int32)), vi (own_val p1 (32 : Int32)), vi (own_val p2 (0 : Int32)), vi (own_val p2 (16 : Int32)), vi (own_val p2 (32 : Int32)), vr a2633, vr a2648, vi ps6, vi ps3, vi ps6, vr a2810, uu, uu, uu, uu, uu, uu, uu, uu] [(.double (FP.i2d p4)), (.int (1 : Int32)), (.ref a2873), (.ref a2873)])) rfl rfl (hb hby at_354)
    have N2911 := Fr.snoc X2906 N2896 ge2881
    have k2912 : own_G p e below E0 T2904 (mkF m 355 #[vi p0, vj p1, ss, vj p2, ss, vi p3, vi p4, vi p5, vi (2 : Int32), vd (FP.i2d (p0 >>> ((8 : Int32) &&& 31))), ss, vi f0, vi f1, vi f2, vi g0, vi g1, vi g2, vi (own_val p1 (0 : Int32)), vi (own_val p1 (16 : Int32)), vi (own_val p1 (32 : Int32)), vi (own_val p2 (0 : Int32)), vi (own_val p2 (16 : Int32)), vi (own_val p2 (32 : Int32)), vr a2633, vr a2648, vi ps6, vi ps3, vi ps6, vr a2810, uu, uu, uu, uu, uu, uu, uu, uu] [(.ref a2873)]) := fun tQ kk => k2903 tQ (st2910 _ kk)
    clear k2903 st2910
    have F2913 : own_A Z h2905 a2633 .int LC6 := F2898.other W2908 n2875
    clear F2898
    have F2914 : own_A Z h2905 a2648 .double LW6 := F2899.other W2908 n2877
    clear F2899
    have F2915 : own_A Z h2905 a2810 .int [(.int (0 : Int32)), (.int ps3), (.int ps6)] := F2900.other W2908 n2879
    clear F2900
    have Z2916 : n0 ≤ h2905.size := by rw [W2908.size]; exact Z2901
    clear Z2901
    have F2917 : own_A Z h2905 a2873 .double [(.double (FP.i2d p3)), (.double (FP.i2d p4)), (.double (0 : UInt64))] := F2909
    have k2918 : own_G p e below E0 T2904 (mkF m 360 #[vi p0, vj p1, ss, vj p2, ss, vi p3, vi p4, vi p5, vi (2 : Int32), vd (FP.i2d (p0 >>> ((8 : Int32) &&& 31))), ss, vi f0, vi f1, vi f2, vi g0, vi g1, vi g2, vi (own_val p1 (0 : Int32)), vi (own_val p1 (16 : Int32)), vi (own_val p1 (32 : Int32)), vi (own_val p2 (0 : Int32)), vi (own_val p2 (16 : Int32)), vi (own_val p2 (32 : Int32)), vr a2633, vr a2648, vi ps6, vi ps3, vi ps6, vr a2810, uu, uu, uu, uu, uu, uu, uu, uu] [(.double (FP.i2d p5)), (.int (2 : Int32)), (.ref a2873), (.ref a2873)]) := by
      intro tQ kk
      refine k2912 tQ ?_
      refine XS.dup X2906.here hx rfl (hb hby at_355) rfl rfl ?_
      refine XS.iconst X2906.here hx rfl (hb hby at_356) ?_
      refine XS.iload X2906.here hx rfl (hb hby at_357) rfl ?_
      refine XS.i2dS X2906.here hx rfl (hb hby at_359) rfl rfl ?_
      exact kk
    clear k2912
    obtain ⟨T2919, h2920, X2921, e2922, W2923, F2924, st2925⟩ := own_A.dst X2906 hx hZ e2907 F2917 (j := (2 : Int32)) (by decide) rfl (g := (mkF m 360 #[vi p0, vj p1, ss, vj p2, ss, vi p3, vi p4, vi p5, vi (2 : Int32), vd (FP.i2d (p0 >>> ((8 : Int32) &&& 31))), ss, vi f0, vi f1, vi f2, vi g0, vi g1, vi g2, vi (own_val p1 (0 : Int32)), vi (own_val p1 (16 : Int32)), vi (own_val p1 (32 : Int32)), vi (own_val p2 (0 : Int32)), vi (own_val p2 (16 : Int32)), vi (own_val p2 (32 : Int32)), vr a2633, vr a2648, vi ps6, vi ps3, vi ps6, vr a2810, uu, uu, uu, uu, uu, uu, uu, uu] [(.double (FP.i2d p5)), (.int (2 : Int32)), (.ref a2873), (.ref a2873)])) rfl rfl (hb hby at_360)
    have N2926 := Fr.snoc X2921 N2911 ge2881
    have k2927 : own_G p e below E0 T2919 (mkF m 361 #[vi p0, vj p1, ss, vj p2, ss, vi p3, vi p4, vi p5, vi (2 : Int32), vd (FP.i2d (p0 >>> ((8 : Int32) &&& 31))), ss, vi f0, vi f1, vi f2, vi g0, vi g1, vi g2, vi (own_val p1 (0 : Int32)), vi (own_val p1 (16 : Int32)), vi (own_val p1 (32 : Int32)), vi (own_val p2 (0 : Int32)), vi (own_val p2 (16 : Int32)), vi (own_val p2 (32 : Int32)), vr a2633, vr a2648, vi ps6, vi ps3, vi ps6, vr a2810, uu, uu, uu, uu, uu, uu, uu, uu] [(.ref a2873)]) := fun tQ kk => k2918 tQ (st2925 _ kk)
    clear k2918 st2925
    have F2928 : own_A Z h2920 a2633 .int LC6 := F2913.other W2923 n2875
    clear F2913
    have F2929 : own_A Z h2920 a2648 .double LW6 := F2914.other W2923 n2877
    clear F2914
    have F2930 : own_A Z h2920 a2810 .int [(.int (0 : Int32)), (.int ps3), (.int ps6)] := F2915.other W2923 n2879
    clear F2915
    have Z2931 : n0 ≤ h2920.size := by rw [W2923.size]; exact Z2916
    clear Z2916
    have F2932 : own_A Z h2920 a2873 .double [(.double (FP.i2d p3)), (.double (FP.i2d p4)), (.double (FP.i2d p5))] := F2924
    have k2933 : own_G p e below E0 T2919 (mkF m 365 #[vi p0, vj p1, ss, vj p2, ss, vi p3, vi p4, vi p5, vi (2 : Int32), vd (FP.i2d (p0 >>> ((8 : Int32) &&& 31))), ss, vi f0, vi f1, vi f2, vi g0, vi g1, vi g2, vi (own_val p1 (0 : Int32)), vi (own_val p1 (16 : Int32)), vi (own_val p1 (32 : Int32)), vi (own_val p2 (0 : Int32)), vi (own_val p2 (16 : Int32)), vi (own_val p2 (32 : Int32)), vr a2633, vr a2648, vi ps6, vi ps3, vi ps6, vr a2810, vr a2873, uu, uu, uu, uu, uu, uu, uu] [(.int (2 : Int32))]) := by
      intro tQ kk
      refine k2927 tQ ?_
      refine XS.astore X2921.here hx rfl (hb hby at_361) rfl rfl (l' := #[vi p0, vj p1, ss, vj p2, ss, vi p3, vi p4, vi p5, vi (2 : Int32), vd (FP.i2d (p0 >>> ((8 : Int32) &&& 31))), ss, vi f0, vi f1, vi f2, vi g0, vi g1, vi g2, vi (own_val p1 (0 : Int32)), vi (own_val p1 (16 : Int32)), vi (own_val p1 (32 : Int32)), vi (own_val p2 (0 : Int32)), vi (own_val p2 (16 : Int32)), vi (own_val p2 (32 : Int32)), vr a2633, vr a2648, vi ps6, vi ps3, vi ps6, vr a2810, vr a2873, uu, uu, uu, uu, uu, uu, uu]) rfl ?_
      refine XS.iload X2921.here hx rfl (hb hby at_363) rfl ?_
      exact kk
    clear k2927
    obtain ⟨T2934, h2935, cA2936, X2937, e2938, E2939, A2940, st2941⟩ := newP (aty := .double) X2921 hx hZ (tw5 hw) e2922 (g := (mkF m 365 #[vi p0, vj p1, ss, vj p2, ss, vi p3, vi p4, vi p5, vi (2 : Int32), vd (FP.i2d (p0 >>> ((8 : Int32) &&& 31))), ss, vi f0, vi f1, vi f2, vi g0, vi g1, vi g2, vi (own_val p1 (0 : Int32)), vi (own_val p1 (16 : Int32)), vi (own_val p1 (32 : Int32)), vi (own_val p2 (0 : Int32)), vi (own_val p2 (16 : Int32)), vi (own_val p2 (32 : Int32)), vr a2633, vr a2648, vi ps6, vi ps3, vi ps6, vr a2810, vr a2873, uu, uu, uu, uu, uu, uu, uu] [(.int (2 : Int32))])) rfl (hb hby at_365) rfl (by decide) (cap := 2) (by decide) (by decide) (by decide) (by decide)
    obtain ⟨a2942, g2943⟩ : ∃ zA : Nat, zA = h2920.size := ⟨_, rfl⟩
    rw [← g2943] at A2940 st2941
    have n2944 : a2633 ≠ a2942 := own_lt_ne F2928.lt g2943
    have n2945 : a2942 ≠ a2633 := fun q => n2944 q.symm
    have n2946 : a2648 ≠ a2942 := own_lt_ne F2929.lt g2943
    have n2947 : a2942 ≠ a2648 := fun q => n2946 q.symm
    have n2948 : a2810 ≠ a2942 := own_lt_ne F2930.lt g2943
    have n2949 : a2942 ≠ a2810 := fun q => n2948 q.symm
    have n2950 : a2873 ≠ a2942 := own_lt_ne F2932.lt g2943
    have n2951 : a2942 ≠ a2873 := fun q => n2950 q.symm
    have ge2952 : n0 ≤ a2942 := own_ge_of Z2931 g2943
    have Z2953 : n0 ≤ h2935.size := Nat.le_trans Z2931 E2939.1
    clear Z2931
    have F2954 : own_A Z h2935 a2633 .int LC6 := F2928.ext E2939
    clear F2928
    have F2955 : own_A Z h2935 a2648 .double LW6 := F2929.ext E2939
    clear F2929
    have F2956 : own_A Z h2935 a2810 .int [(.int (0 : Int32)), (.int ps3), (.int ps6)] := F2930.ext E2939
    clear F2930
    have F2957 : own_A Z h2935 a2873 .double [(.double (FP.i2d p3)), (.double (FP.i2d p4)), (.double (FP.i2d p5))] := F2932.ext E2939
    clear F2932
    have F2958 : own_A Z h2935 a2942 .double [(.double (0 : UInt64)), (.double (0 : UInt64))] := own_A.new A2940
    have k2959 : own_G p e below E0 T2934 (mkF m 367 #[vi p0, vj p1, ss, vj p2, ss, vi p3, vi p4, vi p5, vi (2 : Int32), vd (FP.i2d (p0 >>> ((8 : Int32) &&& 31))), ss, vi f0, vi f1, vi f2, vi g0, vi g1, vi g2, vi (own_val p1 (0 : Int32)), vi (own_val p1 (16 : Int32)), vi (own_val p1 (32 : Int32)), vi (own_val p2 (0 : Int32)), vi (own_val p2 (16 : Int32)), vi (own_val p2 (32 : Int32)), vr a2633, vr a2648, vi ps6, vi ps3, vi ps6, vr a2810, vr a2873, uu, uu, uu, uu, uu, uu, uu] [(.ref a2942)]) := fun tQ kk => k2933 tQ (st2941 _ kk)
    clear k2933 st2941
    have k2960 : own_G p e below E0 T2934 (mkF m 380 #[vi p0, vj p1, ss, vj p2, ss, vi p3, vi p4, vi p5, vi (2 : Int32), vd (FP.i2d (p0 >>> ((8 : Int32) &&& 31))), ss, vi f0, vi f1, vi f2, vi g0, vi g1, vi g2, vi (own_val p1 (0 : Int32)), vi (own_val p1 (16 : Int32)), vi (own_val p1 (32 : Int32)), vi (own_val p2 (0 : Int32)), vi (own_val p2 (16 : Int32)), vi (own_val p2 (32 : Int32)), vr a2633, vr a2648, vi ps6, vi ps3, vi ps6, vr a2810, vr a2873, vr a2942, uu, uu, uu, uu, uu, uu] [(.double (FP.i2d (p0 >>> ((8 : Int32) &&& 31)))), (.int (0 : Int32)), (.ref a2942)]) := by
      intro tQ kk
      refine k2959 tQ ?_
      refine XS.astore X2937.here hx rfl (hb hby at_367) rfl rfl (l' := #[vi p0, vj p1, ss, vj p2, ss, vi p3, vi p4, vi p5, vi (2 : Int32), vd (FP.i2d (p0 >>> ((8 : Int32) &&& 31))), ss, vi f0, vi f1, vi f2, vi g0, vi g1, vi g2, vi (own_val p1 (0 : Int32)), vi (own_val p1 (16 : Int32)), vi (own_val p1 (32 : Int32)), vi (own_val p2 (0 : Int32)), vi (own_val p2 (16 : Int32)), vi (own_val p2 (32 : Int32)), vr a2633, vr a2648, vi ps6, vi ps3, vi ps6, vr a2810, vr a2873, vr a2942, uu, uu, uu, uu, uu, uu]) rfl ?_
      refine XS.iload X2937.here hx rfl (hb hby at_369) rfl ?_
      refine XS.iconst X2937.here hx rfl (hb hby at_371) ?_
      refine XS.icmpNo X2937.here hx rfl (hb hby at_372) rfl (own_ic_ltN (by decide)) ?_
      show Steps p.tables e below (T2934.setTop (mkF m 375 #[vi p0, vj p1, ss, vj p2, ss, vi p3, vi p4, vi p5, vi (2 : Int32), vd (FP.i2d (p0 >>> ((8 : Int32) &&& 31))), ss, vi f0, vi f1, vi f2, vi g0, vi g1, vi g2, vi (own_val p1 (0 : Int32)), vi (own_val p1 (16 : Int32)), vi (own_val p1 (32 : Int32)), vi (own_val p2 (0 : Int32)), vi (own_val p2 (16 : Int32)), vi (own_val p2 (32 : Int32)), vr a2633, vr a2648, vi ps6, vi ps3, vi ps6, vr a2810, vr a2873, vr a2942, uu, uu, uu, uu, uu, uu] [])) tQ
      refine XS.aload X2937.here hx rfl (hb hby at_375) rfl rfl ?_
      refine XS.iconst X2937.here hx rfl (hb hby at_377) ?_
      refine XS.dload X2937.here hx rfl (hb hby at_378) rfl ?_
      exact kk
    clear k2959
    obtain ⟨T2961, h2962, X2963, e2964, W2965, F2966, st2967⟩ := own_A.dst X2937 hx hZ e2938 F2958 (j := (0 : Int32)) (by decide) rfl (g := (mkF m 380 #[vi p0, vj p1, ss, vj p2, ss, vi p3, vi p4, vi p5, vi (2 : Int32), vd (FP.i2d (p0 >>> ((8 : Int32) &&& 31))), ss, vi f0, vi f1, vi f2, vi g0, vi g1, vi g2, vi (own_val p1 (0 : Int32)), vi (own_val p1 (16 : Int32)), vi (own_val p1 (32 : Int32)), vi (own_val p2 (0 : Int32)), vi (own_val p2 (16 : Int32)), vi (own_val p2 (32 : Int32)), vr a2633, vr a2648, vi ps6, vi ps3, vi ps6, vr a2810, vr a2873, vr a2942, uu, uu, uu, uu, uu, uu] [(.double (FP.i2d (p0 >>> ((8 : Int32) &&& 31)))), (.int (0 : Int32)), (.ref a2942)])) rfl rfl (hb hby at_380)
    have N2968 := Fr.snoc X2963 N2926 ge2952
    have k2969 : own_G p e below E0 T2961 (mkF m 381 #[vi p0, vj p1, ss, vj p2, ss, vi p3, vi p4, vi p5, vi (2 : Int32), vd (FP.i2d (p0 >>> ((8 : Int32) &&& 31))), ss, vi f0, vi f1, vi f2, vi g0, vi g1, vi g2, vi (own_val p1 (0 : Int32)), vi (own_val p1 (16 : Int32)), vi (own_val p1 (32 : Int32)), vi (own_val p2 (0 : Int32)), vi (own_val p2 (16 : Int32)), vi (own_val p2 (32 : Int32)), vr a2633, vr a2648, vi ps6, vi ps3, vi ps6, vr a2810, vr a2873, vr a2942, uu, uu, uu, uu, uu, uu] []) := fun tQ kk => k2960 tQ (st2967 _ kk)
    clear k2960 st2967
    have F2970 : own_A Z h2962 a2633 .int LC6 := F2954.other W2965 n2944
    clear F2954
    have F2971 : own_A Z h2962 a2648 .double LW6 := F2955.other W2965 n2946
    clear F2955
    have F2972 : own_A Z h2962 a2810 .int [(.int (0 : Int32)), (.int ps3), (.int ps6)] := F2956.other W2965 n2948
    clear F2956
    have F2973 : own_A Z h2962 a2873 .double [(.double (FP.i2d p3)), (.double (FP.i2d p4)), (.double (FP.i2d p5))] := F2957.other W2965 n2950
    clear F2957
    have Z2974 : n0 ≤ h2962.size := by rw [W2965.size]; exact Z2953
    clear Z2953
    have F2975 : own_A Z h2962 a2942 .double [(.double (FP.i2d (p0 >>> ((8 : Int32) &&& 31)))), (.double (0 : UInt64))] := F2966
    have k2976 : own_G p e below E0 T2961 (mkF m 392 #[vi p0, vj p1, ss, vj p2, ss, vi p3, vi p4, vi p5, vi (2 : Int32), vd (FP.i2d (p0 >>> ((8 : Int32) &&& 31))), ss, vi f0, vi f1, vi f2, vi g0, vi g1, vi g2, vi (own_val p1 (0 : Int32)), vi (own_val p1 (16 : Int32)), vi (own_val p1 (32 : Int32)), vi (own_val p2 (0 : Int32)), vi (own_val p2 (16 : Int32)), vi (own_val p2 (32 : Int32)), vr a2633, vr a2648, vi ps6, vi ps3, vi ps6, vr a2810, vr a2873, vr a2942, uu, uu, uu, uu, uu, uu] [(.double (FP.i2d (p0 >>> ((8 : Int32) &&& 31)))), (.int (1 : Int32)), (.ref a2942)]) := by
      intro tQ kk
      refine k2969 tQ ?_
      refine XS.iload X2963.here hx rfl (hb hby at_381) rfl ?_
      refine XS.iconst X2963.here hx rfl (hb hby at_383) ?_
      refine XS.icmpNo X2963.here hx rfl (hb hby at_384) rfl (own_ic_ltN (by decide)) ?_
      refine XS.aload X2963.here hx rfl (hb hby at_387) rfl rfl ?_
      show Steps p.tables e below (T2961.setTop (mkF m 389 #[vi p0, vj p1, ss, vj p2, ss, vi p3, vi p4, vi p5, vi (2 : Int32), vd (FP.i2d (p0 >>> ((8 : Int32) &&& 31))), ss, vi f0, vi f1, vi f2, vi g0, vi g1, vi g2, vi (own_val p1 (0 : Int32)), vi (own_val p1 (16 : Int32)), vi (own_val p1 (32 : Int32)), vi (own_val p2 (0 : Int32)), vi (own_val p2 (16 : Int32)), vi (own_val p2 (32 : Int32)), vr a2633, vr a2648, vi ps6, vi ps3, vi ps6, vr a2810, vr a2873, vr a2942, uu, uu, uu, uu, uu, uu] [(.ref a2942)])) tQ
      refine XS.iconst X2963.here hx rfl (hb hby at_389) ?_
      refine XS.dload X2963.here hx rfl (hb hby at_390) rfl ?_
      exact kk
    clear k2969
    obtain ⟨T2977, h2978, X2979, e2980, W2981, F2982, st2983⟩ := own_A.dst X2963 hx hZ e2964 F2975 (j := (1 : Int32)) (by decide) rfl (g := (mkF m 392 #[vi p0, vj p1, ss, vj p2, ss, vi p3, vi p4, vi p5, vi (2 : Int32), vd (FP.i2d (p0 >>> ((8 : Int32) &&& 31))), ss, vi f0, vi f1, vi f2, vi g0, vi g1, vi g2, vi (own_val p1 (0 : Int32)), vi (own_val p1 (16 : Int32)), vi (own_val p1 (32 : Int32)), vi (own_val p2 (0 : Int32)), vi (own_val p2 (16 : Int32)), vi (own_val p2 (32 : Int32)), vr a2633, vr a2648, vi ps6, vi ps3, vi ps6, vr a2810, vr a2873, vr a2942, uu, uu, uu, uu, uu, uu] [(.double (FP.i2d (p0 >>> ((8 : Int32) &&& 31)))), (.int (1 : Int32)), (.ref a2942)])) rfl rfl (hb hby at_392)
    have N2984 := Fr.snoc X2979 N2968 ge2952
    have k2985 : own_G p e below E0 T2977 (mkF m 393 #[vi p0, vj p1, ss, vj p2, ss, vi p3, vi p4, vi p5, vi (2 : Int32), vd (FP.i2d (p0 >>> ((8 : Int32) &&& 31))), ss, vi f0, vi f1, vi f2, vi g0, vi g1, vi g2, vi (own_val p1 (0 : Int32)), vi (own_val p1 (16 : Int32)), vi (own_val p1 (32 : Int32)), vi (own_val p2 (0 : Int32)), vi (own_val p2 (16 : Int32)), vi (own_val p2 (32 : Int32)), vr a2633, vr a2648, vi ps6, vi ps3, vi ps6, vr a2810, vr a2873, vr a2942, uu, uu, uu, uu, uu, uu] []) := fun tQ kk => k2976 tQ (st2983 _ kk)
    clear k2976 st2983
    have F2986 : own_A Z h2978 a2633 .int LC6 := F2970.other W2981 n2944
    clear F2970
    have F2987 : own_A Z h2978 a2648 .double LW6 := F2971.other W2981 n2946
    clear F2971
    have F2988 : own_A Z h2978 a2810 .int [(.int (0 : Int32)), (.int ps3), (.int ps6)] := F2972.other W2981 n2948
    clear F2972
    have F2989 : own_A Z h2978 a2873 .double [(.double (FP.i2d p3)), (.double (FP.i2d p4)), (.double (FP.i2d p5))] := F2973.other W2981 n2950
    clear F2973
    have Z2990 : n0 ≤ h2978.size := by rw [W2981.size]; exact Z2974
    clear Z2974
    have F2991 : own_A Z h2978 a2942 .double [(.double (FP.i2d (p0 >>> ((8 : Int32) &&& 31)))), (.double (FP.i2d (p0 >>> ((8 : Int32) &&& 31))))] := F2982
    obtain ⟨T2992, h2993, X2994, e2995, E2996, A2997, D2998, -, st2999⟩ := newO X2979 hx hZ hown (tw9 hw) (tw10 hw) (tw11 hw) e2980 (g := (mkF m 393 #[vi p0, vj p1, ss, vj p2, ss, vi p3, vi p4, vi p5, vi (2 : Int32), vd (FP.i2d (p0 >>> ((8 : Int32) &&& 31))), ss, vi f0, vi f1, vi f2, vi g0, vi g1, vi g2, vi (own_val p1 (0 : Int32)), vi (own_val p1 (16 : Int32)), vi (own_val p1 (32 : Int32)), vi (own_val p2 (0 : Int32)), vi (own_val p2 (16 : Int32)), vi (own_val p2 (32 : Int32)), vr a2633, vr a2648, vi ps6, vi ps3, vi ps6, vr a2810, vr a2873, vr a2942, uu, uu, uu, uu, uu, uu] [])) rfl (hb hby at_393) (by decide) (by decide)
    obtain ⟨a3000, g3001⟩ : ∃ zA : Nat, zA = h2978.size := ⟨_, rfl⟩
    rw [← g3001] at A2997 D2998 st2999
    have n3002 : a2633 ≠ a3000 := own_lt_ne F2986.lt g3001
    have n3003 : a3000 ≠ a2633 := fun q => n3002 q.symm
    have n3004 : a2648 ≠ a3000 := own_lt_ne F2987.lt g3001
    have n3005 : a3000 ≠ a2648 := fun q => n3004 q.symm
    have n3006 : a2810 ≠ a3000 := own_lt_ne F2988.lt g3001
    have n3007 : a3000 ≠ a2810 := fun q => n3006 q.symm
    have n3008 : a2873 ≠ a3000 := own_lt_ne F2989.lt g3001
    have n3009 : a3000 ≠ a2873 := fun q => n3008 q.symm
    have n3010 : a2942 ≠ a3000 := own_lt_ne F2991.lt g3001
    have n3011 : a3000 ≠ a2942 := fun q => n3010 q.symm
    have ge3012 : n0 ≤ a3000 := own_ge_of Z2990 g3001
    have Z3013 : n0 ≤ h2993.size := Nat.le_trans Z2990 E2996.1
    clear Z2990
    have F3014 : own_A Z h2993 a2633 .int LC6 := F2986.ext E2996
    clear F2986
    have F3015 : own_A Z h2993 a2648 .double LW6 := F2987.ext E2996
    clear F2987
    have F3016 : own_A Z h2993 a2810 .int [(.int (0 : Int32)), (.int ps3), (.int ps6)] := F2988.ext E2996
    clear F2988
    have F3017 : own_A Z h2993 a2873 .double [(.double (FP.i2d p3)), (.double (FP.i2d p4)), (.double (FP.i2d p5))] := F2989.ext E2996
    clear F2989
    have F3018 : own_A Z h2993 a2942 .double [(.double (FP.i2d (p0 >>> ((8 : Int32) &&& 31)))), (.double (FP.i2d (p0 >>> ((8 : Int32) &&& 31))))] := F2991.ext E2996
    clear F2991
    have F3019 : Fld Z h2993 a3000 "com/example/velvet_postings/velvetpostings/search/SparseMatrix" "rowCount" "I" (.int (0 : Int32)) := (D2998 (Or.inr (tw19 hw)) (ty := .int) (by decide))
    have F3020 : Fld Z h2993 a3000 "com/example/velvet_postings/velvetpostings/search/SparseMatrix" "columnCount" "I" (.int (0 : Int32)) := (D2998 (Or.inr (tw21 hw)) (ty := .int) (by decide))
    have F3021 : Fld Z h2993 a3000 "com/example/velvet_postings/velvetpostings/search/SparseMatrix" "rowStarts" "[I" .null := (D2998 (Or.inr (tw23 hw)) (ty := (.array .int)) (by decide))
    have F3022 : Fld Z h2993 a3000 "com/example/velvet_postings/velvetpostings/search/SparseMatrix" "columns" "[I" .null := (D2998 (Or.inr (tw25 hw)) (ty := (.array .int)) (by decide))
    have F3023 : Fld Z h2993 a3000 "com/example/velvet_postings/velvetpostings/search/SparseMatrix" "values" "[D" .null := (D2998 (Or.inr (tw27 hw)) (ty := (.array .double)) (by decide))
    have k3024 : own_G p e below E0 T2992 (mkF m 396 #[vi p0, vj p1, ss, vj p2, ss, vi p3, vi p4, vi p5, vi (2 : Int32), vd (FP.i2d (p0 >>> ((8 : Int32) &&& 31))), ss, vi f0, vi f1, vi f2, vi g0, vi g1, vi g2, vi (own_val p1 (0 : Int32)), vi (own_val p1 (16 : Int32)), vi (own_val p1 (32 : Int32)), vi (own_val p2 (0 : Int32)), vi (own_val p2 (16 : Int32)), vi (own_val p2 (32 : Int32)), vr a2633, vr a2648, vi ps6, vi ps3, vi ps6, vr a2810, vr a2873, vr a2942, uu, uu, uu, uu, uu, uu] [(.ref a3000)]) := fun tQ kk => k2985 tQ (st2999 _ kk)
    clear k2985 st2999
    have k3025 : own_G p e below E0 T2992 (mkF m 406 #[vi p0, vj p1, ss, vj p2, ss, vi p3, vi p4, vi p5, vi (2 : Int32), vd (FP.i2d (p0 >>> ((8 : Int32) &&& 31))), ss, vi f0, vi f1, vi f2, vi g0, vi g1, vi g2, vi (own_val p1 (0 : Int32)), vi (own_val p1 (16 : Int32)), vi (own_val p1 (32 : Int32)), vi (own_val p2 (0 : Int32)), vi (own_val p2 (16 : Int32)), vi (own_val p2 (32 : Int32)), vr a2633, vr a2648, vi ps6, vi ps3, vi ps6, vr a2810, vr a2873, vr a2942, uu, uu, uu, uu, uu, uu] [(.ref a2648), (.ref a2633), (.ref a2810), (.int (3 : Int32)), (.int (2 : Int32)), (.ref a3000), (.ref a3000)]) := by
      intro tQ kk
      refine k3024 tQ ?_
      refine XS.dup X2994.here hx rfl (hb hby at_396) rfl rfl ?_
      refine XS.iload X2994.here hx rfl (hb hby at_397) rfl ?_
      refine XS.iconst X2994.here hx rfl (hb hby at_399) ?_
      refine XS.aload X2994.here hx rfl (hb hby at_400) rfl rfl ?_
      show Steps p.tables e below (T2992.setTop (mkF m 402 #[vi p0, vj p1, ss, vj p2, ss, vi p3, vi p4, vi p5, vi (2 : Int32), vd (FP.i2d (p0 >>> ((8 : Int32) &&& 31))), ss, vi f0, vi f1, vi f2, vi g0, vi g1, vi g2, vi (own_val p1 (0 : Int32)), vi (own_val p1 (16 : Int32)), vi (own_val p1 (32 : Int32)), vi (own_val p2 (0 : Int32)), vi (own_val p2 (16 : Int32)), vi (own_val p2 (32 : Int32)), vr a2633, vr a2648, vi ps6, vi ps3, vi ps6, vr a2810, vr a2873, vr a2942, uu, uu, uu, uu, uu, uu] [(.ref a2810), (.int (3 : Int32)), (.int (2 : Int32)), (.ref a3000), (.ref a3000)])) tQ
      refine XS.aload X2994.here hx rfl (hb hby at_402) rfl rfl ?_
      refine XS.aload X2994.here hx rfl (hb hby at_404) rfl rfl ?_
      exact kk
    clear k3024
    obtain ⟨_, _, ⟨T3026, L3027, kc3028, nc3029⟩, -, X3030, ⟨Lc3031, hQ3032, l3033, y3034, z3035⟩, st3036⟩ := X2994.specialBack hx (y := mn9) rfl hown (mvT hZ (tw12 hw)) (mvT hZ (tw13 hw)) (mvT hZ (tw14 hw)) (by decide) (backOf (W := 1) (rmI2 l Z a0 hw [] a3000 a2810 a2633 a2648 h2993 n0 Z3013 A2997 F3019 F3020 F3021 F3022 F3023 ge3012) hZ (tw14 hw) (tw11 hw) (by decide) (by decide)) (g := (mkF m 406 #[vi p0, vj p1, ss, vj p2, ss, vi p3, vi p4, vi p5, vi (2 : Int32), vd (FP.i2d (p0 >>> ((8 : Int32) &&& 31))), ss, vi f0, vi f1, vi f2, vi g0, vi g1, vi g2, vi (own_val p1 (0 : Int32)), vi (own_val p1 (16 : Int32)), vi (own_val p1 (32 : Int32)), vi (own_val p2 (0 : Int32)), vi (own_val p2 (16 : Int32)), vi (own_val p2 (32 : Int32)), vr a2633, vr a2648, vi ps6, vi ps3, vi ps6, vr a2810, vr a2873, vr a2942, uu, uu, uu, uu, uu, uu] [(.ref a2648), (.ref a2633), (.ref a2810), (.int (3 : Int32)), (.int (2 : Int32)), (.ref a3000), (.ref a3000)])) rfl (by rw [hml]; rfl) (Steps.refl _) (a := a3000) (argsL := [(.int (2 : Int32)), (.int (3 : Int32)), (.ref a2810), (.ref a2633), (.ref a2648)]) (rest := [(.ref a3000)]) (lenOf pd_13 rfl) rfl (by show 2 * 0 + _ ≤ _; exact Nat.le_of_eq rfl) (hb hby at_406) (fun _ _ => ⟨rfl, e2995, (by decide : 6 + 0 ≤ _), (by decide : 25 + 0 ≤ _)⟩)
    dsimp only [Pt.U, Pt.locs, Pt.cells, Pt.slots] at X3030 l3033 y3034 z3035 st3036 hQ3032
    subst y3034 z3035
    obtain ⟨rfl, N3037, K3040, g3041, g3042, g3043, g3044, g3045⟩ := hQ3032
    have N3046 : Fr n0 L3027 := by rw [l3033]; exact Fr.app N2984 N3037
    clear l3033 N3037
    have Z3047 : n0 ≤ T3026.heap.size := Nat.le_trans Z3013 K3040.1
    clear Z3013
    have F3048 : own_A Z T3026.heap a2633 .int LC6 := F3014.keep K3040 (ninS n3002 nin0)
    clear F3014
    have F3049 : own_A Z T3026.heap a2648 .double LW6 := F3015.keep K3040 (ninS n3004 nin0)
    clear F3015
    have F3050 : own_A Z T3026.heap a2810 .int [(.int (0 : Int32)), (.int ps3), (.int ps6)] := F3016.keep K3040 (ninS n3006 nin0)
    clear F3016
    have F3051 : own_A Z T3026.heap a2873 .double [(.double (FP.i2d p3)), (.double (FP.i2d p4)), (.double (FP.i2d p5))] := F3017.keep K3040 (ninS n3008 nin0)
    clear F3017
    have F3052 : own_A Z T3026.heap a2942 .double [(.double (FP.i2d (p0 >>> ((8 : Int32) &&& 31)))), (.double (FP.i2d (p0 >>> ((8 : Int32) &&& 31))))] := F3018.keep K3040 (ninS n3010 nin0)
    clear F3018
    have F3053 : xa8 Z T3026.heap a3000 := A2997.keep K3040
    clear A2997
    clear F3019
    clear F3020
    clear F3021
    clear F3022
    clear F3023
    have k3054 : own_G p e below E0 T3026 (mkF m 409 #[vi p0, vj p1, ss, vj p2, ss, vi p3, vi p4, vi p5, vi (2 : Int32), vd (FP.i2d (p0 >>> ((8 : Int32) &&& 31))), ss, vi f0, vi f1, vi f2, vi g0, vi g1, vi g2, vi (own_val p1 (0 : Int32)), vi (own_val p1 (16 : Int32)), vi (own_val p1 (32 : Int32)), vi (own_val p2 (0 : Int32)), vi (own_val p2 (16 : Int32)), vi (own_val p2 (32 : Int32)), vr a2633, vr a2648, vi ps6, vi ps3, vi ps6, vr a2810, vr a2873, vr a2942, uu, uu, uu, uu, uu, uu] [(.ref a3000)]) := fun tQ kk => k3025 tQ (st3036.trans kk)
    clear k3025 st3036
    have hrows := own_rows hf0 hf1 hf2 hg0 hg1 hg2 (own_valb p1 (0 : Int32)) (own_valb p1 (16 : Int32)) (own_valb p1 (32 : Int32)) (own_valb p2 (0 : Int32)) (own_valb p2 (16 : Int32)) (own_valb p2 (32 : Int32)) p3 p4 p5 hps1 hps2 hps3 hps4 hps5 hps6 hLC1 hLW1 hLC2 hLW2 hLC3 hLW3 hLC4 hLW4 hLC5 hLW5 hLC6 hLW6
    have k3055 : own_G p e below E0 T3026 (mkF m 417 #[vi p0, vj p1, ss, vj p2, ss, vi p3, vi p4, vi p5, vi (2 : Int32), vd (FP.i2d (p0 >>> ((8 : Int32) &&& 31))), ss, vi f0, vi f1, vi f2, vi g0, vi g1, vi g2, vi (own_val p1 (0 : Int32)), vi (own_val p1 (16 : Int32)), vi (own_val p1 (32 : Int32)), vi (own_val p2 (0 : Int32)), vi (own_val p2 (16 : Int32)), vi (own_val p2 (32 : Int32)), vr a2633, vr a2648, vi ps6, vi ps3, vi ps6, vr a2810, vr a2873, vr a2942, vr a3000, uu, uu, uu, uu, uu] [(.ref a2942), (.ref a2873), (.ref a3000)]) := by
      intro tQ kk
      refine k3054 tQ ?_
      refine XS.astore X3030.here hx rfl (hb hby at_409) rfl rfl (l' := #[vi p0, vj p1, ss, vj p2, ss, vi p3, vi p4, vi p5, vi (2 : Int32), vd (FP.i2d (p0 >>> ((8 : Int32) &&& 31))), ss, vi f0, vi f1, vi f2, vi g0, vi g1, vi g2, vi (own_val p1 (0 : Int32)), vi (own_val p1 (16 : Int32)), vi (own_val p1 (32 : Int32)), vi (own_val p2 (0 : Int32)), vi (own_val p2 (16 : Int32)), vi (own_val p2 (32 : Int32)), vr a2633, vr a2648, vi ps6, vi ps3, vi ps6, vr a2810, vr a2873, vr a2942, vr a3000, uu, uu, uu, uu, uu]) rfl ?_
      refine XS.aload X3030.here hx rfl (hb hby at_411) rfl rfl ?_
      refine XS.aload X3030.here hx rfl (hb hby at_413) rfl rfl ?_
      refine XS.aload X3030.here hx rfl (hb hby at_415) rfl rfl ?_
      exact kk
    clear k3054
    obtain ⟨cq3067, kq3068, qa3069, qb3070, qc3071⟩ := isOf hZ rfl F3053
    obtain ⟨_, _, ⟨T3056, L3057, kc3058, nc3059⟩, -, X3060, ⟨Lc3061, hQ3062, l3063, y3064, z3065⟩, st3066⟩ := X3030.virtualBack hx (y := mn10) (z := mn10) hown (mvT hZ (tw28 hw)) (mvT hZ (tw29 hw)) (notFace_of_selects (args := #[]) (mvT hZ (tw31 hw))) (mvT hZ (tw31 hw)) (mvT hZ (tw30 hw)) (by decide) (backOf (W := 0) (rmM2 l Z a0 hw [] a3000 a2873 a2942 a2810 a2633 a2648 LC6 LW6 (FP.i2d p3) (FP.i2d p4) (FP.i2d p5) (0 : Int32) ps3 ps6 (own_t f0 (own_val p1 (0 : Int32)) p3 + own_t f1 (own_val p1 (16 : Int32)) p4 + own_t f2 (own_val p1 (32 : Int32)) p5) (own_t g0 (own_val p2 (0 : Int32)) p3 + own_t g1 (own_val p2 (16 : Int32)) p4 + own_t g2 (own_val p2 (32 : Int32)) p5) (FP.i2d (p0 >>> ((8 : Int32) &&& 31))) (FP.i2d (p0 >>> ((8 : Int32) &&& 31))) T3026.heap n0 Z3047 g3041 g3042 g3043 g3044 g3045 F3050 F3048 F3049 F3051 F3052 n3010 n2949 n2945 n2947 n2951 ge2952 hrows.1 hrows.2) hZ (tw32 hw) (tw11 hw) (by decide) (by decide)) qa3069 qc3071 (g := (mkF m 417 #[vi p0, vj p1, ss, vj p2, ss, vi p3, vi p4, vi p5, vi (2 : Int32), vd (FP.i2d (p0 >>> ((8 : Int32) &&& 31))), ss, vi f0, vi f1, vi f2, vi g0, vi g1, vi g2, vi (own_val p1 (0 : Int32)), vi (own_val p1 (16 : Int32)), vi (own_val p1 (32 : Int32)), vi (own_val p2 (0 : Int32)), vi (own_val p2 (16 : Int32)), vi (own_val p2 (32 : Int32)), vr a2633, vr a2648, vi ps6, vi ps3, vi ps6, vr a2810, vr a2873, vr a2942, vr a3000, uu, uu, uu, uu, uu] [(.ref a2942), (.ref a2873), (.ref a3000)])) rfl (by rw [hml]; rfl) (Steps.refl _) (argsL := [(.ref a2873), (.ref a2942)]) (rest := []) (lenOf pd_14 rfl) rfl (by show 2 * 0 + _ ≤ _; exact Nat.le_of_eq rfl) (hb hby at_417) (fun _ _ => ⟨rfl, rfl, (by decide : 6 + 0 ≤ _), (by decide : 25 + 0 ≤ _)⟩)
    dsimp only [Pt.U, Pt.locs, Pt.cells, Pt.slots] at X3060 l3063 y3064 z3065 st3066 hQ3062
    subst y3064 z3065
    obtain ⟨s03075, s13076, rfl, N3072, K3077, g3078, g3079, g3080⟩ := hQ3062
    have N3081 : Fr n0 L3057 := by rw [l3063]; exact Fr.app N3046 N3072
    clear l3063 N3072
    have Z3082 : n0 ≤ T3056.heap.size := Nat.le_trans Z3047 K3077.1
    clear Z3047
    have F3083 : own_A Z T3056.heap a2633 .int LC6 := F3048.keep K3077 (ninS n2944 nin0)
    clear F3048
    have F3084 : own_A Z T3056.heap a2648 .double LW6 := F3049.keep K3077 (ninS n2946 nin0)
    clear F3049
    have F3085 : own_A Z T3056.heap a2810 .int [(.int (0 : Int32)), (.int ps3), (.int ps6)] := F3050.keep K3077 (ninS n2948 nin0)
    clear F3050
    have F3086 : own_A Z T3056.heap a2873 .double [(.double (FP.i2d p3)), (.double (FP.i2d p4)), (.double (FP.i2d p5))] := F3051.keep K3077 (ninS n2950 nin0)
    clear F3051
    clear F3052
    have F3087 : xa8 Z T3056.heap a3000 := F3053.keep K3077
    clear F3053
    have F3088 : fd3 Z T3056.heap a3000 (.int (2 : Int32)) := g3041.keep K3077 (ninS n3011 nin0)
    clear g3041
    have F3089 : fd4 Z T3056.heap a3000 (.int (3 : Int32)) := g3042.keep K3077 (ninS n3011 nin0)
    clear g3042
    have F3090 : fd5 Z T3056.heap a3000 (.ref a2810) := g3043.keep K3077 (ninS n3011 nin0)
    clear g3043
    have F3091 : fd6 Z T3056.heap a3000 (.ref a2633) := g3044.keep K3077 (ninS n3011 nin0)
    clear g3044
    have F3092 : fd7 Z T3056.heap a3000 (.ref a2648) := g3045.keep K3077 (ninS n3011 nin0)
    clear g3045
    have k3093 : own_G p e below E0 T3056 (mkF m 420 #[vi p0, vj p1, ss, vj p2, ss, vi p3, vi p4, vi p5, vi (2 : Int32), vd (FP.i2d (p0 >>> ((8 : Int32) &&& 31))), ss, vi f0, vi f1, vi f2, vi g0, vi g1, vi g2, vi (own_val p1 (0 : Int32)), vi (own_val p1 (16 : Int32)), vi (own_val p1 (32 : Int32)), vi (own_val p2 (0 : Int32)), vi (own_val p2 (16 : Int32)), vi (own_val p2 (32 : Int32)), vr a2633, vr a2648, vi ps6, vi ps3, vi ps6, vr a2810, vr a2873, vr a2942, vr a3000, uu, uu, uu, uu, uu] []) := fun tQ kk => k3055 tQ (st3066.trans kk)
    clear k3055 st3066
    have k3094 : own_G p e below E0 T3056 (mkF m 426 #[vi p0, vj p1, ss, vj p2, ss, vi p3, vi p4, vi p5, vi (2 : Int32), vd (FP.i2d (p0 >>> ((8 : Int32) &&& 31))), ss, vi f0, vi f1, vi f2, vi g0, vi g1, vi g2, vi (own_val p1 (0 : Int32)), vi (own_val p1 (16 : Int32)), vi (own_val p1 (32 : Int32)), vi (own_val p2 (0 : Int32)), vi (own_val p2 (16 : Int32)), vi (own_val p2 (32 : Int32)), vr a2633, vr a2648, vi ps6, vi ps3, vi ps6, vr a2810, vr a2873, vr a2942, vr a3000, uu, uu, uu, uu, uu] [(.int p3), (.int (own_val p1 (0 : Int32))), (.int f0)]) := by
      intro tQ kk
      refine k3093 tQ ?_
      refine XS.iload X3060.here hx rfl (hb hby at_420) rfl ?_
      refine XS.iload X3060.here hx rfl (hb hby at_422) rfl ?_
      refine XS.iload X3060.here hx rfl (hb hby at_424) rfl ?_
      exact kk
    clear k3093
    obtain ⟨_, _, ⟨T3095, L3096, kc3097, nc3098⟩, -, X3099, ⟨Lc3100, hQ3101, l3102, y3103, z3104⟩, st3105⟩ := Jvm.LawKit.callS X3060 hx (y := mn2) hown (mvT hZ (tw33 hw)) (mvT hZ (tw34 hw)) (mvT hZ (tw2 hw)) (mvT hZ (tw35 hw)) (by decide) (backOf (W := 0) (rmTe l Z a0 hw [] f0 (own_val p1 (0 : Int32)) p3 T3056.heap n0 Z3082 ) hZ (tw35 hw) (tw2 hw) (by decide) (by decide)) (g := (mkF m 426 #[vi p0, vj p1, ss, vj p2, ss, vi p3, vi p4, vi p5, vi (2 : Int32), vd (FP.i2d (p0 >>> ((8 : Int32) &&& 31))), ss, vi f0, vi f1, vi f2, vi g0, vi g1, vi g2, vi (own_val p1 (0 : Int32)), vi (own_val p1 (16 : Int32)), vi (own_val p1 (32 : Int32)), vi (own_val p2 (0 : Int32)), vi (own_val p2 (16 : Int32)), vi (own_val p2 (32 : Int32)), vr a2633, vr a2648, vi ps6, vi ps3, vi ps6, vr a2810, vr a2873, vr a2942, vr a3000, uu, uu, uu, uu, uu] [(.int p3), (.int (own_val p1 (0 : Int32))), (.int f0)])) rfl (by rw [hml]; rfl) (argsL := [(.int f0), (.int (own_val p1 (0 : Int32))), (.int p3)]) (rest := []) (lenOf pd_15 rfl) rfl (by show 2 * 0 + _ ≤ _; exact Nat.le_of_eq rfl) (hb hby at_426) (fun _ _ => ⟨rfl, rfl, (by decide : 6 + 0 ≤ _), (by decide : 25 + 0 ≤ _)⟩)
    dsimp only [Pt.U, Pt.locs, Pt.cells, Pt.slots] at X3099 l3102 y3103 z3104 st3105 hQ3101
    subst y3103 z3104
    obtain ⟨rfl, N3106, e3107⟩ := hQ3101
    have N3109 : Fr n0 L3096 := by rw [l3102]; exact Fr.app N3081 N3106
    clear l3102 N3106
    have k3110 : own_G p e below E0 T3095 (mkF m 429 #[vi p0, vj p1, ss, vj p2, ss, vi p3, vi p4, vi p5, vi (2 : Int32), vd (FP.i2d (p0 >>> ((8 : Int32) &&& 31))), ss, vi f0, vi f1, vi f2, vi g0, vi g1, vi g2, vi (own_val p1 (0 : Int32)), vi (own_val p1 (16 : Int32)), vi (own_val p1 (32 : Int32)), vi (own_val p2 (0 : Int32)), vi (own_val p2 (16 : Int32)), vi (own_val p2 (32 : Int32)), vr a2633, vr a2648, vi ps6, vi ps3, vi ps6, vr a2810, vr a2873, vr a2942, vr a3000, uu, uu, uu, uu, uu] [(.long (own_tm f0 (own_val p1 (0 : Int32)) p3))]) := fun tQ kk => k3094 tQ (st3105 _ kk)
    clear k3094 st3105
    have k3111 : own_G p e below E0 T3095 (mkF m 435 #[vi p0, vj p1, ss, vj p2, ss, vi p3, vi p4, vi p5, vi (2 : Int32), vd (FP.i2d (p0 >>> ((8 : Int32) &&& 31))), ss, vi f0, vi f1, vi f2, vi g0, vi g1, vi g2, vi (own_val p1 (0 : Int32)), vi (own_val p1 (16 : Int32)), vi (own_val p1 (32 : Int32)), vi (own_val p2 (0 : Int32)), vi (own_val p2 (16 : Int32)), vi (own_val p2 (32 : Int32)), vr a2633, vr a2648, vi ps6, vi ps3, vi ps6, vr a2810, vr a2873, vr a2942, vr a3000, uu, uu, uu, uu, uu] [(.int p4), (.int (own_val p1 (16 : Int32))), (.int f1), (.long (own_tm f0 (own_val p1 (0 : Int32)) p3))]) := by
      intro tQ kk
      refine k3110 tQ ?_
      refine XS.iload X3099.here hx rfl (hb hby at_429) rfl ?_
      refine XS.iload X3099.here hx rfl (hb hby at_431) rfl ?_
      refine XS.iload X3099.here hx rfl (hb hby at_433) rfl ?_
      exact kk
    clear k3110
    obtain ⟨_, _, ⟨T3112, L3113, kc3114, nc3115⟩, -, X3116, ⟨Lc3117, hQ3118, l3119, y3120, z3121⟩, st3122⟩ := Jvm.LawKit.callS X3099 hx (y := mn2) hown (mvT hZ (tw33 hw)) (mvT hZ (tw34 hw)) (mvT hZ (tw2 hw)) (mvT hZ (tw35 hw)) (by decide) (backOf (W := 2) (rmTe l Z a0 hw [] f1 (own_val p1 (16 : Int32)) p4 T3056.heap n0 Z3082 ) hZ (tw35 hw) (tw2 hw) (by decide) (by decide)) (g := (mkF m 435 #[vi p0, vj p1, ss, vj p2, ss, vi p3, vi p4, vi p5, vi (2 : Int32), vd (FP.i2d (p0 >>> ((8 : Int32) &&& 31))), ss, vi f0, vi f1, vi f2, vi g0, vi g1, vi g2, vi (own_val p1 (0 : Int32)), vi (own_val p1 (16 : Int32)), vi (own_val p1 (32 : Int32)), vi (own_val p2 (0 : Int32)), vi (own_val p2 (16 : Int32)), vi (own_val p2 (32 : Int32)), vr a2633, vr a2648, vi ps6, vi ps3, vi ps6, vr a2810, vr a2873, vr a2942, vr a3000, uu, uu, uu, uu, uu] [(.int p4), (.int (own_val p1 (16 : Int32))), (.int f1), (.long (own_tm f0 (own_val p1 (0 : Int32)) p3))])) rfl (by rw [hml]; rfl) (argsL := [(.int f1), (.int (own_val p1 (16 : Int32))), (.int p4)]) (rest := [(.long (own_tm f0 (own_val p1 (0 : Int32)) p3))]) (lenOf pd_15 rfl) rfl (by show 2 * 0 + _ ≤ _; exact Nat.le_of_eq rfl) (hb hby at_435) (fun _ _ => ⟨rfl, e3107, (by decide : 6 + 0 ≤ _), (by decide : 25 + 0 ≤ _)⟩)
    dsimp only [Pt.U, Pt.locs, Pt.cells, Pt.slots] at X3116 l3119 y3120 z3121 st3122 hQ3118
    subst y3120 z3121
    obtain ⟨rfl, N3123, e3124⟩ := hQ3118
    have N3126 : Fr n0 L3113 := by rw [l3119]; exact Fr.app N3109 N3123
    clear l3119 N3123
    have k3127 : own_G p e below E0 T3112 (mkF m 438 #[vi p0, vj p1, ss, vj p2, ss, vi p3, vi p4, vi p5, vi (2 : Int32), vd (FP.i2d (p0 >>> ((8 : Int32) &&& 31))), ss, vi f0, vi f1, vi f2, vi g0, vi g1, vi g2, vi (own_val p1 (0 : Int32)), vi (own_val p1 (16 : Int32)), vi (own_val p1 (32 : Int32)), vi (own_val p2 (0 : Int32)), vi (own_val p2 (16 : Int32)), vi (own_val p2 (32 : Int32)), vr a2633, vr a2648, vi ps6, vi ps3, vi ps6, vr a2810, vr a2873, vr a2942, vr a3000, uu, uu, uu, uu, uu] [(.long (own_tm f1 (own_val p1 (16 : Int32)) p4)), (.long (own_tm f0 (own_val p1 (0 : Int32)) p3))]) := fun tQ kk => k3111 tQ (st3122 _ kk)
    clear k3111 st3122
    have k3128 : own_G p e below E0 T3112 (mkF m 445 #[vi p0, vj p1, ss, vj p2, ss, vi p3, vi p4, vi p5, vi (2 : Int32), vd (FP.i2d (p0 >>> ((8 : Int32) &&& 31))), ss, vi f0, vi f1, vi f2, vi g0, vi g1, vi g2, vi (own_val p1 (0 : Int32)), vi (own_val p1 (16 : Int32)), vi (own_val p1 (32 : Int32)), vi (own_val p2 (0 : Int32)), vi (own_val p2 (16 : Int32)), vi (own_val p2 (32 : Int32)), vr a2633, vr a2648, vi ps6, vi ps3, vi ps6, vr a2810, vr a2873, vr a2942, vr a3000, uu, uu, uu, uu, uu] [(.int p5), (.int (own_val p1 (32 : Int32))), (.int f2), (.long ((own_tm f0 (own_val p1 (0 : Int32)) p3) + (own_tm f1 (own_val p1 (16 : Int32)) p4)))]) := by
      intro tQ kk
      refine k3127 tQ ?_
      refine XT.ladd X3116.here hx rfl (hb hby at_438) rfl ?_
      refine XS.iload X3116.here hx rfl (hb hby at_439) rfl ?_
      refine XS.iload X3116.here hx rfl (hb hby at_441) rfl ?_
      refine XS.iload X3116.here hx rfl (hb hby at_443) rfl ?_
      exact kk
    clear k3127
    obtain ⟨_, _, ⟨T3129, L3130, kc3131, nc3132⟩, -, X3133, ⟨Lc3134, hQ3135, l3136, y3137, z3138⟩, st3139⟩ := Jvm.LawKit.callS X3116 hx (y := mn2) hown (mvT hZ (tw33 hw)) (mvT hZ (tw34 hw)) (mvT hZ (tw2 hw)) (mvT hZ (tw35 hw)) (by decide) (backOf (W := 2) (rmTe l Z a0 hw [] f2 (own_val p1 (32 : Int32)) p5 T3056.heap n0 Z3082 ) hZ (tw35 hw) (tw2 hw) (by decide) (by decide)) (g := (mkF m 445 #[vi p0, vj p1, ss, vj p2, ss, vi p3, vi p4, vi p5, vi (2 : Int32), vd (FP.i2d (p0 >>> ((8 : Int32) &&& 31))), ss, vi f0, vi f1, vi f2, vi g0, vi g1, vi g2, vi (own_val p1 (0 : Int32)), vi (own_val p1 (16 : Int32)), vi (own_val p1 (32 : Int32)), vi (own_val p2 (0 : Int32)), vi (own_val p2 (16 : Int32)), vi (own_val p2 (32 : Int32)), vr a2633, vr a2648, vi ps6, vi ps3, vi ps6, vr a2810, vr a2873, vr a2942, vr a3000, uu, uu, uu, uu, uu] [(.int p5), (.int (own_val p1 (32 : Int32))), (.int f2), (.long ((own_tm f0 (own_val p1 (0 : Int32)) p3) + (own_tm f1 (own_val p1 (16 : Int32)) p4)))])) rfl (by rw [hml]; rfl) (argsL := [(.int f2), (.int (own_val p1 (32 : Int32))), (.int p5)]) (rest := [(.long ((own_tm f0 (own_val p1 (0 : Int32)) p3) + (own_tm f1 (own_val p1 (16 : Int32)) p4)))]) (lenOf pd_15 rfl) rfl (by show 2 * 0 + _ ≤ _; exact Nat.le_of_eq rfl) (hb hby at_445) (fun _ _ => ⟨rfl, e3124, (by decide : 6 + 0 ≤ _), (by decide : 25 + 0 ≤ _)⟩)
    dsimp only [Pt.U, Pt.locs, Pt.cells, Pt.slots] at X3133 l3136 y3137 z3138 st3139 hQ3135
    subst y3137 z3138
    obtain ⟨rfl, N3140, e3141⟩ := hQ3135
    have N3143 : Fr n0 L3130 := by rw [l3136]; exact Fr.app N3126 N3140
    clear l3136 N3140
    have k3144 : own_G p e below E0 T3129 (mkF m 448 #[vi p0, vj p1, ss, vj p2, ss, vi p3, vi p4, vi p5, vi (2 : Int32), vd (FP.i2d (p0 >>> ((8 : Int32) &&& 31))), ss, vi f0, vi f1, vi f2, vi g0, vi g1, vi g2, vi (own_val p1 (0 : Int32)), vi (own_val p1 (16 : Int32)), vi (own_val p1 (32 : Int32)), vi (own_val p2 (0 : Int32)), vi (own_val p2 (16 : Int32)), vi (own_val p2 (32 : Int32)), vr a2633, vr a2648, vi ps6, vi ps3, vi ps6, vr a2810, vr a2873, vr a2942, vr a3000, uu, uu, uu, uu, uu] [(.long (own_tm f2 (own_val p1 (32 : Int32)) p5)), (.long ((own_tm f0 (own_val p1 (0 : Int32)) p3) + (own_tm f1 (own_val p1 (16 : Int32)) p4)))]) := fun tQ kk => k3128 tQ (st3139 _ kk)
    clear k3128 st3139
    have k3145 : own_G p e below E0 T3129 (mkF m 457 #[vi p0, vj p1, ss, vj p2, ss, vi p3, vi p4, vi p5, vi (2 : Int32), vd (FP.i2d (p0 >>> ((8 : Int32) &&& 31))), ss, vi f0, vi f1, vi f2, vi g0, vi g1, vi g2, vi (own_val p1 (0 : Int32)), vi (own_val p1 (16 : Int32)), vi (own_val p1 (32 : Int32)), vi (own_val p2 (0 : Int32)), vi (own_val p2 (16 : Int32)), vi (own_val p2 (32 : Int32)), vr a2633, vr a2648, vi ps6, vi ps3, vi ps6, vr a2810, vr a2873, vr a2942, vr a3000, vj (((own_tm f0 (own_val p1 (0 : Int32)) p3) + (own_tm f1 (own_val p1 (16 : Int32)) p4)) + (own_tm f2 (own_val p1 (32 : Int32)) p5)), ss, uu, uu, uu] [(.int p3), (.int (own_val p2 (0 : Int32))), (.int g0)]) := by
      intro tQ kk
      refine k3144 tQ ?_
      refine XT.ladd X3133.here hx rfl (hb hby at_448) rfl ?_
      refine XT.lstore X3133.here hx rfl (hb hby at_449) rfl (l' := #[vi p0, vj p1, ss, vj p2, ss, vi p3, vi p4, vi p5, vi (2 : Int32), vd (FP.i2d (p0 >>> ((8 : Int32) &&& 31))), ss, vi f0, vi f1, vi f2, vi g0, vi g1, vi g2, vi (own_val p1 (0 : Int32)), vi (own_val p1 (16 : Int32)), vi (own_val p1 (32 : Int32)), vi (own_val p2 (0 : Int32)), vi (own_val p2 (16 : Int32)), vi (own_val p2 (32 : Int32)), vr a2633, vr a2648, vi ps6, vi ps3, vi ps6, vr a2810, vr a2873, vr a2942, vr a3000, vj (((own_tm f0 (own_val p1 (0 : Int32)) p3) + (own_tm f1 (own_val p1 (16 : Int32)) p4)) + (own_tm f2 (own_val p1 (32 : Int32)) p5)), ss, uu, uu, uu]) rfl ?_
      refine XS.iload X3133.here hx rfl (hb hby at_451) rfl ?_
      refine XS.iload X3133.here hx rfl (hb hby at_453) rfl ?_
      show Steps p.tables e below (T3129.setTop (mkF m 455 #[vi p0, vj p1, ss, vj p2, ss, vi p3, vi p4, vi p5, vi (2 : Int32), vd (FP.i2d (p0 >>> ((8 : Int32) &&& 31))), ss, vi f0, vi f1, vi f2, vi g0, vi g1, vi g2, vi (own_val p1 (0 : Int32)), vi (own_val p1 (16 : Int32)), vi (own_val p1 (32 : Int32)), vi (own_val p2 (0 : Int32)), vi (own_val p2 (16 : Int32)), vi (own_val p2 (32 : Int32)), vr a2633, vr a2648, vi ps6, vi ps3, vi ps6, vr a2810, vr a2873, vr a2942, vr a3000, vj (((own_tm f0 (own_val p1 (0 : Int32)) p3) + (own_tm f1 (own_val p1 (16 : Int32)) p4)) + (own_tm f2 (own_val p1 (32 : Int32)) p5)), ss, uu, uu, uu] [(.int (own_val p2 (0 : Int32))), (.int g0)])) tQ
      refine XS.iload X3133.here hx rfl (hb hby at_455) rfl ?_
      exact kk
    clear k3144
    obtain ⟨_, _, ⟨T3146, L3147, kc3148, nc3149⟩, -, X3150, ⟨Lc3151, hQ3152, l3153, y3154, z3155⟩, st3156⟩ := Jvm.LawKit.callS X3133 hx (y := mn2) hown (mvT hZ (tw33 hw)) (mvT hZ (tw34 hw)) (mvT hZ (tw2 hw)) (mvT hZ (tw35 hw)) (by decide) (backOf (W := 0) (rmTe l Z a0 hw [] g0 (own_val p2 (0 : Int32)) p3 T3056.heap n0 Z3082 ) hZ (tw35 hw) (tw2 hw) (by decide) (by decide)) (g := (mkF m 457 #[vi p0, vj p1, ss, vj p2, ss, vi p3, vi p4, vi p5, vi (2 : Int32), vd (FP.i2d (p0 >>> ((8 : Int32) &&& 31))), ss, vi f0, vi f1, vi f2, vi g0, vi g1, vi g2, vi (own_val p1 (0 : Int32)), vi (own_val p1 (16 : Int32)), vi (own_val p1 (32 : Int32)), vi (own_val p2 (0 : Int32)), vi (own_val p2 (16 : Int32)), vi (own_val p2 (32 : Int32)), vr a2633, vr a2648, vi ps6, vi ps3, vi ps6, vr a2810, vr a2873, vr a2942, vr a3000, vj (((own_tm f0 (own_val p1 (0 : Int32)) p3) + (own_tm f1 (own_val p1 (16 : Int32)) p4)) + (own_tm f2 (own_val p1 (32 : Int32)) p5)), ss, uu, uu, uu] [(.int p3), (.int (own_val p2 (0 : Int32))), (.int g0)])) rfl (by rw [hml]; rfl) (argsL := [(.int g0), (.int (own_val p2 (0 : Int32))), (.int p3)]) (rest := []) (lenOf pd_15 rfl) rfl (by show 2 * 0 + _ ≤ _; exact Nat.le_of_eq rfl) (hb hby at_457) (fun _ _ => ⟨rfl, e3141, (by decide : 6 + 0 ≤ _), (by decide : 25 + 0 ≤ _)⟩)
    dsimp only [Pt.U, Pt.locs, Pt.cells, Pt.slots] at X3150 l3153 y3154 z3155 st3156 hQ3152
    subst y3154 z3155
    obtain ⟨rfl, N3157, e3158⟩ := hQ3152
    have N3160 : Fr n0 L3147 := by rw [l3153]; exact Fr.app N3143 N3157
    clear l3153 N3157
    have k3161 : own_G p e below E0 T3146 (mkF m 460 #[vi p0, vj p1, ss, vj p2, ss, vi p3, vi p4, vi p5, vi (2 : Int32), vd (FP.i2d (p0 >>> ((8 : Int32) &&& 31))), ss, vi f0, vi f1, vi f2, vi g0, vi g1, vi g2, vi (own_val p1 (0 : Int32)), vi (own_val p1 (16 : Int32)), vi (own_val p1 (32 : Int32)), vi (own_val p2 (0 : Int32)), vi (own_val p2 (16 : Int32)), vi (own_val p2 (32 : Int32)), vr a2633, vr a2648, vi ps6, vi ps3, vi ps6, vr a2810, vr a2873, vr a2942, vr a3000, vj (((own_tm f0 (own_val p1 (0 : Int32)) p3) + (own_tm f1 (own_val p1 (16 : Int32)) p4)) + (own_tm f2 (own_val p1 (32 : Int32)) p5)), ss, uu, uu, uu] [(.long (own_tm g0 (own_val p2 (0 : Int32)) p3))]) := fun tQ kk => k3145 tQ (st3156 _ kk)
    clear k3145 st3156
    have k3162 : own_G p e below E0 T3146 (mkF m 466 #[vi p0, vj p1, ss, vj p2, ss, vi p3, vi p4, vi p5, vi (2 : Int32), vd (FP.i2d (p0 >>> ((8 : Int32) &&& 31))), ss, vi f0, vi f1, vi f2, vi g0, vi g1, vi g2, vi (own_val p1 (0 : Int32)), vi (own_val p1 (16 : Int32)), vi (own_val p1 (32 : Int32)), vi (own_val p2 (0 : Int32)), vi (own_val p2 (16 : Int32)), vi (own_val p2 (32 : Int32)), vr a2633, vr a2648, vi ps6, vi ps3, vi ps6, vr a2810, vr a2873, vr a2942, vr a3000, vj (((own_tm f0 (own_val p1 (0 : Int32)) p3) + (own_tm f1 (own_val p1 (16 : Int32)) p4)) + (own_tm f2 (own_val p1 (32 : Int32)) p5)), ss, uu, uu, uu] [(.int p4), (.int (own_val p2 (16 : Int32))), (.int g1), (.long (own_tm g0 (own_val p2 (0 : Int32)) p3))]) := by
      intro tQ kk
      refine k3161 tQ ?_
      refine XS.iload X3150.here hx rfl (hb hby at_460) rfl ?_
      refine XS.iload X3150.here hx rfl (hb hby at_462) rfl ?_
      refine XS.iload X3150.here hx rfl (hb hby at_464) rfl ?_
      exact kk
    clear k3161
    obtain ⟨_, _, ⟨T3163, L3164, kc3165, nc3166⟩, -, X3167, ⟨Lc3168, hQ3169, l3170, y3171, z3172⟩, st3173⟩ := Jvm.LawKit.callS X3150 hx (y := mn2) hown (mvT hZ (tw33 hw)) (mvT hZ (tw34 hw)) (mvT hZ (tw2 hw)) (mvT hZ (tw35 hw)) (by decide) (backOf (W := 2) (rmTe l Z a0 hw [] g1 (own_val p2 (16 : Int32)) p4 T3056.heap n0 Z3082 ) hZ (tw35 hw) (tw2 hw) (by decide) (by decide)) (g := (mkF m 466 #[vi p0, vj p1, ss, vj p2, ss, vi p3, vi p4, vi p5, vi (2 : Int32), vd (FP.i2d (p0 >>> ((8 : Int32) &&& 31))), ss, vi f0, vi f1, vi f2, vi g0, vi g1, vi g2, vi (own_val p1 (0 : Int32)), vi (own_val p1 (16 : Int32)), vi (own_val p1 (32 : Int32)), vi (own_val p2 (0 : Int32)), vi (own_val p2 (16 : Int32)), vi (own_val p2 (32 : Int32)), vr a2633, vr a2648, vi ps6, vi ps3, vi ps6, vr a2810, vr a2873, vr a2942, vr a3000, vj (((own_tm f0 (own_val p1 (0 : Int32)) p3) + (own_tm f1 (own_val p1 (16 : Int32)) p4)) + (own_tm f2 (own_val p1 (32 : Int32)) p5)), ss, uu, uu, uu] [(.int p4), (.int (own_val p2 (16 : Int32))), (.int g1), (.long (own_tm g0 (own_val p2 (0 : Int32)) p3))])) rfl (by rw [hml]; rfl) (argsL := [(.int g1), (.int (own_val p2 (16 : Int32))), (.int p4)]) (rest := [(.long (own_tm g0 (own_val p2 (0 : Int32)) p3))]) (lenOf pd_15 rfl) rfl (by show 2 * 0 + _ ≤ _; exact Nat.le_of_eq rfl) (hb hby at_466) (fun _ _ => ⟨rfl, e3158, (by decide : 6 + 0 ≤ _), (by decide : 25 + 0 ≤ _)⟩)
    dsimp only [Pt.U, Pt.locs, Pt.cells, Pt.slots] at X3167 l3170 y3171 z3172 st3173 hQ3169
    subst y3171 z3172
    obtain ⟨rfl, N3174, e3175⟩ := hQ3169
    have N3177 : Fr n0 L3164 := by rw [l3170]; exact Fr.app N3160 N3174
    clear l3170 N3174
    have k3178 : own_G p e below E0 T3163 (mkF m 469 #[vi p0, vj p1, ss, vj p2, ss, vi p3, vi p4, vi p5, vi (2 : Int32), vd (FP.i2d (p0 >>> ((8 : Int32) &&& 31))), ss, vi f0, vi f1, vi f2, vi g0, vi g1, vi g2, vi (own_val p1 (0 : Int32)), vi (own_val p1 (16 : Int32)), vi (own_val p1 (32 : Int32)), vi (own_val p2 (0 : Int32)), vi (own_val p2 (16 : Int32)), vi (own_val p2 (32 : Int32)), vr a2633, vr a2648, vi ps6, vi ps3, vi ps6, vr a2810, vr a2873, vr a2942, vr a3000, vj (((own_tm f0 (own_val p1 (0 : Int32)) p3) + (own_tm f1 (own_val p1 (16 : Int32)) p4)) + (own_tm f2 (own_val p1 (32 : Int32)) p5)), ss, uu, uu, uu] [(.long (own_tm g1 (own_val p2 (16 : Int32)) p4)), (.long (own_tm g0 (own_val p2 (0 : Int32)) p3))]) := fun tQ kk => k3162 tQ (st3173 _ kk)
    clear k3162 st3173
    have k3179 : own_G p e below E0 T3163 (mkF m 476 #[vi p0, vj p1, ss, vj p2, ss, vi p3, vi p4, vi p5, vi (2 : Int32), vd (FP.i2d (p0 >>> ((8 : Int32) &&& 31))), ss, vi f0, vi f1, vi f2, vi g0, vi g1, vi g2, vi (own_val p1 (0 : Int32)), vi (own_val p1 (16 : Int32)), vi (own_val p1 (32 : Int32)), vi (own_val p2 (0 : Int32)), vi (own_val p2 (16 : Int32)), vi (own_val p2 (32 : Int32)), vr a2633, vr a2648, vi ps6, vi ps3, vi ps6, vr a2810, vr a2873, vr a2942, vr a3000, vj (((own_tm f0 (own_val p1 (0 : Int32)) p3) + (own_tm f1 (own_val p1 (16 : Int32)) p4)) + (own_tm f2 (own_val p1 (32 : Int32)) p5)), ss, uu, uu, uu] [(.int p5), (.int (own_val p2 (32 : Int32))), (.int g2), (.long ((own_tm g0 (own_val p2 (0 : Int32)) p3) + (own_tm g1 (own_val p2 (16 : Int32)) p4)))]) := by
      intro tQ kk
      refine k3178 tQ ?_
      refine XT.ladd X3167.here hx rfl (hb hby at_469) rfl ?_
      refine XS.iload X3167.here hx rfl (hb hby at_470) rfl ?_
      refine XS.iload X3167.here hx rfl (hb hby at_472) rfl ?_
      refine XS.iload X3167.here hx rfl (hb hby at_474) rfl ?_
      exact kk
    clear k3178
    obtain ⟨_, _, ⟨T3180, L3181, kc3182, nc3183⟩, -, X3184, ⟨Lc3185, hQ3186, l3187, y3188, z3189⟩, st3190⟩ := Jvm.LawKit.callS X3167 hx (y := mn2) hown (mvT hZ (tw33 hw)) (mvT hZ (tw34 hw)) (mvT hZ (tw2 hw)) (mvT hZ (tw35 hw)) (by decide) (backOf (W := 2) (rmTe l Z a0 hw [] g2 (own_val p2 (32 : Int32)) p5 T3056.heap n0 Z3082 ) hZ (tw35 hw) (tw2 hw) (by decide) (by decide)) (g := (mkF m 476 #[vi p0, vj p1, ss, vj p2, ss, vi p3, vi p4, vi p5, vi (2 : Int32), vd (FP.i2d (p0 >>> ((8 : Int32) &&& 31))), ss, vi f0, vi f1, vi f2, vi g0, vi g1, vi g2, vi (own_val p1 (0 : Int32)), vi (own_val p1 (16 : Int32)), vi (own_val p1 (32 : Int32)), vi (own_val p2 (0 : Int32)), vi (own_val p2 (16 : Int32)), vi (own_val p2 (32 : Int32)), vr a2633, vr a2648, vi ps6, vi ps3, vi ps6, vr a2810, vr a2873, vr a2942, vr a3000, vj (((own_tm f0 (own_val p1 (0 : Int32)) p3) + (own_tm f1 (own_val p1 (16 : Int32)) p4)) + (own_tm f2 (own_val p1 (32 : Int32)) p5)), ss, uu, uu, uu] [(.int p5), (.int (own_val p2 (32 : Int32))), (.int g2), (.long ((own_tm g0 (own_val p2 (0 : Int32)) p3) + (own_tm g1 (own_val p2 (16 : Int32)) p4)))])) rfl (by rw [hml]; rfl) (argsL := [(.int g2), (.int (own_val p2 (32 : Int32))), (.int p5)]) (rest := [(.long ((own_tm g0 (own_val p2 (0 : Int32)) p3) + (own_tm g1 (own_val p2 (16 : Int32)) p4)))]) (lenOf pd_15 rfl) rfl (by show 2 * 0 + _ ≤ _; exact Nat.le_of_eq rfl) (hb hby at_476) (fun _ _ => ⟨rfl, e3175, (by decide : 6 + 0 ≤ _), (by decide : 25 + 0 ≤ _)⟩)
    dsimp only [Pt.U, Pt.locs, Pt.cells, Pt.slots] at X3184 l3187 y3188 z3189 st3190 hQ3186
    subst y3188 z3189
    obtain ⟨rfl, N3191, e3192⟩ := hQ3186
    have N3194 : Fr n0 L3181 := by rw [l3187]; exact Fr.app N3177 N3191
    clear l3187 N3191
    have k3195 : own_G p e below E0 T3180 (mkF m 479 #[vi p0, vj p1, ss, vj p2, ss, vi p3, vi p4, vi p5, vi (2 : Int32), vd (FP.i2d (p0 >>> ((8 : Int32) &&& 31))), ss, vi f0, vi f1, vi f2, vi g0, vi g1, vi g2, vi (own_val p1 (0 : Int32)), vi (own_val p1 (16 : Int32)), vi (own_val p1 (32 : Int32)), vi (own_val p2 (0 : Int32)), vi (own_val p2 (16 : Int32)), vi (own_val p2 (32 : Int32)), vr a2633, vr a2648, vi ps6, vi ps3, vi ps6, vr a2810, vr a2873, vr a2942, vr a3000, vj (((own_tm f0 (own_val p1 (0 : Int32)) p3) + (own_tm f1 (own_val p1 (16 : Int32)) p4)) + (own_tm f2 (own_val p1 (32 : Int32)) p5)), ss, uu, uu, uu] [(.long (own_tm g2 (own_val p2 (32 : Int32)) p5)), (.long ((own_tm g0 (own_val p2 (0 : Int32)) p3) + (own_tm g1 (own_val p2 (16 : Int32)) p4)))]) := fun tQ kk => k3179 tQ (st3190 _ kk)
    clear k3179 st3190
    have k3196 : own_G p e below E0 T3180 (mkF m 485 #[vi p0, vj p1, ss, vj p2, ss, vi p3, vi p4, vi p5, vi (2 : Int32), vd (FP.i2d (p0 >>> ((8 : Int32) &&& 31))), ss, vi f0, vi f1, vi f2, vi g0, vi g1, vi g2, vi (own_val p1 (0 : Int32)), vi (own_val p1 (16 : Int32)), vi (own_val p1 (32 : Int32)), vi (own_val p2 (0 : Int32)), vi (own_val p2 (16 : Int32)), vi (own_val p2 (32 : Int32)), vr a2633, vr a2648, vi ps6, vi ps3, vi ps6, vr a2810, vr a2873, vr a2942, vr a3000, vj (((own_tm f0 (own_val p1 (0 : Int32)) p3) + (own_tm f1 (own_val p1 (16 : Int32)) p4)) + (own_tm f2 (own_val p1 (32 : Int32)) p5)), ss, vj (((own_tm g0 (own_val p2 (0 : Int32)) p3) + (own_tm g1 (own_val p2 (16 : Int32)) p4)) + (own_tm g2 (own_val p2 (32 : Int32)) p5)), ss, uu] [(.int (0 : Int32)), (.ref a2873)]) := by
      intro tQ kk
      refine k3195 tQ ?_
      refine XT.ladd X3184.here hx rfl (hb hby at_479) rfl ?_
      refine XT.lstore X3184.here hx rfl (hb hby at_480) rfl (l' := #[vi p0, vj p1, ss, vj p2, ss, vi p3, vi p4, vi p5, vi (2 : Int32), vd (FP.i2d (p0 >>> ((8 : Int32) &&& 31))), ss, vi f0, vi f1, vi f2, vi g0, vi g1, vi g2, vi (own_val p1 (0 : Int32)), vi (own_val p1 (16 : Int32)), vi (own_val p1 (32 : Int32)), vi (own_val p2 (0 : Int32)), vi (own_val p2 (16 : Int32)), vi (own_val p2 (32 : Int32)), vr a2633, vr a2648, vi ps6, vi ps3, vi ps6, vr a2810, vr a2873, vr a2942, vr a3000, vj (((own_tm f0 (own_val p1 (0 : Int32)) p3) + (own_tm f1 (own_val p1 (16 : Int32)) p4)) + (own_tm f2 (own_val p1 (32 : Int32)) p5)), ss, vj (((own_tm g0 (own_val p2 (0 : Int32)) p3) + (own_tm g1 (own_val p2 (16 : Int32)) p4)) + (own_tm g2 (own_val p2 (32 : Int32)) p5)), ss, uu]) rfl ?_
      refine XS.aload X3184.here hx rfl (hb hby at_482) rfl rfl ?_
      refine XS.iconst X3184.here hx rfl (hb hby at_484) ?_
      exact kk
    clear k3195
    have st3197 := fun tQ => own_A.dld X3184 hx hZ e3192 F3086 (j := (0 : Int32)) (v := (.double (FP.i2d p3))) (by decide) rfl (g := (mkF m 485 #[vi p0, vj p1, ss, vj p2, ss, vi p3, vi p4, vi p5, vi (2 : Int32), vd (FP.i2d (p0 >>> ((8 : Int32) &&& 31))), ss, vi f0, vi f1, vi f2, vi g0, vi g1, vi g2, vi (own_val p1 (0 : Int32)), vi (own_val p1 (16 : Int32)), vi (own_val p1 (32 : Int32)), vi (own_val p2 (0 : Int32)), vi (own_val p2 (16 : Int32)), vi (own_val p2 (32 : Int32)), vr a2633, vr a2648, vi ps6, vi ps3, vi ps6, vr a2810, vr a2873, vr a2942, vr a3000, vj (((own_tm f0 (own_val p1 (0 : Int32)) p3) + (own_tm f1 (own_val p1 (16 : Int32)) p4)) + (own_tm f2 (own_val p1 (32 : Int32)) p5)), ss, vj (((own_tm g0 (own_val p2 (0 : Int32)) p3) + (own_tm g1 (own_val p2 (16 : Int32)) p4)) + (own_tm g2 (own_val p2 (32 : Int32)) p5)), ss, uu] [(.int (0 : Int32)), (.ref a2873)])) rfl rfl (hb hby at_485) tQ
    have k3198 : own_G p e below E0 T3180 (mkF m 486 #[vi p0, vj p1, ss, vj p2, ss, vi p3, vi p4, vi p5, vi (2 : Int32), vd (FP.i2d (p0 >>> ((8 : Int32) &&& 31))), ss, vi f0, vi f1, vi f2, vi g0, vi g1, vi g2, vi (own_val p1 (0 : Int32)), vi (own_val p1 (16 : Int32)), vi (own_val p1 (32 : Int32)), vi (own_val p2 (0 : Int32)), vi (own_val p2 (16 : Int32)), vi (own_val p2 (32 : Int32)), vr a2633, vr a2648, vi ps6, vi ps3, vi ps6, vr a2810, vr a2873, vr a2942, vr a3000, vj (((own_tm f0 (own_val p1 (0 : Int32)) p3) + (own_tm f1 (own_val p1 (16 : Int32)) p4)) + (own_tm f2 (own_val p1 (32 : Int32)) p5)), ss, vj (((own_tm g0 (own_val p2 (0 : Int32)) p3) + (own_tm g1 (own_val p2 (16 : Int32)) p4)) + (own_tm g2 (own_val p2 (32 : Int32)) p5)), ss, uu] [(.double (FP.i2d p3))]) := fun tQ kk => k3196 tQ (st3197 _ kk)
    clear k3196 st3197
    have k3199 : own_G p e below E0 T3180 (mkF m 496 #[vi p0, vj p1, ss, vj p2, ss, vi p3, vi p4, vi p5, vi (2 : Int32), vd (FP.i2d (p0 >>> ((8 : Int32) &&& 31))), ss, vi f0, vi f1, vi f2, vi g0, vi g1, vi g2, vi (own_val p1 (0 : Int32)), vi (own_val p1 (16 : Int32)), vi (own_val p1 (32 : Int32)), vi (own_val p2 (0 : Int32)), vi (own_val p2 (16 : Int32)), vi (own_val p2 (32 : Int32)), vr a2633, vr a2648, vi ps6, vi ps3, vi ps6, vr a2810, vr a2873, vr a2942, vr a3000, vj (((own_tm f0 (own_val p1 (0 : Int32)) p3) + (own_tm f1 (own_val p1 (16 : Int32)) p4)) + (own_tm f2 (own_val p1 (32 : Int32)) p5)), ss, vj (((own_tm g0 (own_val p2 (0 : Int32)) p3) + (own_tm g1 (own_val p2 (16 : Int32)) p4)) + (own_tm g2 (own_val p2 (32 : Int32)) p5)), ss, uu] [(.int (1 : Int32)), (.ref a2873)]) := by
      intro tQ kk
      refine k3198 tQ ?_
      refine XS.iload X3184.here hx rfl (hb hby at_486) rfl ?_
      refine XS.i2dS X3184.here hx rfl (hb hby at_488) rfl rfl ?_
      refine XS.dcmpS (v := (0 : Int32)) X3184.here hx rfl (hb hby at_489) rfl (own_eq0 .l (FP.Core.i2d_int p3) (FP.Core.i2d_int p3)) ?_
      refine XS.ifNo X3184.here hx rfl (hb hby at_490) rfl (own_if_neN (by decide)) ?_
      show Steps p.tables e below (T3180.setTop (mkF m 493 #[vi p0, vj p1, ss, vj p2, ss, vi p3, vi p4, vi p5, vi (2 : Int32), vd (FP.i2d (p0 >>> ((8 : Int32) &&& 31))), ss, vi f0, vi f1, vi f2, vi g0, vi g1, vi g2, vi (own_val p1 (0 : Int32)), vi (own_val p1 (16 : Int32)), vi (own_val p1 (32 : Int32)), vi (own_val p2 (0 : Int32)), vi (own_val p2 (16 : Int32)), vi (own_val p2 (32 : Int32)), vr a2633, vr a2648, vi ps6, vi ps3, vi ps6, vr a2810, vr a2873, vr a2942, vr a3000, vj (((own_tm f0 (own_val p1 (0 : Int32)) p3) + (own_tm f1 (own_val p1 (16 : Int32)) p4)) + (own_tm f2 (own_val p1 (32 : Int32)) p5)), ss, vj (((own_tm g0 (own_val p2 (0 : Int32)) p3) + (own_tm g1 (own_val p2 (16 : Int32)) p4)) + (own_tm g2 (own_val p2 (32 : Int32)) p5)), ss, uu] [])) tQ
      refine XS.aload X3184.here hx rfl (hb hby at_493) rfl rfl ?_
      refine XS.iconst X3184.here hx rfl (hb hby at_495) ?_
      exact kk
    clear k3198
    have st3200 := fun tQ => own_A.dld X3184 hx hZ e3192 F3086 (j := (1 : Int32)) (v := (.double (FP.i2d p4))) (by decide) rfl (g := (mkF m 496 #[vi p0, vj p1, ss, vj p2, ss, vi p3, vi p4, vi p5, vi (2 : Int32), vd (FP.i2d (p0 >>> ((8 : Int32) &&& 31))), ss, vi f0, vi f1, vi f2, vi g0, vi g1, vi g2, vi (own_val p1 (0 : Int32)), vi (own_val p1 (16 : Int32)), vi (own_val p1 (32 : Int32)), vi (own_val p2 (0 : Int32)), vi (own_val p2 (16 : Int32)), vi (own_val p2 (32 : Int32)), vr a2633, vr a2648, vi ps6, vi ps3, vi ps6, vr a2810, vr a2873, vr a2942, vr a3000, vj (((own_tm f0 (own_val p1 (0 : Int32)) p3) + (own_tm f1 (own_val p1 (16 : Int32)) p4)) + (own_tm f2 (own_val p1 (32 : Int32)) p5)), ss, vj (((own_tm g0 (own_val p2 (0 : Int32)) p3) + (own_tm g1 (own_val p2 (16 : Int32)) p4)) + (own_tm g2 (own_val p2 (32 : Int32)) p5)), ss, uu] [(.int (1 : Int32)), (.ref a2873)])) rfl rfl (hb hby at_496) tQ
    have k3201 : own_G p e below E0 T3180 (mkF m 497 #[vi p0, vj p1, ss, vj p2, ss, vi p3, vi p4, vi p5, vi (2 : Int32), vd (FP.i2d (p0 >>> ((8 : Int32) &&& 31))), ss, vi f0, vi f1, vi f2, vi g0, vi g1, vi g2, vi (own_val p1 (0 : Int32)), vi (own_val p1 (16 : Int32)), vi (own_val p1 (32 : Int32)), vi (own_val p2 (0 : Int32)), vi (own_val p2 (16 : Int32)), vi (own_val p2 (32 : Int32)), vr a2633, vr a2648, vi ps6, vi ps3, vi ps6, vr a2810, vr a2873, vr a2942, vr a3000, vj (((own_tm f0 (own_val p1 (0 : Int32)) p3) + (own_tm f1 (own_val p1 (16 : Int32)) p4)) + (own_tm f2 (own_val p1 (32 : Int32)) p5)), ss, vj (((own_tm g0 (own_val p2 (0 : Int32)) p3) + (own_tm g1 (own_val p2 (16 : Int32)) p4)) + (own_tm g2 (own_val p2 (32 : Int32)) p5)), ss, uu] [(.double (FP.i2d p4))]) := fun tQ kk => k3199 tQ (st3200 _ kk)
    clear k3199 st3200
    have k3202 : own_G p e below E0 T3180 (mkF m 507 #[vi p0, vj p1, ss, vj p2, ss, vi p3, vi p4, vi p5, vi (2 : Int32), vd (FP.i2d (p0 >>> ((8 : Int32) &&& 31))), ss, vi f0, vi f1, vi f2, vi g0, vi g1, vi g2, vi (own_val p1 (0 : Int32)), vi (own_val p1 (16 : Int32)), vi (own_val p1 (32 : Int32)), vi (own_val p2 (0 : Int32)), vi (own_val p2 (16 : Int32)), vi (own_val p2 (32 : Int32)), vr a2633, vr a2648, vi ps6, vi ps3, vi ps6, vr a2810, vr a2873, vr a2942, vr a3000, vj (((own_tm f0 (own_val p1 (0 : Int32)) p3) + (own_tm f1 (own_val p1 (16 : Int32)) p4)) + (own_tm f2 (own_val p1 (32 : Int32)) p5)), ss, vj (((own_tm g0 (own_val p2 (0 : Int32)) p3) + (own_tm g1 (own_val p2 (16 : Int32)) p4)) + (own_tm g2 (own_val p2 (32 : Int32)) p5)), ss, uu] [(.int (2 : Int32)), (.ref a2873)]) := by
      intro tQ kk
      refine k3201 tQ ?_
      refine XS.iload X3184.here hx rfl (hb hby at_497) rfl ?_
      refine XS.i2dS X3184.here hx rfl (hb hby at_499) rfl rfl ?_
      refine XS.dcmpS (v := (0 : Int32)) X3184.here hx rfl (hb hby at_500) rfl (own_eq0 .l (FP.Core.i2d_int p4) (FP.Core.i2d_int p4)) ?_
      refine XS.ifNo X3184.here hx rfl (hb hby at_501) rfl (own_if_neN (by decide)) ?_
      show Steps p.tables e below (T3180.setTop (mkF m 504 #[vi p0, vj p1, ss, vj p2, ss, vi p3, vi p4, vi p5, vi (2 : Int32), vd (FP.i2d (p0 >>> ((8 : Int32) &&& 31))), ss, vi f0, vi f1, vi f2, vi g0, vi g1, vi g2, vi (own_val p1 (0 : Int32)), vi (own_val p1 (16 : Int32)), vi (own_val p1 (32 : Int32)), vi (own_val p2 (0 : Int32)), vi (own_val p2 (16 : Int32)), vi (own_val p2 (32 : Int32)), vr a2633, vr a2648, vi ps6, vi ps3, vi ps6, vr a2810, vr a2873, vr a2942, vr a3000, vj (((own_tm f0 (own_val p1 (0 : Int32)) p3) + (own_tm f1 (own_val p1 (16 : Int32)) p4)) + (own_tm f2 (own_val p1 (32 : Int32)) p5)), ss, vj (((own_tm g0 (own_val p2 (0 : Int32)) p3) + (own_tm g1 (own_val p2 (16 : Int32)) p4)) + (own_tm g2 (own_val p2 (32 : Int32)) p5)), ss, uu] [])) tQ
      refine XS.aload X3184.here hx rfl (hb hby at_504) rfl rfl ?_
      refine XS.iconst X3184.here hx rfl (hb hby at_506) ?_
      exact kk
    clear k3201
    have st3203 := fun tQ => own_A.dld X3184 hx hZ e3192 F3086 (j := (2 : Int32)) (v := (.double (FP.i2d p5))) (by decide) rfl (g := (mkF m 507 #[vi p0, vj p1, ss, vj p2, ss, vi p3, vi p4, vi p5, vi (2 : Int32), vd (FP.i2d (p0 >>> ((8 : Int32) &&& 31))), ss, vi f0, vi f1, vi f2, vi g0, vi g1, vi g2, vi (own_val p1 (0 : Int32)), vi (own_val p1 (16 : Int32)), vi (own_val p1 (32 : Int32)), vi (own_val p2 (0 : Int32)), vi (own_val p2 (16 : Int32)), vi (own_val p2 (32 : Int32)), vr a2633, vr a2648, vi ps6, vi ps3, vi ps6, vr a2810, vr a2873, vr a2942, vr a3000, vj (((own_tm f0 (own_val p1 (0 : Int32)) p3) + (own_tm f1 (own_val p1 (16 : Int32)) p4)) + (own_tm f2 (own_val p1 (32 : Int32)) p5)), ss, vj (((own_tm g0 (own_val p2 (0 : Int32)) p3) + (own_tm g1 (own_val p2 (16 : Int32)) p4)) + (own_tm g2 (own_val p2 (32 : Int32)) p5)), ss, uu] [(.int (2 : Int32)), (.ref a2873)])) rfl rfl (hb hby at_507) tQ
    have k3204 : own_G p e below E0 T3180 (mkF m 508 #[vi p0, vj p1, ss, vj p2, ss, vi p3, vi p4, vi p5, vi (2 : Int32), vd (FP.i2d (p0 >>> ((8 : Int32) &&& 31))), ss, vi f0, vi f1, vi f2, vi g0, vi g1, vi g2, vi (own_val p1 (0 : Int32)), vi (own_val p1 (16 : Int32)), vi (own_val p1 (32 : Int32)), vi (own_val p2 (0 : Int32)), vi (own_val p2 (16 : Int32)), vi (own_val p2 (32 : Int32)), vr a2633, vr a2648, vi ps6, vi ps3, vi ps6, vr a2810, vr a2873, vr a2942, vr a3000, vj (((own_tm f0 (own_val p1 (0 : Int32)) p3) + (own_tm f1 (own_val p1 (16 : Int32)) p4)) + (own_tm f2 (own_val p1 (32 : Int32)) p5)), ss, vj (((own_tm g0 (own_val p2 (0 : Int32)) p3) + (own_tm g1 (own_val p2 (16 : Int32)) p4)) + (own_tm g2 (own_val p2 (32 : Int32)) p5)), ss, uu] [(.double (FP.i2d p5))]) := fun tQ kk => k3202 tQ (st3203 _ kk)
    clear k3202 st3203
    have k3205 : own_G p e below E0 T3180 (mkF m 536 #[vi p0, vj p1, ss, vj p2, ss, vi p3, vi p4, vi p5, vi (2 : Int32), vd (FP.i2d (p0 >>> ((8 : Int32) &&& 31))), ss, vi f0, vi f1, vi f2, vi g0, vi g1, vi g2, vi (own_val p1 (0 : Int32)), vi (own_val p1 (16 : Int32)), vi (own_val p1 (32 : Int32)), vi (own_val p2 (0 : Int32)), vi (own_val p2 (16 : Int32)), vi (own_val p2 (32 : Int32)), vr a2633, vr a2648, vi ps6, vi ps3, vi ps6, vr a2810, vr a2873, vr a2942, vr a3000, vj (((own_tm f0 (own_val p1 (0 : Int32)) p3) + (own_tm f1 (own_val p1 (16 : Int32)) p4)) + (own_tm f2 (own_val p1 (32 : Int32)) p5)), ss, vj (((own_tm g0 (own_val p2 (0 : Int32)) p3) + (own_tm g1 (own_val p2 (16 : Int32)) p4)) + (own_tm g2 (own_val p2 (32 : Int32)) p5)), ss, vi (1 : Int32)] [(.int (0 : Int32)), (.ref a2942)]) := by
      intro tQ kk
      refine k3204 tQ ?_
      refine XS.iload X3184.here hx rfl (hb hby at_508) rfl ?_
      refine XS.i2dS X3184.here hx rfl (hb hby at_510) rfl rfl ?_
      refine XS.dcmpS (v := (0 : Int32)) X3184.here hx rfl (hb hby at_511) rfl (own_eq0 .l (FP.Core.i2d_int p5) (FP.Core.i2d_int p5)) ?_
      refine XS.ifNo X3184.here hx rfl (hb hby at_512) rfl (own_if_neN (by decide)) ?_
      show Steps p.tables e below (T3180.setTop (mkF m 515 #[vi p0, vj p1, ss, vj p2, ss, vi p3, vi p4, vi p5, vi (2 : Int32), vd (FP.i2d (p0 >>> ((8 : Int32) &&& 31))), ss, vi f0, vi f1, vi f2, vi g0, vi g1, vi g2, vi (own_val p1 (0 : Int32)), vi (own_val p1 (16 : Int32)), vi (own_val p1 (32 : Int32)), vi (own_val p2 (0 : Int32)), vi (own_val p2 (16 : Int32)), vi (own_val p2 (32 : Int32)), vr a2633, vr a2648, vi ps6, vi ps3, vi ps6, vr a2810, vr a2873, vr a2942, vr a3000, vj (((own_tm f0 (own_val p1 (0 : Int32)) p3) + (own_tm f1 (own_val p1 (16 : Int32)) p4)) + (own_tm f2 (own_val p1 (32 : Int32)) p5)), ss, vj (((own_tm g0 (own_val p2 (0 : Int32)) p3) + (own_tm g1 (own_val p2 (16 : Int32)) p4)) + (own_tm g2 (own_val p2 (32 : Int32)) p5)), ss, uu] [])) tQ
      refine XS.iconst X3184.here hx rfl (hb hby at_515) ?_
      refine XS.goto X3184.here hx rfl (pc0 := 516) (pc' := 520) rfl (hb hby at_516) (by decide) (by decide) ?_
      refine XS.istore X3184.here hx rfl (hb hby at_520) rfl (l' := #[vi p0, vj p1, ss, vj p2, ss, vi p3, vi p4, vi p5, vi (2 : Int32), vd (FP.i2d (p0 >>> ((8 : Int32) &&& 31))), ss, vi f0, vi f1, vi f2, vi g0, vi g1, vi g2, vi (own_val p1 (0 : Int32)), vi (own_val p1 (16 : Int32)), vi (own_val p1 (32 : Int32)), vi (own_val p2 (0 : Int32)), vi (own_val p2 (16 : Int32)), vi (own_val p2 (32 : Int32)), vr a2633, vr a2648, vi ps6, vi ps3, vi ps6, vr a2810, vr a2873, vr a2942, vr a3000, vj (((own_tm f0 (own_val p1 (0 : Int32)) p3) + (own_tm f1 (own_val p1 (16 : Int32)) p4)) + (own_tm f2 (own_val p1 (32 : Int32)) p5)), ss, vj (((own_tm g0 (own_val p2 (0 : Int32)) p3) + (own_tm g1 (own_val p2 (16 : Int32)) p4)) + (own_tm g2 (own_val p2 (32 : Int32)) p5)), ss, vi (1 : Int32)]) rfl ?_
      refine XS.iload X3184.here hx rfl (hb hby at_522) rfl ?_
      show Steps p.tables e below (T3180.setTop (mkF m 524 #[vi p0, vj p1, ss, vj p2, ss, vi p3, vi p4, vi p5, vi (2 : Int32), vd (FP.i2d (p0 >>> ((8 : Int32) &&& 31))), ss, vi f0, vi f1, vi f2, vi g0, vi g1, vi g2, vi (own_val p1 (0 : Int32)), vi (own_val p1 (16 : Int32)), vi (own_val p1 (32 : Int32)), vi (own_val p2 (0 : Int32)), vi (own_val p2 (16 : Int32)), vi (own_val p2 (32 : Int32)), vr a2633, vr a2648, vi ps6, vi ps3, vi ps6, vr a2810, vr a2873, vr a2942, vr a3000, vj (((own_tm f0 (own_val p1 (0 : Int32)) p3) + (own_tm f1 (own_val p1 (16 : Int32)) p4)) + (own_tm f2 (own_val p1 (32 : Int32)) p5)), ss, vj (((own_tm g0 (own_val p2 (0 : Int32)) p3) + (own_tm g1 (own_val p2 (16 : Int32)) p4)) + (own_tm g2 (own_val p2 (32 : Int32)) p5)), ss, vi (1 : Int32)] [(.int (2 : Int32))])) tQ
      refine XS.iconst X3184.here hx rfl (hb hby at_524) ?_
      refine XS.icmpNo X3184.here hx rfl (hb hby at_525) rfl (own_ic_ltN (by decide)) ?_
      refine XS.iload X3184.here hx rfl (hb hby at_528) rfl ?_
      refine XS.ifNo X3184.here hx rfl (hb hby at_530) rfl (own_if_eqN (by decide)) ?_
      show Steps p.tables e below (T3180.setTop (mkF m 533 #[vi p0, vj p1, ss, vj p2, ss, vi p3, vi p4, vi p5, vi (2 : Int32), vd (FP.i2d (p0 >>> ((8 : Int32) &&& 31))), ss, vi f0, vi f1, vi f2, vi g0, vi g1, vi g2, vi (own_val p1 (0 : Int32)), vi (own_val p1 (16 : Int32)), vi (own_val p1 (32 : Int32)), vi (own_val p2 (0 : Int32)), vi (own_val p2 (16 : Int32)), vi (own_val p2 (32 : Int32)), vr a2633, vr a2648, vi ps6, vi ps3, vi ps6, vr a2810, vr a2873, vr a2942, vr a3000, vj (((own_tm f0 (own_val p1 (0 : Int32)) p3) + (own_tm f1 (own_val p1 (16 : Int32)) p4)) + (own_tm f2 (own_val p1 (32 : Int32)) p5)), ss, vj (((own_tm g0 (own_val p2 (0 : Int32)) p3) + (own_tm g1 (own_val p2 (16 : Int32)) p4)) + (own_tm g2 (own_val p2 (32 : Int32)) p5)), ss, vi (1 : Int32)] [])) tQ
      refine XS.aload X3184.here hx rfl (hb hby at_533) rfl rfl ?_
      refine XS.iconst X3184.here hx rfl (hb hby at_535) ?_
      exact kk
    clear k3204
    have st3206 := fun tQ => own_A.dld X3184 hx hZ e3192 g3078 (j := (0 : Int32)) (v := (.double s03075)) (by decide) rfl (g := (mkF m 536 #[vi p0, vj p1, ss, vj p2, ss, vi p3, vi p4, vi p5, vi (2 : Int32), vd (FP.i2d (p0 >>> ((8 : Int32) &&& 31))), ss, vi f0, vi f1, vi f2, vi g0, vi g1, vi g2, vi (own_val p1 (0 : Int32)), vi (own_val p1 (16 : Int32)), vi (own_val p1 (32 : Int32)), vi (own_val p2 (0 : Int32)), vi (own_val p2 (16 : Int32)), vi (own_val p2 (32 : Int32)), vr a2633, vr a2648, vi ps6, vi ps3, vi ps6, vr a2810, vr a2873, vr a2942, vr a3000, vj (((own_tm f0 (own_val p1 (0 : Int32)) p3) + (own_tm f1 (own_val p1 (16 : Int32)) p4)) + (own_tm f2 (own_val p1 (32 : Int32)) p5)), ss, vj (((own_tm g0 (own_val p2 (0 : Int32)) p3) + (own_tm g1 (own_val p2 (16 : Int32)) p4)) + (own_tm g2 (own_val p2 (32 : Int32)) p5)), ss, vi (1 : Int32)] [(.int (0 : Int32)), (.ref a2942)])) rfl rfl (hb hby at_536) tQ
    have k3207 : own_G p e below E0 T3180 (mkF m 537 #[vi p0, vj p1, ss, vj p2, ss, vi p3, vi p4, vi p5, vi (2 : Int32), vd (FP.i2d (p0 >>> ((8 : Int32) &&& 31))), ss, vi f0, vi f1, vi f2, vi g0, vi g1, vi g2, vi (own_val p1 (0 : Int32)), vi (own_val p1 (16 : Int32)), vi (own_val p1 (32 : Int32)), vi (own_val p2 (0 : Int32)), vi (own_val p2 (16 : Int32)), vi (own_val p2 (32 : Int32)), vr a2633, vr a2648, vi ps6, vi ps3, vi ps6, vr a2810, vr a2873, vr a2942, vr a3000, vj (((own_tm f0 (own_val p1 (0 : Int32)) p3) + (own_tm f1 (own_val p1 (16 : Int32)) p4)) + (own_tm f2 (own_val p1 (32 : Int32)) p5)), ss, vj (((own_tm g0 (own_val p2 (0 : Int32)) p3) + (own_tm g1 (own_val p2 (16 : Int32)) p4)) + (own_tm g2 (own_val p2 (32 : Int32)) p5)), ss, vi (1 : Int32)] [(.double s03075)]) := fun tQ kk => k3205 tQ (st3206 _ kk)
    clear k3205 st3206
    have k3208 : own_G p e below E0 T3180 (mkF m 565 #[vi p0, vj p1, ss, vj p2, ss, vi p3, vi p4, vi p5, vi (2 : Int32), vd (FP.i2d (p0 >>> ((8 : Int32) &&& 31))), ss, vi f0, vi f1, vi f2, vi g0, vi g1, vi g2, vi (own_val p1 (0 : Int32)), vi (own_val p1 (16 : Int32)), vi (own_val p1 (32 : Int32)), vi (own_val p2 (0 : Int32)), vi (own_val p2 (16 : Int32)), vi (own_val p2 (32 : Int32)), vr a2633, vr a2648, vi ps6, vi ps3, vi ps6, vr a2810, vr a2873, vr a2942, vr a3000, vj (((own_tm f0 (own_val p1 (0 : Int32)) p3) + (own_tm f1 (own_val p1 (16 : Int32)) p4)) + (own_tm f2 (own_val p1 (32 : Int32)) p5)), ss, vj (((own_tm g0 (own_val p2 (0 : Int32)) p3) + (own_tm g1 (own_val p2 (16 : Int32)) p4)) + (own_tm g2 (own_val p2 (32 : Int32)) p5)), ss, vi (1 : Int32)] [(.int (1 : Int32)), (.ref a2942)]) := by
      intro tQ kk
      refine k3207 tQ ?_
      refine XT.lload X3184.here hx rfl (hb hby at_537) rfl ?_
      refine XS.l2dS X3184.here hx rfl (hb hby at_539) rfl rfl ?_
      refine XS.dcmpS (v := (0 : Int32)) X3184.here hx rfl (hb hby at_540) rfl (own_eq0 .l g3079 (own_tsum f0 f1 f2 (own_valb p1 (0 : Int32)) (own_valb p1 (16 : Int32)) (own_valb p1 (32 : Int32)) p3 p4 p5)) ?_
      refine XS.ifNo X3184.here hx rfl (hb hby at_541) rfl (own_if_neN (by decide)) ?_
      show Steps p.tables e below (T3180.setTop (mkF m 544 #[vi p0, vj p1, ss, vj p2, ss, vi p3, vi p4, vi p5, vi (2 : Int32), vd (FP.i2d (p0 >>> ((8 : Int32) &&& 31))), ss, vi f0, vi f1, vi f2, vi g0, vi g1, vi g2, vi (own_val p1 (0 : Int32)), vi (own_val p1 (16 : Int32)), vi (own_val p1 (32 : Int32)), vi (own_val p2 (0 : Int32)), vi (own_val p2 (16 : Int32)), vi (own_val p2 (32 : Int32)), vr a2633, vr a2648, vi ps6, vi ps3, vi ps6, vr a2810, vr a2873, vr a2942, vr a3000, vj (((own_tm f0 (own_val p1 (0 : Int32)) p3) + (own_tm f1 (own_val p1 (16 : Int32)) p4)) + (own_tm f2 (own_val p1 (32 : Int32)) p5)), ss, vj (((own_tm g0 (own_val p2 (0 : Int32)) p3) + (own_tm g1 (own_val p2 (16 : Int32)) p4)) + (own_tm g2 (own_val p2 (32 : Int32)) p5)), ss, vi (1 : Int32)] [])) tQ
      refine XS.iconst X3184.here hx rfl (hb hby at_544) ?_
      refine XS.goto X3184.here hx rfl (pc0 := 545) (pc' := 549) rfl (hb hby at_545) (by decide) (by decide) ?_
      refine XS.istore X3184.here hx rfl (hb hby at_549) rfl (l' := #[vi p0, vj p1, ss, vj p2, ss, vi p3, vi p4, vi p5, vi (2 : Int32), vd (FP.i2d (p0 >>> ((8 : Int32) &&& 31))), ss, vi f0, vi f1, vi f2, vi g0, vi g1, vi g2, vi (own_val p1 (0 : Int32)), vi (own_val p1 (16 : Int32)), vi (own_val p1 (32 : Int32)), vi (own_val p2 (0 : Int32)), vi (own_val p2 (16 : Int32)), vi (own_val p2 (32 : Int32)), vr a2633, vr a2648, vi ps6, vi ps3, vi ps6, vr a2810, vr a2873, vr a2942, vr a3000, vj (((own_tm f0 (own_val p1 (0 : Int32)) p3) + (own_tm f1 (own_val p1 (16 : Int32)) p4)) + (own_tm f2 (own_val p1 (32 : Int32)) p5)), ss, vj (((own_tm g0 (own_val p2 (0 : Int32)) p3) + (own_tm g1 (own_val p2 (16 : Int32)) p4)) + (own_tm g2 (own_val p2 (32 : Int32)) p5)), ss, vi (1 : Int32)]) rfl ?_
      refine XS.iload X3184.here hx rfl (hb hby at_551) rfl ?_
      show Steps p.tables e below (T3180.setTop (mkF m 553 #[vi p0, vj p1, ss, vj p2, ss, vi p3, vi p4, vi p5, vi (2 : Int32), vd (FP.i2d (p0 >>> ((8 : Int32) &&& 31))), ss, vi f0, vi f1, vi f2, vi g0, vi g1, vi g2, vi (own_val p1 (0 : Int32)), vi (own_val p1 (16 : Int32)), vi (own_val p1 (32 : Int32)), vi (own_val p2 (0 : Int32)), vi (own_val p2 (16 : Int32)), vi (own_val p2 (32 : Int32)), vr a2633, vr a2648, vi ps6, vi ps3, vi ps6, vr a2810, vr a2873, vr a2942, vr a3000, vj (((own_tm f0 (own_val p1 (0 : Int32)) p3) + (own_tm f1 (own_val p1 (16 : Int32)) p4)) + (own_tm f2 (own_val p1 (32 : Int32)) p5)), ss, vj (((own_tm g0 (own_val p2 (0 : Int32)) p3) + (own_tm g1 (own_val p2 (16 : Int32)) p4)) + (own_tm g2 (own_val p2 (32 : Int32)) p5)), ss, vi (1 : Int32)] [(.int (2 : Int32))])) tQ
      refine XS.iconst X3184.here hx rfl (hb hby at_553) ?_
      refine XS.icmpNo X3184.here hx rfl (hb hby at_554) rfl (own_ic_ltN (by decide)) ?_
      refine XS.iload X3184.here hx rfl (hb hby at_557) rfl ?_
      refine XS.ifNo X3184.here hx rfl (hb hby at_559) rfl (own_if_eqN (by decide)) ?_
      show Steps p.tables e below (T3180.setTop (mkF m 562 #[vi p0, vj p1, ss, vj p2, ss, vi p3, vi p4, vi p5, vi (2 : Int32), vd (FP.i2d (p0 >>> ((8 : Int32) &&& 31))), ss, vi f0, vi f1, vi f2, vi g0, vi g1, vi g2, vi (own_val p1 (0 : Int32)), vi (own_val p1 (16 : Int32)), vi (own_val p1 (32 : Int32)), vi (own_val p2 (0 : Int32)), vi (own_val p2 (16 : Int32)), vi (own_val p2 (32 : Int32)), vr a2633, vr a2648, vi ps6, vi ps3, vi ps6, vr a2810, vr a2873, vr a2942, vr a3000, vj (((own_tm f0 (own_val p1 (0 : Int32)) p3) + (own_tm f1 (own_val p1 (16 : Int32)) p4)) + (own_tm f2 (own_val p1 (32 : Int32)) p5)), ss, vj (((own_tm g0 (own_val p2 (0 : Int32)) p3) + (own_tm g1 (own_val p2 (16 : Int32)) p4)) + (own_tm g2 (own_val p2 (32 : Int32)) p5)), ss, vi (1 : Int32)] [])) tQ
      refine XS.aload X3184.here hx rfl (hb hby at_562) rfl rfl ?_
      refine XS.iconst X3184.here hx rfl (hb hby at_564) ?_
      exact kk
    clear k3207
    have st3209 := fun tQ => own_A.dld X3184 hx hZ e3192 g3078 (j := (1 : Int32)) (v := (.double s13076)) (by decide) rfl (g := (mkF m 565 #[vi p0, vj p1, ss, vj p2, ss, vi p3, vi p4, vi p5, vi (2 : Int32), vd (FP.i2d (p0 >>> ((8 : Int32) &&& 31))), ss, vi f0, vi f1, vi f2, vi g0, vi g1, vi g2, vi (own_val p1 (0 : Int32)), vi (own_val p1 (16 : Int32)), vi (own_val p1 (32 : Int32)), vi (own_val p2 (0 : Int32)), vi (own_val p2 (16 : Int32)), vi (own_val p2 (32 : Int32)), vr a2633, vr a2648, vi ps6, vi ps3, vi ps6, vr a2810, vr a2873, vr a2942, vr a3000, vj (((own_tm f0 (own_val p1 (0 : Int32)) p3) + (own_tm f1 (own_val p1 (16 : Int32)) p4)) + (own_tm f2 (own_val p1 (32 : Int32)) p5)), ss, vj (((own_tm g0 (own_val p2 (0 : Int32)) p3) + (own_tm g1 (own_val p2 (16 : Int32)) p4)) + (own_tm g2 (own_val p2 (32 : Int32)) p5)), ss, vi (1 : Int32)] [(.int (1 : Int32)), (.ref a2942)])) rfl rfl (hb hby at_565) tQ
    have k3210 : own_G p e below E0 T3180 (mkF m 566 #[vi p0, vj p1, ss, vj p2, ss, vi p3, vi p4, vi p5, vi (2 : Int32), vd (FP.i2d (p0 >>> ((8 : Int32) &&& 31))), ss, vi f0, vi f1, vi f2, vi g0, vi g1, vi g2, vi (own_val p1 (0 : Int32)), vi (own_val p1 (16 : Int32)), vi (own_val p1 (32 : Int32)), vi (own_val p2 (0 : Int32)), vi (own_val p2 (16 : Int32)), vi (own_val p2 (32 : Int32)), vr a2633, vr a2648, vi ps6, vi ps3, vi ps6, vr a2810, vr a2873, vr a2942, vr a3000, vj (((own_tm f0 (own_val p1 (0 : Int32)) p3) + (own_tm f1 (own_val p1 (16 : Int32)) p4)) + (own_tm f2 (own_val p1 (32 : Int32)) p5)), ss, vj (((own_tm g0 (own_val p2 (0 : Int32)) p3) + (own_tm g1 (own_val p2 (16 : Int32)) p4)) + (own_tm g2 (own_val p2 (32 : Int32)) p5)), ss, vi (1 : Int32)] [(.double s13076)]) := fun tQ kk => k3208 tQ (st3209 _ kk)
    clear k3208 st3209
    have k3211 : own_G p e below E0 T3180 (mkF m 582 #[vi p0, vj p1, ss, vj p2, ss, vi p3, vi p4, vi p5, vi (2 : Int32), vd (FP.i2d (p0 >>> ((8 : Int32) &&& 31))), ss, vi f0, vi f1, vi f2, vi g0, vi g1, vi g2, vi (own_val p1 (0 : Int32)), vi (own_val p1 (16 : Int32)), vi (own_val p1 (32 : Int32)), vi (own_val p2 (0 : Int32)), vi (own_val p2 (16 : Int32)), vi (own_val p2 (32 : Int32)), vr a2633, vr a2648, vi ps6, vi ps3, vi ps6, vr a2810, vr a2873, vr a2942, vr a3000, vj (((own_tm f0 (own_val p1 (0 : Int32)) p3) + (own_tm f1 (own_val p1 (16 : Int32)) p4)) + (own_tm f2 (own_val p1 (32 : Int32)) p5)), ss, vj (((own_tm g0 (own_val p2 (0 : Int32)) p3) + (own_tm g1 (own_val p2 (16 : Int32)) p4)) + (own_tm g2 (own_val p2 (32 : Int32)) p5)), ss, vi (1 : Int32)] [(.int (1 : Int32))]) := by
      intro tQ kk
      refine k3210 tQ ?_
      refine XT.lload X3184.here hx rfl (hb hby at_566) rfl ?_
      refine XS.l2dS X3184.here hx rfl (hb hby at_568) rfl rfl ?_
      refine XS.dcmpS (v := (0 : Int32)) X3184.here hx rfl (hb hby at_569) rfl (own_eq0 .l g3080 (own_tsum g0 g1 g2 (own_valb p2 (0 : Int32)) (own_valb p2 (16 : Int32)) (own_valb p2 (32 : Int32)) p3 p4 p5)) ?_
      refine XS.ifNo X3184.here hx rfl (hb hby at_570) rfl (own_if_neN (by decide)) ?_
      show Steps p.tables e below (T3180.setTop (mkF m 573 #[vi p0, vj p1, ss, vj p2, ss, vi p3, vi p4, vi p5, vi (2 : Int32), vd (FP.i2d (p0 >>> ((8 : Int32) &&& 31))), ss, vi f0, vi f1, vi f2, vi g0, vi g1, vi g2, vi (own_val p1 (0 : Int32)), vi (own_val p1 (16 : Int32)), vi (own_val p1 (32 : Int32)), vi (own_val p2 (0 : Int32)), vi (own_val p2 (16 : Int32)), vi (own_val p2 (32 : Int32)), vr a2633, vr a2648, vi ps6, vi ps3, vi ps6, vr a2810, vr a2873, vr a2942, vr a3000, vj (((own_tm f0 (own_val p1 (0 : Int32)) p3) + (own_tm f1 (own_val p1 (16 : Int32)) p4)) + (own_tm f2 (own_val p1 (32 : Int32)) p5)), ss, vj (((own_tm g0 (own_val p2 (0 : Int32)) p3) + (own_tm g1 (own_val p2 (16 : Int32)) p4)) + (own_tm g2 (own_val p2 (32 : Int32)) p5)), ss, vi (1 : Int32)] [])) tQ
      refine XS.iconst X3184.here hx rfl (hb hby at_573) ?_
      refine XS.goto X3184.here hx rfl (pc0 := 574) (pc' := 578) rfl (hb hby at_574) (by decide) (by decide) ?_
      refine XS.istore X3184.here hx rfl (hb hby at_578) rfl (l' := #[vi p0, vj p1, ss, vj p2, ss, vi p3, vi p4, vi p5, vi (2 : Int32), vd (FP.i2d (p0 >>> ((8 : Int32) &&& 31))), ss, vi f0, vi f1, vi f2, vi g0, vi g1, vi g2, vi (own_val p1 (0 : Int32)), vi (own_val p1 (16 : Int32)), vi (own_val p1 (32 : Int32)), vi (own_val p2 (0 : Int32)), vi (own_val p2 (16 : Int32)), vi (own_val p2 (32 : Int32)), vr a2633, vr a2648, vi ps6, vi ps3, vi ps6, vr a2810, vr a2873, vr a2942, vr a3000, vj (((own_tm f0 (own_val p1 (0 : Int32)) p3) + (own_tm f1 (own_val p1 (16 : Int32)) p4)) + (own_tm f2 (own_val p1 (32 : Int32)) p5)), ss, vj (((own_tm g0 (own_val p2 (0 : Int32)) p3) + (own_tm g1 (own_val p2 (16 : Int32)) p4)) + (own_tm g2 (own_val p2 (32 : Int32)) p5)), ss, vi (1 : Int32)]) rfl ?_
      refine XS.iload X3184.here hx rfl (hb hby at_580) rfl ?_
      exact kk
    clear k3210
    obtain ⟨fs, hr, hrun, hended, hW, hsame⟩ := X3184.leave (v := some (.int (1 : Int32))) (fun h => by rw [Bd.returns] at h; cases h)
    have hrun0 := k3211 _ (retOut X3184 hx Bd.returns (t := .boolean) rfl (Or.inl ⟨rfl, Or.inr (Or.inl rfl), _, rfl⟩) (hb hby at_582) hr)
    subst hE0
    refine ⟨_, _, hrun0, hrun, hended, _, _, rfl, ?_, ⟨_, rfl⟩, hW, hsame.mono (by decide) (by decide)⟩
    show Qrm0 Z p0 p1 p2 p3 p4 p5 h0 n0 _ T3180.heap _
    rw [e3192]
    exact ⟨rfl, N3194⟩
set_option maxRecDepth 65536 in
set_option maxHeartbeats 40000000 in
theorem comes_1 {Post : Tables → Env → Array Value → State → Outcome → State → Prop} (hpost : ∀ tb e args s v u, (limb_1_1.after args s (.returned v) u = true ∧ limb_1_2.after args s (.returned v) u = true ∧ True) → FrameEnd s (.returned v) u (Jvm.fieldLocs frame_1_writes args s ++ Jvm.arrayLocs frame_1_arrays args s ++ Jvm.staticLocs frame_1_statics s) 24 128 → Post tb e args s (.returned v) u) :
    ArmFor flags0 classFile x code maxLocals ret World_1 tables_1 room_1 Calls_1 rest_1 Pre_1 Post := by
  intro l hfl _ _ p e ha hc hk s m args below hf hA hF happ hP
  obtain ⟨hcalls, hrest, hpre⟩ := hP
  obtain ⟨-, -, -, hnamed, -, -, -, hat⟩ := (Spec.applies_iff hf).mp happ
  obtain ⟨hg, hn⟩ := and_e (Cond.before_iff.mp (show (Jvm.Cond.and given_1 narrow_1).before args s = true from hpre))
  obtain ⟨hct, hr0⟩ := and_e hg
  obtain ⟨ha0, hr1⟩ := and_e hr0
  obtain ⟨ha1, hr2⟩ := and_e hr1
  obtain ⟨ha2, hr3⟩ := and_e hr2
  obtain ⟨ha3, hr4⟩ := and_e hr3
  obtain ⟨ha4, hr5⟩ := and_e hr4
  obtain ⟨w0, w1, w2, w3, w4, w5, rfl⟩ : ∃ w0 w1 w2 w3 w4 w5 : Value, args = #[w0, w1, w2, w3, w4, w5] := by
    have hs : args.size = 6 := by simpa [Cond.value, given_1] using hct
    obtain ⟨L⟩ := args
    match L, hs with
    | [w0, w1, w2, w3, w4, w5], _ => exact ⟨w0, w1, w2, w3, w4, w5, rfl⟩
  have hw := fun d (hd : d ∈ tables_1) => atoms_spec (ws := Jvm.Cond.code x code maxLocals ret :: tables_1) hat d (List.mem_cons_of_mem _ hd)
  have hfit : Fit s := fun {y c} hc i hi => by
    obtain ⟨ha, rfl⟩ := Array.getElem?_eq_some_iff.mp hc
    have q := List.all_eq_true.mp ((Array.all_eq_true_iff_forall_mem.mp hF) _ (Array.getElem_mem ha)) i (List.mem_range.mpr hi)
    simpa [Array.getElem?_eq_getElem hi] using q
  obtain ⟨i0, ev0⟩ := is_v ha0
  obtain rfl : w0 = (.int i0) := Option.some.inj ev0
  obtain ⟨i1, ev1⟩ := isL_v ha1
  obtain rfl : w1 = (.long i1) := Option.some.inj ev1
  obtain ⟨i2, ev2⟩ := isL_v ha2
  obtain rfl : w2 = (.long i2) := Option.some.inj ev2
  obtain ⟨i3, ev3⟩ := is_v ha3
  obtain rfl : w3 = (.int i3) := Option.some.inj ev3
  obtain ⟨i4, ev4⟩ := is_v ha4
  obtain rfl : w4 = (.int i4) := Option.some.inj ev4
  obtain ⟨i5, ev5⟩ := is_v hr5
  obtain rfl : w5 = (.int i5) := Option.some.inj ev5
  obtain ⟨n, o, h1, h2, h3, _, L, rfl, ⟨rfl, N⟩, hq⟩ := rm0 l s _ hw tables_1 i0 i1 i2 i3 i4 i5 s.heap s.heap.size (Nat.le_refl _) p e ha hc hk s m _ below hf ((Spec.applies_iff_loose hf).mp happ).1 ⟨rfl, State.Warmed39.refl s, rfl⟩ trivial
  refine ⟨n, _, h1, h2, h3, hpost _ _ _ _ _ _ ⟨Cond.after_iff.mpr rfl, Cond.after_iff.mpr (eq_i res_at (Term.int_eval (1)) rfl), trivial⟩ ⟨hq.1, hq.2.1, (hq.2.2.sift fun y hy => Or.inr (N y hy)).mono (by decide) (by decide)⟩⟩
theorem main_1_1 : Claimed_1_1 := comes_1 fun _ _ _ _ _ _ h hF => ⟨h.1, hF⟩
theorem main_1_2 : Claimed_1_2 := comes_1 fun _ _ _ _ _ _ h hF => ⟨h.2.1, hF⟩
end Jvm.Pilot.@@N@@
namespace Jvm.Pilot.@@N@@
open Jvm Jvm.ClassFile Sem Op Lib Jvm.Free Jvm.Stand Jvm.Pilot.@@N@@.Jvm.D
/-! MADE BY PROGRAM (witnessworld.py) out of the Statement's table words and the real class files: 11 classes; the members and pool entries that the words name. The judged class is class 1, her method 4. -/
namespace start1
open Jvm.ClassFile
def u (s : String) : CpInfo := .utf8 (stringToUtf16 s)
/-- a pool by its gaps: so many unusable entries, then the entry; so many at the end -/
def gap : Nat → List CpInfo → List CpInfo
  | 0, r => r
  | n + 1, r => .unusable :: gap n r
def poolList (es : List (Nat × CpInfo)) (last : Nat) : List CpInfo := es.foldr (fun e r => gap e.1 (e.2 :: r)) (gap last [])
def pool (es : List (Nat × CpInfo)) (last : Nat) : Array CpInfo := ⟨poolList es last⟩
def fileOf (pool : Array CpInfo) (this : Nat) (attrs : Array Attribute := #[]) (ms : Array MethodInfo := #[]) (fl : Nat := 33) (sup : Nat := 0) (ifs : Array Nat := #[]) (fds : Array FieldInfo := #[]) : ClassFile where
  minorVersion := 0
  majorVersion := 65
  constantPool := pool
  accessFlags := fl
  thisClass := this
  superClass := sup
  interfaces := ifs
  fields := fds
  methods := ms
  attributes := attrs
def plain (name : String) (sup : Option ClassId) : Class where
  name := name
  kind := .ordinary
  loader := none
  accessFlags := 33
  super := sup
  interfaces := #[]
  cf := none
  fields := #[]
  methods := #[]
  instanceTypes := #[]
  staticTypes := #[]
  resolved := #[]
  callSites := []
  init := .initialized
  statics := none
  mirror := none

def pool0 : Array CpInfo := pool [(5, u "<init>"), (0, u "()V"), (1, .class_ 10), (1, u "java/lang/Object")] 113

def k0c0 : Code := { maxStack := 0, maxLocals := 1, code := object_method_1_code, exceptionTable := #[], attributes := #[] }
def k0m0 : Method := { name := "<init>", desc := "()V", sig := { parameters := [], returnType := none }, accessFlags := 1, code := some k0c0 }
/-- java/lang/Object -/
def k0 : Class := { plain "java/lang/Object" none with
  accessFlags := 33
  interfaces := #[]
  cf := some (fileOf pool0 8 #[] #[{ accessFlags := 1, nameIndex := 5, descriptorIndex := 6, attributes := #[] }] 33 0 #[] #[])
  fields := #[]
  methods := #[k0m0]
  instanceTypes := #[]
  staticTypes := #[]
  resolved := Array.replicate 124 none
  statics := none }

def pool1 : Array CpInfo := pool [(2, .class_ 4), (1, u "java/lang/Object"), (0, u "<init>"), (0, u "()V"), (0, .methodref 8 9), (0, .class_ 10), (0, .nameAndType 11 12), (0, u "com/example/velvet_postings/velvetpostings/search/SparseMatrixMultiplyPinLaw"), (0, u "val"), (0, u "(JI)I"), (0, .methodref 8 14), (0, .nameAndType 15 16), (0, u "put"), (0, u "([I[DIZII)I"), (0, .class_ 18), (0, u "com/example/velvet_postings/velvetpostings/search/SparseMatrix"), (0, .methodref 17 20), (0, .nameAndType 5 21), (0, u "(II[I[I[D)V"), (0, .methodref 17 23), (0, .nameAndType 24 25), (0, u "multiply"), (0, u "([D[D)V"), (0, .methodref 8 27), (0, .nameAndType 28 29), (0, u "term"), (0, u "(ZII)J"), (3, u "law"), (0, u "(IJJIII)Z")] 6

def k1m0 : Method := { name := "<init>", desc := "()V", sig := { parameters := [], returnType := none }, accessFlags := 1, code := none }
def k1c1 : Code := { maxStack := 3, maxLocals := 4, code := method_2_code, exceptionTable := #[], attributes := #[] }
def k1m1 : Method := { name := "val", desc := "(JI)I", sig := { parameters := [.long, .int], returnType := some .int }, accessFlags := 10, code := some k1c1 }
def k1c2 : Code := { maxStack := 4, maxLocals := 6, code := method_3_code, exceptionTable := #[], attributes := #[] }
def k1m2 : Method := { name := "put", desc := "([I[DIZII)I", sig := { parameters := [(.array .int), (.array .double), .int, .boolean, .int, .int], returnType := some .int }, accessFlags := 10, code := some k1c2 }
def k1c3 : Code := { maxStack := 4, maxLocals := 3, code := method_4_code, exceptionTable := #[], attributes := #[] }
def k1m3 : Method := { name := "term", desc := "(ZII)J", sig := { parameters := [.boolean, .int, .int], returnType := some .long }, accessFlags := 10, code := some k1c3 }
def k1c4 : Code := { maxStack := 7, maxLocals := 37, code := code, exceptionTable := #[], attributes := #[] }
def k1m4 : Method := { name := "law", desc := "(IJJIII)Z", sig := { parameters := [.int, .long, .long, .int, .int, .int], returnType := some .boolean }, accessFlags := 9, code := some k1c4 }
/-- com/example/velvet_postings/velvetpostings/search/SparseMatrixMultiplyPinLaw -/
def k1 : Class := { plain "com/example/velvet_postings/velvetpostings/search/SparseMatrixMultiplyPinLaw" (some 0) with
  accessFlags := 49
  interfaces := #[]
  cf := some (fileOf pool1 8 #[] #[{ accessFlags := 1, nameIndex := 5, descriptorIndex := 6, attributes := #[] }, { accessFlags := 10, nameIndex := 11, descriptorIndex := 12, attributes := #[] }, { accessFlags := 10, nameIndex := 15, descriptorIndex := 16, attributes := #[] }, { accessFlags := 10, nameIndex := 28, descriptorIndex := 29, attributes := #[] }, { accessFlags := 9, nameIndex := 33, descriptorIndex := 34, attributes := #[] }] 49 2 #[] #[])
  fields := #[]
  methods := #[k1m0, k1m1, k1m2, k1m3, k1m4]
  instanceTypes := #[]
  staticTypes := #[]
  resolved := Array.replicate 41 none
  statics := none }

def pool2 : Array CpInfo := pool [(1, .methodref 2 3), (0, .class_ 4), (0, .nameAndType 5 6), (0, u "java/lang/Object"), (0, u "<init>"), (0, u "()V"), (0, .fieldref 8 9), (0, .class_ 10), (0, .nameAndType 11 12), (0, u "com/example/velvet_postings/velvetpostings/search/SparseMatrix"), (0, u "rowCount"), (0, u "I"), (0, .fieldref 8 14), (0, .nameAndType 15 12), (0, u "columnCount"), (0, .fieldref 8 17), (0, .nameAndType 18 19), (0, u "rowStarts"), (0, u "[I"), (0, .fieldref 8 21), (0, .nameAndType 22 19), (0, u "columns"), (0, .fieldref 8 24), (0, .nameAndType 25 26), (0, u "values"), (0, u "[D"), (44, .class_ 72), (0, u "com/example/velvet_postings/velvetpostings/search/SparseMatrix$Block"), (2, u "(II[I[I[D)V"), (10, u "multiply"), (0, u "([D[D)V")] 16

def k2c0 : Code := { maxStack := 2, maxLocals := 6, code := prog_93_method_1_code, exceptionTable := #[], attributes := #[] }
def k2m0 : Method := { name := "<init>", desc := "(II[I[I[D)V", sig := { parameters := [.int, .int, (.array .int), (.array .int), (.array .double)], returnType := none }, accessFlags := 0, code := some k2c0 }
def k2c1 : Code := { maxStack := 7, maxLocals := 7, code := prog_93_method_4_code, exceptionTable := #[], attributes := #[] }
def k2m1 : Method := { name := "multiply", desc := "([D[D)V", sig := { parameters := [(.array .double), (.array .double)], returnType := none }, accessFlags := 16, code := some k2c1 }
/-- com/example/velvet_postings/velvetpostings/search/SparseMatrix -/
def k2 : Class := { plain "com/example/velvet_postings/velvetpostings/search/SparseMatrix" (some 0) with
  accessFlags := 32
  interfaces := #[]
  cf := some (fileOf pool2 8 #[.nestMembers #[71]] #[{ accessFlags := 0, nameIndex := 5, descriptorIndex := 75, attributes := #[] }, { accessFlags := 16, nameIndex := 86, descriptorIndex := 87, attributes := #[] }] 32 2 #[] #[{ accessFlags := 18, nameIndex := 11, descriptorIndex := 12, attributes := #[] }, { accessFlags := 18, nameIndex := 15, descriptorIndex := 12, attributes := #[] }, { accessFlags := 18, nameIndex := 18, descriptorIndex := 19, attributes := #[] }, { accessFlags := 18, nameIndex := 22, descriptorIndex := 19, attributes := #[] }, { accessFlags := 18, nameIndex := 25, descriptorIndex := 26, attributes := #[] }])
  fields := #[{ name := "rowCount", type := .int, accessFlags := 18, slot := 0, constantValue := 0 }, { name := "columnCount", type := .int, accessFlags := 18, slot := 1, constantValue := 0 }, { name := "rowStarts", type := (.array .int), accessFlags := 18, slot := 2, constantValue := 0 }, { name := "columns", type := (.array .int), accessFlags := 18, slot := 3, constantValue := 0 }, { name := "values", type := (.array .double), accessFlags := 18, slot := 4, constantValue := 0 }]
  methods := #[k2m0, k2m1]
  instanceTypes := #[.int, .int, (.array .int), (.array .int), (.array .double)]
  staticTypes := #[]
  resolved := Array.replicate 104 none
  statics := none }

def pool3 : Array CpInfo := pool [(1, u "java/lang/Cloneable"), (0, .class_ 1), (0, u "java/lang/Object"), (0, .class_ 3)] 3

/-- java/lang/Cloneable -/
def k3 : Class := { plain "java/lang/Cloneable" (some 0) with
  accessFlags := 1537
  interfaces := #[]
  cf := some (fileOf pool3 2 #[] #[] 1537 4 #[] #[])
  fields := #[]
  methods := #[]
  instanceTypes := #[]
  staticTypes := #[]
  resolved := Array.replicate 8 none
  statics := none }

def pool4 : Array CpInfo := pool [(1, u "java/io/Serializable"), (0, .class_ 1), (0, u "java/lang/Object"), (0, .class_ 3)] 3

/-- java/io/Serializable -/
def k4 : Class := { plain "java/io/Serializable" (some 0) with
  accessFlags := 1537
  interfaces := #[]
  cf := some (fileOf pool4 2 #[] #[] 1537 4 #[] #[])
  fields := #[]
  methods := #[]
  instanceTypes := #[]
  staticTypes := #[]
  resolved := Array.replicate 8 none
  statics := none }

/-- the primitive byte -/
def k5 : Class := { plain "byte" none with kind := .primitive 'B', accessFlags := 0x411 }
/-- [B -/
def k6 : Class := { plain "[B" (some 0) with kind := .array 5 .byte, interfaces := #[3, 4], accessFlags := 1041 }

/-- the primitive double -/
def k7 : Class := { plain "double" none with kind := .primitive 'D', accessFlags := 0x411 }
/-- [D -/
def k8 : Class := { plain "[D" (some 0) with kind := .array 7 .double, interfaces := #[3, 4], accessFlags := 1041 }

/-- the primitive int -/
def k9 : Class := { plain "int" none with kind := .primitive 'I', accessFlags := 0x411 }
/-- [I -/
def k10 : Class := { plain "[I" (some 0) with kind := .array 9 .int, interfaces := #[3, 4], accessFlags := 1041 }

def heap : Heap := #[]
def classes : Array Class := #[k0, k1, k2, k3, k4, k5, k6, k7, k8, k9, k10]
def interned : List (Array UInt16 × Addr) := []
def slotsUsed : Nat := 0
def theMethod : MethodId := ⟨1, 4⟩
def args0 : Array Value := #[.int 135, .long 4, .long 5, .int 6, .int 7, .int 8]
def aboutOver (below : List Frame) : State where
  vm := { classes := classes, interned := interned.toArray }
  heap := heap
  slotsUsed := slotsUsed
  threads := #[{ frames := .invoking theMethod args0 :: below }]
def below0 : List Frame := [.native { method := ⟨0, 0⟩, args := #[] }]
def about1 : State := aboutOver below0
def p0 : Program := .bare "" "" ""
def e0 : Env := launch0.env 0 0 0
theorem w_frames : about1.frames = Frame.invoking theMethod args0 :: below0 := rfl
set_option maxRecDepth 65536 in
theorem w_args : argsFit about1.vm theMethod args0 = true := by decide +kernel
set_option maxRecDepth 65536 in
theorem w_heap : heapFits about1 = true := by decide +kernel
set_option maxRecDepth 65536 in
theorem w_runnable : about1.curStatus? = some .runnable := by decide +kernel
set_option maxRecDepth 65536 in
theorem w_alone : about1.alone = true := by decide +kernel
set_option maxRecDepth 65536 in
theorem w_named : about1.methodNamed? x = some theMethod := by decide +kernel
set_option maxRecDepth 65536 in
theorem w_hears : about1.hears theMethod below0 = true := by decide +kernel
set_option maxRecDepth 65536 in
theorem w_ripe : about1.ripe theMethod args0 below0 = true := by decide +kernel
theorem w_running : about1.status = .running := rfl
set_option maxRecDepth 65536 in
theorem w_room : about1.hasRoom e0.platform room_1 = true :=
  launch0.hasRoom_least _ room_1 (by decide +kernel) (by decide +kernel) (by decide +kernel) (by decide +kernel) (by decide +kernel) (by decide +kernel)
theorem allAtoms_all (ts : List Jvm.Cond) (a : Array Jvm.Value) (st : Jvm.State) : (allAtoms ts).before a st = ts.all (fun c => c.before a st) := by
  induction ts with
  | nil => rfl
  | cons c t ih =>
    show (Jvm.Cond.and c (allAtoms t)).before a st = _
    rw [Jvm.Cond.before_and, ih, List.all_cons]
def words1 : List Jvm.Cond := Jvm.Cond.code x code maxLocals ret :: tables_1
/-- a 'code' word, met by the world's own term for the bytes: nothing is compared byte by byte -/
theorem code_word {y : MethodName} {bytes : ByteArray} {mx : Nat} {rt : Option FieldType} {a : Array Value} {s : State} {m : MethodId} {meth : Method} {c : Code} (h1 : s.methodNamed? y = some m) (h2 : s.vm.method? m = some meth) (h3 : meth.code = some c) (h4 : c.code = bytes)
    (h5 : (c.maxLocals == mx && c.exceptionTable.isEmpty && decide (c.maxStack ≤ mostOperands) && decide (meth.sig.returnType = rt) && !meth.locks && decide (parseMethodDescriptor y.desc = some meth.sig)) = true) : (Jvm.Cond.code y bytes mx rt).before a s = true := by
  simp only [Bool.and_eq_true, beq_iff_eq, Bool.not_eq_true', decide_eq_true_eq] at h5
  obtain ⟨⟨⟨⟨⟨g1, g2⟩, g3⟩, g4⟩, g5⟩, g6⟩ := h5
  simp [Cond.before, Cond.holds, Cond.value, h1, h2, h3, h4, g1, g2, g3, g4, g5, g6]
def isCode : Jvm.Cond → Bool
  | .code _ _ _ _ => true
  | _ => false
theorem all_split {L : List Jvm.Cond} {P : Jvm.Cond → Bool} (h1 : L.all (fun c => isCode c || P c) = true) (h2 : ∀ c ∈ L.filter isCode, P c = true) : L.all P = true := by
  refine List.all_eq_true.mpr fun c hc => ?_
  have h := List.all_eq_true.mp h1 c hc
  rcases Bool.eq_false_or_eq_true (isCode c) with hi | hi
  · exact h2 c (List.mem_filter.mpr ⟨hc, hi⟩)
  · simpa [hi] using h
set_option maxRecDepth 65536 in
theorem w_c0 : (Jvm.Cond.code x code maxLocals ret).before args0 about1 = true := code_word (m := ⟨1, 4⟩) (meth := k1m4) (c := k1c4) (by decide +kernel) rfl rfl rfl (by decide +kernel)
set_option maxRecDepth 65536 in
theorem w_c1 : (Jvm.Cond.code ({ cls := "com/example/velvet_postings/velvetpostings/search/SparseMatrixMultiplyPinLaw", name := "val", desc := "(JI)I" } : Jvm.MethodName) method_2_code (4 : Nat) (Option.some Jvm.ClassFile.FieldType.int)).before args0 about1 = true := code_word (m := ⟨1, 1⟩) (meth := k1m1) (c := k1c1) (by decide +kernel) rfl rfl rfl (by decide +kernel)
set_option maxRecDepth 65536 in
theorem w_c2 : (Jvm.Cond.code ({ cls := "com/example/velvet_postings/velvetpostings/search/SparseMatrixMultiplyPinLaw", name := "put", desc := "([I[DIZII)I" } : Jvm.MethodName) method_3_code (6 : Nat) (Option.some Jvm.ClassFile.FieldType.int)).before args0 about1 = true := code_word (m := ⟨1, 2⟩) (meth := k1m2) (c := k1c2) (by decide +kernel) rfl rfl rfl (by decide +kernel)
set_option maxRecDepth 65536 in
theorem w_c3 : (Jvm.Cond.code ({ cls := "com/example/velvet_postings/velvetpostings/search/SparseMatrix", name := "<init>", desc := "(II[I[I[D)V" } : Jvm.MethodName) prog_93_method_1_code (6 : Nat) (Option.none : Option Jvm.ClassFile.FieldType)).before args0 about1 = true := code_word (m := ⟨2, 0⟩) (meth := k2m0) (c := k2c0) (by decide +kernel) rfl rfl rfl (by decide +kernel)
set_option maxRecDepth 65536 in
theorem w_c4 : (Jvm.Cond.code ({ cls := "java/lang/Object", name := "<init>", desc := "()V" } : Jvm.MethodName) object_method_1_code (1 : Nat) (Option.none : Option Jvm.ClassFile.FieldType)).before args0 about1 = true := code_word (m := ⟨0, 0⟩) (meth := k0m0) (c := k0c0) (by decide +kernel) rfl rfl rfl (by decide +kernel)
set_option maxRecDepth 65536 in
theorem w_c5 : (Jvm.Cond.code ({ cls := "com/example/velvet_postings/velvetpostings/search/SparseMatrix", name := "multiply", desc := "([D[D)V" } : Jvm.MethodName) prog_93_method_4_code (7 : Nat) (Option.none : Option Jvm.ClassFile.FieldType)).before args0 about1 = true := code_word (m := ⟨2, 1⟩) (meth := k2m1) (c := k2c1) (by decide +kernel) rfl rfl rfl (by decide +kernel)
set_option maxRecDepth 65536 in
theorem w_c6 : (Jvm.Cond.code ({ cls := "com/example/velvet_postings/velvetpostings/search/SparseMatrixMultiplyPinLaw", name := "term", desc := "(ZII)J" } : Jvm.MethodName) method_4_code (3 : Nat) (Option.some Jvm.ClassFile.FieldType.long)).before args0 about1 = true := code_word (m := ⟨1, 3⟩) (meth := k1m3) (c := k1c3) (by decide +kernel) rfl rfl rfl (by decide +kernel)
def codes1 : List Jvm.Cond := [Jvm.Cond.code x code maxLocals ret, Jvm.Cond.code ({ cls := "com/example/velvet_postings/velvetpostings/search/SparseMatrixMultiplyPinLaw", name := "val", desc := "(JI)I" } : Jvm.MethodName) method_2_code (4 : Nat) (Option.some Jvm.ClassFile.FieldType.int), Jvm.Cond.code ({ cls := "com/example/velvet_postings/velvetpostings/search/SparseMatrixMultiplyPinLaw", name := "put", desc := "([I[DIZII)I" } : Jvm.MethodName) method_3_code (6 : Nat) (Option.some Jvm.ClassFile.FieldType.int), Jvm.Cond.code ({ cls := "com/example/velvet_postings/velvetpostings/search/SparseMatrix", name := "<init>", desc := "(II[I[I[D)V" } : Jvm.MethodName) prog_93_method_1_code (6 : Nat) (Option.none : Option Jvm.ClassFile.FieldType), Jvm.Cond.code ({ cls := "java/lang/Object", name := "<init>", desc := "()V" } : Jvm.MethodName) object_method_1_code (1 : Nat) (Option.none : Option Jvm.ClassFile.FieldType), Jvm.Cond.code ({ cls := "com/example/velvet_postings/velvetpostings/search/SparseMatrix", name := "multiply", desc := "([D[D)V" } : Jvm.MethodName) prog_93_method_4_code (7 : Nat) (Option.none : Option Jvm.ClassFile.FieldType), Jvm.Cond.code ({ cls := "com/example/velvet_postings/velvetpostings/search/SparseMatrixMultiplyPinLaw", name := "term", desc := "(ZII)J" } : Jvm.MethodName) method_4_code (3 : Nat) (Option.some Jvm.ClassFile.FieldType.long)]
set_option maxRecDepth 65536 in
theorem codes_eq : words1.filter isCode = codes1 := rfl
theorem w_codes : ∀ c ∈ words1.filter isCode, c.before args0 about1 = true := by
  rw [codes_eq]
  intro c hc
  simp only [codes1, List.mem_cons, List.not_mem_nil, or_false] at hc
  rcases hc with rfl | rfl | rfl | rfl | rfl | rfl | rfl
  · exact w_c0
  · exact w_c1
  · exact w_c2
  · exact w_c3
  · exact w_c4
  · exact w_c5
  · exact w_c6
set_option maxRecDepth 65536 in
theorem w_t1 : (words1.take 24).all (fun c => isCode c || c.before args0 about1) = true := by decide +kernel
set_option maxRecDepth 65536 in
theorem w_t2 : (words1.drop 24).all (fun c => isCode c || c.before args0 about1) = true := by decide +kernel
theorem w_tables : (allAtoms (Jvm.Cond.code x code maxLocals ret :: tables_1)).before args0 about1 = true := by
  rw [allAtoms_all]
  show words1.all (fun c => c.before args0 about1) = true
  refine all_split ?_ w_codes
  rw [← List.take_append_drop 24 words1, List.all_append, w_t1, w_t2]
  rfl
set_option maxRecDepth 65536 in
theorem w_case : (Jvm.Cond.and given_1 narrow_1).before args0 about1 = true := by decide +kernel
theorem w_applies : (headSpec (Jvm.Cond.code x code maxLocals ret :: tables_1) room_1).applies x e0.platform about1 = true :=
  (Spec.applies_iff w_frames).mpr ⟨w_running, w_runnable, w_alone, w_named, w_hears, w_ripe, w_room, w_tables⟩
theorem atStart : AtStart classFile x code maxLocals ret World_1 tables_1 room_1 Calls_1 rest_1 Pre_1 launch0 p0 e0 about1 theMethod args0 below0 :=
  ⟨lists_1, trivial, launch0.admits_env _ _ _, launch0.least_env, fairChoices_fair.cas, fairChoices_fair.clock, w_frames, w_args, w_heap, w_applies, trivial, trivial, w_case⟩
end start1
theorem witness_1 : WitnessClaimed_1 := ⟨start1.p0, start1.e0, start1.about1, start1.theMethod, start1.args0, start1.below0, start1.atStart⟩
end Jvm.Pilot.@@N@@
