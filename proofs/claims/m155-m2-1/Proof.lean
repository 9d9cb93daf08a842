import JvmDerived
import JvmDerived.Pilot.@@N@@Statement
import JvmDerived.Pilot.@@N@@Code
set_option linter.unusedVariables false
set_option linter.unusedSimpArgs false
@@BLOCK:NumsL.lean.txt@@
namespace Jvm.Pilot.@@N@@
open Jvm Jvm.ClassFile Sem Op Lib Jvm.Free Jvm.Stand Jvm.LawKit Jvm.RoadKit Bundle Jvm.Pilot.@@N@@.Jvm.D
open Jvm.Free.Fl (NoNaN64 Fin64 Nz64)
theorem own_lt_ne {a b n : Nat} (h : a < n) (g : b = n) : a ≠ b := by omega
theorem own_lt_ne2 {a b n : Nat} (h : a < n) (g : n ≤ b) : a ≠ b := by omega
theorem own_ge_of {k b n : Nat} (h : k ≤ n) (g : b = n) : k ≤ b := by omega
abbrev uu : Slot := .unset
abbrev ss : Slot := .second
abbrev vi (x : Int32) : Slot := .val (.int x)
abbrev vj (x : Int64) : Slot := .val (.long x)
abbrev vd (x : UInt64) : Slot := .val (.double x)
abbrev vr (x : Addr) : Slot := .val (.ref x)
/-- whatever is reached from here is reached from E -/
abbrev own_G (p : Program) (e : Env) (below : List Frame) (E T : State) (g : JFrame) : Prop := ∀ t, Steps p.tables e below (T.setTop g) t → Steps p.tables e below E t
theorem own_if_eqY {x : Int32} (h : x = 0) : ifCond.holds .eq x = true := by subst h; rfl
theorem own_if_eqN {x : Int32} (h : ¬ x = 0) : ifCond.holds .eq x = false := beq_false_of_ne h
theorem own_if_neY {x : Int32} (h : ¬ x = 0) : ifCond.holds .ne x = true := bne_iff_ne.mpr h
theorem own_if_neN {x : Int32} (h : x = 0) : ifCond.holds .ne x = false := by subst h; rfl
theorem own_if_ltY {x : Int32} (h : x < 0) : ifCond.holds .lt x = true := decide_eq_true h
theorem own_if_ltN {x : Int32} (h : ¬ x < 0) : ifCond.holds .lt x = false := decide_eq_false h
theorem own_if_geY {x : Int32} (h : ¬ x < 0) : ifCond.holds .ge x = true := decide_eq_true (Int32.not_lt.mp h)
theorem own_if_geN {x : Int32} (h : x < 0) : ifCond.holds .ge x = false := decide_eq_false (fun q => Int32.not_le.mpr h q)
theorem own_if_gtY {x : Int32} (h : 0 < x) : ifCond.holds .gt x = true := decide_eq_true h
theorem own_if_gtN {x : Int32} (h : ¬ 0 < x) : ifCond.holds .gt x = false := decide_eq_false h
theorem own_if_leY {x : Int32} (h : ¬ 0 < x) : ifCond.holds .le x = true := decide_eq_true (Int32.not_lt.mp h)
theorem own_if_leN {x : Int32} (h : 0 < x) : ifCond.holds .le x = false := decide_eq_false (fun q => Int32.not_le.mpr h q)
theorem own_ic_eqY {x y : Int32} (h : x = y) : if_icmp.holds .eq x y = true := beq_iff_eq.mpr h
theorem own_ic_eqN {x y : Int32} (h : ¬ x = y) : if_icmp.holds .eq x y = false := beq_false_of_ne h
theorem own_ic_neY {x y : Int32} (h : ¬ x = y) : if_icmp.holds .ne x y = true := bne_iff_ne.mpr h
theorem own_ic_neN {x y : Int32} (h : x = y) : if_icmp.holds .ne x y = false := by subst h; exact bne_self_eq_false x
theorem own_ic_ltY {x y : Int32} (h : x < y) : if_icmp.holds .lt x y = true := decide_eq_true h
theorem own_ic_ltN {x y : Int32} (h : ¬ x < y) : if_icmp.holds .lt x y = false := decide_eq_false h
theorem own_ic_geY {x y : Int32} (h : ¬ x < y) : if_icmp.holds .ge x y = true := decide_eq_true (Int32.not_lt.mp h)
theorem own_ic_geN {x y : Int32} (h : x < y) : if_icmp.holds .ge x y = false := decide_eq_false (fun q => Int32.not_le.mpr h q)
theorem own_ic_gtY {x y : Int32} (h : y < x) : if_icmp.holds .gt x y = true := decide_eq_true h
theorem own_ic_gtN {x y : Int32} (h : ¬ y < x) : if_icmp.holds .gt x y = false := decide_eq_false h
theorem own_ic_leY {x y : Int32} (h : ¬ y < x) : if_icmp.holds .le x y = true := decide_eq_true (Int32.not_lt.mp h)
theorem own_ic_leN {x y : Int32} (h : y < x) : if_icmp.holds .le x y = false := decide_eq_false (fun q => Int32.not_le.mpr h q)
/-- what a comparison of two whole or scaled values pushes -/
def own_c (i j : Int) : Int32 := if i < j then -1 else if i = j then 0 else 1
theorem own_cE (o : CmpOp) {x y : UInt64} {i j : Int} (h : FP.dcmp x y = some (compare i j)) : cmpValue (FP.dcmp x y) o = own_c i j := by
  rw [h, FP.Core.compare_ite, own_c]
  by_cases h1 : i < j
  · rw [if_pos h1, if_pos h1]; cases o <;> rfl
  · rw [if_neg h1, if_neg h1]
    by_cases h2 : i = j
    · rw [if_pos h2, if_pos h2]; cases o <;> rfl
    · rw [if_neg h2, if_neg h2]; cases o <;> rfl
theorem own_c_lt {i j : Int} (h : i < j) : own_c i j = -1 := by rw [own_c, if_pos h]
theorem own_c_eq {i j : Int} (h : i = j) : own_c i j = 0 := by rw [own_c, if_neg (by omega), if_pos h]
theorem own_c_gt {i j : Int} (h : j < i) : own_c i j = 1 := by rw [own_c, if_neg (by omega), if_neg (by omega)]
theorem own_c_cases (i j : Int) : (i < j ∧ own_c i j = -1) ∨ (i = j ∧ own_c i j = 0) ∨ (j < i ∧ own_c i j = 1) := by
  rcases Int.lt_trichotomy i j with h | h | h
  · exact Or.inl ⟨h, own_c_lt h⟩
  · exact Or.inr (Or.inl ⟨h, own_c_eq h⟩)
  · exact Or.inr (Or.inr ⟨h, own_c_gt h⟩)
theorem own_c_ltY {i j : Int} (h : i < j) : ifCond.holds .lt (own_c i j) = true := by rw [own_c_lt h]; rfl
theorem own_c_ltN {i j : Int} (h : ¬ i < j) : ifCond.holds .lt (own_c i j) = false := by rcases own_c_cases i j with q | q | q <;> first | exact absurd q.1 h | (rw [q.2]; rfl)
theorem own_c_geY {i j : Int} (h : ¬ i < j) : ifCond.holds .ge (own_c i j) = true := by rcases own_c_cases i j with q | q | q <;> first | exact absurd q.1 h | (rw [q.2]; rfl)
theorem own_c_geN {i j : Int} (h : i < j) : ifCond.holds .ge (own_c i j) = false := by rw [own_c_lt h]; rfl
theorem own_c_gtY {i j : Int} (h : j < i) : ifCond.holds .gt (own_c i j) = true := by rw [own_c_gt h]; rfl
theorem own_c_gtN {i j : Int} (h : ¬ j < i) : ifCond.holds .gt (own_c i j) = false := by rcases own_c_cases i j with q | q | q <;> first | exact absurd q.1 h | (rw [q.2]; rfl)
theorem own_c_leY {i j : Int} (h : ¬ j < i) : ifCond.holds .le (own_c i j) = true := by rcases own_c_cases i j with q | q | q <;> first | exact absurd q.1 h | (rw [q.2]; rfl)
theorem own_c_leN {i j : Int} (h : j < i) : ifCond.holds .le (own_c i j) = false := by rw [own_c_gt h]; rfl
theorem own_c_eqY {i j : Int} (h : i = j) : ifCond.holds .eq (own_c i j) = true := by rw [own_c_eq h]; rfl
theorem own_c_eqN {i j : Int} (h : ¬ i = j) : ifCond.holds .eq (own_c i j) = false := by rcases own_c_cases i j with q | q | q <;> first | exact absurd q.1 h | (rw [q.2]; rfl)
theorem own_c_neY {i j : Int} (h : ¬ i = j) : ifCond.holds .ne (own_c i j) = true := by rcases own_c_cases i j with q | q | q <;> first | exact absurd q.1 h | (rw [q.2]; rfl)
theorem own_c_neN {i j : Int} (h : i = j) : ifCond.holds .ne (own_c i j) = false := by rw [own_c_eq h]; rfl
theorem own_l_lt {i j : Int64} (h : i < j) : XT.cmpL i j = -1 := by
  rw [XT.cmpL, if_neg (fun q => Int64.lt_irrefl (Int64.lt_trans h q)), if_neg (fun q => Int64.lt_irrefl (q ▸ h))]
theorem own_l_eq {i j : Int64} (h : i = j) : XT.cmpL i j = 0 := by subst h; rw [XT.cmpL, if_neg Int64.lt_irrefl, if_pos rfl]
theorem own_l_gt {i j : Int64} (h : j < i) : XT.cmpL i j = 1 := by rw [XT.cmpL, if_pos h]
theorem own_l_cases (i j : Int64) : (i < j ∧ XT.cmpL i j = -1) ∨ (i = j ∧ XT.cmpL i j = 0) ∨ (j < i ∧ XT.cmpL i j = 1) := by
  by_cases h : i < j
  · exact Or.inl ⟨h, own_l_lt h⟩
  · by_cases h2 : i = j
    · exact Or.inr (Or.inl ⟨h2, own_l_eq h2⟩)
    · have h3 : j < i := by
        rw [Int64.lt_iff_toInt_lt] at h ⊢
        have h4 : i.toInt ≠ j.toInt := fun q => h2 (Int64.toInt_inj.mp q)
        omega
      exact Or.inr (Or.inr ⟨h3, own_l_gt h3⟩)
theorem own_l_ltY {i j : Int64} (h : i < j) : ifCond.holds .lt (XT.cmpL i j) = true := by rw [own_l_lt h]; rfl
theorem own_l_ltN {i j : Int64} (h : ¬ i < j) : ifCond.holds .lt (XT.cmpL i j) = false := by rcases own_l_cases i j with q | q | q <;> first | exact absurd q.1 h | (rw [q.2]; rfl)
theorem own_l_geY {i j : Int64} (h : ¬ i < j) : ifCond.holds .ge (XT.cmpL i j) = true := by rcases own_l_cases i j with q | q | q <;> first | exact absurd q.1 h | (rw [q.2]; rfl)
theorem own_l_geN {i j : Int64} (h : i < j) : ifCond.holds .ge (XT.cmpL i j) = false := by rw [own_l_lt h]; rfl
theorem own_l_gtY {i j : Int64} (h : j < i) : ifCond.holds .gt (XT.cmpL i j) = true := by rw [own_l_gt h]; rfl
theorem own_l_gtN {i j : Int64} (h : ¬ j < i) : ifCond.holds .gt (XT.cmpL i j) = false := by rcases own_l_cases i j with q | q | q <;> first | exact absurd q.1 h | (rw [q.2]; rfl)
theorem own_l_leY {i j : Int64} (h : ¬ j < i) : ifCond.holds .le (XT.cmpL i j) = true := by rcases own_l_cases i j with q | q | q <;> first | exact absurd q.1 h | (rw [q.2]; rfl)
theorem own_l_leN {i j : Int64} (h : j < i) : ifCond.holds .le (XT.cmpL i j) = false := by rw [own_l_gt h]; rfl
theorem own_l_eqY {i j : Int64} (h : i = j) : ifCond.holds .eq (XT.cmpL i j) = true := by rw [own_l_eq h]; rfl
theorem own_l_eqN {i j : Int64} (h : ¬ i = j) : ifCond.holds .eq (XT.cmpL i j) = false := by rcases own_l_cases i j with q | q | q <;> first | exact absurd q.1 h | (rw [q.2]; rfl)
theorem own_l_neY {i j : Int64} (h : ¬ i = j) : ifCond.holds .ne (XT.cmpL i j) = true := by rcases own_l_cases i j with q | q | q <;> first | exact absurd q.1 h | (rw [q.2]; rfl)
theorem own_l_neN {i j : Int64} (h : i = j) : ifCond.holds .ne (XT.cmpL i j) = false := by rw [own_l_eq h]; rfl
theorem own_ac_eq_Y {x y : Value} (h : x = y) : XT.acmp .eq x y = true := decide_eq_true h
theorem own_ac_eq_N {x y : Value} (h : ¬ x = y) : XT.acmp .eq x y = false := decide_eq_false h
theorem own_ac_ne_Y {x y : Value} (h : ¬ x = y) : XT.acmp .ne x y = true := decide_eq_true h
theorem own_ac_ne_N {x y : Value} (h : x = y) : XT.acmp .ne x y = false := decide_eq_false (fun q => q h)
theorem own_ar_eq_Y {x y : Addr} (h : x = y) : XT.acmp .eq (.ref x) (.ref y) = true := own_ac_eq_Y (congrArg Value.ref h)
theorem own_ar_eq_N {x y : Addr} (h : ¬ x = y) : XT.acmp .eq (.ref x) (.ref y) = false := own_ac_eq_N (fun q => h (Value.ref.inj q))
theorem own_ar_ne_Y {x y : Addr} (h : ¬ x = y) : XT.acmp .ne (.ref x) (.ref y) = true := own_ac_ne_Y (fun q => h (Value.ref.inj q))
theorem own_ar_ne_N {x y : Addr} (h : x = y) : XT.acmp .ne (.ref x) (.ref y) = false := own_ac_ne_N (congrArg Value.ref h)
/-- a static's object's field that the case names by a number -/
theorem own_ord {args : Array Value} {s : State} {t : Term} {C n d : String} {k : Int32} {x : Addr} (ev : t.eval args s none [] s = some (.ref x))
    (h : (Jvm.Cond.eq (Term.field t C n d) (Term.int k)).value args s none s [] = some true) : s.fieldOf? x C n d = some (.int k) := by
  obtain ⟨v, u, e1, e2, k1, k2⟩ := cmp_v (Or.inl h)
  have e3 : u = .int k := by have := (Term.int_eval (args := args) (first := s) (o := none) (idx := []) (s := s) k).symm.trans e2; exact (Option.some.inj this).symm
  subst e3
  obtain ⟨z, rfl⟩ := k2
  have q := gotT (Cond.eq_ints e1 e2) h
  rw [← fld_at ev, e1, q]
/-! doubles: exact values in units of the least double -/
def own_z (x : UInt64) : Int := FP.Core.zval FP.Core.b64 (FP.Core.val64 x)
theorem own_nn {i : Int} {x : UInt64} (h : FP.Core.DInt i x) : NoNaN64 x := Fl.val64_no.mpr (FP.Core.DInt_ne_nan h)
theorem own_cmpz {x y : UInt64} (hx : NoNaN64 x) (hy : NoNaN64 y) : FP.dcmp x y = some (compare (own_z x) (own_z y)) := FP.Core.dcmp_zval (Fl.val64_no.mp hx) (Fl.val64_no.mp hy)
theorem own_d0 : FP.Core.DInt 0 FP.dconst0 := by
  have h := FP.Core.l2d_int (a := 0) (by decide)
  rw [FP.Core.l2d_zero] at h; exact h
theorem own_d1 : FP.Core.DInt 1 FP.dconst1 := FP.Core.dint_one
theorem own_zi {i : Int} {x : UInt64} (h : FP.Core.DInt i x) : own_z x = i * (FP.Core.one64 : Int) := FP.Core.DInt_zval h
theorem own_fini {i : Int} {x : UInt64} (h : FP.Core.DInt i x) : Fin64 x := by
  have h' : FP.Core.Whole i (FP.Core.val64 x) := h
  cases hv : FP.Core.val64 x with
  | nan => rw [hv] at h'; exact h'.elim
  | inf s => rw [hv] at h'; exact h'.elim
  | fin s c q => exact Fl.fin64_core.mpr ⟨s, c, q, hv⟩
theorem own_one : (0 : Int) < (FP.Core.one64 : Int) := by have := FP.Core.one64_pos; omega
theorem own_nz {x : UInt64} (h : own_z x ≠ 0) : Nz64 x := Fl.nz64_core.mpr fun ⟨s, q, e⟩ => h (by
  show FP.Core.zval FP.Core.b64 (FP.Core.val64 x) = 0
  rw [e]; show FP.Core.signed s (0 * _) = 0; rw [Nat.zero_mul]; cases s <;> rfl)
theorem own_nzi {i : Int} {x : UInt64} (h : FP.Core.DInt i x) (hi : i ≠ 0) : Nz64 x := own_nz (by
  rw [own_zi h]; intro q; rcases Int.mul_eq_zero.mp q with r | r
  · exact hi r
  · have := own_one; omega)
theorem own_zn (x : UInt64) : (own_z x).natAbs = FP.Core.zmag FP.Core.b64 (FP.Core.val64 x) := FP.Core.natAbs_signed _ _
/-- the quotient, by the two values alone -/
theorem own_quot {x y : UInt64} (hx : Fin64 x) (hy : Fin64 y) (hz : own_z y ≠ 0) :
    FP.Core.val64 (FP.ddiv x y) = FP.Core.roundRatio FP.Core.b64 (FP.Core.sgn (FP.Core.val64 x) != FP.Core.sgn (FP.Core.val64 y)) (own_z x).natAbs (own_z y).natAbs 0 := by
  obtain ⟨s, c, q, ex⟩ := Fl.fin64_core.mp hx
  obtain ⟨t, d, r, ey⟩ := Fl.fin64_core.mp hy
  have fx : FP.Core.fits FP.Core.b64 (.fin s c q) := ex ▸ FP.Core.val64_fits x
  have fy : FP.Core.fits FP.Core.b64 (.fin t d r) := ey ▸ FP.Core.val64_fits y
  have hd : d ≠ 0 := fun h => hz (by
    show FP.Core.zval FP.Core.b64 (FP.Core.val64 y) = 0
    rw [ey, h]; show FP.Core.signed t (0 * _) = 0; rw [Nat.zero_mul]; cases t <;> rfl)
  rw [own_zn, own_zn, show FP.ddiv x y = FP.Core.ddiv x y from rfl, FP.Core.val64_ddiv, ex, ey]
  show (if d = 0 then _ else FP.Core.roundRatio FP.Core.b64 (s != t) c d (q - r)) = FP.Core.roundRatio FP.Core.b64 (s != t) (c * 2 ^ (q - FP.Core.b64.qmin).toNat) (d * 2 ^ (r - FP.Core.b64.qmin).toNat) 0
  rw [if_neg hd]
  refine FP.Core.roundRatio_congr (Nat.pos_of_ne_zero hd) (Nat.mul_pos (Nat.pos_of_ne_zero hd) (Nat.two_pow_pos _)) ?_
  have h1 := fx.2.1
  have h2 := fy.2.1
  have e1 : (r - FP.Core.b64.qmin).toNat + (q - r - 0).toNat = (q - FP.Core.b64.qmin).toNat + (0 - (q - r)).toNat := by omega
  calc c * (d * 2 ^ (r - FP.Core.b64.qmin).toNat) * 2 ^ (q - r - 0).toNat = c * d * (2 ^ (r - FP.Core.b64.qmin).toNat * 2 ^ (q - r - 0).toNat) := by
        rw [Nat.mul_assoc, Nat.mul_assoc, Nat.mul_assoc]
    _ = c * d * (2 ^ (q - FP.Core.b64.qmin).toNat * 2 ^ (0 - (q - r)).toNat) := by rw [← Nat.pow_add, ← Nat.pow_add, e1]
    _ = c * 2 ^ (q - FP.Core.b64.qmin).toNat * d * 2 ^ (0 - (q - r)).toNat := by
        rw [Nat.mul_right_comm c _ d, Nat.mul_assoc (c * d)]
theorem own_noNaN_of {x : UInt64} {s : Bool} {A B : Nat} {e : Int} (h : FP.Core.val64 x = FP.Core.roundRatio FP.Core.b64 s A B e) : NoNaN64 x :=
  Fl.val64_no.mpr (h ▸ FP.Core.roundRatio_ne_nan _ _ _ _ _)
theorem own_div_nn {x y : UInt64} (hx : Fin64 x) (hy : Fin64 y) (hz : own_z y ≠ 0) : NoNaN64 (FP.ddiv x y) := Fl.ddiv_out hx.noNaN hy (own_nz hz)
/-- what is rounded below (above) a double stays there -/
theorem own_rr_le {s : Bool} {A B : Nat} {V : UInt64} (hB : 0 < B) (hV : NoNaN64 V) (h : A * FP.Core.one64 ≤ (own_z V).natAbs * B) :
    FP.Core.zmag FP.Core.b64 (FP.Core.roundRatio FP.Core.b64 s A B 0) ≤ (own_z V).natAbs := by
  rw [own_zn] at h ⊢
  refine FP.Core.zmag_roundRatio_le FP.Core.good_b64 hB (FP.Core.val64_fits V) (Fl.val64_no.mp hV) (e0 := FP.Core.b64.qmin) (Int.le_refl _) (by decide +kernel) ?_
  rw [Int.sub_self]
  show A * 2 ^ (0 - FP.Core.b64.qmin).toNat ≤ _ * 1 * B
  rw [Nat.mul_one, Int.zero_sub, FP.Core.pow_qmin64]; exact h
theorem own_rr_ge {s : Bool} {A B : Nat} {V : UInt64} (hB : 0 < B) (h : (own_z V).natAbs * B ≤ A * FP.Core.one64) :
    (own_z V).natAbs ≤ FP.Core.zmag FP.Core.b64 (FP.Core.roundRatio FP.Core.b64 s A B 0) := by
  rw [own_zn] at h ⊢
  refine FP.Core.zmag_roundRatio_ge FP.Core.good_b64 hB (FP.Core.val64_fits V) (e0 := FP.Core.b64.qmin) (Int.le_refl _) (by decide +kernel) ?_
  rw [Int.sub_self]
  show _ * 1 * B ≤ A * 2 ^ (0 - FP.Core.b64.qmin).toNat
  rw [Nat.mul_one, Int.zero_sub, FP.Core.pow_qmin64]; exact h
theorem own_z_signed {x : UInt64} {s : Bool} {A B : Nat} (h : FP.Core.val64 x = FP.Core.roundRatio FP.Core.b64 s A B 0) :
    own_z x = FP.Core.signed s (FP.Core.zmag FP.Core.b64 (FP.Core.roundRatio FP.Core.b64 s A B 0)) := by
  show FP.Core.signed _ _ = _
  rw [h, FP.Core.sgn_roundRatio]
/-- a quotient of two that are not below nought -/
theorem own_div_ge0 {x y : UInt64} (hx : Fin64 x) (hy : Fin64 y) (hz : own_z y ≠ 0) (h0 : 0 ≤ own_z x) (h1 : 0 ≤ own_z y) : 0 ≤ own_z (FP.ddiv x y) := by
  have hq := own_quot hx hy hz
  rw [own_z_signed hq]
  cases hs : (FP.Core.sgn (FP.Core.val64 x) != FP.Core.sgn (FP.Core.val64 y)) with
  | false => exact Int.natCast_nonneg _
  | true =>
    have hy2 : FP.Core.sgn (FP.Core.val64 y) = false := by
      cases hs2 : FP.Core.sgn (FP.Core.val64 y) with
      | false => rfl
      | true =>
        exfalso; have : own_z y = -(FP.Core.zmag FP.Core.b64 (FP.Core.val64 y) : Int) := by show FP.Core.signed _ _ = _; rw [hs2]; rfl
        omega
    have hx2 : FP.Core.sgn (FP.Core.val64 x) = true := by rw [hy2] at hs; simpa using hs
    have hx3 : own_z x = -(FP.Core.zmag FP.Core.b64 (FP.Core.val64 x) : Int) := by show FP.Core.signed _ _ = _; rw [hx2]; rfl
    have hx4 : (own_z x).natAbs = 0 := by omega
    rw [hx4, FP.Core.roundRatio, if_pos rfl]
    show 0 ≤ FP.Core.signed true (0 * _); rw [Nat.zero_mul]; decide
theorem own_div_le {x y V : UInt64} (hx : Fin64 x) (hy : Fin64 y) (hz : own_z y ≠ 0) (hV : NoNaN64 V) (h0 : 0 ≤ own_z x) (h1 : 0 ≤ own_z y) (h2 : 0 ≤ own_z V)
    (h : own_z x * (FP.Core.one64 : Int) ≤ own_z V * own_z y) : own_z (FP.ddiv x y) ≤ own_z V := by
  have hq := own_quot hx hy hz
  have hge := own_div_ge0 hx hy hz h0 h1
  have hB : 0 < (own_z y).natAbs := by omega
  have h3 : (own_z x).natAbs * FP.Core.one64 ≤ (own_z V).natAbs * (own_z y).natAbs := by
    have e1 : ((own_z x).natAbs : Int) = own_z x := by omega
    have e2 : ((own_z y).natAbs : Int) = own_z y := by omega
    have e3 : ((own_z V).natAbs : Int) = own_z V := by omega
    have : (((own_z x).natAbs * FP.Core.one64 : Nat) : Int) ≤ (((own_z V).natAbs * (own_z y).natAbs : Nat) : Int) := by
      rw [Int.natCast_mul, Int.natCast_mul, e1, e2, e3]; exact h
    exact Int.ofNat_le.mp this
  have := own_rr_le (s := FP.Core.sgn (FP.Core.val64 x) != FP.Core.sgn (FP.Core.val64 y)) hB hV h3
  have h4 : (own_z (FP.ddiv x y)).natAbs ≤ (own_z V).natAbs := by rw [own_zn, hq]; exact this
  omega
/-- two doubles of the same whole value compare as equal -/
theorem own_eq0 {x y : UInt64} {i : Int} (o : CmpOp) (hx : FP.Core.DInt i x) (hy : FP.Core.DInt i y) : cmpValue (FP.dcmp x y) o = 0 := by
  rw [own_cE o (FP.Core.dcmp_int hx hy), own_c_eq rfl]
theorem own_mb {a b A B : Int} (h1 : -A ≤ a) (h2 : a ≤ A) (h3 : -B ≤ b) (h4 : b ≤ B) (h : A * B ≤ 9007199254740992) : (a * b).natAbs ≤ 2 ^ 53 := by
  rw [Int.natAbs_mul]
  have e1 : a.natAbs ≤ A.toNat := by omega
  have e2 : b.natAbs ≤ B.toNat := by omega
  have e3 : a.natAbs * b.natAbs ≤ A.toNat * B.toNat := Nat.mul_le_mul e1 e2
  have e4 : ((A.toNat * B.toNat : Nat) : Int) = A * B := by rw [Int.natCast_mul, Int.toNat_of_nonneg (by omega), Int.toNat_of_nonneg (by omega)]
  have e5 : (2 : Nat) ^ 53 = 9007199254740992 := by decide
  omega
theorem own_dl (a : Int64) {i : Int} (h : a.toInt = i) (hb : i.natAbs ≤ 2 ^ 53) : FP.Core.DInt i (FP.l2d a) := by subst h; exact FP.Core.l2d_int hb
theorem own_lm {a b : Int64} (h : (a.toInt * b.toInt).natAbs ≤ 2 ^ 53) : (a * b).toInt = a.toInt * b.toInt := by
  have e5 : (2 : Nat) ^ 53 = 9007199254740992 := by decide
  exact Jvm.Kit.i64_mul (by omega) (by omega)
theorem own_sgn_mul {s t : Bool} {b : Nat} {k : Int} (hb : 0 < b) (h : FP.Core.signed s (k.natAbs * b) = k * FP.Core.signed t b) : FP.Core.signed (s != t) k.natAbs = k := by
  have hb' : (0 : Int) < (b : Int) := by omega
  have e : ((k.natAbs * b : Nat) : Int) = (k.natAbs : Int) * (b : Int) := Int.natCast_mul _ _
  have key : ∀ z : Int, (k.natAbs : Int) * (b : Int) = z * (b : Int) → (k.natAbs : Int) = z := fun z q => Int.eq_of_mul_eq_mul_right (by omega) q
  cases s <;> cases t
  · show (k.natAbs : Int) = k
    apply key; rw [← e]; exact h
  · show -(k.natAbs : Int) = k
    have h' : ((k.natAbs * b : Nat) : Int) = k * -(b : Int) := h
    have := key (-k) (by rw [← e, h', Int.mul_neg, Int.neg_mul]); omega
  · show -(k.natAbs : Int) = k
    have h' : -((k.natAbs * b : Nat) : Int) = k * (b : Int) := h
    have := key (-k) (by rw [← e, Int.neg_mul, ← h', Int.neg_neg]); omega
  · show (k.natAbs : Int) = k
    have h' : -((k.natAbs * b : Nat) : Int) = k * -(b : Int) := h
    apply key; rw [← e]
    have : -((k.natAbs * b : Nat) : Int) = -(k * (b : Int)) := by rw [h', Int.mul_neg]
    omega
/-- a quotient of whole values that comes out even -/
theorem own_ddiv_int {k j : Int} {x y : UInt64} (hx : FP.Core.DInt (k * j) x) (hy : FP.Core.DInt j y) (hj : j ≠ 0) (hk : k.natAbs ≤ 2 ^ 53) : FP.Core.DInt k (FP.ddiv x y) := by
  have zx := own_zi hx
  have zy := own_zi hy
  have hz : own_z y ≠ 0 := by rw [zy]; exact Int.mul_ne_zero hj (by have := own_one; omega)
  have hq := own_quot (own_fini hx) (own_fini hy) hz
  have ha : (own_z x).natAbs = k.natAbs * (own_z y).natAbs := by rw [zx, zy, Int.mul_assoc, Int.natAbs_mul]
  have hb : 0 < (own_z y).natAbs := by omega
  show FP.Core.Whole k (FP.Core.val64 (FP.ddiv x y))
  rw [hq, ha, FP.Core.roundRatio_congr (A' := k.natAbs) (B' := 1) (e' := 0) hb (by decide) (by rw [Nat.mul_one])]
  refine FP.Core.whole_round FP.Core.good_b64 FP.Core.wide_b64 hk (d := .fin (FP.Core.sgn (FP.Core.val64 x) != FP.Core.sgn (FP.Core.val64 y)) k.natAbs 0) ?_
  show FP.Core.signed _ (k.natAbs * 1) = k * ((1 : Nat) : Int)
  rw [Nat.mul_one, show ((1 : Nat) : Int) = 1 from rfl, Int.mul_one]
  refine own_sgn_mul hb ?_
  have e1 : FP.Core.signed (FP.Core.sgn (FP.Core.val64 x)) (own_z x).natAbs = own_z x := by rw [own_zn]; rfl
  have e2 : FP.Core.signed (FP.Core.sgn (FP.Core.val64 y)) (own_z y).natAbs = own_z y := by rw [own_zn]; rfl
  rw [← ha, e1, e2, zx, zy, Int.mul_assoc]
theorem own_zmag_s (s : Bool) (A B : Nat) (e : Int) : FP.Core.zmag FP.Core.b64 (FP.Core.roundRatio FP.Core.b64 s A B e) = FP.Core.zmag FP.Core.b64 (FP.Core.roundRatio FP.Core.b64 false A B e) := by
  cases s with
  | false => rfl
  | true =>
    rw [show FP.Core.roundRatio FP.Core.b64 true A B e = FP.Core.negate (FP.Core.roundRatio FP.Core.b64 false A B e) from (FP.Core.negate_roundRatio FP.Core.b64 false A B e).symm]
    cases FP.Core.roundRatio FP.Core.b64 false A B e <;> rfl
theorem own_div_n {x y : UInt64} (hx : Fin64 x) (hy : Fin64 y) (hz : own_z y ≠ 0) : (own_z (FP.ddiv x y)).natAbs = FP.Core.zmag FP.Core.b64 (FP.Core.roundRatio FP.Core.b64 false (own_z x).natAbs (own_z y).natAbs 0) := by
  rw [own_zn, own_quot hx hy hz, own_zmag_s]
/-- two quotients of the same ratio, none below nought -/
theorem own_div_congr {x y x' y' : UInt64} (hx : Fin64 x) (hy : Fin64 y) (hz : own_z y ≠ 0) (hx' : Fin64 x') (hy' : Fin64 y') (hz' : own_z y' ≠ 0)
    (g1 : 0 ≤ own_z x) (g2 : 0 ≤ own_z y) (g3 : 0 ≤ own_z x') (g4 : 0 ≤ own_z y') (h : own_z x * own_z y' = own_z x' * own_z y) : own_z (FP.ddiv x y) = own_z (FP.ddiv x' y') := by
  have e1 := own_div_n hx hy hz
  have e2 := own_div_n hx' hy' hz'
  have k1 := own_div_ge0 hx hy hz g1 g2
  have k2 := own_div_ge0 hx' hy' hz' g3 g4
  have h' : (own_z x).natAbs * (own_z y').natAbs = (own_z x').natAbs * (own_z y).natAbs := by rw [← Int.natAbs_mul, ← Int.natAbs_mul, h]
  rw [FP.Core.roundRatio_congr (A' := (own_z x').natAbs) (B' := (own_z y').natAbs) (e' := 0) (by omega) (by omega) (by rw [h'])] at e1
  omega
/-- m * 2^k units is a double -/
theorem own_rep (m k : Nat) (hm : m < 2 ^ 53) (hk : k ≤ 2045) : ∃ V : UInt64, Fin64 V ∧ own_z V = ((m * 2 ^ k : Nat) : Int) := by
  have hq : FP.Core.b64.qmin = -1074 := FP.Core.qmin_b64
  have hq2 : FP.Core.b64.qmax = 971 := by decide
  obtain ⟨c, q, e1, e2⟩ := FP.Core.round_exact FP.Core.good_b64 false (c := m) (q := (k : Int) - 1074) hm (by rw [hq]; omega) (by rw [hq2]; omega)
  have hv : FP.Core.val64 (FP.Core.of64 (FP.Core.round FP.Core.b64 (.fin false m ((k : Int) - 1074)))) = .fin false c q := by
    rw [FP.Core.val64_of64 (FP.Core.round_fits FP.Core.good_b64 _), e1]
  refine ⟨_, Fl.fin64_core.mpr ⟨_, _, _, hv⟩, ?_⟩
  show FP.Core.zval FP.Core.b64 _ = _
  rw [hv]
  show ((FP.Core.inUnits c q FP.Core.b64.qmin : Nat) : Int) = _
  rw [e2, FP.Core.inUnits, hq, show ((k : Int) - 1074 - -1074).toNat = k by omega]
/-- a quotient that comes out even in some binary place -/
theorem own_div_exact {x y : UInt64} (hx : Fin64 x) (hy : Fin64 y) (hz : own_z y ≠ 0) (g1 : 0 ≤ own_z x) (g2 : 0 ≤ own_z y) (m k : Nat) (hm : m < 2 ^ 53) (hk : k ≤ 2045)
    (h : own_z x * (FP.Core.one64 : Int) = ((m * 2 ^ k : Nat) : Int) * own_z y) : own_z (FP.ddiv x y) = ((m * 2 ^ k : Nat) : Int) := by
  obtain ⟨V, fV, zV⟩ := own_rep m k hm hk
  have k1 := own_div_ge0 hx hy hz g1 g2
  have e1 := own_div_n hx hy hz
  have h3 : (own_z x).natAbs * FP.Core.one64 = (own_z V).natAbs * (own_z y).natAbs := by
    have := congrArg Int.natAbs h
    rw [Int.natAbs_mul, Int.natAbs_mul, ← zV] at this
    exact this
  have l1 := own_rr_le (s := false) (A := (own_z x).natAbs) (B := (own_z y).natAbs) (V := V) (by omega) fV.noNaN (Nat.le_of_eq h3)
  have l2 := own_rr_ge (s := false) (A := (own_z x).natAbs) (B := (own_z y).natAbs) (V := V) (by omega) (Nat.le_of_eq h3.symm)
  omega
theorem own_eqz {x y : UInt64} (o : CmpOp) (hx : NoNaN64 x) (hy : NoNaN64 y) (h : own_z x = own_z y) : cmpValue (FP.dcmp x y) o = 0 := by
  rw [own_cE o (own_cmpz hx hy), own_c_eq h]
theorem own_ge0 {x : UInt64} (h : 0 ≤ own_z x) : ¬ own_z x < own_z FP.dconst0 := by rw [own_zi own_d0, Int.zero_mul]; exact Int.not_lt.mpr h
theorem own_le1 {x : UInt64} (h : own_z x ≤ own_z FP.dconst1) : ¬ own_z FP.dconst1 < own_z x := Int.not_lt.mpr h
/-! arrays by the list of what they hold -/
def own_A (Z : State) (h : Heap) (a : Addr) (ty : FieldType) (vs : List Value) : Prop := ∃ c : Cell, Arr Z h a c ty ∧ c.slots.toList = vs
section OwnArr
variable {p : Program} {l : Launch} {e : Env} {R : Room} {s : State} {m : MethodId} {args : Array Value} {below : List Frame} {meth : Method} {c : Code} {T : State} {locs : List Loc} {cells slots : Nat} {Z : State} {h h' : Heap} {a b : Addr} {ty : FieldType} {vs : List Value} {sl : Nat} {v : Value} {ws : List Addr}
theorem own_A.lt (F : own_A Z h a ty vs) : a < h.size := by obtain ⟨c, A, -⟩ := F; exact A.lt
theorem own_A.ext (F : own_A Z h a ty vs) (E : Ext h h') : own_A Z h' a ty vs := by obtain ⟨c, A, r⟩ := F; exact ⟨c, A.ext E, r⟩
theorem own_A.other (F : own_A Z h b ty vs) (W : Wr h h' a sl v) (q : b ≠ a) : own_A Z h' b ty vs := by obtain ⟨c, A, r⟩ := F; exact ⟨c, A.other W q, r⟩
theorem own_A.keep (F : own_A Z h a ty vs) (K : Keep h h' ws) (q : a ∉ ws) : own_A Z h' a ty vs := by obtain ⟨c, A, r⟩ := F; exact ⟨c, ⟨K.2.1 a c A.1 q, A.2⟩, r⟩
theorem own_A.new {k : ClassId} {n : Int32} (A : Arr Z h a (newA k ty n) ty) : own_A Z h a ty (List.replicate n.toNatClampNeg (defaultValue ty)) := ⟨_, A, by simp [newA]⟩
theorem own_A.len (X : Stand p l e R s m args below meth c T locs cells slots) (hx : p.tables.exec = Jvm.exec) (hZ : Z.Warmed39 s.vm) (eT : T.heap = h) (F : own_A Z h a ty vs)
    {g : JFrame} (hg : g.method = m) {rest : List Value} (hs : g.stack = .ref a :: rest) (hd : decode c.code g.pc = .ok (.arraylength, 1)) (target : State)
    (hr : Steps p.tables e below (T.setTop { g with pc := g.pc + 1, stack := .int vs.length.toInt32 :: rest }) target) : Steps p.tables e below (T.setTop g) target := by
  obtain ⟨cl, A, rfl⟩ := F
  refine X.arraylength hx (cell := cl) (by rw [eT]; exact A.1) (State.isArrayOf_alike hZ.alike A.2.1) hg hs hd _ ?_
  rw [Array.length_toList] at hr; exact hr
theorem own_A.inb {cl : Cell} {j : Int32} (hj : ¬ j < 0) (hv : cl.slots.toList[j.toNatClampNeg]? = some v) : ¬ (j < 0 ∨ cl.slots.size ≤ j.toNatClampNeg) := by
  rintro (q | q)
  · exact hj q
  · rw [List.getElem?_eq_none (by rw [Array.length_toList]; exact q)] at hv; cases hv
theorem own_A.dld (X : Stand p l e R s m args below meth c T locs cells slots) (hx : p.tables.exec = Jvm.exec) (hZ : Z.Warmed39 s.vm) (eT : T.heap = h) (F : own_A Z h a .double vs) {j : Int32} (hj : ¬ j < 0) (hv : vs[j.toNatClampNeg]? = some v)
    {g : JFrame} (hg : g.method = m) {rest : List Value} (hs : g.stack = .int j :: .ref a :: rest) (hd : decode c.code g.pc = .ok (.daload, 1)) (target : State)
    (hr : Steps p.tables e below (T.setTop { g with pc := g.pc + 1, stack := v :: rest }) target) : Steps p.tables e below (T.setTop g) target := by
  obtain ⟨cl, A, rfl⟩ := F
  exact X.daload hx (by rw [eT]; exact A.1) (State.isArrayOf_alike hZ.alike A.2.1) A.2.2 (own_A.inb hj hv) (by rw [← Array.getElem?_toList]; exact hv) hg hs hd _ hr
theorem own_A.ild (X : Stand p l e R s m args below meth c T locs cells slots) (hx : p.tables.exec = Jvm.exec) (hZ : Z.Warmed39 s.vm) (eT : T.heap = h) (F : own_A Z h a .int vs) {j : Int32} (hj : ¬ j < 0) (hv : vs[j.toNatClampNeg]? = some v)
    {g : JFrame} (hg : g.method = m) {rest : List Value} (hs : g.stack = .int j :: .ref a :: rest) (hd : decode c.code g.pc = .ok (.iaload, 1)) (target : State)
    (hr : Steps p.tables e below (T.setTop { g with pc := g.pc + 1, stack := v :: rest }) target) : Steps p.tables e below (T.setTop g) target := by
  obtain ⟨cl, A, rfl⟩ := F
  exact X.iaload hx (by rw [eT]; exact A.1) (State.isArrayOf_alike hZ.alike A.2.1) A.2.2 (own_A.inb hj hv) (by rw [← Array.getElem?_toList]; exact hv) hg hs hd _ hr
theorem own_A.lld (X : Stand p l e R s m args below meth c T locs cells slots) (hx : p.tables.exec = Jvm.exec) (hZ : Z.Warmed39 s.vm) (eT : T.heap = h) (F : own_A Z h a .long vs) {j : Int32} (hj : ¬ j < 0) (hv : vs[j.toNatClampNeg]? = some v)
    {g : JFrame} (hg : g.method = m) {rest : List Value} (hs : g.stack = .int j :: .ref a :: rest) (hd : decode c.code g.pc = .ok (.laload, 1)) (target : State)
    (hr : Steps p.tables e below (T.setTop { g with pc := g.pc + 1, stack := v :: rest }) target) : Steps p.tables e below (T.setTop g) target := by
  obtain ⟨cl, A, rfl⟩ := F
  exact X.laload hx (by rw [eT]; exact A.1) (State.isArrayOf_alike hZ.alike A.2.1) A.2.2 (own_A.inb hj hv) (by rw [← Array.getElem?_toList]; exact hv) hg hs hd _ hr
theorem own_A.same {cl : Cell} (A : Arr Z h a cl ty) (W : Wr h h' a sl v) : own_A Z h' a ty (cl.slots.toList.set sl v) := ⟨_, A.same W, by simp [Cell.setSlot]⟩
theorem own_A.dst (X : Stand p l e R s m args below meth c T locs cells slots) (hx : p.tables.exec = Jvm.exec) (hZ : Z.Warmed39 s.vm) (eT : T.heap = h) (F : own_A Z h a .double vs) {j : Int32} {x : UInt64} (hj : ¬ j < 0) {o : Value} (hv : vs[j.toNatClampNeg]? = some o)
    {g : JFrame} (hg : g.method = m) {rest : List Value} (hs : g.stack = .double x :: .int j :: .ref a :: rest) (hd : decode c.code g.pc = .ok (.dastore, 1)) :
    ∃ T' h', Stand p l e R s m args below meth c T' (locs ++ [⟨a, j.toNatClampNeg⟩]) cells slots ∧ T'.heap = h' ∧ Wr h h' a j.toNatClampNeg (.double x) ∧ own_A Z h' a .double (vs.set j.toNatClampNeg (.double x)) ∧
      ∀ target, Steps p.tables e below (T'.setTop { g with pc := g.pc + 1, stack := rest }) target → Steps p.tables e below (T.setTop g) target := by
  obtain ⟨cl, A, rfl⟩ := F
  obtain ⟨T', h', X', e', W, st⟩ := stD X hx hZ eT A (own_A.inb hj hv) hg hs hd
  exact ⟨T', h', X', e', W, own_A.same A W, st⟩
theorem own_A.ist (X : Stand p l e R s m args below meth c T locs cells slots) (hx : p.tables.exec = Jvm.exec) (hZ : Z.Warmed39 s.vm) (eT : T.heap = h) (F : own_A Z h a .int vs) {j : Int32} {x : Int32} (hj : ¬ j < 0) {o : Value} (hv : vs[j.toNatClampNeg]? = some o)
    {g : JFrame} (hg : g.method = m) {rest : List Value} (hs : g.stack = .int x :: .int j :: .ref a :: rest) (hd : decode c.code g.pc = .ok (.iastore, 1)) :
    ∃ T' h', Stand p l e R s m args below meth c T' (locs ++ [⟨a, j.toNatClampNeg⟩]) cells slots ∧ T'.heap = h' ∧ Wr h h' a j.toNatClampNeg (.int x) ∧ own_A Z h' a .int (vs.set j.toNatClampNeg (.int x)) ∧
      ∀ target, Steps p.tables e below (T'.setTop { g with pc := g.pc + 1, stack := rest }) target → Steps p.tables e below (T.setTop g) target := by
  obtain ⟨cl, A, rfl⟩ := F
  obtain ⟨T', h', X', e', W, st⟩ := stI X hx hZ eT A (own_A.inb hj hv) hg hs hd
  exact ⟨T', h', X', e', W, own_A.same A W, st⟩
theorem own_A.lst (X : Stand p l e R s m args below meth c T locs cells slots) (hx : p.tables.exec = Jvm.exec) (hZ : Z.Warmed39 s.vm) (eT : T.heap = h) (F : own_A Z h a .long vs) {j : Int32} {x : Int64} (hj : ¬ j < 0) {o : Value} (hv : vs[j.toNatClampNeg]? = some o)
    {g : JFrame} (hg : g.method = m) {rest : List Value} (hs : g.stack = .long x :: .int j :: .ref a :: rest) (hd : decode c.code g.pc = .ok (.lastore, 1)) :
    ∃ T' h', Stand p l e R s m args below meth c T' (locs ++ [⟨a, j.toNatClampNeg⟩]) cells slots ∧ T'.heap = h' ∧ Wr h h' a j.toNatClampNeg (.long x) ∧ own_A Z h' a .long (vs.set j.toNatClampNeg (.long x)) ∧
      ∀ target, Steps p.tables e below (T'.setTop { g with pc := g.pc + 1, stack := rest }) target → Steps p.tables e below (T.setTop g) target := by
  obtain ⟨cl, A, rfl⟩ := F
  obtain ⟨T', h', X', e', W, st⟩ := stJ X hx hZ eT A (own_A.inb hj hv) hg hs hd
  exact ⟨T', h', X', e', W, own_A.same A W, st⟩
end OwnArr

def own_lo (p : Int64) : Int32 := ((p - (p / (1000 : Int64)) * (1000 : Int64)).toInt32)
def own_hi (p : Int64) : Int32 := (((p / (1000 : Int64)) - ((p / (1000 : Int64)) / (1000 : Int64)) * (1000 : Int64)).toInt32)
theorem own_rb (p : Int64) : -1000 ≤ ((p - (p / (1000 : Int64)) * (1000 : Int64)).toInt32).toInt ∧ ((p - (p / (1000 : Int64)) * (1000 : Int64)).toInt32).toInt ≤ 1000 := by
  have h := Jvm.Kit.i64_rem p 1000
  have e : (1000 : Int64).toInt = 1000 := by decide
  rw [e] at h
  have h1 := tmod_bounds (a := p.toInt) (M := 1000) (by decide)
  rw [Jvm.Kit.i32_of_i64 (by rw [h]; omega) (by rw [h]; omega), h]; omega
theorem own_lob (p : Int64) : -1000 ≤ (own_lo p).toInt ∧ (own_lo p).toInt ≤ 1000 := own_rb p
theorem own_hib (p : Int64) : -1000 ≤ (own_hi p).toInt ∧ (own_hi p).toInt ≤ 1000 := own_rb (p / 1000)
theorem own_m3 {i j : Int} (h1 : -1000 ≤ i ∧ i ≤ 1000) (h2 : -1000 ≤ j ∧ j ≤ 1000) : (i * j).natAbs ≤ 2 ^ 53 := own_mb (A := 1000) (B := 1000) h1.1 h1.2 h2.1 h2.2 (by decide)
theorem own_p6 {i j : Int} (h1 : -1000 ≤ i ∧ i ≤ 1000) (h2 : -1000 ≤ j ∧ j ≤ 1000) : -1000000 ≤ i * j ∧ i * j ≤ 1000000 := by
  have h : (i * j).natAbs ≤ 1000 * 1000 := by rw [Int.natAbs_mul]; exact Nat.mul_le_mul (by omega) (by omega)
  omega
theorem own_s6 {i : Int} (h1 : -10000000 ≤ i) (h2 : i ≤ 10000000) : i.natAbs ≤ 2 ^ 53 := by
  have e5 : (2 : Nat) ^ 53 = 9007199254740992 := by decide
  omega
theorem own_ra {r : Int64} {i : Int} (h : r.toInt = i) (hi : -10000000 ≤ i ∧ i ≤ 10000000) {a b : Int32} (ha : -1000 ≤ a.toInt ∧ a.toInt ≤ 1000) (hb : -1000 ≤ b.toInt ∧ b.toInt ≤ 1000) : (r + (a.toInt64 * b.toInt64)).toInt = i + a.toInt * b.toInt := by
  have q := own_p6 ha hb
  have h1 := own_lm (a := a.toInt64) (b := b.toInt64) (by rw [Jvm.Kit.i64_of_i32, Jvm.Kit.i64_of_i32]; exact own_m3 ha hb)
  rw [Jvm.Kit.i64_of_i32, Jvm.Kit.i64_of_i32] at h1
  rw [Jvm.Kit.i64_add (by rw [h1, h]; omega) (by rw [h1, h]; omega), h1, h]
theorem own_len (p : Int32) {N : Int32} (h : N = (p &&& (7 : Int32)) % (5 : Int32)) : N = 0 ∨ N = 1 ∨ N = 2 ∨ N = 3 ∨ N = 4 := by
  have h1 := Jvm.Kit.i32_mask p 7 (k := 3) (by decide) (by decide)
  have h3 : N.toInt = (p &&& (7 : Int32)).toInt % 5 := by rw [h, Jvm.Kit.i32_rem_nonneg (by omega)]; rfl
  have h2 : N.toInt = 0 ∨ N.toInt = 1 ∨ N.toInt = 2 ∨ N.toInt = 3 ∨ N.toInt = 4 := by omega
  rcases h2 with q | q | q | q | q
  · exact Or.inl (Int32.toInt_inj.mp q)
  · exact Or.inr (Or.inl (Int32.toInt_inj.mp q))
  · exact Or.inr (Or.inr (Or.inl (Int32.toInt_inj.mp q)))
  · exact Or.inr (Or.inr (Or.inr (Or.inl (Int32.toInt_inj.mp q))))
  · exact Or.inr (Or.inr (Or.inr (Or.inr (Int32.toInt_inj.mp q))))

def QrmL (Z : State) (pp : Int64) (h0 : Heap) (n0 : Nat) (vQ : Option Value) (hQ : Heap) (LQ : List Loc) : Prop := vQ = some (.int (own_lo pp)) ∧ Fr n0 LQ ∧ hQ = h0
theorem ef_rmL (m : MethodId) (pp : Int64) : entryFrame m #[(.long pp)] 2 = mkF m 0 #[vj pp, ss] [] := by first | (simp [entryFrame, mkF, argsToLocals, Value.category]; done) | rfl
abbrev mn0 : MethodName := ⟨"com/example/velvet_postings/velvetpostings/search/VectorsDotPinLaw", "lo", "(J)I"⟩
theorem pn_com_example_velvet_postings_velvetpostings_search_VectorsDotPinLaw : plainName "com/example/velvet_postings/velvetpostings/search/VectorsDotPinLaw" = true := by first | (simp [plainName, overriddenIn]; done) | decide +kernel
theorem d_method_2_code_0 : decode method_2_code 0 = .ok (.lload_n 0, 1) := by decide +kernel
theorem d_method_2_code_1 : decode method_2_code 1 = .ok (.ldc2_w 7, 3) := by decide +kernel
def tw9 {Z : State} {a0 : Array Value} (hw : ∀ d ∈ tables_1, d.before a0 Z = true) := hw _ (List.mem_of_getElem? (i := 9) rfl)
theorem d_method_2_code_4 : decode method_2_code 4 = .ok (.lrem, 1) := by decide +kernel
theorem d_method_2_code_5 : decode method_2_code 5 = .ok (.l2i, 1) := by decide +kernel
theorem d_method_2_code_6 : decode method_2_code 6 = .ok (.ireturn, 1) := by decide +kernel
set_option maxRecDepth 65536 in
set_option maxHeartbeats 40000000 in
theorem rmL (l : Launch) (Z : State) (a0 : Array Value) (hw : ∀ d ∈ tables_1, d.before a0 Z = true) (ws : List Jvm.Cond) (pp : Int64) (h0 : Heap) (n0 : Nat) (Z0 : n0 ≤ h0.size)  :
    MetFree l mn0 (head1 (Jvm.Cond.code mn0 method_2_code 2 (some .int) :: ws) ({ frames := 0, cells := 0, slots := 0, locals := 0 } : Room)) (fun aA U => aA = #[(.long pp)] ∧ Z.Warmed39 U.vm ∧ U.heap = h0) (fun _ _ _ _ _ => True) (fun _ U o U' => ∃ vR LR, o = .returned vR ∧ QrmL Z pp h0 n0 vR U'.heap LR ∧ FrameEnd U o U' LR ({ frames := 0, cells := 0, slots := 0, locals := 0 } : Room).cells ({ frames := 0, cells := 0, slots := 0, locals := 0 } : Room).slots) := by
  refine MetFree.of_bodySF (plainFor_of_name pn_com_example_velvet_postings_velvetpostings_search_VectorsDotPinLaw) hisR ?_
  intro p e s m args below meth c s₁ Bd hml0 hPre hKk
  obtain ⟨rfl, hZ, hh⟩ := hPre
  have hx := Bd.exec
  have hby := Bd.bytes
  have hml : c.maxLocals = 2 := hml0
  have hown : s.vm.findClass "com/example/velvet_postings/velvetpostings/search/VectorsDotPinLaw" = some m.cls := findClass_of_methodNamed Bd.named
  have hnm := (name_of_methodNamed Bd.named Bd.method).1
  have X0 : Stand p l e ({ frames := 0, cells := 0, slots := 0, locals := 0 } : Room) s m #[(.long pp)] below meth c s₁ [] 0 0 := Stand.of_body Bd
  have e0 : s₁.heap = h0 := by rw [← hh, Bd.state]; rfl
  have N0 := Fr.nil n0
  obtain ⟨E0, hE0⟩ : ∃ zE : State, zE = s₁.setTop (entryFrame m #[(.long pp)] 2) := ⟨_, rfl⟩
  have k0 : own_G p e below E0 s₁ (mkF m 0 #[vj pp, ss] []) := fun tz kz => hE0 ▸ castTop (ef_rmL m pp) kz
  have k1 : own_G p e below E0 s₁ (mkF m 1 #[vj pp, ss] [(.long pp)]) := by
    intro tQ kk
    refine k0 tQ ?_
    refine XT.lloadN X0.here hx rfl (hb hby d_method_2_code_0) rfl ?_
    exact kk
  clear k0
  have st2 := X0.ldc2Long hx hown (mvT hZ (tw9 hw)) (g := (mkF m 1 #[vj pp, ss] [(.long pp)])) rfl (hb hby d_method_2_code_1)
  have k3 : own_G p e below E0 s₁ (mkF m 4 #[vj pp, ss] [(.long (1000 : Int64)), (.long pp)]) := fun tQ kk => k1 tQ (st2 _ kk)
  clear k1 st2
  have k4 : own_G p e below E0 s₁ (mkF m 6 #[vj pp, ss] [(.int ((pp - (pp / (1000 : Int64)) * (1000 : Int64)).toInt32))]) := by
    intro tQ kk
    refine k3 tQ ?_
    refine XT.lrem X0.here hx rfl (hb hby d_method_2_code_4) rfl (by decide) ?_
    refine XT.l2i X0.here hx rfl (hb hby d_method_2_code_5) rfl ?_
    exact kk
  clear k3
  obtain ⟨fs, hr, hrun, hended, hW, hsame⟩ := X0.leave (v := some (.int ((pp - (pp / (1000 : Int64)) * (1000 : Int64)).toInt32))) (fun h => by rw [Bd.returns] at h; cases h)
  have hrun0 := k4 _ (retOut X0 hx Bd.returns (t := .int) rfl (Or.inl ⟨rfl, Or.inl rfl, _, rfl⟩) (hb hby d_method_2_code_6) hr)
  subst hE0
  refine ⟨_, _, hrun0, hrun, hended, _, _, rfl, ?_, ⟨_, rfl⟩, hW, hsame.mono (by decide) (by decide)⟩
  show QrmL Z pp h0 n0 _ s₁.heap _
  rw [e0]
  exact ⟨rfl, N0, rfl⟩
def QrmH (Z : State) (pp : Int64) (h0 : Heap) (n0 : Nat) (vQ : Option Value) (hQ : Heap) (LQ : List Loc) : Prop := vQ = some (.int (own_hi pp)) ∧ Fr n0 LQ ∧ hQ = h0
theorem ef_rmH (m : MethodId) (pp : Int64) : entryFrame m #[(.long pp)] 2 = mkF m 0 #[vj pp, ss] [] := by first | (simp [entryFrame, mkF, argsToLocals, Value.category]; done) | rfl
abbrev mn1 : MethodName := ⟨"com/example/velvet_postings/velvetpostings/search/VectorsDotPinLaw", "hi", "(J)I"⟩
theorem d_method_3_code_0 : decode method_3_code 0 = .ok (.lload_n 0, 1) := by decide +kernel
theorem d_method_3_code_1 : decode method_3_code 1 = .ok (.ldc2_w 7, 3) := by decide +kernel
theorem d_method_3_code_4 : decode method_3_code 4 = .ok (.ldiv, 1) := by decide +kernel
theorem d_method_3_code_5 : decode method_3_code 5 = .ok (.ldc2_w 7, 3) := by decide +kernel
theorem d_method_3_code_8 : decode method_3_code 8 = .ok (.lrem, 1) := by decide +kernel
theorem d_method_3_code_9 : decode method_3_code 9 = .ok (.l2i, 1) := by decide +kernel
theorem d_method_3_code_10 : decode method_3_code 10 = .ok (.ireturn, 1) := by decide +kernel
set_option maxRecDepth 65536 in
set_option maxHeartbeats 40000000 in
theorem rmH (l : Launch) (Z : State) (a0 : Array Value) (hw : ∀ d ∈ tables_1, d.before a0 Z = true) (ws : List Jvm.Cond) (pp : Int64) (h0 : Heap) (n0 : Nat) (Z0 : n0 ≤ h0.size)  :
    MetFree l mn1 (head1 (Jvm.Cond.code mn1 method_3_code 2 (some .int) :: ws) ({ frames := 0, cells := 0, slots := 0, locals := 0 } : Room)) (fun aA U => aA = #[(.long pp)] ∧ Z.Warmed39 U.vm ∧ U.heap = h0) (fun _ _ _ _ _ => True) (fun _ U o U' => ∃ vR LR, o = .returned vR ∧ QrmH Z pp h0 n0 vR U'.heap LR ∧ FrameEnd U o U' LR ({ frames := 0, cells := 0, slots := 0, locals := 0 } : Room).cells ({ frames := 0, cells := 0, slots := 0, locals := 0 } : Room).slots) := by
  refine MetFree.of_bodySF (plainFor_of_name pn_com_example_velvet_postings_velvetpostings_search_VectorsDotPinLaw) hisR ?_
  intro p e s m args below meth c s₁ Bd hml0 hPre hKk
  obtain ⟨rfl, hZ, hh⟩ := hPre
  have hx := Bd.exec
  have hby := Bd.bytes
  have hml : c.maxLocals = 2 := hml0
  have hown : s.vm.findClass "com/example/velvet_postings/velvetpostings/search/VectorsDotPinLaw" = some m.cls := findClass_of_methodNamed Bd.named
  have hnm := (name_of_methodNamed Bd.named Bd.method).1
  have X0 : Stand p l e ({ frames := 0, cells := 0, slots := 0, locals := 0 } : Room) s m #[(.long pp)] below meth c s₁ [] 0 0 := Stand.of_body Bd
  have e0 : s₁.heap = h0 := by rw [← hh, Bd.state]; rfl
  have N0 := Fr.nil n0
  obtain ⟨E0, hE0⟩ : ∃ zE : State, zE = s₁.setTop (entryFrame m #[(.long pp)] 2) := ⟨_, rfl⟩
  have k0 : own_G p e below E0 s₁ (mkF m 0 #[vj pp, ss] []) := fun tz kz => hE0 ▸ castTop (ef_rmH m pp) kz
  have k5 : own_G p e below E0 s₁ (mkF m 1 #[vj pp, ss] [(.long pp)]) := by
    intro tQ kk
    refine k0 tQ ?_
    refine XT.lloadN X0.here hx rfl (hb hby d_method_3_code_0) rfl ?_
    exact kk
  clear k0
  have st6 := X0.ldc2Long hx hown (mvT hZ (tw9 hw)) (g := (mkF m 1 #[vj pp, ss] [(.long pp)])) rfl (hb hby d_method_3_code_1)
  have k7 : own_G p e below E0 s₁ (mkF m 4 #[vj pp, ss] [(.long (1000 : Int64)), (.long pp)]) := fun tQ kk => k5 tQ (st6 _ kk)
  clear k5 st6
  have k8 : own_G p e below E0 s₁ (mkF m 5 #[vj pp, ss] [(.long (pp / (1000 : Int64)))]) := by
    intro tQ kk
    refine k7 tQ ?_
    refine XT.ldiv X0.here hx rfl (hb hby d_method_3_code_4) rfl (by decide) ?_
    exact kk
  clear k7
  have st9 := X0.ldc2Long hx hown (mvT hZ (tw9 hw)) (g := (mkF m 5 #[vj pp, ss] [(.long (pp / (1000 : Int64)))])) rfl (hb hby d_method_3_code_5)
  have k10 : own_G p e below E0 s₁ (mkF m 8 #[vj pp, ss] [(.long (1000 : Int64)), (.long (pp / (1000 : Int64)))]) := fun tQ kk => k8 tQ (st9 _ kk)
  clear k8 st9
  have k11 : own_G p e below E0 s₁ (mkF m 10 #[vj pp, ss] [(.int (((pp / (1000 : Int64)) - ((pp / (1000 : Int64)) / (1000 : Int64)) * (1000 : Int64)).toInt32))]) := by
    intro tQ kk
    refine k10 tQ ?_
    refine XT.lrem X0.here hx rfl (hb hby d_method_3_code_8) rfl (by decide) ?_
    refine XT.l2i X0.here hx rfl (hb hby d_method_3_code_9) rfl ?_
    exact kk
  clear k10
  obtain ⟨fs, hr, hrun, hended, hW, hsame⟩ := X0.leave (v := some (.int (((pp / (1000 : Int64)) - ((pp / (1000 : Int64)) / (1000 : Int64)) * (1000 : Int64)).toInt32))) (fun h => by rw [Bd.returns] at h; cases h)
  have hrun0 := k11 _ (retOut X0 hx Bd.returns (t := .int) rfl (Or.inl ⟨rfl, Or.inl rfl, _, rfl⟩) (hb hby d_method_3_code_10) hr)
  subst hE0
  refine ⟨_, _, hrun0, hrun, hended, _, _, rfl, ?_, ⟨_, rfl⟩, hW, hsame.mono (by decide) (by decide)⟩
  show QrmH Z pp h0 n0 _ s₁.heap _
  rw [e0]
  exact ⟨rfl, N0, rfl⟩
def QrmV0 (Z : State) (a : Addr) (b : Addr) (h0 : Heap) (n0 : Nat) (vQ : Option Value) (hQ : Heap) (LQ : List Loc) : Prop := ∃ (r : UInt64), vQ = some (.double r) ∧ Fr n0 LQ ∧ hQ = h0 ∧ (FP.Core.DInt (0) r)
theorem ef_rmV0 (m : MethodId) (a : Addr) (b : Addr) : entryFrame m #[(.ref a), (.ref b)] 5 = mkF m 0 #[vr a, vr b, uu, uu, uu] [] := by first | (simp [entryFrame, mkF, argsToLocals, Value.category]; done) | rfl
abbrev mn2 : MethodName := ⟨"com/example/velvet_postings/velvetpostings/search/Vectors", "dot", "([D[D)D"⟩
theorem pn_com_example_velvet_postings_velvetpostings_search_Vectors : plainName "com/example/velvet_postings/velvetpostings/search/Vectors" = true := by first | (simp [plainName, overriddenIn]; done) | decide +kernel
theorem d_prog_103_method_2_code_0 : decode prog_103_method_2_code 0 = .ok (.dconst 0, 1) := by decide +kernel
theorem d_prog_103_method_2_code_1 : decode prog_103_method_2_code 1 = .ok (.dstore_n 2, 1) := by decide +kernel
theorem d_prog_103_method_2_code_2 : decode prog_103_method_2_code 2 = .ok (.iconst 0, 1) := by decide +kernel
theorem d_prog_103_method_2_code_3 : decode prog_103_method_2_code 3 = .ok (.istore 4, 2) := by decide +kernel
theorem d_prog_103_method_2_code_5 : decode prog_103_method_2_code 5 = .ok (.iload 4, 2) := by decide +kernel
theorem d_prog_103_method_2_code_7 : decode prog_103_method_2_code 7 = .ok (.aload_n 0, 1) := by decide +kernel
theorem d_prog_103_method_2_code_8 : decode prog_103_method_2_code 8 = .ok (.arraylength, 1) := by decide +kernel
theorem d_prog_103_method_2_code_9 : decode prog_103_method_2_code 9 = .ok (.if_icmp .ge 21, 3) := by decide +kernel
theorem d_prog_103_method_2_code_30 : decode prog_103_method_2_code 30 = .ok (.dload_n 2, 1) := by decide +kernel
theorem d_prog_103_method_2_code_31 : decode prog_103_method_2_code 31 = .ok (.dreturn, 1) := by decide +kernel
set_option maxRecDepth 65536 in
set_option maxHeartbeats 40000000 in
theorem rmV0 (l : Launch) (Z : State) (a0 : Array Value) (hw : ∀ d ∈ tables_1, d.before a0 Z = true) (ws : List Jvm.Cond) (a : Addr) (b : Addr) (h0 : Heap) (n0 : Nat) (Z0 : n0 ≤ h0.size) (A1 : own_A Z h0 a .double []) (A2 : own_A Z h0 b .double []) :
    MetFree l mn2 (head1 (Jvm.Cond.code mn2 prog_103_method_2_code 5 (some .double) :: ws) ({ frames := 0, cells := 0, slots := 0, locals := 0 } : Room)) (fun aA U => aA = #[(.ref a), (.ref b)] ∧ Z.Warmed39 U.vm ∧ U.heap = h0) (fun _ _ _ _ _ => True) (fun _ U o U' => ∃ vR LR, o = .returned vR ∧ QrmV0 Z a b h0 n0 vR U'.heap LR ∧ FrameEnd U o U' LR ({ frames := 0, cells := 0, slots := 0, locals := 0 } : Room).cells ({ frames := 0, cells := 0, slots := 0, locals := 0 } : Room).slots) := by
  refine MetFree.of_bodySF (plainFor_of_name pn_com_example_velvet_postings_velvetpostings_search_Vectors) hisR ?_
  intro p e s m args below meth c s₁ Bd hml0 hPre hKk
  obtain ⟨rfl, hZ, hh⟩ := hPre
  have hx := Bd.exec
  have hby := Bd.bytes
  have hml : c.maxLocals = 5 := hml0
  have hown : s.vm.findClass "com/example/velvet_postings/velvetpostings/search/Vectors" = some m.cls := findClass_of_methodNamed Bd.named
  have hnm := (name_of_methodNamed Bd.named Bd.method).1
  have X0 : Stand p l e ({ frames := 0, cells := 0, slots := 0, locals := 0 } : Room) s m #[(.ref a), (.ref b)] below meth c s₁ [] 0 0 := Stand.of_body Bd
  have e0 : s₁.heap = h0 := by rw [← hh, Bd.state]; rfl
  have N0 := Fr.nil n0
  obtain ⟨E0, hE0⟩ : ∃ zE : State, zE = s₁.setTop (entryFrame m #[(.ref a), (.ref b)] 5) := ⟨_, rfl⟩
  have k0 : own_G p e below E0 s₁ (mkF m 0 #[vr a, vr b, uu, uu, uu] []) := fun tz kz => hE0 ▸ castTop (ef_rmV0 m a b) kz
  have DS0 : FP.Core.DInt 0 FP.dconst0 := own_d0
  have k12 : own_G p e below E0 s₁ (mkF m 8 #[vr a, vr b, vd FP.dconst0, ss, vi (0 : Int32)] [(.ref a), (.int (0 : Int32))]) := by
    intro tQ kk
    refine k0 tQ ?_
    refine XS.dconst0 X0.here hx rfl (hb hby d_prog_103_method_2_code_0) rfl ?_
    refine XS.dstoreN X0.here hx rfl (hb hby d_prog_103_method_2_code_1) rfl (l' := #[vr a, vr b, vd FP.dconst0, ss, uu]) rfl ?_
    refine XS.iconst X0.here hx rfl (hb hby d_prog_103_method_2_code_2) ?_
    refine XS.istore X0.here hx rfl (hb hby d_prog_103_method_2_code_3) rfl (l' := #[vr a, vr b, vd FP.dconst0, ss, vi (0 : Int32)]) rfl ?_
    show Steps p.tables e below (s₁.setTop (mkF m 5 #[vr a, vr b, vd FP.dconst0, ss, vi (0 : Int32)] [])) tQ
    refine XS.iload X0.here hx rfl (hb hby d_prog_103_method_2_code_5) rfl ?_
    refine XS.aloadN X0.here hx rfl (hb hby d_prog_103_method_2_code_7) rfl rfl ?_
    exact kk
  clear k0
  have st13 := fun tQ => own_A.len X0 hx hZ e0 A1 (g := (mkF m 8 #[vr a, vr b, vd FP.dconst0, ss, vi (0 : Int32)] [(.ref a), (.int (0 : Int32))])) rfl rfl (hb hby d_prog_103_method_2_code_8) tQ
  have k14 : own_G p e below E0 s₁ (mkF m 9 #[vr a, vr b, vd FP.dconst0, ss, vi (0 : Int32)] [(.int (0 : Int32)), (.int (0 : Int32))]) := fun tQ kk => k12 tQ (st13 _ kk)
  clear k12 st13
  have k15 : own_G p e below E0 s₁ (mkF m 31 #[vr a, vr b, vd FP.dconst0, ss, vi (0 : Int32)] [(.double FP.dconst0)]) := by
    intro tQ kk
    refine k14 tQ ?_
    refine XS.icmpYes X0.here hx rfl (pc0 := 9) (pc' := 30) rfl (hb hby d_prog_103_method_2_code_9) rfl (own_ic_geY (by decide)) (by decide) (by decide) ?_
    refine XS.dloadN X0.here hx rfl (hb hby d_prog_103_method_2_code_30) rfl ?_
    exact kk
  clear k14
  obtain ⟨fs, hr, hrun, hended, hW, hsame⟩ := X0.leave (v := some (.double FP.dconst0)) (fun h => by rw [Bd.returns] at h; cases h)
  have hrun0 := k15 _ (retOut X0 hx Bd.returns (t := .double) rfl (Or.inr (Or.inr (Or.inl ⟨rfl, rfl, _, rfl⟩))) (hb hby d_prog_103_method_2_code_31) hr)
  subst hE0
  refine ⟨_, _, hrun0, hrun, hended, _, _, rfl, ?_, ⟨_, rfl⟩, hW, hsame.mono (by decide) (by decide)⟩
  show QrmV0 Z a b h0 n0 _ s₁.heap _
  rw [e0]
  exact ⟨FP.dconst0, rfl, N0, rfl, DS0⟩
def QrmV1 (Z : State) (a : Addr) (b : Addr) (x0 : UInt64) (y0 : UInt64) (i0 : Int) (j0 : Int) (h0 : Heap) (n0 : Nat) (vQ : Option Value) (hQ : Heap) (LQ : List Loc) : Prop := ∃ (r : UInt64), vQ = some (.double r) ∧ Fr n0 LQ ∧ hQ = h0 ∧ (FP.Core.DInt (0 + i0 * j0) r)
theorem ef_rmV1 (m : MethodId) (a : Addr) (b : Addr) (x0 : UInt64) (y0 : UInt64) (i0 : Int) (j0 : Int) : entryFrame m #[(.ref a), (.ref b)] 5 = mkF m 0 #[vr a, vr b, uu, uu, uu] [] := by first | (simp [entryFrame, mkF, argsToLocals, Value.category]; done) | rfl
theorem d_prog_103_method_2_code_12 : decode prog_103_method_2_code 12 = .ok (.dload_n 2, 1) := by decide +kernel
theorem d_prog_103_method_2_code_13 : decode prog_103_method_2_code 13 = .ok (.aload_n 0, 1) := by decide +kernel
theorem d_prog_103_method_2_code_14 : decode prog_103_method_2_code 14 = .ok (.iload 4, 2) := by decide +kernel
theorem d_prog_103_method_2_code_16 : decode prog_103_method_2_code 16 = .ok (.daload, 1) := by decide +kernel
theorem d_prog_103_method_2_code_17 : decode prog_103_method_2_code 17 = .ok (.aload_n 1, 1) := by decide +kernel
theorem d_prog_103_method_2_code_18 : decode prog_103_method_2_code 18 = .ok (.iload 4, 2) := by decide +kernel
theorem d_prog_103_method_2_code_20 : decode prog_103_method_2_code 20 = .ok (.daload, 1) := by decide +kernel
theorem d_prog_103_method_2_code_21 : decode prog_103_method_2_code 21 = .ok (.dmul, 1) := by decide +kernel
theorem d_prog_103_method_2_code_22 : decode prog_103_method_2_code 22 = .ok (.dadd, 1) := by decide +kernel
theorem d_prog_103_method_2_code_23 : decode prog_103_method_2_code 23 = .ok (.dstore_n 2, 1) := by decide +kernel
theorem d_prog_103_method_2_code_24 : decode prog_103_method_2_code 24 = .ok (.iinc 4 1, 3) := by decide +kernel
theorem d_prog_103_method_2_code_27 : decode prog_103_method_2_code 27 = .ok (.goto (-22), 3) := by decide +kernel
set_option maxRecDepth 65536 in
set_option maxHeartbeats 40000000 in
theorem rmV1 (l : Launch) (Z : State) (a0 : Array Value) (hw : ∀ d ∈ tables_1, d.before a0 Z = true) (ws : List Jvm.Cond) (a : Addr) (b : Addr) (x0 : UInt64) (y0 : UInt64) (i0 : Int) (j0 : Int) (h0 : Heap) (n0 : Nat) (Z0 : n0 ≤ h0.size) (A1 : own_A Z h0 a .double [(.double x0)]) (A2 : own_A Z h0 b .double [(.double y0)]) (Dx0 : FP.Core.DInt i0 x0) (Dy0 : FP.Core.DInt j0 y0) (bi0 : -1000 ≤ i0 ∧ i0 ≤ 1000) (bj0 : -1000 ≤ j0 ∧ j0 ≤ 1000) :
    MetFree l mn2 (head1 (Jvm.Cond.code mn2 prog_103_method_2_code 5 (some .double) :: ws) ({ frames := 0, cells := 0, slots := 0, locals := 0 } : Room)) (fun aA U => aA = #[(.ref a), (.ref b)] ∧ Z.Warmed39 U.vm ∧ U.heap = h0) (fun _ _ _ _ _ => True) (fun _ U o U' => ∃ vR LR, o = .returned vR ∧ QrmV1 Z a b x0 y0 i0 j0 h0 n0 vR U'.heap LR ∧ FrameEnd U o U' LR ({ frames := 0, cells := 0, slots := 0, locals := 0 } : Room).cells ({ frames := 0, cells := 0, slots := 0, locals := 0 } : Room).slots) := by
  refine MetFree.of_bodySF (plainFor_of_name pn_com_example_velvet_postings_velvetpostings_search_Vectors) hisR ?_
  intro p e s m args below meth c s₁ Bd hml0 hPre hKk
  obtain ⟨rfl, hZ, hh⟩ := hPre
  have hx := Bd.exec
  have hby := Bd.bytes
  have hml : c.maxLocals = 5 := hml0
  have hown : s.vm.findClass "com/example/velvet_postings/velvetpostings/search/Vectors" = some m.cls := findClass_of_methodNamed Bd.named
  have hnm := (name_of_methodNamed Bd.named Bd.method).1
  have X0 : Stand p l e ({ frames := 0, cells := 0, slots := 0, locals := 0 } : Room) s m #[(.ref a), (.ref b)] below meth c s₁ [] 0 0 := Stand.of_body Bd
  have e0 : s₁.heap = h0 := by rw [← hh, Bd.state]; rfl
  have N0 := Fr.nil n0
  obtain ⟨E0, hE0⟩ : ∃ zE : State, zE = s₁.setTop (entryFrame m #[(.ref a), (.ref b)] 5) := ⟨_, rfl⟩
  have k0 : own_G p e below E0 s₁ (mkF m 0 #[vr a, vr b, uu, uu, uu] []) := fun tz kz => hE0 ▸ castTop (ef_rmV1 m a b x0 y0 i0 j0) kz
  have DS0 : FP.Core.DInt 0 FP.dconst0 := own_d0
  have k16 : own_G p e below E0 s₁ (mkF m 8 #[vr a, vr b, vd FP.dconst0, ss, vi (0 : Int32)] [(.ref a), (.int (0 : Int32))]) := by
    intro tQ kk
    refine k0 tQ ?_
    refine XS.dconst0 X0.here hx rfl (hb hby d_prog_103_method_2_code_0) rfl ?_
    refine XS.dstoreN X0.here hx rfl (hb hby d_prog_103_method_2_code_1) rfl (l' := #[vr a, vr b, vd FP.dconst0, ss, uu]) rfl ?_
    refine XS.iconst X0.here hx rfl (hb hby d_prog_103_method_2_code_2) ?_
    refine XS.istore X0.here hx rfl (hb hby d_prog_103_method_2_code_3) rfl (l' := #[vr a, vr b, vd FP.dconst0, ss, vi (0 : Int32)]) rfl ?_
    show Steps p.tables e below (s₁.setTop (mkF m 5 #[vr a, vr b, vd FP.dconst0, ss, vi (0 : Int32)] [])) tQ
    refine XS.iload X0.here hx rfl (hb hby d_prog_103_method_2_code_5) rfl ?_
    refine XS.aloadN X0.here hx rfl (hb hby d_prog_103_method_2_code_7) rfl rfl ?_
    exact kk
  clear k0
  have st17 := fun tQ => own_A.len X0 hx hZ e0 A1 (g := (mkF m 8 #[vr a, vr b, vd FP.dconst0, ss, vi (0 : Int32)] [(.ref a), (.int (0 : Int32))])) rfl rfl (hb hby d_prog_103_method_2_code_8) tQ
  have k18 : own_G p e below E0 s₁ (mkF m 9 #[vr a, vr b, vd FP.dconst0, ss, vi (0 : Int32)] [(.int (1 : Int32)), (.int (0 : Int32))]) := fun tQ kk => k16 tQ (st17 _ kk)
  clear k16 st17
  have k19 : own_G p e below E0 s₁ (mkF m 16 #[vr a, vr b, vd FP.dconst0, ss, vi (0 : Int32)] [(.int (0 : Int32)), (.ref a), (.double FP.dconst0)]) := by
    intro tQ kk
    refine k18 tQ ?_
    refine XS.icmpNo X0.here hx rfl (hb hby d_prog_103_method_2_code_9) rfl (own_ic_geN (by decide)) ?_
    refine XS.dloadN X0.here hx rfl (hb hby d_prog_103_method_2_code_12) rfl ?_
    refine XS.aloadN X0.here hx rfl (hb hby d_prog_103_method_2_code_13) rfl rfl ?_
    refine XS.iload X0.here hx rfl (hb hby d_prog_103_method_2_code_14) rfl ?_
    exact kk
  clear k18
  have st20 := fun tQ => own_A.dld X0 hx hZ e0 A1 (j := (0 : Int32)) (v := (.double x0)) (by decide) rfl (g := (mkF m 16 #[vr a, vr b, vd FP.dconst0, ss, vi (0 : Int32)] [(.int (0 : Int32)), (.ref a), (.double FP.dconst0)])) rfl rfl (hb hby d_prog_103_method_2_code_16) tQ
  have k21 : own_G p e below E0 s₁ (mkF m 17 #[vr a, vr b, vd FP.dconst0, ss, vi (0 : Int32)] [(.double x0), (.double FP.dconst0)]) := fun tQ kk => k19 tQ (st20 _ kk)
  clear k19 st20
  have k22 : own_G p e below E0 s₁ (mkF m 20 #[vr a, vr b, vd FP.dconst0, ss, vi (0 : Int32)] [(.int (0 : Int32)), (.ref b), (.double x0), (.double FP.dconst0)]) := by
    intro tQ kk
    refine k21 tQ ?_
    refine XS.aloadN X0.here hx rfl (hb hby d_prog_103_method_2_code_17) rfl rfl ?_
    refine XS.iload X0.here hx rfl (hb hby d_prog_103_method_2_code_18) rfl ?_
    exact kk
  clear k21
  have st23 := fun tQ => own_A.dld X0 hx hZ e0 A2 (j := (0 : Int32)) (v := (.double y0)) (by decide) rfl (g := (mkF m 20 #[vr a, vr b, vd FP.dconst0, ss, vi (0 : Int32)] [(.int (0 : Int32)), (.ref b), (.double x0), (.double FP.dconst0)])) rfl rfl (hb hby d_prog_103_method_2_code_20) tQ
  have k24 : own_G p e below E0 s₁ (mkF m 21 #[vr a, vr b, vd FP.dconst0, ss, vi (0 : Int32)] [(.double y0), (.double x0), (.double FP.dconst0)]) := fun tQ kk => k22 tQ (st23 _ kk)
  clear k22 st23
  obtain ⟨m0, hm0⟩ : ∃ vA, FP.dmul x0 y0 = vA := ⟨_, rfl⟩
  have DM0 : FP.Core.DInt (i0 * j0) m0 := hm0 ▸ FP.Core.dmul_int Dx0 Dy0 (own_m3 bi0 bj0)
  have q0 := own_p6 bi0 bj0
  have k25 : own_G p e below E0 s₁ (mkF m 22 #[vr a, vr b, vd FP.dconst0, ss, vi (0 : Int32)] [(.double m0), (.double FP.dconst0)]) := by
    intro tQ kk
    refine k24 tQ ?_
    refine XS.dmulS X0.here hx rfl (hb hby d_prog_103_method_2_code_21) rfl (own_nn (FP.Core.dmul_int Dx0 Dy0 (own_m3 bi0 bj0))) hm0 ?_
    exact kk
  clear k24
  obtain ⟨s1, hs1⟩ : ∃ vA, FP.dadd FP.dconst0 m0 = vA := ⟨_, rfl⟩
  have DS1 : FP.Core.DInt (0 + i0 * j0) s1 := hs1 ▸ FP.Core.dadd_int DS0 DM0 (own_s6 (by omega) (by omega))
  have k26 : own_G p e below E0 s₁ (mkF m 8 #[vr a, vr b, vd s1, ss, vi (1 : Int32)] [(.ref a), (.int (1 : Int32))]) := by
    intro tQ kk
    refine k25 tQ ?_
    refine XS.daddS X0.here hx rfl (hb hby d_prog_103_method_2_code_22) rfl (own_nn (FP.Core.dadd_int DS0 DM0 (own_s6 (by omega) (by omega)))) hs1 ?_
    refine XS.dstoreN X0.here hx rfl (hb hby d_prog_103_method_2_code_23) rfl (l' := #[vr a, vr b, vd s1, ss, vi (0 : Int32)]) rfl ?_
    refine XS.iinc X0.here hx rfl (hb hby d_prog_103_method_2_code_24) rfl (l' := #[vr a, vr b, vd s1, ss, vi (1 : Int32)]) rfl ?_
    refine XS.goto X0.here hx rfl (pc0 := 27) (pc' := 5) rfl (hb hby d_prog_103_method_2_code_27) (by decide) (by decide) ?_
    show Steps p.tables e below (s₁.setTop (mkF m 5 #[vr a, vr b, vd s1, ss, vi (1 : Int32)] [])) tQ
    refine XS.iload X0.here hx rfl (hb hby d_prog_103_method_2_code_5) rfl ?_
    refine XS.aloadN X0.here hx rfl (hb hby d_prog_103_method_2_code_7) rfl rfl ?_
    exact kk
  clear k25
  have st27 := fun tQ => own_A.len X0 hx hZ e0 A1 (g := (mkF m 8 #[vr a, vr b, vd s1, ss, vi (1 : Int32)] [(.ref a), (.int (1 : Int32))])) rfl rfl (hb hby d_prog_103_method_2_code_8) tQ
  have k28 : own_G p e below E0 s₁ (mkF m 9 #[vr a, vr b, vd s1, ss, vi (1 : Int32)] [(.int (1 : Int32)), (.int (1 : Int32))]) := fun tQ kk => k26 tQ (st27 _ kk)
  clear k26 st27
  have k29 : own_G p e below E0 s₁ (mkF m 31 #[vr a, vr b, vd s1, ss, vi (1 : Int32)] [(.double s1)]) := by
    intro tQ kk
    refine k28 tQ ?_
    refine XS.icmpYes X0.here hx rfl (pc0 := 9) (pc' := 30) rfl (hb hby d_prog_103_method_2_code_9) rfl (own_ic_geY (by decide)) (by decide) (by decide) ?_
    refine XS.dloadN X0.here hx rfl (hb hby d_prog_103_method_2_code_30) rfl ?_
    exact kk
  clear k28
  obtain ⟨fs, hr, hrun, hended, hW, hsame⟩ := X0.leave (v := some (.double s1)) (fun h => by rw [Bd.returns] at h; cases h)
  have hrun0 := k29 _ (retOut X0 hx Bd.returns (t := .double) rfl (Or.inr (Or.inr (Or.inl ⟨rfl, rfl, _, rfl⟩))) (hb hby d_prog_103_method_2_code_31) hr)
  subst hE0
  refine ⟨_, _, hrun0, hrun, hended, _, _, rfl, ?_, ⟨_, rfl⟩, hW, hsame.mono (by decide) (by decide)⟩
  show QrmV1 Z a b x0 y0 i0 j0 h0 n0 _ s₁.heap _
  rw [e0]
  exact ⟨s1, rfl, N0, rfl, DS1⟩
def QrmV2 (Z : State) (a : Addr) (b : Addr) (x0 : UInt64) (x1 : UInt64) (y0 : UInt64) (y1 : UInt64) (i0 : Int) (i1 : Int) (j0 : Int) (j1 : Int) (h0 : Heap) (n0 : Nat) (vQ : Option Value) (hQ : Heap) (LQ : List Loc) : Prop := ∃ (r : UInt64), vQ = some (.double r) ∧ Fr n0 LQ ∧ hQ = h0 ∧ (FP.Core.DInt (0 + i0 * j0 + i1 * j1) r)
theorem ef_rmV2 (m : MethodId) (a : Addr) (b : Addr) (x0 : UInt64) (x1 : UInt64) (y0 : UInt64) (y1 : UInt64) (i0 : Int) (i1 : Int) (j0 : Int) (j1 : Int) : entryFrame m #[(.ref a), (.ref b)] 5 = mkF m 0 #[vr a, vr b, uu, uu, uu] [] := by first | (simp [entryFrame, mkF, argsToLocals, Value.category]; done) | rfl
set_option maxRecDepth 65536 in
set_option maxHeartbeats 40000000 in
theorem rmV2 (l : Launch) (Z : State) (a0 : Array Value) (hw : ∀ d ∈ tables_1, d.before a0 Z = true) (ws : List Jvm.Cond) (a : Addr) (b : Addr) (x0 : UInt64) (x1 : UInt64) (y0 : UInt64) (y1 : UInt64) (i0 : Int) (i1 : Int) (j0 : Int) (j1 : Int) (h0 : Heap) (n0 : Nat) (Z0 : n0 ≤ h0.size) (A1 : own_A Z h0 a .double [(.double x0), (.double x1)]) (A2 : own_A Z h0 b .double [(.double y0), (.double y1)]) (Dx0 : FP.Core.DInt i0 x0) (Dy0 : FP.Core.DInt j0 y0) (bi0 : -1000 ≤ i0 ∧ i0 ≤ 1000) (bj0 : -1000 ≤ j0 ∧ j0 ≤ 1000) (Dx1 : FP.Core.DInt i1 x1) (Dy1 : FP.Core.DInt j1 y1) (bi1 : -1000 ≤ i1 ∧ i1 ≤ 1000) (bj1 : -1000 ≤ j1 ∧ j1 ≤ 1000) :
    MetFree l mn2 (head1 (Jvm.Cond.code mn2 prog_103_method_2_code 5 (some .double) :: ws) ({ frames := 0, cells := 0, slots := 0, locals := 0 } : Room)) (fun aA U => aA = #[(.ref a), (.ref b)] ∧ Z.Warmed39 U.vm ∧ U.heap = h0) (fun _ _ _ _ _ => True) (fun _ U o U' => ∃ vR LR, o = .returned vR ∧ QrmV2 Z a b x0 x1 y0 y1 i0 i1 j0 j1 h0 n0 vR U'.heap LR ∧ FrameEnd U o U' LR ({ frames := 0, cells := 0, slots := 0, locals := 0 } : Room).cells ({ frames := 0, cells := 0, slots := 0, locals := 0 } : Room).slots) := by
  refine MetFree.of_bodySF (plainFor_of_name pn_com_example_velvet_postings_velvetpostings_search_Vectors) hisR ?_
  intro p e s m args below meth c s₁ Bd hml0 hPre hKk
  obtain ⟨rfl, hZ, hh⟩ := hPre
  have hx := Bd.exec
  have hby := Bd.bytes
  have hml : c.maxLocals = 5 := hml0
  have hown : s.vm.findClass "com/example/velvet_postings/velvetpostings/search/Vectors" = some m.cls := findClass_of_methodNamed Bd.named
  have hnm := (name_of_methodNamed Bd.named Bd.method).1
  have X0 : Stand p l e ({ frames := 0, cells := 0, slots := 0, locals := 0 } : Room) s m #[(.ref a), (.ref b)] below meth c s₁ [] 0 0 := Stand.of_body Bd
  have e0 : s₁.heap = h0 := by rw [← hh, Bd.state]; rfl
  have N0 := Fr.nil n0
  obtain ⟨E0, hE0⟩ : ∃ zE : State, zE = s₁.setTop (entryFrame m #[(.ref a), (.ref b)] 5) := ⟨_, rfl⟩
  have k0 : own_G p e below E0 s₁ (mkF m 0 #[vr a, vr b, uu, uu, uu] []) := fun tz kz => hE0 ▸ castTop (ef_rmV2 m a b x0 x1 y0 y1 i0 i1 j0 j1) kz
  have DS0 : FP.Core.DInt 0 FP.dconst0 := own_d0
  have k30 : own_G p e below E0 s₁ (mkF m 8 #[vr a, vr b, vd FP.dconst0, ss, vi (0 : Int32)] [(.ref a), (.int (0 : Int32))]) := by
    intro tQ kk
    refine k0 tQ ?_
    refine XS.dconst0 X0.here hx rfl (hb hby d_prog_103_method_2_code_0) rfl ?_
    refine XS.dstoreN X0.here hx rfl (hb hby d_prog_103_method_2_code_1) rfl (l' := #[vr a, vr b, vd FP.dconst0, ss, uu]) rfl ?_
    refine XS.iconst X0.here hx rfl (hb hby d_prog_103_method_2_code_2) ?_
    refine XS.istore X0.here hx rfl (hb hby d_prog_103_method_2_code_3) rfl (l' := #[vr a, vr b, vd FP.dconst0, ss, vi (0 : Int32)]) rfl ?_
    show Steps p.tables e below (s₁.setTop (mkF m 5 #[vr a, vr b, vd FP.dconst0, ss, vi (0 : Int32)] [])) tQ
    refine XS.iload X0.here hx rfl (hb hby d_prog_103_method_2_code_5) rfl ?_
    refine XS.aloadN X0.here hx rfl (hb hby d_prog_103_method_2_code_7) rfl rfl ?_
    exact kk
  clear k0
  have st31 := fun tQ => own_A.len X0 hx hZ e0 A1 (g := (mkF m 8 #[vr a, vr b, vd FP.dconst0, ss, vi (0 : Int32)] [(.ref a), (.int (0 : Int32))])) rfl rfl (hb hby d_prog_103_method_2_code_8) tQ
  have k32 : own_G p e below E0 s₁ (mkF m 9 #[vr a, vr b, vd FP.dconst0, ss, vi (0 : Int32)] [(.int (2 : Int32)), (.int (0 : Int32))]) := fun tQ kk => k30 tQ (st31 _ kk)
  clear k30 st31
  have k33 : own_G p e below E0 s₁ (mkF m 16 #[vr a, vr b, vd FP.dconst0, ss, vi (0 : Int32)] [(.int (0 : Int32)), (.ref a), (.double FP.dconst0)]) := by
    intro tQ kk
    refine k32 tQ ?_
    refine XS.icmpNo X0.here hx rfl (hb hby d_prog_103_method_2_code_9) rfl (own_ic_geN (by decide)) ?_
    refine XS.dloadN X0.here hx rfl (hb hby d_prog_103_method_2_code_12) rfl ?_
    refine XS.aloadN X0.here hx rfl (hb hby d_prog_103_method_2_code_13) rfl rfl ?_
    refine XS.iload X0.here hx rfl (hb hby d_prog_103_method_2_code_14) rfl ?_
    exact kk
  clear k32
  have st34 := fun tQ => own_A.dld X0 hx hZ e0 A1 (j := (0 : Int32)) (v := (.double x0)) (by decide) rfl (g := (mkF m 16 #[vr a, vr b, vd FP.dconst0, ss, vi (0 : Int32)] [(.int (0 : Int32)), (.ref a), (.double FP.dconst0)])) rfl rfl (hb hby d_prog_103_method_2_code_16) tQ
  have k35 : own_G p e below E0 s₁ (mkF m 17 #[vr a, vr b, vd FP.dconst0, ss, vi (0 : Int32)] [(.double x0), (.double FP.dconst0)]) := fun tQ kk => k33 tQ (st34 _ kk)
  clear k33 st34
  have k36 : own_G p e below E0 s₁ (mkF m 20 #[vr a, vr b, vd FP.dconst0, ss, vi (0 : Int32)] [(.int (0 : Int32)), (.ref b), (.double x0), (.double FP.dconst0)]) := by
    intro tQ kk
    refine k35 tQ ?_
    refine XS.aloadN X0.here hx rfl (hb hby d_prog_103_method_2_code_17) rfl rfl ?_
    refine XS.iload X0.here hx rfl (hb hby d_prog_103_method_2_code_18) rfl ?_
    exact kk
  clear k35
  have st37 := fun tQ => own_A.dld X0 hx hZ e0 A2 (j := (0 : Int32)) (v := (.double y0)) (by decide) rfl (g := (mkF m 20 #[vr a, vr b, vd FP.dconst0, ss, vi (0 : Int32)] [(.int (0 : Int32)), (.ref b), (.double x0), (.double FP.dconst0)])) rfl rfl (hb hby d_prog_103_method_2_code_20) tQ
  have k38 : own_G p e below E0 s₁ (mkF m 21 #[vr a, vr b, vd FP.dconst0, ss, vi (0 : Int32)] [(.double y0), (.double x0), (.double FP.dconst0)]) := fun tQ kk => k36 tQ (st37 _ kk)
  clear k36 st37
  obtain ⟨m0, hm0⟩ : ∃ vA, FP.dmul x0 y0 = vA := ⟨_, rfl⟩
  have DM0 : FP.Core.DInt (i0 * j0) m0 := hm0 ▸ FP.Core.dmul_int Dx0 Dy0 (own_m3 bi0 bj0)
  have q0 := own_p6 bi0 bj0
  have k39 : own_G p e below E0 s₁ (mkF m 22 #[vr a, vr b, vd FP.dconst0, ss, vi (0 : Int32)] [(.double m0), (.double FP.dconst0)]) := by
    intro tQ kk
    refine k38 tQ ?_
    refine XS.dmulS X0.here hx rfl (hb hby d_prog_103_method_2_code_21) rfl (own_nn (FP.Core.dmul_int Dx0 Dy0 (own_m3 bi0 bj0))) hm0 ?_
    exact kk
  clear k38
  obtain ⟨s1, hs1⟩ : ∃ vA, FP.dadd FP.dconst0 m0 = vA := ⟨_, rfl⟩
  have DS1 : FP.Core.DInt (0 + i0 * j0) s1 := hs1 ▸ FP.Core.dadd_int DS0 DM0 (own_s6 (by omega) (by omega))
  have k40 : own_G p e below E0 s₁ (mkF m 8 #[vr a, vr b, vd s1, ss, vi (1 : Int32)] [(.ref a), (.int (1 : Int32))]) := by
    intro tQ kk
    refine k39 tQ ?_
    refine XS.daddS X0.here hx rfl (hb hby d_prog_103_method_2_code_22) rfl (own_nn (FP.Core.dadd_int DS0 DM0 (own_s6 (by omega) (by omega)))) hs1 ?_
    refine XS.dstoreN X0.here hx rfl (hb hby d_prog_103_method_2_code_23) rfl (l' := #[vr a, vr b, vd s1, ss, vi (0 : Int32)]) rfl ?_
    refine XS.iinc X0.here hx rfl (hb hby d_prog_103_method_2_code_24) rfl (l' := #[vr a, vr b, vd s1, ss, vi (1 : Int32)]) rfl ?_
    refine XS.goto X0.here hx rfl (pc0 := 27) (pc' := 5) rfl (hb hby d_prog_103_method_2_code_27) (by decide) (by decide) ?_
    show Steps p.tables e below (s₁.setTop (mkF m 5 #[vr a, vr b, vd s1, ss, vi (1 : Int32)] [])) tQ
    refine XS.iload X0.here hx rfl (hb hby d_prog_103_method_2_code_5) rfl ?_
    refine XS.aloadN X0.here hx rfl (hb hby d_prog_103_method_2_code_7) rfl rfl ?_
    exact kk
  clear k39
  have st41 := fun tQ => own_A.len X0 hx hZ e0 A1 (g := (mkF m 8 #[vr a, vr b, vd s1, ss, vi (1 : Int32)] [(.ref a), (.int (1 : Int32))])) rfl rfl (hb hby d_prog_103_method_2_code_8) tQ
  have k42 : own_G p e below E0 s₁ (mkF m 9 #[vr a, vr b, vd s1, ss, vi (1 : Int32)] [(.int (2 : Int32)), (.int (1 : Int32))]) := fun tQ kk => k40 tQ (st41 _ kk)
  clear k40 st41
  have k43 : own_G p e below E0 s₁ (mkF m 16 #[vr a, vr b, vd s1, ss, vi (1 : Int32)] [(.int (1 : Int32)), (.ref a), (.double s1)]) := by
    intro tQ kk
    refine k42 tQ ?_
    refine XS.icmpNo X0.here hx rfl (hb hby d_prog_103_method_2_code_9) rfl (own_ic_geN (by decide)) ?_
    refine XS.dloadN X0.here hx rfl (hb hby d_prog_103_method_2_code_12) rfl ?_
    refine XS.aloadN X0.here hx rfl (hb hby d_prog_103_method_2_code_13) rfl rfl ?_
    refine XS.iload X0.here hx rfl (hb hby d_prog_103_method_2_code_14) rfl ?_
    exact kk
  clear k42
  have st44 := fun tQ => own_A.dld X0 hx hZ e0 A1 (j := (1 : Int32)) (v := (.double x1)) (by decide) rfl (g := (mkF m 16 #[vr a, vr b, vd s1, ss, vi (1 : Int32)] [(.int (1 : Int32)), (.ref a), (.double s1)])) rfl rfl (hb hby d_prog_103_method_2_code_16) tQ
  have k45 : own_G p e below E0 s₁ (mkF m 17 #[vr a, vr b, vd s1, ss, vi (1 : Int32)] [(.double x1), (.double s1)]) := fun tQ kk => k43 tQ (st44 _ kk)
  clear k43 st44
  have k46 : own_G p e below E0 s₁ (mkF m 20 #[vr a, vr b, vd s1, ss, vi (1 : Int32)] [(.int (1 : Int32)), (.ref b), (.double x1), (.double s1)]) := by
    intro tQ kk
    refine k45 tQ ?_
    refine XS.aloadN X0.here hx rfl (hb hby d_prog_103_method_2_code_17) rfl rfl ?_
    refine XS.iload X0.here hx rfl (hb hby d_prog_103_method_2_code_18) rfl ?_
    exact kk
  clear k45
  have st47 := fun tQ => own_A.dld X0 hx hZ e0 A2 (j := (1 : Int32)) (v := (.double y1)) (by decide) rfl (g := (mkF m 20 #[vr a, vr b, vd s1, ss, vi (1 : Int32)] [(.int (1 : Int32)), (.ref b), (.double x1), (.double s1)])) rfl rfl (hb hby d_prog_103_method_2_code_20) tQ
  have k48 : own_G p e below E0 s₁ (mkF m 21 #[vr a, vr b, vd s1, ss, vi (1 : Int32)] [(.double y1), (.double x1), (.double s1)]) := fun tQ kk => k46 tQ (st47 _ kk)
  clear k46 st47
  obtain ⟨m1, hm1⟩ : ∃ vA, FP.dmul x1 y1 = vA := ⟨_, rfl⟩
  have DM1 : FP.Core.DInt (i1 * j1) m1 := hm1 ▸ FP.Core.dmul_int Dx1 Dy1 (own_m3 bi1 bj1)
  have q1 := own_p6 bi1 bj1
  have k49 : own_G p e below E0 s₁ (mkF m 22 #[vr a, vr b, vd s1, ss, vi (1 : Int32)] [(.double m1), (.double s1)]) := by
    intro tQ kk
    refine k48 tQ ?_
    refine XS.dmulS X0.here hx rfl (hb hby d_prog_103_method_2_code_21) rfl (own_nn (FP.Core.dmul_int Dx1 Dy1 (own_m3 bi1 bj1))) hm1 ?_
    exact kk
  clear k48
  obtain ⟨s2, hs2⟩ : ∃ vA, FP.dadd s1 m1 = vA := ⟨_, rfl⟩
  have DS2 : FP.Core.DInt (0 + i0 * j0 + i1 * j1) s2 := hs2 ▸ FP.Core.dadd_int DS1 DM1 (own_s6 (by omega) (by omega))
  have k50 : own_G p e below E0 s₁ (mkF m 8 #[vr a, vr b, vd s2, ss, vi (2 : Int32)] [(.ref a), (.int (2 : Int32))]) := by
    intro tQ kk
    refine k49 tQ ?_
    refine XS.daddS X0.here hx rfl (hb hby d_prog_103_method_2_code_22) rfl (own_nn (FP.Core.dadd_int DS1 DM1 (own_s6 (by omega) (by omega)))) hs2 ?_
    refine XS.dstoreN X0.here hx rfl (hb hby d_prog_103_method_2_code_23) rfl (l' := #[vr a, vr b, vd s2, ss, vi (1 : Int32)]) rfl ?_
    refine XS.iinc X0.here hx rfl (hb hby d_prog_103_method_2_code_24) rfl (l' := #[vr a, vr b, vd s2, ss, vi (2 : Int32)]) rfl ?_
    refine XS.goto X0.here hx rfl (pc0 := 27) (pc' := 5) rfl (hb hby d_prog_103_method_2_code_27) (by decide) (by decide) ?_
    show Steps p.tables e below (s₁.setTop (mkF m 5 #[vr a, vr b, vd s2, ss, vi (2 : Int32)] [])) tQ
    refine XS.iload X0.here hx rfl (hb hby d_prog_103_method_2_code_5) rfl ?_
    refine XS.aloadN X0.here hx rfl (hb hby d_prog_103_method_2_code_7) rfl rfl ?_
    exact kk
  clear k49
  have st51 := fun tQ => own_A.len X0 hx hZ e0 A1 (g := (mkF m 8 #[vr a, vr b, vd s2, ss, vi (2 : Int32)] [(.ref a), (.int (2 : Int32))])) rfl rfl (hb hby d_prog_103_method_2_code_8) tQ
  have k52 : own_G p e below E0 s₁ (mkF m 9 #[vr a, vr b, vd s2, ss, vi (2 : Int32)] [(.int (2 : Int32)), (.int (2 : Int32))]) := fun tQ kk => k50 tQ (st51 _ kk)
  clear k50 st51
  have k53 : own_G p e below E0 s₁ (mkF m 31 #[vr a, vr b, vd s2, ss, vi (2 : Int32)] [(.double s2)]) := by
    intro tQ kk
    refine k52 tQ ?_
    refine XS.icmpYes X0.here hx rfl (pc0 := 9) (pc' := 30) rfl (hb hby d_prog_103_method_2_code_9) rfl (own_ic_geY (by decide)) (by decide) (by decide) ?_
    refine XS.dloadN X0.here hx rfl (hb hby d_prog_103_method_2_code_30) rfl ?_
    exact kk
  clear k52
  obtain ⟨fs, hr, hrun, hended, hW, hsame⟩ := X0.leave (v := some (.double s2)) (fun h => by rw [Bd.returns] at h; cases h)
  have hrun0 := k53 _ (retOut X0 hx Bd.returns (t := .double) rfl (Or.inr (Or.inr (Or.inl ⟨rfl, rfl, _, rfl⟩))) (hb hby d_prog_103_method_2_code_31) hr)
  subst hE0
  refine ⟨_, _, hrun0, hrun, hended, _, _, rfl, ?_, ⟨_, rfl⟩, hW, hsame.mono (by decide) (by decide)⟩
  show QrmV2 Z a b x0 x1 y0 y1 i0 i1 j0 j1 h0 n0 _ s₁.heap _
  rw [e0]
  exact ⟨s2, rfl, N0, rfl, DS2⟩
def QrmV3 (Z : State) (a : Addr) (b : Addr) (x0 : UInt64) (x1 : UInt64) (x2 : UInt64) (y0 : UInt64) (y1 : UInt64) (y2 : UInt64) (i0 : Int) (i1 : Int) (i2 : Int) (j0 : Int) (j1 : Int) (j2 : Int) (h0 : Heap) (n0 : Nat) (vQ : Option Value) (hQ : Heap) (LQ : List Loc) : Prop := ∃ (r : UInt64), vQ = some (.double r) ∧ Fr n0 LQ ∧ hQ = h0 ∧ (FP.Core.DInt (0 + i0 * j0 + i1 * j1 + i2 * j2) r)
theorem ef_rmV3 (m : MethodId) (a : Addr) (b : Addr) (x0 : UInt64) (x1 : UInt64) (x2 : UInt64) (y0 : UInt64) (y1 : UInt64) (y2 : UInt64) (i0 : Int) (i1 : Int) (i2 : Int) (j0 : Int) (j1 : Int) (j2 : Int) : entryFrame m #[(.ref a), (.ref b)] 5 = mkF m 0 #[vr a, vr b, uu, uu, uu] [] := by first | (simp [entryFrame, mkF, argsToLocals, Value.category]; done) | rfl
set_option maxRecDepth 65536 in
set_option maxHeartbeats 40000000 in
theorem rmV3 (l : Launch) (Z : State) (a0 : Array Value) (hw : ∀ d ∈ tables_1, d.before a0 Z = true) (ws : List Jvm.Cond) (a : Addr) (b : Addr) (x0 : UInt64) (x1 : UInt64) (x2 : UInt64) (y0 : UInt64) (y1 : UInt64) (y2 : UInt64) (i0 : Int) (i1 : Int) (i2 : Int) (j0 : Int) (j1 : Int) (j2 : Int) (h0 : Heap) (n0 : Nat) (Z0 : n0 ≤ h0.size) (A1 : own_A Z h0 a .double [(.double x0), (.double x1), (.double x2)]) (A2 : own_A Z h0 b .double [(.double y0), (.double y1), (.double y2)]) (Dx0 : FP.Core.DInt i0 x0) (Dy0 : FP.Core.DInt j0 y0) (bi0 : -1000 ≤ i0 ∧ i0 ≤ 1000) (bj0 : -1000 ≤ j0 ∧ j0 ≤ 1000) (Dx1 : FP.Core.DInt i1 x1) (Dy1 : FP.Core.DInt j1 y1) (bi1 : -1000 ≤ i1 ∧ i1 ≤ 1000) (bj1 : -1000 ≤ j1 ∧ j1 ≤ 1000) (Dx2 : FP.Core.DInt i2 x2) (Dy2 : FP.Core.DInt j2 y2) (bi2 : -1000 ≤ i2 ∧ i2 ≤ 1000) (bj2 : -1000 ≤ j2 ∧ j2 ≤ 1000) :
    MetFree l mn2 (head1 (Jvm.Cond.code mn2 prog_103_method_2_code 5 (some .double) :: ws) ({ frames := 0, cells := 0, slots := 0, locals := 0 } : Room)) (fun aA U => aA = #[(.ref a), (.ref b)] ∧ Z.Warmed39 U.vm ∧ U.heap = h0) (fun _ _ _ _ _ => True) (fun _ U o U' => ∃ vR LR, o = .returned vR ∧ QrmV3 Z a b x0 x1 x2 y0 y1 y2 i0 i1 i2 j0 j1 j2 h0 n0 vR U'.heap LR ∧ FrameEnd U o U' LR ({ frames := 0, cells := 0, slots := 0, locals := 0 } : Room).cells ({ frames := 0, cells := 0, slots := 0, locals := 0 } : Room).slots) := by
  refine MetFree.of_bodySF (plainFor_of_name pn_com_example_velvet_postings_velvetpostings_search_Vectors) hisR ?_
  intro p e s m args below meth c s₁ Bd hml0 hPre hKk
  obtain ⟨rfl, hZ, hh⟩ := hPre
  have hx := Bd.exec
  have hby := Bd.bytes
  have hml : c.maxLocals = 5 := hml0
  have hown : s.vm.findClass "com/example/velvet_postings/velvetpostings/search/Vectors" = some m.cls := findClass_of_methodNamed Bd.named
  have hnm := (name_of_methodNamed Bd.named Bd.method).1
  have X0 : Stand p l e ({ frames := 0, cells := 0, slots := 0, locals := 0 } : Room) s m #[(.ref a), (.ref b)] below meth c s₁ [] 0 0 := Stand.of_body Bd
  have e0 : s₁.heap = h0 := by rw [← hh, Bd.state]; rfl
  have N0 := Fr.nil n0
  obtain ⟨E0, hE0⟩ : ∃ zE : State, zE = s₁.setTop (entryFrame m #[(.ref a), (.ref b)] 5) := ⟨_, rfl⟩
  have k0 : own_G p e below E0 s₁ (mkF m 0 #[vr a, vr b, uu, uu, uu] []) := fun tz kz => hE0 ▸ castTop (ef_rmV3 m a b x0 x1 x2 y0 y1 y2 i0 i1 i2 j0 j1 j2) kz
  have DS0 : FP.Core.DInt 0 FP.dconst0 := own_d0
  have k54 : own_G p e below E0 s₁ (mkF m 8 #[vr a, vr b, vd FP.dconst0, ss, vi (0 : Int32)] [(.ref a), (.int (0 : Int32))]) := by
    intro tQ kk
    refine k0 tQ ?_
    refine XS.dconst0 X0.here hx rfl (hb hby d_prog_103_method_2_code_0) rfl ?_
    refine XS.dstoreN X0.here hx rfl (hb hby d_prog_103_method_2_code_1) rfl (l' := #[vr a, vr b, vd FP.dconst0, ss, uu]) rfl ?_
    refine XS.iconst X0.here hx rfl (hb hby d_prog_103_method_2_code_2) ?_
    refine XS.istore X0.here hx rfl (hb hby d_prog_103_method_2_code_3) rfl (l' := #[vr a, vr b, vd FP.dconst0, ss, vi (0 : Int32)]) rfl ?_
    show Steps p.tables e below (s₁.setTop (mkF m 5 #[vr a, vr b, vd FP.dconst0, ss, vi (0 : Int32)] [])) tQ
    refine XS.iload X0.here hx rfl (hb hby d_prog_103_method_2_code_5) rfl ?_
    refine XS.aloadN X0.here hx rfl (hb hby d_prog_103_method_2_code_7) rfl rfl ?_
    exact kk
  clear k0
  have st55 := fun tQ => own_A.len X0 hx hZ e0 A1 (g := (mkF m 8 #[vr a, vr b, vd FP.dconst0, ss, vi (0 : Int32)] [(.ref a), (.int (0 : Int32))])) rfl rfl (hb hby d_prog_103_method_2_code_8) tQ
  have k56 : own_G p e below E0 s₁ (mkF m 9 #[vr a, vr b, vd FP.dconst0, ss, vi (0 : Int32)] [(.int (3 : Int32)), (.int (0 : Int32))]) := fun tQ kk => k54 tQ (st55 _ kk)
  clear k54 st55
  have k57 : own_G p e below E0 s₁ (mkF m 16 #[vr a, vr b, vd FP.dconst0, ss, vi (0 : Int32)] [(.int (0 : Int32)), (.ref a), (.double FP.dconst0)]) := by
    intro tQ kk
    refine k56 tQ ?_
    refine XS.icmpNo X0.here hx rfl (hb hby d_prog_103_method_2_code_9) rfl (own_ic_geN (by decide)) ?_
    refine XS.dloadN X0.here hx rfl (hb hby d_prog_103_method_2_code_12) rfl ?_
    refine XS.aloadN X0.here hx rfl (hb hby d_prog_103_method_2_code_13) rfl rfl ?_
    refine XS.iload X0.here hx rfl (hb hby d_prog_103_method_2_code_14) rfl ?_
    exact kk
  clear k56
  have st58 := fun tQ => own_A.dld X0 hx hZ e0 A1 (j := (0 : Int32)) (v := (.double x0)) (by decide) rfl (g := (mkF m 16 #[vr a, vr b, vd FP.dconst0, ss, vi (0 : Int32)] [(.int (0 : Int32)), (.ref a), (.double FP.dconst0)])) rfl rfl (hb hby d_prog_103_method_2_code_16) tQ
  have k59 : own_G p e below E0 s₁ (mkF m 17 #[vr a, vr b, vd FP.dconst0, ss, vi (0 : Int32)] [(.double x0), (.double FP.dconst0)]) := fun tQ kk => k57 tQ (st58 _ kk)
  clear k57 st58
  have k60 : own_G p e below E0 s₁ (mkF m 20 #[vr a, vr b, vd FP.dconst0, ss, vi (0 : Int32)] [(.int (0 : Int32)), (.ref b), (.double x0), (.double FP.dconst0)]) := by
    intro tQ kk
    refine k59 tQ ?_
    refine XS.aloadN X0.here hx rfl (hb hby d_prog_103_method_2_code_17) rfl rfl ?_
    refine XS.iload X0.here hx rfl (hb hby d_prog_103_method_2_code_18) rfl ?_
    exact kk
  clear k59
  have st61 := fun tQ => own_A.dld X0 hx hZ e0 A2 (j := (0 : Int32)) (v := (.double y0)) (by decide) rfl (g := (mkF m 20 #[vr a, vr b, vd FP.dconst0, ss, vi (0 : Int32)] [(.int (0 : Int32)), (.ref b), (.double x0), (.double FP.dconst0)])) rfl rfl (hb hby d_prog_103_method_2_code_20) tQ
  have k62 : own_G p e below E0 s₁ (mkF m 21 #[vr a, vr b, vd FP.dconst0, ss, vi (0 : Int32)] [(.double y0), (.double x0), (.double FP.dconst0)]) := fun tQ kk => k60 tQ (st61 _ kk)
  clear k60 st61
  obtain ⟨m0, hm0⟩ : ∃ vA, FP.dmul x0 y0 = vA := ⟨_, rfl⟩
  have DM0 : FP.Core.DInt (i0 * j0) m0 := hm0 ▸ FP.Core.dmul_int Dx0 Dy0 (own_m3 bi0 bj0)
  have q0 := own_p6 bi0 bj0
  have k63 : own_G p e below E0 s₁ (mkF m 22 #[vr a, vr b, vd FP.dconst0, ss, vi (0 : Int32)] [(.double m0), (.double FP.dconst0)]) := by
    intro tQ kk
    refine k62 tQ ?_
    refine XS.dmulS X0.here hx rfl (hb hby d_prog_103_method_2_code_21) rfl (own_nn (FP.Core.dmul_int Dx0 Dy0 (own_m3 bi0 bj0))) hm0 ?_
    exact kk
  clear k62
  obtain ⟨s1, hs1⟩ : ∃ vA, FP.dadd FP.dconst0 m0 = vA := ⟨_, rfl⟩
  have DS1 : FP.Core.DInt (0 + i0 * j0) s1 := hs1 ▸ FP.Core.dadd_int DS0 DM0 (own_s6 (by omega) (by omega))
  have k64 : own_G p e below E0 s₁ (mkF m 8 #[vr a, vr b, vd s1, ss, vi (1 : Int32)] [(.ref a), (.int (1 : Int32))]) := by
    intro tQ kk
    refine k63 tQ ?_
    refine XS.daddS X0.here hx rfl (hb hby d_prog_103_method_2_code_22) rfl (own_nn (FP.Core.dadd_int DS0 DM0 (own_s6 (by omega) (by omega)))) hs1 ?_
    refine XS.dstoreN X0.here hx rfl (hb hby d_prog_103_method_2_code_23) rfl (l' := #[vr a, vr b, vd s1, ss, vi (0 : Int32)]) rfl ?_
    refine XS.iinc X0.here hx rfl (hb hby d_prog_103_method_2_code_24) rfl (l' := #[vr a, vr b, vd s1, ss, vi (1 : Int32)]) rfl ?_
    refine XS.goto X0.here hx rfl (pc0 := 27) (pc' := 5) rfl (hb hby d_prog_103_method_2_code_27) (by decide) (by decide) ?_
    show Steps p.tables e below (s₁.setTop (mkF m 5 #[vr a, vr b, vd s1, ss, vi (1 : Int32)] [])) tQ
    refine XS.iload X0.here hx rfl (hb hby d_prog_103_method_2_code_5) rfl ?_
    refine XS.aloadN X0.here hx rfl (hb hby d_prog_103_method_2_code_7) rfl rfl ?_
    exact kk
  clear k63
  have st65 := fun tQ => own_A.len X0 hx hZ e0 A1 (g := (mkF m 8 #[vr a, vr b, vd s1, ss, vi (1 : Int32)] [(.ref a), (.int (1 : Int32))])) rfl rfl (hb hby d_prog_103_method_2_code_8) tQ
  have k66 : own_G p e below E0 s₁ (mkF m 9 #[vr a, vr b, vd s1, ss, vi (1 : Int32)] [(.int (3 : Int32)), (.int (1 : Int32))]) := fun tQ kk => k64 tQ (st65 _ kk)
  clear k64 st65
  have k67 : own_G p e below E0 s₁ (mkF m 16 #[vr a, vr b, vd s1, ss, vi (1 : Int32)] [(.int (1 : Int32)), (.ref a), (.double s1)]) := by
    intro tQ kk
    refine k66 tQ ?_
    refine XS.icmpNo X0.here hx rfl (hb hby d_prog_103_method_2_code_9) rfl (own_ic_geN (by decide)) ?_
    refine XS.dloadN X0.here hx rfl (hb hby d_prog_103_method_2_code_12) rfl ?_
    refine XS.aloadN X0.here hx rfl (hb hby d_prog_103_method_2_code_13) rfl rfl ?_
    refine XS.iload X0.here hx rfl (hb hby d_prog_103_method_2_code_14) rfl ?_
    exact kk
  clear k66
  have st68 := fun tQ => own_A.dld X0 hx hZ e0 A1 (j := (1 : Int32)) (v := (.double x1)) (by decide) rfl (g := (mkF m 16 #[vr a, vr b, vd s1, ss, vi (1 : Int32)] [(.int (1 : Int32)), (.ref a), (.double s1)])) rfl rfl (hb hby d_prog_103_method_2_code_16) tQ
  have k69 : own_G p e below E0 s₁ (mkF m 17 #[vr a, vr b, vd s1, ss, vi (1 : Int32)] [(.double x1), (.double s1)]) := fun tQ kk => k67 tQ (st68 _ kk)
  clear k67 st68
  have k70 : own_G p e below E0 s₁ (mkF m 20 #[vr a, vr b, vd s1, ss, vi (1 : Int32)] [(.int (1 : Int32)), (.ref b), (.double x1), (.double s1)]) := by
    intro tQ kk
    refine k69 tQ ?_
    refine XS.aloadN X0.here hx rfl (hb hby d_prog_103_method_2_code_17) rfl rfl ?_
    refine XS.iload X0.here hx rfl (hb hby d_prog_103_method_2_code_18) rfl ?_
    exact kk
  clear k69
  have st71 := fun tQ => own_A.dld X0 hx hZ e0 A2 (j := (1 : Int32)) (v := (.double y1)) (by decide) rfl (g := (mkF m 20 #[vr a, vr b, vd s1, ss, vi (1 : Int32)] [(.int (1 : Int32)), (.ref b), (.double x1), (.double s1)])) rfl rfl (hb hby d_prog_103_method_2_code_20) tQ
  have k72 : own_G p e below E0 s₁ (mkF m 21 #[vr a, vr b, vd s1, ss, vi (1 : Int32)] [(.double y1), (.double x1), (.double s1)]) := fun tQ kk => k70 tQ (st71 _ kk)
  clear k70 st71
  obtain ⟨m1, hm1⟩ : ∃ vA, FP.dmul x1 y1 = vA := ⟨_, rfl⟩
  have DM1 : FP.Core.DInt (i1 * j1) m1 := hm1 ▸ FP.Core.dmul_int Dx1 Dy1 (own_m3 bi1 bj1)
  have q1 := own_p6 bi1 bj1
  have k73 : own_G p e below E0 s₁ (mkF m 22 #[vr a, vr b, vd s1, ss, vi (1 : Int32)] [(.double m1), (.double s1)]) := by
    intro tQ kk
    refine k72 tQ ?_
    refine XS.dmulS X0.here hx rfl (hb hby d_prog_103_method_2_code_21) rfl (own_nn (FP.Core.dmul_int Dx1 Dy1 (own_m3 bi1 bj1))) hm1 ?_
    exact kk
  clear k72
  obtain ⟨s2, hs2⟩ : ∃ vA, FP.dadd s1 m1 = vA := ⟨_, rfl⟩
  have DS2 : FP.Core.DInt (0 + i0 * j0 + i1 * j1) s2 := hs2 ▸ FP.Core.dadd_int DS1 DM1 (own_s6 (by omega) (by omega))
  have k74 : own_G p e below E0 s₁ (mkF m 8 #[vr a, vr b, vd s2, ss, vi (2 : Int32)] [(.ref a), (.int (2 : Int32))]) := by
    intro tQ kk
    refine k73 tQ ?_
    refine XS.daddS X0.here hx rfl (hb hby d_prog_103_method_2_code_22) rfl (own_nn (FP.Core.dadd_int DS1 DM1 (own_s6 (by omega) (by omega)))) hs2 ?_
    refine XS.dstoreN X0.here hx rfl (hb hby d_prog_103_method_2_code_23) rfl (l' := #[vr a, vr b, vd s2, ss, vi (1 : Int32)]) rfl ?_
    refine XS.iinc X0.here hx rfl (hb hby d_prog_103_method_2_code_24) rfl (l' := #[vr a, vr b, vd s2, ss, vi (2 : Int32)]) rfl ?_
    refine XS.goto X0.here hx rfl (pc0 := 27) (pc' := 5) rfl (hb hby d_prog_103_method_2_code_27) (by decide) (by decide) ?_
    show Steps p.tables e below (s₁.setTop (mkF m 5 #[vr a, vr b, vd s2, ss, vi (2 : Int32)] [])) tQ
    refine XS.iload X0.here hx rfl (hb hby d_prog_103_method_2_code_5) rfl ?_
    refine XS.aloadN X0.here hx rfl (hb hby d_prog_103_method_2_code_7) rfl rfl ?_
    exact kk
  clear k73
  have st75 := fun tQ => own_A.len X0 hx hZ e0 A1 (g := (mkF m 8 #[vr a, vr b, vd s2, ss, vi (2 : Int32)] [(.ref a), (.int (2 : Int32))])) rfl rfl (hb hby d_prog_103_method_2_code_8) tQ
  have k76 : own_G p e below E0 s₁ (mkF m 9 #[vr a, vr b, vd s2, ss, vi (2 : Int32)] [(.int (3 : Int32)), (.int (2 : Int32))]) := fun tQ kk => k74 tQ (st75 _ kk)
  clear k74 st75
  have k77 : own_G p e below E0 s₁ (mkF m 16 #[vr a, vr b, vd s2, ss, vi (2 : Int32)] [(.int (2 : Int32)), (.ref a), (.double s2)]) := by
    intro tQ kk
    refine k76 tQ ?_
    refine XS.icmpNo X0.here hx rfl (hb hby d_prog_103_method_2_code_9) rfl (own_ic_geN (by decide)) ?_
    refine XS.dloadN X0.here hx rfl (hb hby d_prog_103_method_2_code_12) rfl ?_
    refine XS.aloadN X0.here hx rfl (hb hby d_prog_103_method_2_code_13) rfl rfl ?_
    refine XS.iload X0.here hx rfl (hb hby d_prog_103_method_2_code_14) rfl ?_
    exact kk
  clear k76
  have st78 := fun tQ => own_A.dld X0 hx hZ e0 A1 (j := (2 : Int32)) (v := (.double x2)) (by decide) rfl (g := (mkF m 16 #[vr a, vr b, vd s2, ss, vi (2 : Int32)] [(.int (2 : Int32)), (.ref a), (.double s2)])) rfl rfl (hb hby d_prog_103_method_2_code_16) tQ
  have k79 : own_G p e below E0 s₁ (mkF m 17 #[vr a, vr b, vd s2, ss, vi (2 : Int32)] [(.double x2), (.double s2)]) := fun tQ kk => k77 tQ (st78 _ kk)
  clear k77 st78
  have k80 : own_G p e below E0 s₁ (mkF m 20 #[vr a, vr b, vd s2, ss, vi (2 : Int32)] [(.int (2 : Int32)), (.ref b), (.double x2), (.double s2)]) := by
    intro tQ kk
    refine k79 tQ ?_
    refine XS.aloadN X0.here hx rfl (hb hby d_prog_103_method_2_code_17) rfl rfl ?_
    refine XS.iload X0.here hx rfl (hb hby d_prog_103_method_2_code_18) rfl ?_
    exact kk
  clear k79
  have st81 := fun tQ => own_A.dld X0 hx hZ e0 A2 (j := (2 : Int32)) (v := (.double y2)) (by decide) rfl (g := (mkF m 20 #[vr a, vr b, vd s2, ss, vi (2 : Int32)] [(.int (2 : Int32)), (.ref b), (.double x2), (.double s2)])) rfl rfl (hb hby d_prog_103_method_2_code_20) tQ
  have k82 : own_G p e below E0 s₁ (mkF m 21 #[vr a, vr b, vd s2, ss, vi (2 : Int32)] [(.double y2), (.double x2), (.double s2)]) := fun tQ kk => k80 tQ (st81 _ kk)
  clear k80 st81
  obtain ⟨m2, hm2⟩ : ∃ vA, FP.dmul x2 y2 = vA := ⟨_, rfl⟩
  have DM2 : FP.Core.DInt (i2 * j2) m2 := hm2 ▸ FP.Core.dmul_int Dx2 Dy2 (own_m3 bi2 bj2)
  have q2 := own_p6 bi2 bj2
  have k83 : own_G p e below E0 s₁ (mkF m 22 #[vr a, vr b, vd s2, ss, vi (2 : Int32)] [(.double m2), (.double s2)]) := by
    intro tQ kk
    refine k82 tQ ?_
    refine XS.dmulS X0.here hx rfl (hb hby d_prog_103_method_2_code_21) rfl (own_nn (FP.Core.dmul_int Dx2 Dy2 (own_m3 bi2 bj2))) hm2 ?_
    exact kk
  clear k82
  obtain ⟨s3, hs3⟩ : ∃ vA, FP.dadd s2 m2 = vA := ⟨_, rfl⟩
  have DS3 : FP.Core.DInt (0 + i0 * j0 + i1 * j1 + i2 * j2) s3 := hs3 ▸ FP.Core.dadd_int DS2 DM2 (own_s6 (by omega) (by omega))
  have k84 : own_G p e below E0 s₁ (mkF m 8 #[vr a, vr b, vd s3, ss, vi (3 : Int32)] [(.ref a), (.int (3 : Int32))]) := by
    intro tQ kk
    refine k83 tQ ?_
    refine XS.daddS X0.here hx rfl (hb hby d_prog_103_method_2_code_22) rfl (own_nn (FP.Core.dadd_int DS2 DM2 (own_s6 (by omega) (by omega)))) hs3 ?_
    refine XS.dstoreN X0.here hx rfl (hb hby d_prog_103_method_2_code_23) rfl (l' := #[vr a, vr b, vd s3, ss, vi (2 : Int32)]) rfl ?_
    refine XS.iinc X0.here hx rfl (hb hby d_prog_103_method_2_code_24) rfl (l' := #[vr a, vr b, vd s3, ss, vi (3 : Int32)]) rfl ?_
    refine XS.goto X0.here hx rfl (pc0 := 27) (pc' := 5) rfl (hb hby d_prog_103_method_2_code_27) (by decide) (by decide) ?_
    show Steps p.tables e below (s₁.setTop (mkF m 5 #[vr a, vr b, vd s3, ss, vi (3 : Int32)] [])) tQ
    refine XS.iload X0.here hx rfl (hb hby d_prog_103_method_2_code_5) rfl ?_
    refine XS.aloadN X0.here hx rfl (hb hby d_prog_103_method_2_code_7) rfl rfl ?_
    exact kk
  clear k83
  have st85 := fun tQ => own_A.len X0 hx hZ e0 A1 (g := (mkF m 8 #[vr a, vr b, vd s3, ss, vi (3 : Int32)] [(.ref a), (.int (3 : Int32))])) rfl rfl (hb hby d_prog_103_method_2_code_8) tQ
  have k86 : own_G p e below E0 s₁ (mkF m 9 #[vr a, vr b, vd s3, ss, vi (3 : Int32)] [(.int (3 : Int32)), (.int (3 : Int32))]) := fun tQ kk => k84 tQ (st85 _ kk)
  clear k84 st85
  have k87 : own_G p e below E0 s₁ (mkF m 31 #[vr a, vr b, vd s3, ss, vi (3 : Int32)] [(.double s3)]) := by
    intro tQ kk
    refine k86 tQ ?_
    refine XS.icmpYes X0.here hx rfl (pc0 := 9) (pc' := 30) rfl (hb hby d_prog_103_method_2_code_9) rfl (own_ic_geY (by decide)) (by decide) (by decide) ?_
    refine XS.dloadN X0.here hx rfl (hb hby d_prog_103_method_2_code_30) rfl ?_
    exact kk
  clear k86
  obtain ⟨fs, hr, hrun, hended, hW, hsame⟩ := X0.leave (v := some (.double s3)) (fun h => by rw [Bd.returns] at h; cases h)
  have hrun0 := k87 _ (retOut X0 hx Bd.returns (t := .double) rfl (Or.inr (Or.inr (Or.inl ⟨rfl, rfl, _, rfl⟩))) (hb hby d_prog_103_method_2_code_31) hr)
  subst hE0
  refine ⟨_, _, hrun0, hrun, hended, _, _, rfl, ?_, ⟨_, rfl⟩, hW, hsame.mono (by decide) (by decide)⟩
  show QrmV3 Z a b x0 x1 x2 y0 y1 y2 i0 i1 i2 j0 j1 j2 h0 n0 _ s₁.heap _
  rw [e0]
  exact ⟨s3, rfl, N0, rfl, DS3⟩
def QrmV4 (Z : State) (a : Addr) (b : Addr) (x0 : UInt64) (x1 : UInt64) (x2 : UInt64) (x3 : UInt64) (y0 : UInt64) (y1 : UInt64) (y2 : UInt64) (y3 : UInt64) (i0 : Int) (i1 : Int) (i2 : Int) (i3 : Int) (j0 : Int) (j1 : Int) (j2 : Int) (j3 : Int) (h0 : Heap) (n0 : Nat) (vQ : Option Value) (hQ : Heap) (LQ : List Loc) : Prop := ∃ (r : UInt64), vQ = some (.double r) ∧ Fr n0 LQ ∧ hQ = h0 ∧ (FP.Core.DInt (0 + i0 * j0 + i1 * j1 + i2 * j2 + i3 * j3) r)
theorem ef_rmV4 (m : MethodId) (a : Addr) (b : Addr) (x0 : UInt64) (x1 : UInt64) (x2 : UInt64) (x3 : UInt64) (y0 : UInt64) (y1 : UInt64) (y2 : UInt64) (y3 : UInt64) (i0 : Int) (i1 : Int) (i2 : Int) (i3 : Int) (j0 : Int) (j1 : Int) (j2 : Int) (j3 : Int) : entryFrame m #[(.ref a), (.ref b)] 5 = mkF m 0 #[vr a, vr b, uu, uu, uu] [] := by first | (simp [entryFrame, mkF, argsToLocals, Value.category]; done) | rfl
set_option maxRecDepth 65536 in
set_option maxHeartbeats 40000000 in
theorem rmV4 (l : Launch) (Z : State) (a0 : Array Value) (hw : ∀ d ∈ tables_1, d.before a0 Z = true) (ws : List Jvm.Cond) (a : Addr) (b : Addr) (x0 : UInt64) (x1 : UInt64) (x2 : UInt64) (x3 : UInt64) (y0 : UInt64) (y1 : UInt64) (y2 : UInt64) (y3 : UInt64) (i0 : Int) (i1 : Int) (i2 : Int) (i3 : Int) (j0 : Int) (j1 : Int) (j2 : Int) (j3 : Int) (h0 : Heap) (n0 : Nat) (Z0 : n0 ≤ h0.size) (A1 : own_A Z h0 a .double [(.double x0), (.double x1), (.double x2), (.double x3)]) (A2 : own_A Z h0 b .double [(.double y0), (.double y1), (.double y2), (.double y3)]) (Dx0 : FP.Core.DInt i0 x0) (Dy0 : FP.Core.DInt j0 y0) (bi0 : -1000 ≤ i0 ∧ i0 ≤ 1000) (bj0 : -1000 ≤ j0 ∧ j0 ≤ 1000) (Dx1 : FP.Core.DInt i1 x1) (Dy1 : FP.Core.DInt j1 y1) (bi1 : -1000 ≤ i1 ∧ i1 ≤ 1000) (bj1 : -1000 ≤ j1 ∧ j1 ≤ 1000) (Dx2 : FP.Core.DInt i2 x2) (Dy2 : FP.Core.DInt j2 y2) (bi2 : -1000 ≤ i2 ∧ i2 ≤ 1000) (bj2 : -1000 ≤ j2 ∧ j2 ≤ 1000) (Dx3 : FP.Core.DInt i3 x3) (Dy3 : FP.Core.DInt j3 y3) (bi3 : -1000 ≤ i3 ∧ i3 ≤ 1000) (bj3 : -1000 ≤ j3 ∧ j3 ≤ 1000) :
    MetFree l mn2 (head1 (Jvm.Cond.code mn2 prog_103_method_2_code 5 (some .double) :: ws) ({ frames := 0, cells := 0, slots := 0, locals := 0 } : Room)) (fun aA U => aA = #[(.ref a), (.ref b)] ∧ Z.Warmed39 U.vm ∧ U.heap = h0) (fun _ _ _ _ _ => True) (fun _ U o U' => ∃ vR LR, o = .returned vR ∧ QrmV4 Z a b x0 x1 x2 x3 y0 y1 y2 y3 i0 i1 i2 i3 j0 j1 j2 j3 h0 n0 vR U'.heap LR ∧ FrameEnd U o U' LR ({ frames := 0, cells := 0, slots := 0, locals := 0 } : Room).cells ({ frames := 0, cells := 0, slots := 0, locals := 0 } : Room).slots) := by
  refine MetFree.of_bodySF (plainFor_of_name pn_com_example_velvet_postings_velvetpostings_search_Vectors) hisR ?_
  intro p e s m args below meth c s₁ Bd hml0 hPre hKk
  obtain ⟨rfl, hZ, hh⟩ := hPre
  have hx := Bd.exec
  have hby := Bd.bytes
  have hml : c.maxLocals = 5 := hml0
  have hown : s.vm.findClass "com/example/velvet_postings/velvetpostings/search/Vectors" = some m.cls := findClass_of_methodNamed Bd.named
  have hnm := (name_of_methodNamed Bd.named Bd.method).1
  have X0 : Stand p l e ({ frames := 0, cells := 0, slots := 0, locals := 0 } : Room) s m #[(.ref a), (.ref b)] below meth c s₁ [] 0 0 := Stand.of_body Bd
  have e0 : s₁.heap = h0 := by rw [← hh, Bd.state]; rfl
  have N0 := Fr.nil n0
  obtain ⟨E0, hE0⟩ : ∃ zE : State, zE = s₁.setTop (entryFrame m #[(.ref a), (.ref b)] 5) := ⟨_, rfl⟩
  have k0 : own_G p e below E0 s₁ (mkF m 0 #[vr a, vr b, uu, uu, uu] []) := fun tz kz => hE0 ▸ castTop (ef_rmV4 m a b x0 x1 x2 x3 y0 y1 y2 y3 i0 i1 i2 i3 j0 j1 j2 j3) kz
  have DS0 : FP.Core.DInt 0 FP.dconst0 := own_d0
  have k88 : own_G p e below E0 s₁ (mkF m 8 #[vr a, vr b, vd FP.dconst0, ss, vi (0 : Int32)] [(.ref a), (.int (0 : Int32))]) := by
    intro tQ kk
    refine k0 tQ ?_
    refine XS.dconst0 X0.here hx rfl (hb hby d_prog_103_method_2_code_0) rfl ?_
    refine XS.dstoreN X0.here hx rfl (hb hby d_prog_103_method_2_code_1) rfl (l' := #[vr a, vr b, vd FP.dconst0, ss, uu]) rfl ?_
    refine XS.iconst X0.here hx rfl (hb hby d_prog_103_method_2_code_2) ?_
    refine XS.istore X0.here hx rfl (hb hby d_prog_103_method_2_code_3) rfl (l' := #[vr a, vr b, vd FP.dconst0, ss, vi (0 : Int32)]) rfl ?_
    show Steps p.tables e below (s₁.setTop (mkF m 5 #[vr a, vr b, vd FP.dconst0, ss, vi (0 : Int32)] [])) tQ
    refine XS.iload X0.here hx rfl (hb hby d_prog_103_method_2_code_5) rfl ?_
    refine XS.aloadN X0.here hx rfl (hb hby d_prog_103_method_2_code_7) rfl rfl ?_
    exact kk
  clear k0
  have st89 := fun tQ => own_A.len X0 hx hZ e0 A1 (g := (mkF m 8 #[vr a, vr b, vd FP.dconst0, ss, vi (0 : Int32)] [(.ref a), (.int (0 : Int32))])) rfl rfl (hb hby d_prog_103_method_2_code_8) tQ
  have k90 : own_G p e below E0 s₁ (mkF m 9 #[vr a, vr b, vd FP.dconst0, ss, vi (0 : Int32)] [(.int (4 : Int32)), (.int (0 : Int32))]) := fun tQ kk => k88 tQ (st89 _ kk)
  clear k88 st89
  have k91 : own_G p e below E0 s₁ (mkF m 16 #[vr a, vr b, vd FP.dconst0, ss, vi (0 : Int32)] [(.int (0 : Int32)), (.ref a), (.double FP.dconst0)]) := by
    intro tQ kk
    refine k90 tQ ?_
    refine XS.icmpNo X0.here hx rfl (hb hby d_prog_103_method_2_code_9) rfl (own_ic_geN (by decide)) ?_
    refine XS.dloadN X0.here hx rfl (hb hby d_prog_103_method_2_code_12) rfl ?_
    refine XS.aloadN X0.here hx rfl (hb hby d_prog_103_method_2_code_13) rfl rfl ?_
    refine XS.iload X0.here hx rfl (hb hby d_prog_103_method_2_code_14) rfl ?_
    exact kk
  clear k90
  have st92 := fun tQ => own_A.dld X0 hx hZ e0 A1 (j := (0 : Int32)) (v := (.double x0)) (by decide) rfl (g := (mkF m 16 #[vr a, vr b, vd FP.dconst0, ss, vi (0 : Int32)] [(.int (0 : Int32)), (.ref a), (.double FP.dconst0)])) rfl rfl (hb hby d_prog_103_method_2_code_16) tQ
  have k93 : own_G p e below E0 s₁ (mkF m 17 #[vr a, vr b, vd FP.dconst0, ss, vi (0 : Int32)] [(.double x0), (.double FP.dconst0)]) := fun tQ kk => k91 tQ (st92 _ kk)
  clear k91 st92
  have k94 : own_G p e below E0 s₁ (mkF m 20 #[vr a, vr b, vd FP.dconst0, ss, vi (0 : Int32)] [(.int (0 : Int32)), (.ref b), (.double x0), (.double FP.dconst0)]) := by
    intro tQ kk
    refine k93 tQ ?_
    refine XS.aloadN X0.here hx rfl (hb hby d_prog_103_method_2_code_17) rfl rfl ?_
    refine XS.iload X0.here hx rfl (hb hby d_prog_103_method_2_code_18) rfl ?_
    exact kk
  clear k93
  have st95 := fun tQ => own_A.dld X0 hx hZ e0 A2 (j := (0 : Int32)) (v := (.double y0)) (by decide) rfl (g := (mkF m 20 #[vr a, vr b, vd FP.dconst0, ss, vi (0 : Int32)] [(.int (0 : Int32)), (.ref b), (.double x0), (.double FP.dconst0)])) rfl rfl (hb hby d_prog_103_method_2_code_20) tQ
  have k96 : own_G p e below E0 s₁ (mkF m 21 #[vr a, vr b, vd FP.dconst0, ss, vi (0 : Int32)] [(.double y0), (.double x0), (.double FP.dconst0)]) := fun tQ kk => k94 tQ (st95 _ kk)
  clear k94 st95
  obtain ⟨m0, hm0⟩ : ∃ vA, FP.dmul x0 y0 = vA := ⟨_, rfl⟩
  have DM0 : FP.Core.DInt (i0 * j0) m0 := hm0 ▸ FP.Core.dmul_int Dx0 Dy0 (own_m3 bi0 bj0)
  have q0 := own_p6 bi0 bj0
  have k97 : own_G p e below E0 s₁ (mkF m 22 #[vr a, vr b, vd FP.dconst0, ss, vi (0 : Int32)] [(.double m0), (.double FP.dconst0)]) := by
    intro tQ kk
    refine k96 tQ ?_
    refine XS.dmulS X0.here hx rfl (hb hby d_prog_103_method_2_code_21) rfl (own_nn (FP.Core.dmul_int Dx0 Dy0 (own_m3 bi0 bj0))) hm0 ?_
    exact kk
  clear k96
  obtain ⟨s1, hs1⟩ : ∃ vA, FP.dadd FP.dconst0 m0 = vA := ⟨_, rfl⟩
  have DS1 : FP.Core.DInt (0 + i0 * j0) s1 := hs1 ▸ FP.Core.dadd_int DS0 DM0 (own_s6 (by omega) (by omega))
  have k98 : own_G p e below E0 s₁ (mkF m 8 #[vr a, vr b, vd s1, ss, vi (1 : Int32)] [(.ref a), (.int (1 : Int32))]) := by
    intro tQ kk
    refine k97 tQ ?_
    refine XS.daddS X0.here hx rfl (hb hby d_prog_103_method_2_code_22) rfl (own_nn (FP.Core.dadd_int DS0 DM0 (own_s6 (by omega) (by omega)))) hs1 ?_
    refine XS.dstoreN X0.here hx rfl (hb hby d_prog_103_method_2_code_23) rfl (l' := #[vr a, vr b, vd s1, ss, vi (0 : Int32)]) rfl ?_
    refine XS.iinc X0.here hx rfl (hb hby d_prog_103_method_2_code_24) rfl (l' := #[vr a, vr b, vd s1, ss, vi (1 : Int32)]) rfl ?_
    refine XS.goto X0.here hx rfl (pc0 := 27) (pc' := 5) rfl (hb hby d_prog_103_method_2_code_27) (by decide) (by decide) ?_
    show Steps p.tables e below (s₁.setTop (mkF m 5 #[vr a, vr b, vd s1, ss, vi (1 : Int32)] [])) tQ
    refine XS.iload X0.here hx rfl (hb hby d_prog_103_method_2_code_5) rfl ?_
    refine XS.aloadN X0.here hx rfl (hb hby d_prog_103_method_2_code_7) rfl rfl ?_
    exact kk
  clear k97
  have st99 := fun tQ => own_A.len X0 hx hZ e0 A1 (g := (mkF m 8 #[vr a, vr b, vd s1, ss, vi (1 : Int32)] [(.ref a), (.int (1 : Int32))])) rfl rfl (hb hby d_prog_103_method_2_code_8) tQ
  have k100 : own_G p e below E0 s₁ (mkF m 9 #[vr a, vr b, vd s1, ss, vi (1 : Int32)] [(.int (4 : Int32)), (.int (1 : Int32))]) := fun tQ kk => k98 tQ (st99 _ kk)
  clear k98 st99
  have k101 : own_G p e below E0 s₁ (mkF m 16 #[vr a, vr b, vd s1, ss, vi (1 : Int32)] [(.int (1 : Int32)), (.ref a), (.double s1)]) := by
    intro tQ kk
    refine k100 tQ ?_
    refine XS.icmpNo X0.here hx rfl (hb hby d_prog_103_method_2_code_9) rfl (own_ic_geN (by decide)) ?_
    refine XS.dloadN X0.here hx rfl (hb hby d_prog_103_method_2_code_12) rfl ?_
    refine XS.aloadN X0.here hx rfl (hb hby d_prog_103_method_2_code_13) rfl rfl ?_
    refine XS.iload X0.here hx rfl (hb hby d_prog_103_method_2_code_14) rfl ?_
    exact kk
  clear k100
  have st102 := fun tQ => own_A.dld X0 hx hZ e0 A1 (j := (1 : Int32)) (v := (.double x1)) (by decide) rfl (g := (mkF m 16 #[vr a, vr b, vd s1, ss, vi (1 : Int32)] [(.int (1 : Int32)), (.ref a), (.double s1)])) rfl rfl (hb hby d_prog_103_method_2_code_16) tQ
  have k103 : own_G p e below E0 s₁ (mkF m 17 #[vr a, vr b, vd s1, ss, vi (1 : Int32)] [(.double x1), (.double s1)]) := fun tQ kk => k101 tQ (st102 _ kk)
  clear k101 st102
  have k104 : own_G p e below E0 s₁ (mkF m 20 #[vr a, vr b, vd s1, ss, vi (1 : Int32)] [(.int (1 : Int32)), (.ref b), (.double x1), (.double s1)]) := by
    intro tQ kk
    refine k103 tQ ?_
    refine XS.aloadN X0.here hx rfl (hb hby d_prog_103_method_2_code_17) rfl rfl ?_
    refine XS.iload X0.here hx rfl (hb hby d_prog_103_method_2_code_18) rfl ?_
    exact kk
  clear k103
  have st105 := fun tQ => own_A.dld X0 hx hZ e0 A2 (j := (1 : Int32)) (v := (.double y1)) (by decide) rfl (g := (mkF m 20 #[vr a, vr b, vd s1, ss, vi (1 : Int32)] [(.int (1 : Int32)), (.ref b), (.double x1), (.double s1)])) rfl rfl (hb hby d_prog_103_method_2_code_20) tQ
  have k106 : own_G p e below E0 s₁ (mkF m 21 #[vr a, vr b, vd s1, ss, vi (1 : Int32)] [(.double y1), (.double x1), (.double s1)]) := fun tQ kk => k104 tQ (st105 _ kk)
  clear k104 st105
  obtain ⟨m1, hm1⟩ : ∃ vA, FP.dmul x1 y1 = vA := ⟨_, rfl⟩
  have DM1 : FP.Core.DInt (i1 * j1) m1 := hm1 ▸ FP.Core.dmul_int Dx1 Dy1 (own_m3 bi1 bj1)
  have q1 := own_p6 bi1 bj1
  have k107 : own_G p e below E0 s₁ (mkF m 22 #[vr a, vr b, vd s1, ss, vi (1 : Int32)] [(.double m1), (.double s1)]) := by
    intro tQ kk
    refine k106 tQ ?_
    refine XS.dmulS X0.here hx rfl (hb hby d_prog_103_method_2_code_21) rfl (own_nn (FP.Core.dmul_int Dx1 Dy1 (own_m3 bi1 bj1))) hm1 ?_
    exact kk
  clear k106
  obtain ⟨s2, hs2⟩ : ∃ vA, FP.dadd s1 m1 = vA := ⟨_, rfl⟩
  have DS2 : FP.Core.DInt (0 + i0 * j0 + i1 * j1) s2 := hs2 ▸ FP.Core.dadd_int DS1 DM1 (own_s6 (by omega) (by omega))
  have k108 : own_G p e below E0 s₁ (mkF m 8 #[vr a, vr b, vd s2, ss, vi (2 : Int32)] [(.ref a), (.int (2 : Int32))]) := by
    intro tQ kk
    refine k107 tQ ?_
    refine XS.daddS X0.here hx rfl (hb hby d_prog_103_method_2_code_22) rfl (own_nn (FP.Core.dadd_int DS1 DM1 (own_s6 (by omega) (by omega)))) hs2 ?_
    refine XS.dstoreN X0.here hx rfl (hb hby d_prog_103_method_2_code_23) rfl (l' := #[vr a, vr b, vd s2, ss, vi (1 : Int32)]) rfl ?_
    refine XS.iinc X0.here hx rfl (hb hby d_prog_103_method_2_code_24) rfl (l' := #[vr a, vr b, vd s2, ss, vi (2 : Int32)]) rfl ?_
    refine XS.goto X0.here hx rfl (pc0 := 27) (pc' := 5) rfl (hb hby d_prog_103_method_2_code_27) (by decide) (by decide) ?_
    show Steps p.tables e below (s₁.setTop (mkF m 5 #[vr a, vr b, vd s2, ss, vi (2 : Int32)] [])) tQ
    refine XS.iload X0.here hx rfl (hb hby d_prog_103_method_2_code_5) rfl ?_
    refine XS.aloadN X0.here hx rfl (hb hby d_prog_103_method_2_code_7) rfl rfl ?_
    exact kk
  clear k107
  have st109 := fun tQ => own_A.len X0 hx hZ e0 A1 (g := (mkF m 8 #[vr a, vr b, vd s2, ss, vi (2 : Int32)] [(.ref a), (.int (2 : Int32))])) rfl rfl (hb hby d_prog_103_method_2_code_8) tQ
  have k110 : own_G p e below E0 s₁ (mkF m 9 #[vr a, vr b, vd s2, ss, vi (2 : Int32)] [(.int (4 : Int32)), (.int (2 : Int32))]) := fun tQ kk => k108 tQ (st109 _ kk)
  clear k108 st109
  have k111 : own_G p e below E0 s₁ (mkF m 16 #[vr a, vr b, vd s2, ss, vi (2 : Int32)] [(.int (2 : Int32)), (.ref a), (.double s2)]) := by
    intro tQ kk
    refine k110 tQ ?_
    refine XS.icmpNo X0.here hx rfl (hb hby d_prog_103_method_2_code_9) rfl (own_ic_geN (by decide)) ?_
    refine XS.dloadN X0.here hx rfl (hb hby d_prog_103_method_2_code_12) rfl ?_
    refine XS.aloadN X0.here hx rfl (hb hby d_prog_103_method_2_code_13) rfl rfl ?_
    refine XS.iload X0.here hx rfl (hb hby d_prog_103_method_2_code_14) rfl ?_
    exact kk
  clear k110
  have st112 := fun tQ => own_A.dld X0 hx hZ e0 A1 (j := (2 : Int32)) (v := (.double x2)) (by decide) rfl (g := (mkF m 16 #[vr a, vr b, vd s2, ss, vi (2 : Int32)] [(.int (2 : Int32)), (.ref a), (.double s2)])) rfl rfl (hb hby d_prog_103_method_2_code_16) tQ
  have k113 : own_G p e below E0 s₁ (mkF m 17 #[vr a, vr b, vd s2, ss, vi (2 : Int32)] [(.double x2), (.double s2)]) := fun tQ kk => k111 tQ (st112 _ kk)
  clear k111 st112
  have k114 : own_G p e below E0 s₁ (mkF m 20 #[vr a, vr b, vd s2, ss, vi (2 : Int32)] [(.int (2 : Int32)), (.ref b), (.double x2), (.double s2)]) := by
    intro tQ kk
    refine k113 tQ ?_
    refine XS.aloadN X0.here hx rfl (hb hby d_prog_103_method_2_code_17) rfl rfl ?_
    refine XS.iload X0.here hx rfl (hb hby d_prog_103_method_2_code_18) rfl ?_
    exact kk
  clear k113
  have st115 := fun tQ => own_A.dld X0 hx hZ e0 A2 (j := (2 : Int32)) (v := (.double y2)) (by decide) rfl (g := (mkF m 20 #[vr a, vr b, vd s2, ss, vi (2 : Int32)] [(.int (2 : Int32)), (.ref b), (.double x2), (.double s2)])) rfl rfl (hb hby d_prog_103_method_2_code_20) tQ
  have k116 : own_G p e below E0 s₁ (mkF m 21 #[vr a, vr b, vd s2, ss, vi (2 : Int32)] [(.double y2), (.double x2), (.double s2)]) := fun tQ kk => k114 tQ (st115 _ kk)
  clear k114 st115
  obtain ⟨m2, hm2⟩ : ∃ vA, FP.dmul x2 y2 = vA := ⟨_, rfl⟩
  have DM2 : FP.Core.DInt (i2 * j2) m2 := hm2 ▸ FP.Core.dmul_int Dx2 Dy2 (own_m3 bi2 bj2)
  have q2 := own_p6 bi2 bj2
  have k117 : own_G p e below E0 s₁ (mkF m 22 #[vr a, vr b, vd s2, ss, vi (2 : Int32)] [(.double m2), (.double s2)]) := by
    intro tQ kk
    refine k116 tQ ?_
    refine XS.dmulS X0.here hx rfl (hb hby d_prog_103_method_2_code_21) rfl (own_nn (FP.Core.dmul_int Dx2 Dy2 (own_m3 bi2 bj2))) hm2 ?_
    exact kk
  clear k116
  obtain ⟨s3, hs3⟩ : ∃ vA, FP.dadd s2 m2 = vA := ⟨_, rfl⟩
  have DS3 : FP.Core.DInt (0 + i0 * j0 + i1 * j1 + i2 * j2) s3 := hs3 ▸ FP.Core.dadd_int DS2 DM2 (own_s6 (by omega) (by omega))
  have k118 : own_G p e below E0 s₁ (mkF m 8 #[vr a, vr b, vd s3, ss, vi (3 : Int32)] [(.ref a), (.int (3 : Int32))]) := by
    intro tQ kk
    refine k117 tQ ?_
    refine XS.daddS X0.here hx rfl (hb hby d_prog_103_method_2_code_22) rfl (own_nn (FP.Core.dadd_int DS2 DM2 (own_s6 (by omega) (by omega)))) hs3 ?_
    refine XS.dstoreN X0.here hx rfl (hb hby d_prog_103_method_2_code_23) rfl (l' := #[vr a, vr b, vd s3, ss, vi (2 : Int32)]) rfl ?_
    refine XS.iinc X0.here hx rfl (hb hby d_prog_103_method_2_code_24) rfl (l' := #[vr a, vr b, vd s3, ss, vi (3 : Int32)]) rfl ?_
    refine XS.goto X0.here hx rfl (pc0 := 27) (pc' := 5) rfl (hb hby d_prog_103_method_2_code_27) (by decide) (by decide) ?_
    show Steps p.tables e below (s₁.setTop (mkF m 5 #[vr a, vr b, vd s3, ss, vi (3 : Int32)] [])) tQ
    refine XS.iload X0.here hx rfl (hb hby d_prog_103_method_2_code_5) rfl ?_
    refine XS.aloadN X0.here hx rfl (hb hby d_prog_103_method_2_code_7) rfl rfl ?_
    exact kk
  clear k117
  have st119 := fun tQ => own_A.len X0 hx hZ e0 A1 (g := (mkF m 8 #[vr a, vr b, vd s3, ss, vi (3 : Int32)] [(.ref a), (.int (3 : Int32))])) rfl rfl (hb hby d_prog_103_method_2_code_8) tQ
  have k120 : own_G p e below E0 s₁ (mkF m 9 #[vr a, vr b, vd s3, ss, vi (3 : Int32)] [(.int (4 : Int32)), (.int (3 : Int32))]) := fun tQ kk => k118 tQ (st119 _ kk)
  clear k118 st119
  have k121 : own_G p e below E0 s₁ (mkF m 16 #[vr a, vr b, vd s3, ss, vi (3 : Int32)] [(.int (3 : Int32)), (.ref a), (.double s3)]) := by
    intro tQ kk
    refine k120 tQ ?_
    refine XS.icmpNo X0.here hx rfl (hb hby d_prog_103_method_2_code_9) rfl (own_ic_geN (by decide)) ?_
    refine XS.dloadN X0.here hx rfl (hb hby d_prog_103_method_2_code_12) rfl ?_
    refine XS.aloadN X0.here hx rfl (hb hby d_prog_103_method_2_code_13) rfl rfl ?_
    refine XS.iload X0.here hx rfl (hb hby d_prog_103_method_2_code_14) rfl ?_
    exact kk
  clear k120
  have st122 := fun tQ => own_A.dld X0 hx hZ e0 A1 (j := (3 : Int32)) (v := (.double x3)) (by decide) rfl (g := (mkF m 16 #[vr a, vr b, vd s3, ss, vi (3 : Int32)] [(.int (3 : Int32)), (.ref a), (.double s3)])) rfl rfl (hb hby d_prog_103_method_2_code_16) tQ
  have k123 : own_G p e below E0 s₁ (mkF m 17 #[vr a, vr b, vd s3, ss, vi (3 : Int32)] [(.double x3), (.double s3)]) := fun tQ kk => k121 tQ (st122 _ kk)
  clear k121 st122
  have k124 : own_G p e below E0 s₁ (mkF m 20 #[vr a, vr b, vd s3, ss, vi (3 : Int32)] [(.int (3 : Int32)), (.ref b), (.double x3), (.double s3)]) := by
    intro tQ kk
    refine k123 tQ ?_
    refine XS.aloadN X0.here hx rfl (hb hby d_prog_103_method_2_code_17) rfl rfl ?_
    refine XS.iload X0.here hx rfl (hb hby d_prog_103_method_2_code_18) rfl ?_
    exact kk
  clear k123
  have st125 := fun tQ => own_A.dld X0 hx hZ e0 A2 (j := (3 : Int32)) (v := (.double y3)) (by decide) rfl (g := (mkF m 20 #[vr a, vr b, vd s3, ss, vi (3 : Int32)] [(.int (3 : Int32)), (.ref b), (.double x3), (.double s3)])) rfl rfl (hb hby d_prog_103_method_2_code_20) tQ
  have k126 : own_G p e below E0 s₁ (mkF m 21 #[vr a, vr b, vd s3, ss, vi (3 : Int32)] [(.double y3), (.double x3), (.double s3)]) := fun tQ kk => k124 tQ (st125 _ kk)
  clear k124 st125
  obtain ⟨m3, hm3⟩ : ∃ vA, FP.dmul x3 y3 = vA := ⟨_, rfl⟩
  have DM3 : FP.Core.DInt (i3 * j3) m3 := hm3 ▸ FP.Core.dmul_int Dx3 Dy3 (own_m3 bi3 bj3)
  have q3 := own_p6 bi3 bj3
  have k127 : own_G p e below E0 s₁ (mkF m 22 #[vr a, vr b, vd s3, ss, vi (3 : Int32)] [(.double m3), (.double s3)]) := by
    intro tQ kk
    refine k126 tQ ?_
    refine XS.dmulS X0.here hx rfl (hb hby d_prog_103_method_2_code_21) rfl (own_nn (FP.Core.dmul_int Dx3 Dy3 (own_m3 bi3 bj3))) hm3 ?_
    exact kk
  clear k126
  obtain ⟨s4, hs4⟩ : ∃ vA, FP.dadd s3 m3 = vA := ⟨_, rfl⟩
  have DS4 : FP.Core.DInt (0 + i0 * j0 + i1 * j1 + i2 * j2 + i3 * j3) s4 := hs4 ▸ FP.Core.dadd_int DS3 DM3 (own_s6 (by omega) (by omega))
  have k128 : own_G p e below E0 s₁ (mkF m 8 #[vr a, vr b, vd s4, ss, vi (4 : Int32)] [(.ref a), (.int (4 : Int32))]) := by
    intro tQ kk
    refine k127 tQ ?_
    refine XS.daddS X0.here hx rfl (hb hby d_prog_103_method_2_code_22) rfl (own_nn (FP.Core.dadd_int DS3 DM3 (own_s6 (by omega) (by omega)))) hs4 ?_
    refine XS.dstoreN X0.here hx rfl (hb hby d_prog_103_method_2_code_23) rfl (l' := #[vr a, vr b, vd s4, ss, vi (3 : Int32)]) rfl ?_
    refine XS.iinc X0.here hx rfl (hb hby d_prog_103_method_2_code_24) rfl (l' := #[vr a, vr b, vd s4, ss, vi (4 : Int32)]) rfl ?_
    refine XS.goto X0.here hx rfl (pc0 := 27) (pc' := 5) rfl (hb hby d_prog_103_method_2_code_27) (by decide) (by decide) ?_
    show Steps p.tables e below (s₁.setTop (mkF m 5 #[vr a, vr b, vd s4, ss, vi (4 : Int32)] [])) tQ
    refine XS.iload X0.here hx rfl (hb hby d_prog_103_method_2_code_5) rfl ?_
    refine XS.aloadN X0.here hx rfl (hb hby d_prog_103_method_2_code_7) rfl rfl ?_
    exact kk
  clear k127
  have st129 := fun tQ => own_A.len X0 hx hZ e0 A1 (g := (mkF m 8 #[vr a, vr b, vd s4, ss, vi (4 : Int32)] [(.ref a), (.int (4 : Int32))])) rfl rfl (hb hby d_prog_103_method_2_code_8) tQ
  have k130 : own_G p e below E0 s₁ (mkF m 9 #[vr a, vr b, vd s4, ss, vi (4 : Int32)] [(.int (4 : Int32)), (.int (4 : Int32))]) := fun tQ kk => k128 tQ (st129 _ kk)
  clear k128 st129
  have k131 : own_G p e below E0 s₁ (mkF m 31 #[vr a, vr b, vd s4, ss, vi (4 : Int32)] [(.double s4)]) := by
    intro tQ kk
    refine k130 tQ ?_
    refine XS.icmpYes X0.here hx rfl (pc0 := 9) (pc' := 30) rfl (hb hby d_prog_103_method_2_code_9) rfl (own_ic_geY (by decide)) (by decide) (by decide) ?_
    refine XS.dloadN X0.here hx rfl (hb hby d_prog_103_method_2_code_30) rfl ?_
    exact kk
  clear k130
  obtain ⟨fs, hr, hrun, hended, hW, hsame⟩ := X0.leave (v := some (.double s4)) (fun h => by rw [Bd.returns] at h; cases h)
  have hrun0 := k131 _ (retOut X0 hx Bd.returns (t := .double) rfl (Or.inr (Or.inr (Or.inl ⟨rfl, rfl, _, rfl⟩))) (hb hby d_prog_103_method_2_code_31) hr)
  subst hE0
  refine ⟨_, _, hrun0, hrun, hended, _, _, rfl, ?_, ⟨_, rfl⟩, hW, hsame.mono (by decide) (by decide)⟩
  show QrmV4 Z a b x0 x1 x2 x3 y0 y1 y2 y3 i0 i1 i2 i3 j0 j1 j2 j3 h0 n0 _ s₁.heap _
  rw [e0]
  exact ⟨s4, rfl, N0, rfl, DS4⟩
def Qrm0 (Z : State) (p0 : Int32) (p1 : Int64) (p2 : Int64) (p3 : Int64) (p4 : Int64) (h0 : Heap) (n0 : Nat) (vQ : Option Value) (hQ : Heap) (LQ : List Loc) : Prop := vQ = some (.int (1 : Int32)) ∧ Fr n0 LQ
theorem ef_rm0 (m : MethodId) (p0 : Int32) (p1 : Int64) (p2 : Int64) (p3 : Int64) (p4 : Int64) : entryFrame m #[(.int p0), (.long p1), (.long p2), (.long p3), (.long p4)] maxLocals = mkF m 0 #[vi p0, vj p1, ss, vj p2, ss, vj p3, ss, vj p4, ss, uu, uu, uu, uu, uu, uu, uu] [] := by first | (simp [entryFrame, mkF, argsToLocals, Value.category, maxLocals]; done) | rfl
def tw0 {Z : State} {a0 : Array Value} (hw : ∀ d ∈ tables_1, d.before a0 Z = true) := hw _ (List.mem_of_getElem? (i := 0) rfl)
def tw1 {Z : State} {a0 : Array Value} (hw : ∀ d ∈ tables_1, d.before a0 Z = true) := hw _ (List.mem_of_getElem? (i := 1) rfl)
def tw4 {Z : State} {a0 : Array Value} (hw : ∀ d ∈ tables_1, d.before a0 Z = true) := hw _ (List.mem_of_getElem? (i := 4) rfl)
def tw3 {Z : State} {a0 : Array Value} (hw : ∀ d ∈ tables_1, d.before a0 Z = true) := hw _ (List.mem_of_getElem? (i := 3) rfl)
theorem pd_3 : parseMethodDescriptor "([D[D)D" = some ⟨[(.array .double), (.array .double)], some .double⟩ := by decide +kernel
def tw2 {Z : State} {a0 : Array Value} (hw : ∀ d ∈ tables_1, d.before a0 Z = true) := hw _ (List.mem_of_getElem? (i := 2) rfl)
def tw5 {Z : State} {a0 : Array Value} (hw : ∀ d ∈ tables_1, d.before a0 Z = true) := hw _ (List.mem_of_getElem? (i := 5) rfl)
def tw8 {Z : State} {a0 : Array Value} (hw : ∀ d ∈ tables_1, d.before a0 Z = true) := hw _ (List.mem_of_getElem? (i := 8) rfl)
def tw7 {Z : State} {a0 : Array Value} (hw : ∀ d ∈ tables_1, d.before a0 Z = true) := hw _ (List.mem_of_getElem? (i := 7) rfl)
theorem pd_4 : parseMethodDescriptor "(J)I" = some ⟨[.long], some .int⟩ := by decide +kernel
def tw6 {Z : State} {a0 : Array Value} (hw : ∀ d ∈ tables_1, d.before a0 Z = true) := hw _ (List.mem_of_getElem? (i := 6) rfl)
def tw10 {Z : State} {a0 : Array Value} (hw : ∀ d ∈ tables_1, d.before a0 Z = true) := hw _ (List.mem_of_getElem? (i := 10) rfl)
def tw12 {Z : State} {a0 : Array Value} (hw : ∀ d ∈ tables_1, d.before a0 Z = true) := hw _ (List.mem_of_getElem? (i := 12) rfl)
def tw11 {Z : State} {a0 : Array Value} (hw : ∀ d ∈ tables_1, d.before a0 Z = true) := hw _ (List.mem_of_getElem? (i := 11) rfl)
set_option maxRecDepth 65536 in
set_option maxHeartbeats 40000000 in
theorem rm0 (l : Launch) (Z : State) (a0 : Array Value) (hw : ∀ d ∈ tables_1, d.before a0 Z = true) (ws : List Jvm.Cond) (p0 : Int32) (p1 : Int64) (p2 : Int64) (p3 : Int64) (p4 : Int64) (h0 : Heap) (n0 : Nat) (Z0 : n0 ≤ h0.size)  :
    MetFree l x (head1 (Jvm.Cond.code x code maxLocals ret :: ws) room_1) (fun aA U => aA = #[(.int p0), (.long p1), (.long p2), (.long p3), (.long p4)] ∧ Z.Warmed39 U.vm ∧ U.heap = h0) (fun _ _ _ _ _ => True) (fun _ U o U' => ∃ vR LR, o = .returned vR ∧ Qrm0 Z p0 p1 p2 p3 p4 h0 n0 vR U'.heap LR ∧ FrameEnd U o U' LR 16 128) := by
  refine MetFree.of_bodySF (plainFor_of_name pn_com_example_velvet_postings_velvetpostings_search_VectorsDotPinLaw) hisR ?_
  intro p e s m args below meth c s₁ Bd hml0 hPre hKk
  obtain ⟨rfl, hZ, hh⟩ := hPre
  have hx := Bd.exec
  have hby := Bd.bytes
  have hml : c.maxLocals = 16 := hml0
  have hown : s.vm.findClass "com/example/velvet_postings/velvetpostings/search/VectorsDotPinLaw" = some m.cls := findClass_of_methodNamed Bd.named
  have hnm := (name_of_methodNamed Bd.named Bd.method).1
  have X0 : Stand p l e room_1 s m #[(.int p0), (.long p1), (.long p2), (.long p3), (.long p4)] below meth c s₁ [] 0 0 := Stand.of_body Bd
  have e0 : s₁.heap = h0 := by rw [← hh, Bd.state]; rfl
  have N0 := Fr.nil n0
  obtain ⟨E0, hE0⟩ : ∃ zE : State, zE = s₁.setTop (entryFrame m #[(.int p0), (.long p1), (.long p2), (.long p3), (.long p4)] maxLocals) := ⟨_, rfl⟩
  have k0 : own_G p e below E0 s₁ (mkF m 0 #[vi p0, vj p1, ss, vj p2, ss, vj p3, ss, vj p4, ss, uu, uu, uu, uu, uu, uu, uu] []) := fun tz kz => hE0 ▸ castTop (ef_rm0 m p0 p1 p2 p3 p4) kz
  have k132 : own_G p e below E0 s₁ (mkF m 6 #[vi p0, vj p1, ss, vj p2, ss, vj p3, ss, vj p4, ss, uu, uu, uu, uu, uu, uu, uu] [(.int ((p0 &&& (7 : Int32)) % (5 : Int32)))]) := by
    intro tQ kk
    refine k0 tQ ?_
    refine XS.iloadN X0.here hx rfl (hb hby at_0) rfl ?_
    refine XS.bipush X0.here hx rfl (hb hby at_1) ?_
    refine XS.iand X0.here hx rfl (hb hby at_3) rfl ?_
    refine XS.iconst X0.here hx rfl (hb hby at_4) ?_
    show Steps p.tables e below (s₁.setTop (mkF m 5 #[vi p0, vj p1, ss, vj p2, ss, vj p3, ss, vj p4, ss, uu, uu, uu, uu, uu, uu, uu] [(.int (5 : Int32)), (.int (p0 &&& (7 : Int32)))])) tQ
    refine iremM X0 hx rfl (hb hby at_5) rfl (by decide) ?_
    exact kk
  clear k0
  obtain ⟨N, hN⟩ : ∃ vA, vA = ((p0 &&& (7 : Int32)) % (5 : Int32)) := ⟨_, rfl⟩
  have k133 : own_G p e below E0 s₁ (mkF m 6 #[vi p0, vj p1, ss, vj p2, ss, vj p3, ss, vj p4, ss, uu, uu, uu, uu, uu, uu, uu] [(.int N)]) := by rw [hN]; exact k132
  rcases (own_len p0 hN) with rfl | rfl | rfl | rfl | rfl
  · skip
    have k134 : own_G p e below E0 s₁ (mkF m 10 #[vi p0, vj p1, ss, vj p2, ss, vj p3, ss, vj p4, ss, vi (0 : Int32), uu, uu, uu, uu, uu, uu] [(.int (0 : Int32))]) := by
      intro tQ kk
      refine k133 tQ ?_
      refine XS.istore X0.here hx rfl (hb hby at_6) rfl (l' := #[vi p0, vj p1, ss, vj p2, ss, vj p3, ss, vj p4, ss, vi (0 : Int32), uu, uu, uu, uu, uu, uu]) rfl ?_
      refine XS.iload X0.here hx rfl (hb hby at_8) rfl ?_
      exact kk
    clear k133
    obtain ⟨T135, h136, cA137, X138, e139, E140, A141, st142⟩ := newP (aty := .double) X0 hx hZ (tw0 hw) e0 (g := (mkF m 10 #[vi p0, vj p1, ss, vj p2, ss, vj p3, ss, vj p4, ss, vi (0 : Int32), uu, uu, uu, uu, uu, uu] [(.int (0 : Int32))])) rfl (hb hby at_10) rfl (by decide) (cap := 0) (by decide) (by decide) (by decide) (by decide)
    obtain ⟨a143, g144⟩ : ∃ zA : Nat, zA = h0.size := ⟨_, rfl⟩
    rw [← g144] at A141 st142
    have ge145 : n0 ≤ a143 := own_ge_of Z0 g144
    have Z146 : n0 ≤ h136.size := Nat.le_trans Z0 E140.1
    have F147 : own_A Z h136 a143 .double [] := own_A.new A141
    have k148 : own_G p e below E0 T135 (mkF m 12 #[vi p0, vj p1, ss, vj p2, ss, vj p3, ss, vj p4, ss, vi (0 : Int32), uu, uu, uu, uu, uu, uu] [(.ref a143)]) := fun tQ kk => k134 tQ (st142 _ kk)
    clear k134 st142
    have k149 : own_G p e below E0 T135 (mkF m 16 #[vi p0, vj p1, ss, vj p2, ss, vj p3, ss, vj p4, ss, vi (0 : Int32), vr a143, uu, uu, uu, uu, uu] [(.int (0 : Int32))]) := by
      intro tQ kk
      refine k148 tQ ?_
      refine XS.astore X138.here hx rfl (hb hby at_12) rfl rfl (l' := #[vi p0, vj p1, ss, vj p2, ss, vj p3, ss, vj p4, ss, vi (0 : Int32), vr a143, uu, uu, uu, uu, uu]) rfl ?_
      refine XS.iload X138.here hx rfl (hb hby at_14) rfl ?_
      exact kk
    clear k148
    obtain ⟨T150, h151, cA152, X153, e154, E155, A156, st157⟩ := newP (aty := .double) X138 hx hZ (tw0 hw) e139 (g := (mkF m 16 #[vi p0, vj p1, ss, vj p2, ss, vj p3, ss, vj p4, ss, vi (0 : Int32), vr a143, uu, uu, uu, uu, uu] [(.int (0 : Int32))])) rfl (hb hby at_16) rfl (by decide) (cap := 0) (by decide) (by decide) (by decide) (by decide)
    obtain ⟨a158, g159⟩ : ∃ zA : Nat, zA = h136.size := ⟨_, rfl⟩
    rw [← g159] at A156 st157
    have n160 : a143 ≠ a158 := own_lt_ne F147.lt g159
    have n161 : a158 ≠ a143 := fun q => n160 q.symm
    have ge162 : n0 ≤ a158 := own_ge_of Z146 g159
    have Z163 : n0 ≤ h151.size := Nat.le_trans Z146 E155.1
    have F164 : own_A Z h151 a143 .double [] := F147.ext E155
    clear F147
    have F165 : own_A Z h151 a158 .double [] := own_A.new A156
    have k166 : own_G p e below E0 T150 (mkF m 18 #[vi p0, vj p1, ss, vj p2, ss, vj p3, ss, vj p4, ss, vi (0 : Int32), vr a143, uu, uu, uu, uu, uu] [(.ref a158)]) := fun tQ kk => k149 tQ (st157 _ kk)
    clear k149 st157
    have k167 : own_G p e below E0 T150 (mkF m 194 #[vi p0, vj p1, ss, vj p2, ss, vj p3, ss, vj p4, ss, vi (0 : Int32), vr a143, vr a158, vj (0 : Int64), ss, uu, uu] [(.ref a158), (.ref a143)]) := by
      intro tQ kk
      refine k166 tQ ?_
      refine XS.astore X153.here hx rfl (hb hby at_18) rfl rfl (l' := #[vi p0, vj p1, ss, vj p2, ss, vj p3, ss, vj p4, ss, vi (0 : Int32), vr a143, vr a158, uu, uu, uu, uu]) rfl ?_
      refine XT.lconst X153.here hx rfl (hb hby at_20) ?_
      refine XT.lstore X153.here hx rfl (hb hby at_21) rfl (l' := #[vi p0, vj p1, ss, vj p2, ss, vj p3, ss, vj p4, ss, vi (0 : Int32), vr a143, vr a158, vj (0 : Int64), ss, uu, uu]) rfl ?_
      refine XS.iload X153.here hx rfl (hb hby at_23) rfl ?_
      show Steps p.tables e below (T150.setTop (mkF m 25 #[vi p0, vj p1, ss, vj p2, ss, vj p3, ss, vj p4, ss, vi (0 : Int32), vr a143, vr a158, vj (0 : Int64), ss, uu, uu] [(.int (0 : Int32))])) tQ
      refine XS.ifYes X153.here hx rfl (pc0 := 25) (pc' := 62) rfl (hb hby at_25) rfl (own_if_leY (by decide)) (by decide) (by decide) ?_
      refine XS.iload X153.here hx rfl (hb hby at_62) rfl ?_
      refine XS.iconst X153.here hx rfl (hb hby at_64) ?_
      refine XS.icmpYes X153.here hx rfl (pc0 := 65) (pc' := 102) rfl (hb hby at_65) rfl (own_ic_leY (by decide)) (by decide) (by decide) ?_
      show Steps p.tables e below (T150.setTop (mkF m 102 #[vi p0, vj p1, ss, vj p2, ss, vj p3, ss, vj p4, ss, vi (0 : Int32), vr a143, vr a158, vj (0 : Int64), ss, uu, uu] [])) tQ
      refine XS.iload X153.here hx rfl (hb hby at_102) rfl ?_
      refine XS.iconst X153.here hx rfl (hb hby at_104) ?_
      refine XS.icmpYes X153.here hx rfl (pc0 := 105) (pc' := 146) rfl (hb hby at_105) rfl (own_ic_leY (by decide)) (by decide) (by decide) ?_
      refine XS.iload X153.here hx rfl (hb hby at_146) rfl ?_
      show Steps p.tables e below (T150.setTop (mkF m 148 #[vi p0, vj p1, ss, vj p2, ss, vj p3, ss, vj p4, ss, vi (0 : Int32), vr a143, vr a158, vj (0 : Int64), ss, uu, uu] [(.int (0 : Int32))])) tQ
      refine XS.iconst X153.here hx rfl (hb hby at_148) ?_
      refine XS.icmpYes X153.here hx rfl (pc0 := 149) (pc' := 190) rfl (hb hby at_149) rfl (own_ic_leY (by decide)) (by decide) (by decide) ?_
      refine XS.aload X153.here hx rfl (hb hby at_190) rfl rfl ?_
      refine XS.aload X153.here hx rfl (hb hby at_192) rfl rfl ?_
      exact kk
    clear k166
    obtain ⟨_, _, ⟨T168, L169, kc170, nc171⟩, -, X172, ⟨Lc173, hQ174, l175, y176, z177⟩, st178⟩ := Jvm.LawKit.callS X153 hx (y := mn2) hown (mvT hZ (tw1 hw)) (mvT hZ (tw2 hw)) (mvT hZ (tw3 hw)) (mvT hZ (tw4 hw)) (by decide) (backOf (W := 0) (rmV0 l Z a0 hw [] a143 a158 h151 n0 Z163 F164 F165) hZ (tw4 hw) (tw3 hw) (by decide) (by decide)) (g := (mkF m 194 #[vi p0, vj p1, ss, vj p2, ss, vj p3, ss, vj p4, ss, vi (0 : Int32), vr a143, vr a158, vj (0 : Int64), ss, uu, uu] [(.ref a158), (.ref a143)])) rfl (by rw [hml]; rfl) (argsL := [(.ref a143), (.ref a158)]) (rest := []) (lenOf pd_3 rfl) rfl (by show 2 * 0 + _ ≤ _; exact Nat.le_of_eq rfl) (hb hby at_194) (fun _ _ => ⟨rfl, e154, (by decide : 2 + 0 ≤ _), (by decide : 0 + 0 ≤ _)⟩)
    dsimp only [Pt.U, Pt.locs, Pt.cells, Pt.slots] at X172 l175 y176 z177 st178 hQ174
    subst y176 z177
    obtain ⟨r182, rfl, N179, e180, g183⟩ := hQ174
    have N184 : Fr n0 L169 := by rw [l175]; exact Fr.app N0 N179
    clear l175 N179
    have k185 : own_G p e below E0 T168 (mkF m 197 #[vi p0, vj p1, ss, vj p2, ss, vj p3, ss, vj p4, ss, vi (0 : Int32), vr a143, vr a158, vj (0 : Int64), ss, uu, uu] [(.double r182)]) := fun tQ kk => k167 tQ (st178 _ kk)
    clear k167 st178
    have k186 : own_G p e below E0 T168 (mkF m 213 #[vi p0, vj p1, ss, vj p2, ss, vj p3, ss, vj p4, ss, vi (0 : Int32), vr a143, vr a158, vj (0 : Int64), ss, vd r182, ss] [(.int (1 : Int32))]) := by
      intro tQ kk
      refine k185 tQ ?_
      refine XS.dstore X172.here hx rfl (hb hby at_197) rfl (l' := #[vi p0, vj p1, ss, vj p2, ss, vj p3, ss, vj p4, ss, vi (0 : Int32), vr a143, vr a158, vj (0 : Int64), ss, vd r182, ss]) rfl ?_
      refine XS.dload X172.here hx rfl (hb hby at_199) rfl ?_
      refine XT.lload X172.here hx rfl (hb hby at_201) rfl ?_
      refine XS.l2dS X172.here hx rfl (hb hby at_203) rfl rfl ?_
      show Steps p.tables e below (T168.setTop (mkF m 204 #[vi p0, vj p1, ss, vj p2, ss, vj p3, ss, vj p4, ss, vi (0 : Int32), vr a143, vr a158, vj (0 : Int64), ss, vd r182, ss] [(.double (FP.l2d (0 : Int64))), (.double r182)])) tQ
      refine XS.dcmpS (v := (0 : Int32)) X172.here hx rfl (hb hby at_204) rfl (own_eq0 .l g183 (own_dl _ (show (0 : Int64).toInt = 0 from rfl) (own_s6 (by have := own_p6 (own_lob p1) (own_hib p1); have := own_p6 (own_lob p2) (own_hib p2); have := own_p6 (own_lob p3) (own_hib p3); have := own_p6 (own_lob p4) (own_hib p4); omega) (by have := own_p6 (own_lob p1) (own_hib p1); have := own_p6 (own_lob p2) (own_hib p2); have := own_p6 (own_lob p3) (own_hib p3); have := own_p6 (own_lob p4) (own_hib p4); omega)))) ?_
      refine XS.ifNo X172.here hx rfl (hb hby at_205) rfl (own_if_neN (by decide)) ?_
      refine XS.iconst X172.here hx rfl (hb hby at_208) ?_
      refine XS.goto X172.here hx rfl (pc0 := 209) (pc' := 213) rfl (hb hby at_209) (by decide) (by decide) ?_
      exact kk
    clear k185
    obtain ⟨fs, hr, hrun, hended, hW, hsame⟩ := X172.leave (v := some (.int (1 : Int32))) (fun h => by rw [Bd.returns] at h; cases h)
    have hrun0 := k186 _ (retOut X172 hx Bd.returns (t := .boolean) rfl (Or.inl ⟨rfl, Or.inr (Or.inl rfl), _, rfl⟩) (hb hby at_213) hr)
    subst hE0
    refine ⟨_, _, hrun0, hrun, hended, _, _, rfl, ?_, ⟨_, rfl⟩, hW, hsame.mono (by decide) (by decide)⟩
    show Qrm0 Z p0 p1 p2 p3 p4 h0 n0 _ T168.heap _
    rw [e180]
    exact ⟨rfl, N184⟩
  · skip
    have k187 : own_G p e below E0 s₁ (mkF m 10 #[vi p0, vj p1, ss, vj p2, ss, vj p3, ss, vj p4, ss, vi (1 : Int32), uu, uu, uu, uu, uu, uu] [(.int (1 : Int32))]) := by
      intro tQ kk
      refine k133 tQ ?_
      refine XS.istore X0.here hx rfl (hb hby at_6) rfl (l' := #[vi p0, vj p1, ss, vj p2, ss, vj p3, ss, vj p4, ss, vi (1 : Int32), uu, uu, uu, uu, uu, uu]) rfl ?_
      refine XS.iload X0.here hx rfl (hb hby at_8) rfl ?_
      exact kk
    clear k133
    obtain ⟨T188, h189, cA190, X191, e192, E193, A194, st195⟩ := newP (aty := .double) X0 hx hZ (tw0 hw) e0 (g := (mkF m 10 #[vi p0, vj p1, ss, vj p2, ss, vj p3, ss, vj p4, ss, vi (1 : Int32), uu, uu, uu, uu, uu, uu] [(.int (1 : Int32))])) rfl (hb hby at_10) rfl (by decide) (cap := 1) (by decide) (by decide) (by decide) (by decide)
    obtain ⟨a196, g197⟩ : ∃ zA : Nat, zA = h0.size := ⟨_, rfl⟩
    rw [← g197] at A194 st195
    have ge198 : n0 ≤ a196 := own_ge_of Z0 g197
    have Z199 : n0 ≤ h189.size := Nat.le_trans Z0 E193.1
    have F200 : own_A Z h189 a196 .double [(.double (0 : UInt64))] := own_A.new A194
    have k201 : own_G p e below E0 T188 (mkF m 12 #[vi p0, vj p1, ss, vj p2, ss, vj p3, ss, vj p4, ss, vi (1 : Int32), uu, uu, uu, uu, uu, uu] [(.ref a196)]) := fun tQ kk => k187 tQ (st195 _ kk)
    clear k187 st195
    have k202 : own_G p e below E0 T188 (mkF m 16 #[vi p0, vj p1, ss, vj p2, ss, vj p3, ss, vj p4, ss, vi (1 : Int32), vr a196, uu, uu, uu, uu, uu] [(.int (1 : Int32))]) := by
      intro tQ kk
      refine k201 tQ ?_
      refine XS.astore X191.here hx rfl (hb hby at_12) rfl rfl (l' := #[vi p0, vj p1, ss, vj p2, ss, vj p3, ss, vj p4, ss, vi (1 : Int32), vr a196, uu, uu, uu, uu, uu]) rfl ?_
      refine XS.iload X191.here hx rfl (hb hby at_14) rfl ?_
      exact kk
    clear k201
    obtain ⟨T203, h204, cA205, X206, e207, E208, A209, st210⟩ := newP (aty := .double) X191 hx hZ (tw0 hw) e192 (g := (mkF m 16 #[vi p0, vj p1, ss, vj p2, ss, vj p3, ss, vj p4, ss, vi (1 : Int32), vr a196, uu, uu, uu, uu, uu] [(.int (1 : Int32))])) rfl (hb hby at_16) rfl (by decide) (cap := 1) (by decide) (by decide) (by decide) (by decide)
    obtain ⟨a211, g212⟩ : ∃ zA : Nat, zA = h189.size := ⟨_, rfl⟩
    rw [← g212] at A209 st210
    have n213 : a196 ≠ a211 := own_lt_ne F200.lt g212
    have n214 : a211 ≠ a196 := fun q => n213 q.symm
    have ge215 : n0 ≤ a211 := own_ge_of Z199 g212
    have Z216 : n0 ≤ h204.size := Nat.le_trans Z199 E208.1
    have F217 : own_A Z h204 a196 .double [(.double (0 : UInt64))] := F200.ext E208
    clear F200
    have F218 : own_A Z h204 a211 .double [(.double (0 : UInt64))] := own_A.new A209
    have k219 : own_G p e below E0 T203 (mkF m 18 #[vi p0, vj p1, ss, vj p2, ss, vj p3, ss, vj p4, ss, vi (1 : Int32), vr a196, uu, uu, uu, uu, uu] [(.ref a211)]) := fun tQ kk => k202 tQ (st210 _ kk)
    clear k202 st210
    have k220 : own_G p e below E0 T203 (mkF m 32 #[vi p0, vj p1, ss, vj p2, ss, vj p3, ss, vj p4, ss, vi (1 : Int32), vr a196, vr a211, vj (0 : Int64), ss, uu, uu] [(.long p1), (.int (0 : Int32)), (.ref a196)]) := by
      intro tQ kk
      refine k219 tQ ?_
      refine XS.astore X206.here hx rfl (hb hby at_18) rfl rfl (l' := #[vi p0, vj p1, ss, vj p2, ss, vj p3, ss, vj p4, ss, vi (1 : Int32), vr a196, vr a211, uu, uu, uu, uu]) rfl ?_
      refine XT.lconst X206.here hx rfl (hb hby at_20) ?_
      refine XT.lstore X206.here hx rfl (hb hby at_21) rfl (l' := #[vi p0, vj p1, ss, vj p2, ss, vj p3, ss, vj p4, ss, vi (1 : Int32), vr a196, vr a211, vj (0 : Int64), ss, uu, uu]) rfl ?_
      refine XS.iload X206.here hx rfl (hb hby at_23) rfl ?_
      show Steps p.tables e below (T203.setTop (mkF m 25 #[vi p0, vj p1, ss, vj p2, ss, vj p3, ss, vj p4, ss, vi (1 : Int32), vr a196, vr a211, vj (0 : Int64), ss, uu, uu] [(.int (1 : Int32))])) tQ
      refine XS.ifNo X206.here hx rfl (hb hby at_25) rfl (own_if_leN (by decide)) ?_
      refine XS.aload X206.here hx rfl (hb hby at_28) rfl rfl ?_
      refine XS.iconst X206.here hx rfl (hb hby at_30) ?_
      refine XT.lloadN X206.here hx rfl (hb hby at_31) rfl ?_
      exact kk
    clear k219
    obtain ⟨_, _, ⟨T221, L222, kc223, nc224⟩, -, X225, ⟨Lc226, hQ227, l228, y229, z230⟩, st231⟩ := Jvm.LawKit.callS X206 hx (y := mn0) hown (mvT hZ (tw5 hw)) (mvT hZ (tw6 hw)) (mvT hZ (tw7 hw)) (mvT hZ (tw8 hw)) (by decide) (backOf (W := 2) (rmL l Z a0 hw [] p1 h204 n0 Z216 ) hZ (tw8 hw) (tw7 hw) (by decide) (by decide)) (g := (mkF m 32 #[vi p0, vj p1, ss, vj p2, ss, vj p3, ss, vj p4, ss, vi (1 : Int32), vr a196, vr a211, vj (0 : Int64), ss, uu, uu] [(.long p1), (.int (0 : Int32)), (.ref a196)])) rfl (by rw [hml]; rfl) (argsL := [(.long p1)]) (rest := [(.int (0 : Int32)), (.ref a196)]) (lenOf pd_4 rfl) rfl (by show 2 * 0 + _ ≤ _; exact Nat.le_of_eq rfl) (hb hby at_32) (fun _ _ => ⟨rfl, e207, (by decide : 2 + 0 ≤ _), (by decide : 2 + 0 ≤ _)⟩)
    dsimp only [Pt.U, Pt.locs, Pt.cells, Pt.slots] at X225 l228 y229 z230 st231 hQ227
    subst y229 z230
    obtain ⟨rfl, N232, e233⟩ := hQ227
    have N235 : Fr n0 L222 := by rw [l228]; exact Fr.app N0 N232
    clear l228 N232
    have k236 : own_G p e below E0 T221 (mkF m 35 #[vi p0, vj p1, ss, vj p2, ss, vj p3, ss, vj p4, ss, vi (1 : Int32), vr a196, vr a211, vj (0 : Int64), ss, uu, uu] [(.int (own_lo p1)), (.int (0 : Int32)), (.ref a196)]) := fun tQ kk => k220 tQ (st231 _ kk)
    clear k220 st231
    have k237 : own_G p e below E0 T221 (mkF m 36 #[vi p0, vj p1, ss, vj p2, ss, vj p3, ss, vj p4, ss, vi (1 : Int32), vr a196, vr a211, vj (0 : Int64), ss, uu, uu] [(.double (FP.i2d (own_lo p1))), (.int (0 : Int32)), (.ref a196)]) := by
      intro tQ kk
      refine k236 tQ ?_
      refine XS.i2dS X225.here hx rfl (hb hby at_35) rfl rfl ?_
      exact kk
    clear k236
    obtain ⟨T238, h239, X240, e241, W242, F243, st244⟩ := own_A.dst X225 hx hZ e233 F217 (j := (0 : Int32)) (by decide) rfl (g := (mkF m 36 #[vi p0, vj p1, ss, vj p2, ss, vj p3, ss, vj p4, ss, vi (1 : Int32), vr a196, vr a211, vj (0 : Int64), ss, uu, uu] [(.double (FP.i2d (own_lo p1))), (.int (0 : Int32)), (.ref a196)])) rfl rfl (hb hby at_36)
    have N245 := Fr.snoc X240 N235 ge198
    have k246 : own_G p e below E0 T238 (mkF m 37 #[vi p0, vj p1, ss, vj p2, ss, vj p3, ss, vj p4, ss, vi (1 : Int32), vr a196, vr a211, vj (0 : Int64), ss, uu, uu] []) := fun tQ kk => k237 tQ (st244 _ kk)
    clear k237 st244
    have F247 : own_A Z h239 a211 .double [(.double (0 : UInt64))] := F218.other W242 n214
    clear F218
    have Z248 : n0 ≤ h239.size := by rw [W242.size]; exact Z216
    have F249 : own_A Z h239 a196 .double [(.double (FP.i2d (own_lo p1)))] := F243
    have k250 : own_G p e below E0 T238 (mkF m 41 #[vi p0, vj p1, ss, vj p2, ss, vj p3, ss, vj p4, ss, vi (1 : Int32), vr a196, vr a211, vj (0 : Int64), ss, uu, uu] [(.long p1), (.int (0 : Int32)), (.ref a211)]) := by
      intro tQ kk
      refine k246 tQ ?_
      refine XS.aload X240.here hx rfl (hb hby at_37) rfl rfl ?_
      refine XS.iconst X240.here hx rfl (hb hby at_39) ?_
      refine XT.lloadN X240.here hx rfl (hb hby at_40) rfl ?_
      exact kk
    clear k246
    obtain ⟨_, _, ⟨T251, L252, kc253, nc254⟩, -, X255, ⟨Lc256, hQ257, l258, y259, z260⟩, st261⟩ := Jvm.LawKit.callS X240 hx (y := mn1) hown (mvT hZ (tw10 hw)) (mvT hZ (tw11 hw)) (mvT hZ (tw7 hw)) (mvT hZ (tw12 hw)) (by decide) (backOf (W := 2) (rmH l Z a0 hw [] p1 h239 n0 Z248 ) hZ (tw12 hw) (tw7 hw) (by decide) (by decide)) (g := (mkF m 41 #[vi p0, vj p1, ss, vj p2, ss, vj p3, ss, vj p4, ss, vi (1 : Int32), vr a196, vr a211, vj (0 : Int64), ss, uu, uu] [(.long p1), (.int (0 : Int32)), (.ref a211)])) rfl (by rw [hml]; rfl) (argsL := [(.long p1)]) (rest := [(.int (0 : Int32)), (.ref a211)]) (lenOf pd_4 rfl) rfl (by show 2 * 0 + _ ≤ _; exact Nat.le_of_eq rfl) (hb hby at_41) (fun _ _ => ⟨rfl, e241, (by decide : 2 + 0 ≤ _), (by decide : 2 + 0 ≤ _)⟩)
    dsimp only [Pt.U, Pt.locs, Pt.cells, Pt.slots] at X255 l258 y259 z260 st261 hQ257
    subst y259 z260
    obtain ⟨rfl, N262, e263⟩ := hQ257
    have N265 : Fr n0 L252 := by rw [l258]; exact Fr.app N245 N262
    clear l258 N262
    have k266 : own_G p e below E0 T251 (mkF m 44 #[vi p0, vj p1, ss, vj p2, ss, vj p3, ss, vj p4, ss, vi (1 : Int32), vr a196, vr a211, vj (0 : Int64), ss, uu, uu] [(.int (own_hi p1)), (.int (0 : Int32)), (.ref a211)]) := fun tQ kk => k250 tQ (st261 _ kk)
    clear k250 st261
    have k267 : own_G p e below E0 T251 (mkF m 45 #[vi p0, vj p1, ss, vj p2, ss, vj p3, ss, vj p4, ss, vi (1 : Int32), vr a196, vr a211, vj (0 : Int64), ss, uu, uu] [(.double (FP.i2d (own_hi p1))), (.int (0 : Int32)), (.ref a211)]) := by
      intro tQ kk
      refine k266 tQ ?_
      refine XS.i2dS X255.here hx rfl (hb hby at_44) rfl rfl ?_
      exact kk
    clear k266
    obtain ⟨T268, h269, X270, e271, W272, F273, st274⟩ := own_A.dst X255 hx hZ e263 F247 (j := (0 : Int32)) (by decide) rfl (g := (mkF m 45 #[vi p0, vj p1, ss, vj p2, ss, vj p3, ss, vj p4, ss, vi (1 : Int32), vr a196, vr a211, vj (0 : Int64), ss, uu, uu] [(.double (FP.i2d (own_hi p1))), (.int (0 : Int32)), (.ref a211)])) rfl rfl (hb hby at_45)
    have N275 := Fr.snoc X270 N265 ge215
    have k276 : own_G p e below E0 T268 (mkF m 46 #[vi p0, vj p1, ss, vj p2, ss, vj p3, ss, vj p4, ss, vi (1 : Int32), vr a196, vr a211, vj (0 : Int64), ss, uu, uu] []) := fun tQ kk => k267 tQ (st274 _ kk)
    clear k267 st274
    have F277 : own_A Z h269 a196 .double [(.double (FP.i2d (own_lo p1)))] := F249.other W272 n213
    clear F249
    have Z278 : n0 ≤ h269.size := by rw [W272.size]; exact Z248
    have F279 : own_A Z h269 a211 .double [(.double (FP.i2d (own_hi p1)))] := F273
    have k280 : own_G p e below E0 T268 (mkF m 49 #[vi p0, vj p1, ss, vj p2, ss, vj p3, ss, vj p4, ss, vi (1 : Int32), vr a196, vr a211, vj (0 : Int64), ss, uu, uu] [(.long p1), (.long (0 : Int64))]) := by
      intro tQ kk
      refine k276 tQ ?_
      refine XT.lload X270.here hx rfl (hb hby at_46) rfl ?_
      refine XT.lloadN X270.here hx rfl (hb hby at_48) rfl ?_
      exact kk
    clear k276
    obtain ⟨_, _, ⟨T281, L282, kc283, nc284⟩, -, X285, ⟨Lc286, hQ287, l288, y289, z290⟩, st291⟩ := Jvm.LawKit.callS X270 hx (y := mn0) hown (mvT hZ (tw5 hw)) (mvT hZ (tw6 hw)) (mvT hZ (tw7 hw)) (mvT hZ (tw8 hw)) (by decide) (backOf (W := 2) (rmL l Z a0 hw [] p1 h269 n0 Z278 ) hZ (tw8 hw) (tw7 hw) (by decide) (by decide)) (g := (mkF m 49 #[vi p0, vj p1, ss, vj p2, ss, vj p3, ss, vj p4, ss, vi (1 : Int32), vr a196, vr a211, vj (0 : Int64), ss, uu, uu] [(.long p1), (.long (0 : Int64))])) rfl (by rw [hml]; rfl) (argsL := [(.long p1)]) (rest := [(.long (0 : Int64))]) (lenOf pd_4 rfl) rfl (by show 2 * 0 + _ ≤ _; exact Nat.le_of_eq rfl) (hb hby at_49) (fun _ _ => ⟨rfl, e271, (by decide : 2 + 0 ≤ _), (by decide : 2 + 0 ≤ _)⟩)
    dsimp only [Pt.U, Pt.locs, Pt.cells, Pt.slots] at X285 l288 y289 z290 st291 hQ287
    subst y289 z290
    obtain ⟨rfl, N292, e293⟩ := hQ287
    have N295 : Fr n0 L282 := by rw [l288]; exact Fr.app N275 N292
    clear l288 N292
    have k296 : own_G p e below E0 T281 (mkF m 52 #[vi p0, vj p1, ss, vj p2, ss, vj p3, ss, vj p4, ss, vi (1 : Int32), vr a196, vr a211, vj (0 : Int64), ss, uu, uu] [(.int (own_lo p1)), (.long (0 : Int64))]) := fun tQ kk => k280 tQ (st291 _ kk)
    clear k280 st291
    have k297 : own_G p e below E0 T281 (mkF m 54 #[vi p0, vj p1, ss, vj p2, ss, vj p3, ss, vj p4, ss, vi (1 : Int32), vr a196, vr a211, vj (0 : Int64), ss, uu, uu] [(.long p1), (.long ((own_lo p1).toInt64)), (.long (0 : Int64))]) := by
      intro tQ kk
      refine k296 tQ ?_
      refine XT.i2l X285.here hx rfl (hb hby at_52) rfl ?_
      refine XT.lloadN X285.here hx rfl (hb hby at_53) rfl ?_
      exact kk
    clear k296
    obtain ⟨_, _, ⟨T298, L299, kc300, nc301⟩, -, X302, ⟨Lc303, hQ304, l305, y306, z307⟩, st308⟩ := Jvm.LawKit.callS X285 hx (y := mn1) hown (mvT hZ (tw10 hw)) (mvT hZ (tw11 hw)) (mvT hZ (tw7 hw)) (mvT hZ (tw12 hw)) (by decide) (backOf (W := 4) (rmH l Z a0 hw [] p1 h269 n0 Z278 ) hZ (tw12 hw) (tw7 hw) (by decide) (by decide)) (g := (mkF m 54 #[vi p0, vj p1, ss, vj p2, ss, vj p3, ss, vj p4, ss, vi (1 : Int32), vr a196, vr a211, vj (0 : Int64), ss, uu, uu] [(.long p1), (.long ((own_lo p1).toInt64)), (.long (0 : Int64))])) rfl (by rw [hml]; rfl) (argsL := [(.long p1)]) (rest := [(.long ((own_lo p1).toInt64)), (.long (0 : Int64))]) (lenOf pd_4 rfl) rfl (by show 2 * 0 + _ ≤ _; exact Nat.le_of_eq rfl) (hb hby at_54) (fun _ _ => ⟨rfl, e293, (by decide : 2 + 0 ≤ _), (by decide : 2 + 0 ≤ _)⟩)
    dsimp only [Pt.U, Pt.locs, Pt.cells, Pt.slots] at X302 l305 y306 z307 st308 hQ304
    subst y306 z307
    obtain ⟨rfl, N309, e310⟩ := hQ304
    have N312 : Fr n0 L299 := by rw [l305]; exact Fr.app N295 N309
    clear l305 N309
    have k313 : own_G p e below E0 T298 (mkF m 57 #[vi p0, vj p1, ss, vj p2, ss, vj p3, ss, vj p4, ss, vi (1 : Int32), vr a196, vr a211, vj (0 : Int64), ss, uu, uu] [(.int (own_hi p1)), (.long ((own_lo p1).toInt64)), (.long (0 : Int64))]) := fun tQ kk => k297 tQ (st308 _ kk)
    clear k297 st308
    have k314 : own_G p e below E0 T298 (mkF m 194 #[vi p0, vj p1, ss, vj p2, ss, vj p3, ss, vj p4, ss, vi (1 : Int32), vr a196, vr a211, vj ((0 : Int64) + (((own_lo p1).toInt64) * ((own_hi p1).toInt64))), ss, uu, uu] [(.ref a211), (.ref a196)]) := by
      intro tQ kk
      refine k313 tQ ?_
      refine XT.i2l X302.here hx rfl (hb hby at_57) rfl ?_
      refine XT.lmul X302.here hx rfl (hb hby at_58) rfl ?_
      refine XT.ladd X302.here hx rfl (hb hby at_59) rfl ?_
      refine XT.lstore X302.here hx rfl (hb hby at_60) rfl (l' := #[vi p0, vj p1, ss, vj p2, ss, vj p3, ss, vj p4, ss, vi (1 : Int32), vr a196, vr a211, vj ((0 : Int64) + (((own_lo p1).toInt64) * ((own_hi p1).toInt64))), ss, uu, uu]) rfl ?_
      show Steps p.tables e below (T298.setTop (mkF m 62 #[vi p0, vj p1, ss, vj p2, ss, vj p3, ss, vj p4, ss, vi (1 : Int32), vr a196, vr a211, vj ((0 : Int64) + (((own_lo p1).toInt64) * ((own_hi p1).toInt64))), ss, uu, uu] [])) tQ
      refine XS.iload X302.here hx rfl (hb hby at_62) rfl ?_
      refine XS.iconst X302.here hx rfl (hb hby at_64) ?_
      refine XS.icmpYes X302.here hx rfl (pc0 := 65) (pc' := 102) rfl (hb hby at_65) rfl (own_ic_leY (by decide)) (by decide) (by decide) ?_
      refine XS.iload X302.here hx rfl (hb hby at_102) rfl ?_
      show Steps p.tables e below (T298.setTop (mkF m 104 #[vi p0, vj p1, ss, vj p2, ss, vj p3, ss, vj p4, ss, vi (1 : Int32), vr a196, vr a211, vj ((0 : Int64) + (((own_lo p1).toInt64) * ((own_hi p1).toInt64))), ss, uu, uu] [(.int (1 : Int32))])) tQ
      refine XS.iconst X302.here hx rfl (hb hby at_104) ?_
      refine XS.icmpYes X302.here hx rfl (pc0 := 105) (pc' := 146) rfl (hb hby at_105) rfl (own_ic_leY (by decide)) (by decide) (by decide) ?_
      refine XS.iload X302.here hx rfl (hb hby at_146) rfl ?_
      refine XS.iconst X302.here hx rfl (hb hby at_148) ?_
      show Steps p.tables e below (T298.setTop (mkF m 149 #[vi p0, vj p1, ss, vj p2, ss, vj p3, ss, vj p4, ss, vi (1 : Int32), vr a196, vr a211, vj ((0 : Int64) + (((own_lo p1).toInt64) * ((own_hi p1).toInt64))), ss, uu, uu] [(.int (3 : Int32)), (.int (1 : Int32))])) tQ
      refine XS.icmpYes X302.here hx rfl (pc0 := 149) (pc' := 190) rfl (hb hby at_149) rfl (own_ic_leY (by decide)) (by decide) (by decide) ?_
      refine XS.aload X302.here hx rfl (hb hby at_190) rfl rfl ?_
      refine XS.aload X302.here hx rfl (hb hby at_192) rfl rfl ?_
      exact kk
    clear k313
    obtain ⟨_, _, ⟨T315, L316, kc317, nc318⟩, -, X319, ⟨Lc320, hQ321, l322, y323, z324⟩, st325⟩ := Jvm.LawKit.callS X302 hx (y := mn2) hown (mvT hZ (tw1 hw)) (mvT hZ (tw2 hw)) (mvT hZ (tw3 hw)) (mvT hZ (tw4 hw)) (by decide) (backOf (W := 0) (rmV1 l Z a0 hw [] a196 a211 (FP.i2d (own_lo p1)) (FP.i2d (own_hi p1)) (own_lo p1).toInt (own_hi p1).toInt h269 n0 Z278 F277 F279 (FP.Core.i2d_int (own_lo p1)) (FP.Core.i2d_int (own_hi p1)) (own_lob p1) (own_hib p1)) hZ (tw4 hw) (tw3 hw) (by decide) (by decide)) (g := (mkF m 194 #[vi p0, vj p1, ss, vj p2, ss, vj p3, ss, vj p4, ss, vi (1 : Int32), vr a196, vr a211, vj ((0 : Int64) + (((own_lo p1).toInt64) * ((own_hi p1).toInt64))), ss, uu, uu] [(.ref a211), (.ref a196)])) rfl (by rw [hml]; rfl) (argsL := [(.ref a196), (.ref a211)]) (rest := []) (lenOf pd_3 rfl) rfl (by show 2 * 0 + _ ≤ _; exact Nat.le_of_eq rfl) (hb hby at_194) (fun _ _ => ⟨rfl, e310, (by decide : 2 + 0 ≤ _), (by decide : 2 + 0 ≤ _)⟩)
    dsimp only [Pt.U, Pt.locs, Pt.cells, Pt.slots] at X319 l322 y323 z324 st325 hQ321
    subst y323 z324
    obtain ⟨r329, rfl, N326, e327, g330⟩ := hQ321
    have N331 : Fr n0 L316 := by rw [l322]; exact Fr.app N312 N326
    clear l322 N326
    have k332 : own_G p e below E0 T315 (mkF m 197 #[vi p0, vj p1, ss, vj p2, ss, vj p3, ss, vj p4, ss, vi (1 : Int32), vr a196, vr a211, vj ((0 : Int64) + (((own_lo p1).toInt64) * ((own_hi p1).toInt64))), ss, uu, uu] [(.double r329)]) := fun tQ kk => k314 tQ (st325 _ kk)
    clear k314 st325
    have k333 : own_G p e below E0 T315 (mkF m 213 #[vi p0, vj p1, ss, vj p2, ss, vj p3, ss, vj p4, ss, vi (1 : Int32), vr a196, vr a211, vj ((0 : Int64) + (((own_lo p1).toInt64) * ((own_hi p1).toInt64))), ss, vd r329, ss] [(.int (1 : Int32))]) := by
      intro tQ kk
      refine k332 tQ ?_
      refine XS.dstore X319.here hx rfl (hb hby at_197) rfl (l' := #[vi p0, vj p1, ss, vj p2, ss, vj p3, ss, vj p4, ss, vi (1 : Int32), vr a196, vr a211, vj ((0 : Int64) + (((own_lo p1).toInt64) * ((own_hi p1).toInt64))), ss, vd r329, ss]) rfl ?_
      refine XS.dload X319.here hx rfl (hb hby at_199) rfl ?_
      refine XT.lload X319.here hx rfl (hb hby at_201) rfl ?_
      refine XS.l2dS X319.here hx rfl (hb hby at_203) rfl rfl ?_
      show Steps p.tables e below (T315.setTop (mkF m 204 #[vi p0, vj p1, ss, vj p2, ss, vj p3, ss, vj p4, ss, vi (1 : Int32), vr a196, vr a211, vj ((0 : Int64) + (((own_lo p1).toInt64) * ((own_hi p1).toInt64))), ss, vd r329, ss] [(.double (FP.l2d ((0 : Int64) + (((own_lo p1).toInt64) * ((own_hi p1).toInt64))))), (.double r329)])) tQ
      refine XS.dcmpS (v := (0 : Int32)) X319.here hx rfl (hb hby at_204) rfl (own_eq0 .l g330 (own_dl _ (own_ra (show (0 : Int64).toInt = 0 from rfl) (by have := own_p6 (own_lob p1) (own_hib p1); have := own_p6 (own_lob p2) (own_hib p2); have := own_p6 (own_lob p3) (own_hib p3); have := own_p6 (own_lob p4) (own_hib p4); omega) (own_lob p1) (own_hib p1)) (own_s6 (by have := own_p6 (own_lob p1) (own_hib p1); have := own_p6 (own_lob p2) (own_hib p2); have := own_p6 (own_lob p3) (own_hib p3); have := own_p6 (own_lob p4) (own_hib p4); omega) (by have := own_p6 (own_lob p1) (own_hib p1); have := own_p6 (own_lob p2) (own_hib p2); have := own_p6 (own_lob p3) (own_hib p3); have := own_p6 (own_lob p4) (own_hib p4); omega)))) ?_
      refine XS.ifNo X319.here hx rfl (hb hby at_205) rfl (own_if_neN (by decide)) ?_
      refine XS.iconst X319.here hx rfl (hb hby at_208) ?_
      refine XS.goto X319.here hx rfl (pc0 := 209) (pc' := 213) rfl (hb hby at_209) (by decide) (by decide) ?_
      exact kk
    clear k332
    obtain ⟨fs, hr, hrun, hended, hW, hsame⟩ := X319.leave (v := some (.int (1 : Int32))) (fun h => by rw [Bd.returns] at h; cases h)
    have hrun0 := k333 _ (retOut X319 hx Bd.returns (t := .boolean) rfl (Or.inl ⟨rfl, Or.inr (Or.inl rfl), _, rfl⟩) (hb hby at_213) hr)
    subst hE0
    refine ⟨_, _, hrun0, hrun, hended, _, _, rfl, ?_, ⟨_, rfl⟩, hW, hsame.mono (by decide) (by decide)⟩
    show Qrm0 Z p0 p1 p2 p3 p4 h0 n0 _ T315.heap _
    rw [e327]
    exact ⟨rfl, N331⟩
  · skip
    have k334 : own_G p e below E0 s₁ (mkF m 10 #[vi p0, vj p1, ss, vj p2, ss, vj p3, ss, vj p4, ss, vi (2 : Int32), uu, uu, uu, uu, uu, uu] [(.int (2 : Int32))]) := by
      intro tQ kk
      refine k133 tQ ?_
      refine XS.istore X0.here hx rfl (hb hby at_6) rfl (l' := #[vi p0, vj p1, ss, vj p2, ss, vj p3, ss, vj p4, ss, vi (2 : Int32), uu, uu, uu, uu, uu, uu]) rfl ?_
      refine XS.iload X0.here hx rfl (hb hby at_8) rfl ?_
      exact kk
    clear k133
    obtain ⟨T335, h336, cA337, X338, e339, E340, A341, st342⟩ := newP (aty := .double) X0 hx hZ (tw0 hw) e0 (g := (mkF m 10 #[vi p0, vj p1, ss, vj p2, ss, vj p3, ss, vj p4, ss, vi (2 : Int32), uu, uu, uu, uu, uu, uu] [(.int (2 : Int32))])) rfl (hb hby at_10) rfl (by decide) (cap := 2) (by decide) (by decide) (by decide) (by decide)
    obtain ⟨a343, g344⟩ : ∃ zA : Nat, zA = h0.size := ⟨_, rfl⟩
    rw [← g344] at A341 st342
    have ge345 : n0 ≤ a343 := own_ge_of Z0 g344
    have Z346 : n0 ≤ h336.size := Nat.le_trans Z0 E340.1
    have F347 : own_A Z h336 a343 .double [(.double (0 : UInt64)), (.double (0 : UInt64))] := own_A.new A341
    have k348 : own_G p e below E0 T335 (mkF m 12 #[vi p0, vj p1, ss, vj p2, ss, vj p3, ss, vj p4, ss, vi (2 : Int32), uu, uu, uu, uu, uu, uu] [(.ref a343)]) := fun tQ kk => k334 tQ (st342 _ kk)
    clear k334 st342
    have k349 : own_G p e below E0 T335 (mkF m 16 #[vi p0, vj p1, ss, vj p2, ss, vj p3, ss, vj p4, ss, vi (2 : Int32), vr a343, uu, uu, uu, uu, uu] [(.int (2 : Int32))]) := by
      intro tQ kk
      refine k348 tQ ?_
      refine XS.astore X338.here hx rfl (hb hby at_12) rfl rfl (l' := #[vi p0, vj p1, ss, vj p2, ss, vj p3, ss, vj p4, ss, vi (2 : Int32), vr a343, uu, uu, uu, uu, uu]) rfl ?_
      refine XS.iload X338.here hx rfl (hb hby at_14) rfl ?_
      exact kk
    clear k348
    obtain ⟨T350, h351, cA352, X353, e354, E355, A356, st357⟩ := newP (aty := .double) X338 hx hZ (tw0 hw) e339 (g := (mkF m 16 #[vi p0, vj p1, ss, vj p2, ss, vj p3, ss, vj p4, ss, vi (2 : Int32), vr a343, uu, uu, uu, uu, uu] [(.int (2 : Int32))])) rfl (hb hby at_16) rfl (by decide) (cap := 2) (by decide) (by decide) (by decide) (by decide)
    obtain ⟨a358, g359⟩ : ∃ zA : Nat, zA = h336.size := ⟨_, rfl⟩
    rw [← g359] at A356 st357
    have n360 : a343 ≠ a358 := own_lt_ne F347.lt g359
    have n361 : a358 ≠ a343 := fun q => n360 q.symm
    have ge362 : n0 ≤ a358 := own_ge_of Z346 g359
    have Z363 : n0 ≤ h351.size := Nat.le_trans Z346 E355.1
    have F364 : own_A Z h351 a343 .double [(.double (0 : UInt64)), (.double (0 : UInt64))] := F347.ext E355
    clear F347
    have F365 : own_A Z h351 a358 .double [(.double (0 : UInt64)), (.double (0 : UInt64))] := own_A.new A356
    have k366 : own_G p e below E0 T350 (mkF m 18 #[vi p0, vj p1, ss, vj p2, ss, vj p3, ss, vj p4, ss, vi (2 : Int32), vr a343, uu, uu, uu, uu, uu] [(.ref a358)]) := fun tQ kk => k349 tQ (st357 _ kk)
    clear k349 st357
    have k367 : own_G p e below E0 T350 (mkF m 32 #[vi p0, vj p1, ss, vj p2, ss, vj p3, ss, vj p4, ss, vi (2 : Int32), vr a343, vr a358, vj (0 : Int64), ss, uu, uu] [(.long p1), (.int (0 : Int32)), (.ref a343)]) := by
      intro tQ kk
      refine k366 tQ ?_
      refine XS.astore X353.here hx rfl (hb hby at_18) rfl rfl (l' := #[vi p0, vj p1, ss, vj p2, ss, vj p3, ss, vj p4, ss, vi (2 : Int32), vr a343, vr a358, uu, uu, uu, uu]) rfl ?_
      refine XT.lconst X353.here hx rfl (hb hby at_20) ?_
      refine XT.lstore X353.here hx rfl (hb hby at_21) rfl (l' := #[vi p0, vj p1, ss, vj p2, ss, vj p3, ss, vj p4, ss, vi (2 : Int32), vr a343, vr a358, vj (0 : Int64), ss, uu, uu]) rfl ?_
      refine XS.iload X353.here hx rfl (hb hby at_23) rfl ?_
      show Steps p.tables e below (T350.setTop (mkF m 25 #[vi p0, vj p1, ss, vj p2, ss, vj p3, ss, vj p4, ss, vi (2 : Int32), vr a343, vr a358, vj (0 : Int64), ss, uu, uu] [(.int (2 : Int32))])) tQ
      refine XS.ifNo X353.here hx rfl (hb hby at_25) rfl (own_if_leN (by decide)) ?_
      refine XS.aload X353.here hx rfl (hb hby at_28) rfl rfl ?_
      refine XS.iconst X353.here hx rfl (hb hby at_30) ?_
      refine XT.lloadN X353.here hx rfl (hb hby at_31) rfl ?_
      exact kk
    clear k366
    obtain ⟨_, _, ⟨T368, L369, kc370, nc371⟩, -, X372, ⟨Lc373, hQ374, l375, y376, z377⟩, st378⟩ := Jvm.LawKit.callS X353 hx (y := mn0) hown (mvT hZ (tw5 hw)) (mvT hZ (tw6 hw)) (mvT hZ (tw7 hw)) (mvT hZ (tw8 hw)) (by decide) (backOf (W := 2) (rmL l Z a0 hw [] p1 h351 n0 Z363 ) hZ (tw8 hw) (tw7 hw) (by decide) (by decide)) (g := (mkF m 32 #[vi p0, vj p1, ss, vj p2, ss, vj p3, ss, vj p4, ss, vi (2 : Int32), vr a343, vr a358, vj (0 : Int64), ss, uu, uu] [(.long p1), (.int (0 : Int32)), (.ref a343)])) rfl (by rw [hml]; rfl) (argsL := [(.long p1)]) (rest := [(.int (0 : Int32)), (.ref a343)]) (lenOf pd_4 rfl) rfl (by show 2 * 0 + _ ≤ _; exact Nat.le_of_eq rfl) (hb hby at_32) (fun _ _ => ⟨rfl, e354, (by decide : 2 + 0 ≤ _), (by decide : 4 + 0 ≤ _)⟩)
    dsimp only [Pt.U, Pt.locs, Pt.cells, Pt.slots] at X372 l375 y376 z377 st378 hQ374
    subst y376 z377
    obtain ⟨rfl, N379, e380⟩ := hQ374
    have N382 : Fr n0 L369 := by rw [l375]; exact Fr.app N0 N379
    clear l375 N379
    have k383 : own_G p e below E0 T368 (mkF m 35 #[vi p0, vj p1, ss, vj p2, ss, vj p3, ss, vj p4, ss, vi (2 : Int32), vr a343, vr a358, vj (0 : Int64), ss, uu, uu] [(.int (own_lo p1)), (.int (0 : Int32)), (.ref a343)]) := fun tQ kk => k367 tQ (st378 _ kk)
    clear k367 st378
    have k384 : own_G p e below E0 T368 (mkF m 36 #[vi p0, vj p1, ss, vj p2, ss, vj p3, ss, vj p4, ss, vi (2 : Int32), vr a343, vr a358, vj (0 : Int64), ss, uu, uu] [(.double (FP.i2d (own_lo p1))), (.int (0 : Int32)), (.ref a343)]) := by
      intro tQ kk
      refine k383 tQ ?_
      refine XS.i2dS X372.here hx rfl (hb hby at_35) rfl rfl ?_
      exact kk
    clear k383
    obtain ⟨T385, h386, X387, e388, W389, F390, st391⟩ := own_A.dst X372 hx hZ e380 F364 (j := (0 : Int32)) (by decide) rfl (g := (mkF m 36 #[vi p0, vj p1, ss, vj p2, ss, vj p3, ss, vj p4, ss, vi (2 : Int32), vr a343, vr a358, vj (0 : Int64), ss, uu, uu] [(.double (FP.i2d (own_lo p1))), (.int (0 : Int32)), (.ref a343)])) rfl rfl (hb hby at_36)
    have N392 := Fr.snoc X387 N382 ge345
    have k393 : own_G p e below E0 T385 (mkF m 37 #[vi p0, vj p1, ss, vj p2, ss, vj p3, ss, vj p4, ss, vi (2 : Int32), vr a343, vr a358, vj (0 : Int64), ss, uu, uu] []) := fun tQ kk => k384 tQ (st391 _ kk)
    clear k384 st391
    have F394 : own_A Z h386 a358 .double [(.double (0 : UInt64)), (.double (0 : UInt64))] := F365.other W389 n361
    clear F365
    have Z395 : n0 ≤ h386.size := by rw [W389.size]; exact Z363
    have F396 : own_A Z h386 a343 .double [(.double (FP.i2d (own_lo p1))), (.double (0 : UInt64))] := F390
    have k397 : own_G p e below E0 T385 (mkF m 41 #[vi p0, vj p1, ss, vj p2, ss, vj p3, ss, vj p4, ss, vi (2 : Int32), vr a343, vr a358, vj (0 : Int64), ss, uu, uu] [(.long p1), (.int (0 : Int32)), (.ref a358)]) := by
      intro tQ kk
      refine k393 tQ ?_
      refine XS.aload X387.here hx rfl (hb hby at_37) rfl rfl ?_
      refine XS.iconst X387.here hx rfl (hb hby at_39) ?_
      refine XT.lloadN X387.here hx rfl (hb hby at_40) rfl ?_
      exact kk
    clear k393
    obtain ⟨_, _, ⟨T398, L399, kc400, nc401⟩, -, X402, ⟨Lc403, hQ404, l405, y406, z407⟩, st408⟩ := Jvm.LawKit.callS X387 hx (y := mn1) hown (mvT hZ (tw10 hw)) (mvT hZ (tw11 hw)) (mvT hZ (tw7 hw)) (mvT hZ (tw12 hw)) (by decide) (backOf (W := 2) (rmH l Z a0 hw [] p1 h386 n0 Z395 ) hZ (tw12 hw) (tw7 hw) (by decide) (by decide)) (g := (mkF m 41 #[vi p0, vj p1, ss, vj p2, ss, vj p3, ss, vj p4, ss, vi (2 : Int32), vr a343, vr a358, vj (0 : Int64), ss, uu, uu] [(.long p1), (.int (0 : Int32)), (.ref a358)])) rfl (by rw [hml]; rfl) (argsL := [(.long p1)]) (rest := [(.int (0 : Int32)), (.ref a358)]) (lenOf pd_4 rfl) rfl (by show 2 * 0 + _ ≤ _; exact Nat.le_of_eq rfl) (hb hby at_41) (fun _ _ => ⟨rfl, e388, (by decide : 2 + 0 ≤ _), (by decide : 4 + 0 ≤ _)⟩)
    dsimp only [Pt.U, Pt.locs, Pt.cells, Pt.slots] at X402 l405 y406 z407 st408 hQ404
    subst y406 z407
    obtain ⟨rfl, N409, e410⟩ := hQ404
    have N412 : Fr n0 L399 := by rw [l405]; exact Fr.app N392 N409
    clear l405 N409
    have k413 : own_G p e below E0 T398 (mkF m 44 #[vi p0, vj p1, ss, vj p2, ss, vj p3, ss, vj p4, ss, vi (2 : Int32), vr a343, vr a358, vj (0 : Int64), ss, uu, uu] [(.int (own_hi p1)), (.int (0 : Int32)), (.ref a358)]) := fun tQ kk => k397 tQ (st408 _ kk)
    clear k397 st408
    have k414 : own_G p e below E0 T398 (mkF m 45 #[vi p0, vj p1, ss, vj p2, ss, vj p3, ss, vj p4, ss, vi (2 : Int32), vr a343, vr a358, vj (0 : Int64), ss, uu, uu] [(.double (FP.i2d (own_hi p1))), (.int (0 : Int32)), (.ref a358)]) := by
      intro tQ kk
      refine k413 tQ ?_
      refine XS.i2dS X402.here hx rfl (hb hby at_44) rfl rfl ?_
      exact kk
    clear k413
    obtain ⟨T415, h416, X417, e418, W419, F420, st421⟩ := own_A.dst X402 hx hZ e410 F394 (j := (0 : Int32)) (by decide) rfl (g := (mkF m 45 #[vi p0, vj p1, ss, vj p2, ss, vj p3, ss, vj p4, ss, vi (2 : Int32), vr a343, vr a358, vj (0 : Int64), ss, uu, uu] [(.double (FP.i2d (own_hi p1))), (.int (0 : Int32)), (.ref a358)])) rfl rfl (hb hby at_45)
    have N422 := Fr.snoc X417 N412 ge362
    have k423 : own_G p e below E0 T415 (mkF m 46 #[vi p0, vj p1, ss, vj p2, ss, vj p3, ss, vj p4, ss, vi (2 : Int32), vr a343, vr a358, vj (0 : Int64), ss, uu, uu] []) := fun tQ kk => k414 tQ (st421 _ kk)
    clear k414 st421
    have F424 : own_A Z h416 a343 .double [(.double (FP.i2d (own_lo p1))), (.double (0 : UInt64))] := F396.other W419 n360
    clear F396
    have Z425 : n0 ≤ h416.size := by rw [W419.size]; exact Z395
    have F426 : own_A Z h416 a358 .double [(.double (FP.i2d (own_hi p1))), (.double (0 : UInt64))] := F420
    have k427 : own_G p e below E0 T415 (mkF m 49 #[vi p0, vj p1, ss, vj p2, ss, vj p3, ss, vj p4, ss, vi (2 : Int32), vr a343, vr a358, vj (0 : Int64), ss, uu, uu] [(.long p1), (.long (0 : Int64))]) := by
      intro tQ kk
      refine k423 tQ ?_
      refine XT.lload X417.here hx rfl (hb hby at_46) rfl ?_
      refine XT.lloadN X417.here hx rfl (hb hby at_48) rfl ?_
      exact kk
    clear k423
    obtain ⟨_, _, ⟨T428, L429, kc430, nc431⟩, -, X432, ⟨Lc433, hQ434, l435, y436, z437⟩, st438⟩ := Jvm.LawKit.callS X417 hx (y := mn0) hown (mvT hZ (tw5 hw)) (mvT hZ (tw6 hw)) (mvT hZ (tw7 hw)) (mvT hZ (tw8 hw)) (by decide) (backOf (W := 2) (rmL l Z a0 hw [] p1 h416 n0 Z425 ) hZ (tw8 hw) (tw7 hw) (by decide) (by decide)) (g := (mkF m 49 #[vi p0, vj p1, ss, vj p2, ss, vj p3, ss, vj p4, ss, vi (2 : Int32), vr a343, vr a358, vj (0 : Int64), ss, uu, uu] [(.long p1), (.long (0 : Int64))])) rfl (by rw [hml]; rfl) (argsL := [(.long p1)]) (rest := [(.long (0 : Int64))]) (lenOf pd_4 rfl) rfl (by show 2 * 0 + _ ≤ _; exact Nat.le_of_eq rfl) (hb hby at_49) (fun _ _ => ⟨rfl, e418, (by decide : 2 + 0 ≤ _), (by decide : 4 + 0 ≤ _)⟩)
    dsimp only [Pt.U, Pt.locs, Pt.cells, Pt.slots] at X432 l435 y436 z437 st438 hQ434
    subst y436 z437
    obtain ⟨rfl, N439, e440⟩ := hQ434
    have N442 : Fr n0 L429 := by rw [l435]; exact Fr.app N422 N439
    clear l435 N439
    have k443 : own_G p e below E0 T428 (mkF m 52 #[vi p0, vj p1, ss, vj p2, ss, vj p3, ss, vj p4, ss, vi (2 : Int32), vr a343, vr a358, vj (0 : Int64), ss, uu, uu] [(.int (own_lo p1)), (.long (0 : Int64))]) := fun tQ kk => k427 tQ (st438 _ kk)
    clear k427 st438
    have k444 : own_G p e below E0 T428 (mkF m 54 #[vi p0, vj p1, ss, vj p2, ss, vj p3, ss, vj p4, ss, vi (2 : Int32), vr a343, vr a358, vj (0 : Int64), ss, uu, uu] [(.long p1), (.long ((own_lo p1).toInt64)), (.long (0 : Int64))]) := by
      intro tQ kk
      refine k443 tQ ?_
      refine XT.i2l X432.here hx rfl (hb hby at_52) rfl ?_
      refine XT.lloadN X432.here hx rfl (hb hby at_53) rfl ?_
      exact kk
    clear k443
    obtain ⟨_, _, ⟨T445, L446, kc447, nc448⟩, -, X449, ⟨Lc450, hQ451, l452, y453, z454⟩, st455⟩ := Jvm.LawKit.callS X432 hx (y := mn1) hown (mvT hZ (tw10 hw)) (mvT hZ (tw11 hw)) (mvT hZ (tw7 hw)) (mvT hZ (tw12 hw)) (by decide) (backOf (W := 4) (rmH l Z a0 hw [] p1 h416 n0 Z425 ) hZ (tw12 hw) (tw7 hw) (by decide) (by decide)) (g := (mkF m 54 #[vi p0, vj p1, ss, vj p2, ss, vj p3, ss, vj p4, ss, vi (2 : Int32), vr a343, vr a358, vj (0 : Int64), ss, uu, uu] [(.long p1), (.long ((own_lo p1).toInt64)), (.long (0 : Int64))])) rfl (by rw [hml]; rfl) (argsL := [(.long p1)]) (rest := [(.long ((own_lo p1).toInt64)), (.long (0 : Int64))]) (lenOf pd_4 rfl) rfl (by show 2 * 0 + _ ≤ _; exact Nat.le_of_eq rfl) (hb hby at_54) (fun _ _ => ⟨rfl, e440, (by decide : 2 + 0 ≤ _), (by decide : 4 + 0 ≤ _)⟩)
    dsimp only [Pt.U, Pt.locs, Pt.cells, Pt.slots] at X449 l452 y453 z454 st455 hQ451
    subst y453 z454
    obtain ⟨rfl, N456, e457⟩ := hQ451
    have N459 : Fr n0 L446 := by rw [l452]; exact Fr.app N442 N456
    clear l452 N456
    have k460 : own_G p e below E0 T445 (mkF m 57 #[vi p0, vj p1, ss, vj p2, ss, vj p3, ss, vj p4, ss, vi (2 : Int32), vr a343, vr a358, vj (0 : Int64), ss, uu, uu] [(.int (own_hi p1)), (.long ((own_lo p1).toInt64)), (.long (0 : Int64))]) := fun tQ kk => k444 tQ (st455 _ kk)
    clear k444 st455
    have k461 : own_G p e below E0 T445 (mkF m 72 #[vi p0, vj p1, ss, vj p2, ss, vj p3, ss, vj p4, ss, vi (2 : Int32), vr a343, vr a358, vj ((0 : Int64) + (((own_lo p1).toInt64) * ((own_hi p1).toInt64))), ss, uu, uu] [(.long p2), (.int (1 : Int32)), (.ref a343)]) := by
      intro tQ kk
      refine k460 tQ ?_
      refine XT.i2l X449.here hx rfl (hb hby at_57) rfl ?_
      refine XT.lmul X449.here hx rfl (hb hby at_58) rfl ?_
      refine XT.ladd X449.here hx rfl (hb hby at_59) rfl ?_
      refine XT.lstore X449.here hx rfl (hb hby at_60) rfl (l' := #[vi p0, vj p1, ss, vj p2, ss, vj p3, ss, vj p4, ss, vi (2 : Int32), vr a343, vr a358, vj ((0 : Int64) + (((own_lo p1).toInt64) * ((own_hi p1).toInt64))), ss, uu, uu]) rfl ?_
      show Steps p.tables e below (T445.setTop (mkF m 62 #[vi p0, vj p1, ss, vj p2, ss, vj p3, ss, vj p4, ss, vi (2 : Int32), vr a343, vr a358, vj ((0 : Int64) + (((own_lo p1).toInt64) * ((own_hi p1).toInt64))), ss, uu, uu] [])) tQ
      refine XS.iload X449.here hx rfl (hb hby at_62) rfl ?_
      refine XS.iconst X449.here hx rfl (hb hby at_64) ?_
      refine XS.icmpNo X449.here hx rfl (hb hby at_65) rfl (own_ic_leN (by decide)) ?_
      refine XS.aload X449.here hx rfl (hb hby at_68) rfl rfl ?_
      show Steps p.tables e below (T445.setTop (mkF m 70 #[vi p0, vj p1, ss, vj p2, ss, vj p3, ss, vj p4, ss, vi (2 : Int32), vr a343, vr a358, vj ((0 : Int64) + (((own_lo p1).toInt64) * ((own_hi p1).toInt64))), ss, uu, uu] [(.ref a343)])) tQ
      refine XS.iconst X449.here hx rfl (hb hby at_70) ?_
      refine XT.lloadN X449.here hx rfl (hb hby at_71) rfl ?_
      exact kk
    clear k460
    obtain ⟨_, _, ⟨T462, L463, kc464, nc465⟩, -, X466, ⟨Lc467, hQ468, l469, y470, z471⟩, st472⟩ := Jvm.LawKit.callS X449 hx (y := mn0) hown (mvT hZ (tw5 hw)) (mvT hZ (tw6 hw)) (mvT hZ (tw7 hw)) (mvT hZ (tw8 hw)) (by decide) (backOf (W := 2) (rmL l Z a0 hw [] p2 h416 n0 Z425 ) hZ (tw8 hw) (tw7 hw) (by decide) (by decide)) (g := (mkF m 72 #[vi p0, vj p1, ss, vj p2, ss, vj p3, ss, vj p4, ss, vi (2 : Int32), vr a343, vr a358, vj ((0 : Int64) + (((own_lo p1).toInt64) * ((own_hi p1).toInt64))), ss, uu, uu] [(.long p2), (.int (1 : Int32)), (.ref a343)])) rfl (by rw [hml]; rfl) (argsL := [(.long p2)]) (rest := [(.int (1 : Int32)), (.ref a343)]) (lenOf pd_4 rfl) rfl (by show 2 * 0 + _ ≤ _; exact Nat.le_of_eq rfl) (hb hby at_72) (fun _ _ => ⟨rfl, e457, (by decide : 2 + 0 ≤ _), (by decide : 4 + 0 ≤ _)⟩)
    dsimp only [Pt.U, Pt.locs, Pt.cells, Pt.slots] at X466 l469 y470 z471 st472 hQ468
    subst y470 z471
    obtain ⟨rfl, N473, e474⟩ := hQ468
    have N476 : Fr n0 L463 := by rw [l469]; exact Fr.app N459 N473
    clear l469 N473
    have k477 : own_G p e below E0 T462 (mkF m 75 #[vi p0, vj p1, ss, vj p2, ss, vj p3, ss, vj p4, ss, vi (2 : Int32), vr a343, vr a358, vj ((0 : Int64) + (((own_lo p1).toInt64) * ((own_hi p1).toInt64))), ss, uu, uu] [(.int (own_lo p2)), (.int (1 : Int32)), (.ref a343)]) := fun tQ kk => k461 tQ (st472 _ kk)
    clear k461 st472
    have k478 : own_G p e below E0 T462 (mkF m 76 #[vi p0, vj p1, ss, vj p2, ss, vj p3, ss, vj p4, ss, vi (2 : Int32), vr a343, vr a358, vj ((0 : Int64) + (((own_lo p1).toInt64) * ((own_hi p1).toInt64))), ss, uu, uu] [(.double (FP.i2d (own_lo p2))), (.int (1 : Int32)), (.ref a343)]) := by
      intro tQ kk
      refine k477 tQ ?_
      refine XS.i2dS X466.here hx rfl (hb hby at_75) rfl rfl ?_
      exact kk
    clear k477
    obtain ⟨T479, h480, X481, e482, W483, F484, st485⟩ := own_A.dst X466 hx hZ e474 F424 (j := (1 : Int32)) (by decide) rfl (g := (mkF m 76 #[vi p0, vj p1, ss, vj p2, ss, vj p3, ss, vj p4, ss, vi (2 : Int32), vr a343, vr a358, vj ((0 : Int64) + (((own_lo p1).toInt64) * ((own_hi p1).toInt64))), ss, uu, uu] [(.double (FP.i2d (own_lo p2))), (.int (1 : Int32)), (.ref a343)])) rfl rfl (hb hby at_76)
    have N486 := Fr.snoc X481 N476 ge345
    have k487 : own_G p e below E0 T479 (mkF m 77 #[vi p0, vj p1, ss, vj p2, ss, vj p3, ss, vj p4, ss, vi (2 : Int32), vr a343, vr a358, vj ((0 : Int64) + (((own_lo p1).toInt64) * ((own_hi p1).toInt64))), ss, uu, uu] []) := fun tQ kk => k478 tQ (st485 _ kk)
    clear k478 st485
    have F488 : own_A Z h480 a358 .double [(.double (FP.i2d (own_hi p1))), (.double (0 : UInt64))] := F426.other W483 n361
    clear F426
    have Z489 : n0 ≤ h480.size := by rw [W483.size]; exact Z425
    have F490 : own_A Z h480 a343 .double [(.double (FP.i2d (own_lo p1))), (.double (FP.i2d (own_lo p2)))] := F484
    have k491 : own_G p e below E0 T479 (mkF m 81 #[vi p0, vj p1, ss, vj p2, ss, vj p3, ss, vj p4, ss, vi (2 : Int32), vr a343, vr a358, vj ((0 : Int64) + (((own_lo p1).toInt64) * ((own_hi p1).toInt64))), ss, uu, uu] [(.long p2), (.int (1 : Int32)), (.ref a358)]) := by
      intro tQ kk
      refine k487 tQ ?_
      refine XS.aload X481.here hx rfl (hb hby at_77) rfl rfl ?_
      refine XS.iconst X481.here hx rfl (hb hby at_79) ?_
      refine XT.lloadN X481.here hx rfl (hb hby at_80) rfl ?_
      exact kk
    clear k487
    obtain ⟨_, _, ⟨T492, L493, kc494, nc495⟩, -, X496, ⟨Lc497, hQ498, l499, y500, z501⟩, st502⟩ := Jvm.LawKit.callS X481 hx (y := mn1) hown (mvT hZ (tw10 hw)) (mvT hZ (tw11 hw)) (mvT hZ (tw7 hw)) (mvT hZ (tw12 hw)) (by decide) (backOf (W := 2) (rmH l Z a0 hw [] p2 h480 n0 Z489 ) hZ (tw12 hw) (tw7 hw) (by decide) (by decide)) (g := (mkF m 81 #[vi p0, vj p1, ss, vj p2, ss, vj p3, ss, vj p4, ss, vi (2 : Int32), vr a343, vr a358, vj ((0 : Int64) + (((own_lo p1).toInt64) * ((own_hi p1).toInt64))), ss, uu, uu] [(.long p2), (.int (1 : Int32)), (.ref a358)])) rfl (by rw [hml]; rfl) (argsL := [(.long p2)]) (rest := [(.int (1 : Int32)), (.ref a358)]) (lenOf pd_4 rfl) rfl (by show 2 * 0 + _ ≤ _; exact Nat.le_of_eq rfl) (hb hby at_81) (fun _ _ => ⟨rfl, e482, (by decide : 2 + 0 ≤ _), (by decide : 4 + 0 ≤ _)⟩)
    dsimp only [Pt.U, Pt.locs, Pt.cells, Pt.slots] at X496 l499 y500 z501 st502 hQ498
    subst y500 z501
    obtain ⟨rfl, N503, e504⟩ := hQ498
    have N506 : Fr n0 L493 := by rw [l499]; exact Fr.app N486 N503
    clear l499 N503
    have k507 : own_G p e below E0 T492 (mkF m 84 #[vi p0, vj p1, ss, vj p2, ss, vj p3, ss, vj p4, ss, vi (2 : Int32), vr a343, vr a358, vj ((0 : Int64) + (((own_lo p1).toInt64) * ((own_hi p1).toInt64))), ss, uu, uu] [(.int (own_hi p2)), (.int (1 : Int32)), (.ref a358)]) := fun tQ kk => k491 tQ (st502 _ kk)
    clear k491 st502
    have k508 : own_G p e below E0 T492 (mkF m 85 #[vi p0, vj p1, ss, vj p2, ss, vj p3, ss, vj p4, ss, vi (2 : Int32), vr a343, vr a358, vj ((0 : Int64) + (((own_lo p1).toInt64) * ((own_hi p1).toInt64))), ss, uu, uu] [(.double (FP.i2d (own_hi p2))), (.int (1 : Int32)), (.ref a358)]) := by
      intro tQ kk
      refine k507 tQ ?_
      refine XS.i2dS X496.here hx rfl (hb hby at_84) rfl rfl ?_
      exact kk
    clear k507
    obtain ⟨T509, h510, X511, e512, W513, F514, st515⟩ := own_A.dst X496 hx hZ e504 F488 (j := (1 : Int32)) (by decide) rfl (g := (mkF m 85 #[vi p0, vj p1, ss, vj p2, ss, vj p3, ss, vj p4, ss, vi (2 : Int32), vr a343, vr a358, vj ((0 : Int64) + (((own_lo p1).toInt64) * ((own_hi p1).toInt64))), ss, uu, uu] [(.double (FP.i2d (own_hi p2))), (.int (1 : Int32)), (.ref a358)])) rfl rfl (hb hby at_85)
    have N516 := Fr.snoc X511 N506 ge362
    have k517 : own_G p e below E0 T509 (mkF m 86 #[vi p0, vj p1, ss, vj p2, ss, vj p3, ss, vj p4, ss, vi (2 : Int32), vr a343, vr a358, vj ((0 : Int64) + (((own_lo p1).toInt64) * ((own_hi p1).toInt64))), ss, uu, uu] []) := fun tQ kk => k508 tQ (st515 _ kk)
    clear k508 st515
    have F518 : own_A Z h510 a343 .double [(.double (FP.i2d (own_lo p1))), (.double (FP.i2d (own_lo p2)))] := F490.other W513 n360
    clear F490
    have Z519 : n0 ≤ h510.size := by rw [W513.size]; exact Z489
    have F520 : own_A Z h510 a358 .double [(.double (FP.i2d (own_hi p1))), (.double (FP.i2d (own_hi p2)))] := F514
    have k521 : own_G p e below E0 T509 (mkF m 89 #[vi p0, vj p1, ss, vj p2, ss, vj p3, ss, vj p4, ss, vi (2 : Int32), vr a343, vr a358, vj ((0 : Int64) + (((own_lo p1).toInt64) * ((own_hi p1).toInt64))), ss, uu, uu] [(.long p2), (.long ((0 : Int64) + (((own_lo p1).toInt64) * ((own_hi p1).toInt64))))]) := by
      intro tQ kk
      refine k517 tQ ?_
      refine XT.lload X511.here hx rfl (hb hby at_86) rfl ?_
      refine XT.lloadN X511.here hx rfl (hb hby at_88) rfl ?_
      exact kk
    clear k517
    obtain ⟨_, _, ⟨T522, L523, kc524, nc525⟩, -, X526, ⟨Lc527, hQ528, l529, y530, z531⟩, st532⟩ := Jvm.LawKit.callS X511 hx (y := mn0) hown (mvT hZ (tw5 hw)) (mvT hZ (tw6 hw)) (mvT hZ (tw7 hw)) (mvT hZ (tw8 hw)) (by decide) (backOf (W := 2) (rmL l Z a0 hw [] p2 h510 n0 Z519 ) hZ (tw8 hw) (tw7 hw) (by decide) (by decide)) (g := (mkF m 89 #[vi p0, vj p1, ss, vj p2, ss, vj p3, ss, vj p4, ss, vi (2 : Int32), vr a343, vr a358, vj ((0 : Int64) + (((own_lo p1).toInt64) * ((own_hi p1).toInt64))), ss, uu, uu] [(.long p2), (.long ((0 : Int64) + (((own_lo p1).toInt64) * ((own_hi p1).toInt64))))])) rfl (by rw [hml]; rfl) (argsL := [(.long p2)]) (rest := [(.long ((0 : Int64) + (((own_lo p1).toInt64) * ((own_hi p1).toInt64))))]) (lenOf pd_4 rfl) rfl (by show 2 * 0 + _ ≤ _; exact Nat.le_of_eq rfl) (hb hby at_89) (fun _ _ => ⟨rfl, e512, (by decide : 2 + 0 ≤ _), (by decide : 4 + 0 ≤ _)⟩)
    dsimp only [Pt.U, Pt.locs, Pt.cells, Pt.slots] at X526 l529 y530 z531 st532 hQ528
    subst y530 z531
    obtain ⟨rfl, N533, e534⟩ := hQ528
    have N536 : Fr n0 L523 := by rw [l529]; exact Fr.app N516 N533
    clear l529 N533
    have k537 : own_G p e below E0 T522 (mkF m 92 #[vi p0, vj p1, ss, vj p2, ss, vj p3, ss, vj p4, ss, vi (2 : Int32), vr a343, vr a358, vj ((0 : Int64) + (((own_lo p1).toInt64) * ((own_hi p1).toInt64))), ss, uu, uu] [(.int (own_lo p2)), (.long ((0 : Int64) + (((own_lo p1).toInt64) * ((own_hi p1).toInt64))))]) := fun tQ kk => k521 tQ (st532 _ kk)
    clear k521 st532
    have k538 : own_G p e below E0 T522 (mkF m 94 #[vi p0, vj p1, ss, vj p2, ss, vj p3, ss, vj p4, ss, vi (2 : Int32), vr a343, vr a358, vj ((0 : Int64) + (((own_lo p1).toInt64) * ((own_hi p1).toInt64))), ss, uu, uu] [(.long p2), (.long ((own_lo p2).toInt64)), (.long ((0 : Int64) + (((own_lo p1).toInt64) * ((own_hi p1).toInt64))))]) := by
      intro tQ kk
      refine k537 tQ ?_
      refine XT.i2l X526.here hx rfl (hb hby at_92) rfl ?_
      refine XT.lloadN X526.here hx rfl (hb hby at_93) rfl ?_
      exact kk
    clear k537
    obtain ⟨_, _, ⟨T539, L540, kc541, nc542⟩, -, X543, ⟨Lc544, hQ545, l546, y547, z548⟩, st549⟩ := Jvm.LawKit.callS X526 hx (y := mn1) hown (mvT hZ (tw10 hw)) (mvT hZ (tw11 hw)) (mvT hZ (tw7 hw)) (mvT hZ (tw12 hw)) (by decide) (backOf (W := 4) (rmH l Z a0 hw [] p2 h510 n0 Z519 ) hZ (tw12 hw) (tw7 hw) (by decide) (by decide)) (g := (mkF m 94 #[vi p0, vj p1, ss, vj p2, ss, vj p3, ss, vj p4, ss, vi (2 : Int32), vr a343, vr a358, vj ((0 : Int64) + (((own_lo p1).toInt64) * ((own_hi p1).toInt64))), ss, uu, uu] [(.long p2), (.long ((own_lo p2).toInt64)), (.long ((0 : Int64) + (((own_lo p1).toInt64) * ((own_hi p1).toInt64))))])) rfl (by rw [hml]; rfl) (argsL := [(.long p2)]) (rest := [(.long ((own_lo p2).toInt64)), (.long ((0 : Int64) + (((own_lo p1).toInt64) * ((own_hi p1).toInt64))))]) (lenOf pd_4 rfl) rfl (by show 2 * 0 + _ ≤ _; exact Nat.le_of_eq rfl) (hb hby at_94) (fun _ _ => ⟨rfl, e534, (by decide : 2 + 0 ≤ _), (by decide : 4 + 0 ≤ _)⟩)
    dsimp only [Pt.U, Pt.locs, Pt.cells, Pt.slots] at X543 l546 y547 z548 st549 hQ545
    subst y547 z548
    obtain ⟨rfl, N550, e551⟩ := hQ545
    have N553 : Fr n0 L540 := by rw [l546]; exact Fr.app N536 N550
    clear l546 N550
    have k554 : own_G p e below E0 T539 (mkF m 97 #[vi p0, vj p1, ss, vj p2, ss, vj p3, ss, vj p4, ss, vi (2 : Int32), vr a343, vr a358, vj ((0 : Int64) + (((own_lo p1).toInt64) * ((own_hi p1).toInt64))), ss, uu, uu] [(.int (own_hi p2)), (.long ((own_lo p2).toInt64)), (.long ((0 : Int64) + (((own_lo p1).toInt64) * ((own_hi p1).toInt64))))]) := fun tQ kk => k538 tQ (st549 _ kk)
    clear k538 st549
    have k555 : own_G p e below E0 T539 (mkF m 194 #[vi p0, vj p1, ss, vj p2, ss, vj p3, ss, vj p4, ss, vi (2 : Int32), vr a343, vr a358, vj (((0 : Int64) + (((own_lo p1).toInt64) * ((own_hi p1).toInt64))) + (((own_lo p2).toInt64) * ((own_hi p2).toInt64))), ss, uu, uu] [(.ref a358), (.ref a343)]) := by
      intro tQ kk
      refine k554 tQ ?_
      refine XT.i2l X543.here hx rfl (hb hby at_97) rfl ?_
      refine XT.lmul X543.here hx rfl (hb hby at_98) rfl ?_
      refine XT.ladd X543.here hx rfl (hb hby at_99) rfl ?_
      refine XT.lstore X543.here hx rfl (hb hby at_100) rfl (l' := #[vi p0, vj p1, ss, vj p2, ss, vj p3, ss, vj p4, ss, vi (2 : Int32), vr a343, vr a358, vj (((0 : Int64) + (((own_lo p1).toInt64) * ((own_hi p1).toInt64))) + (((own_lo p2).toInt64) * ((own_hi p2).toInt64))), ss, uu, uu]) rfl ?_
      show Steps p.tables e below (T539.setTop (mkF m 102 #[vi p0, vj p1, ss, vj p2, ss, vj p3, ss, vj p4, ss, vi (2 : Int32), vr a343, vr a358, vj (((0 : Int64) + (((own_lo p1).toInt64) * ((own_hi p1).toInt64))) + (((own_lo p2).toInt64) * ((own_hi p2).toInt64))), ss, uu, uu] [])) tQ
      refine XS.iload X543.here hx rfl (hb hby at_102) rfl ?_
      refine XS.iconst X543.here hx rfl (hb hby at_104) ?_
      refine XS.icmpYes X543.here hx rfl (pc0 := 105) (pc' := 146) rfl (hb hby at_105) rfl (own_ic_leY (by decide)) (by decide) (by decide) ?_
      refine XS.iload X543.here hx rfl (hb hby at_146) rfl ?_
      show Steps p.tables e below (T539.setTop (mkF m 148 #[vi p0, vj p1, ss, vj p2, ss, vj p3, ss, vj p4, ss, vi (2 : Int32), vr a343, vr a358, vj (((0 : Int64) + (((own_lo p1).toInt64) * ((own_hi p1).toInt64))) + (((own_lo p2).toInt64) * ((own_hi p2).toInt64))), ss, uu, uu] [(.int (2 : Int32))])) tQ
      refine XS.iconst X543.here hx rfl (hb hby at_148) ?_
      refine XS.icmpYes X543.here hx rfl (pc0 := 149) (pc' := 190) rfl (hb hby at_149) rfl (own_ic_leY (by decide)) (by decide) (by decide) ?_
      refine XS.aload X543.here hx rfl (hb hby at_190) rfl rfl ?_
      refine XS.aload X543.here hx rfl (hb hby at_192) rfl rfl ?_
      exact kk
    clear k554
    obtain ⟨_, _, ⟨T556, L557, kc558, nc559⟩, -, X560, ⟨Lc561, hQ562, l563, y564, z565⟩, st566⟩ := Jvm.LawKit.callS X543 hx (y := mn2) hown (mvT hZ (tw1 hw)) (mvT hZ (tw2 hw)) (mvT hZ (tw3 hw)) (mvT hZ (tw4 hw)) (by decide) (backOf (W := 0) (rmV2 l Z a0 hw [] a343 a358 (FP.i2d (own_lo p1)) (FP.i2d (own_lo p2)) (FP.i2d (own_hi p1)) (FP.i2d (own_hi p2)) (own_lo p1).toInt (own_lo p2).toInt (own_hi p1).toInt (own_hi p2).toInt h510 n0 Z519 F518 F520 (FP.Core.i2d_int (own_lo p1)) (FP.Core.i2d_int (own_hi p1)) (own_lob p1) (own_hib p1) (FP.Core.i2d_int (own_lo p2)) (FP.Core.i2d_int (own_hi p2)) (own_lob p2) (own_hib p2)) hZ (tw4 hw) (tw3 hw) (by decide) (by decide)) (g := (mkF m 194 #[vi p0, vj p1, ss, vj p2, ss, vj p3, ss, vj p4, ss, vi (2 : Int32), vr a343, vr a358, vj (((0 : Int64) + (((own_lo p1).toInt64) * ((own_hi p1).toInt64))) + (((own_lo p2).toInt64) * ((own_hi p2).toInt64))), ss, uu, uu] [(.ref a358), (.ref a343)])) rfl (by rw [hml]; rfl) (argsL := [(.ref a343), (.ref a358)]) (rest := []) (lenOf pd_3 rfl) rfl (by show 2 * 0 + _ ≤ _; exact Nat.le_of_eq rfl) (hb hby at_194) (fun _ _ => ⟨rfl, e551, (by decide : 2 + 0 ≤ _), (by decide : 4 + 0 ≤ _)⟩)
    dsimp only [Pt.U, Pt.locs, Pt.cells, Pt.slots] at X560 l563 y564 z565 st566 hQ562
    subst y564 z565
    obtain ⟨r570, rfl, N567, e568, g571⟩ := hQ562
    have N572 : Fr n0 L557 := by rw [l563]; exact Fr.app N553 N567
    clear l563 N567
    have k573 : own_G p e below E0 T556 (mkF m 197 #[vi p0, vj p1, ss, vj p2, ss, vj p3, ss, vj p4, ss, vi (2 : Int32), vr a343, vr a358, vj (((0 : Int64) + (((own_lo p1).toInt64) * ((own_hi p1).toInt64))) + (((own_lo p2).toInt64) * ((own_hi p2).toInt64))), ss, uu, uu] [(.double r570)]) := fun tQ kk => k555 tQ (st566 _ kk)
    clear k555 st566
    have k574 : own_G p e below E0 T556 (mkF m 213 #[vi p0, vj p1, ss, vj p2, ss, vj p3, ss, vj p4, ss, vi (2 : Int32), vr a343, vr a358, vj (((0 : Int64) + (((own_lo p1).toInt64) * ((own_hi p1).toInt64))) + (((own_lo p2).toInt64) * ((own_hi p2).toInt64))), ss, vd r570, ss] [(.int (1 : Int32))]) := by
      intro tQ kk
      refine k573 tQ ?_
      refine XS.dstore X560.here hx rfl (hb hby at_197) rfl (l' := #[vi p0, vj p1, ss, vj p2, ss, vj p3, ss, vj p4, ss, vi (2 : Int32), vr a343, vr a358, vj (((0 : Int64) + (((own_lo p1).toInt64) * ((own_hi p1).toInt64))) + (((own_lo p2).toInt64) * ((own_hi p2).toInt64))), ss, vd r570, ss]) rfl ?_
      refine XS.dload X560.here hx rfl (hb hby at_199) rfl ?_
      refine XT.lload X560.here hx rfl (hb hby at_201) rfl ?_
      refine XS.l2dS X560.here hx rfl (hb hby at_203) rfl rfl ?_
      show Steps p.tables e below (T556.setTop (mkF m 204 #[vi p0, vj p1, ss, vj p2, ss, vj p3, ss, vj p4, ss, vi (2 : Int32), vr a343, vr a358, vj (((0 : Int64) + (((own_lo p1).toInt64) * ((own_hi p1).toInt64))) + (((own_lo p2).toInt64) * ((own_hi p2).toInt64))), ss, vd r570, ss] [(.double (FP.l2d (((0 : Int64) + (((own_lo p1).toInt64) * ((own_hi p1).toInt64))) + (((own_lo p2).toInt64) * ((own_hi p2).toInt64))))), (.double r570)])) tQ
      refine XS.dcmpS (v := (0 : Int32)) X560.here hx rfl (hb hby at_204) rfl (own_eq0 .l g571 (own_dl _ (own_ra (own_ra (show (0 : Int64).toInt = 0 from rfl) (by have := own_p6 (own_lob p1) (own_hib p1); have := own_p6 (own_lob p2) (own_hib p2); have := own_p6 (own_lob p3) (own_hib p3); have := own_p6 (own_lob p4) (own_hib p4); omega) (own_lob p1) (own_hib p1)) (by have := own_p6 (own_lob p1) (own_hib p1); have := own_p6 (own_lob p2) (own_hib p2); have := own_p6 (own_lob p3) (own_hib p3); have := own_p6 (own_lob p4) (own_hib p4); omega) (own_lob p2) (own_hib p2)) (own_s6 (by have := own_p6 (own_lob p1) (own_hib p1); have := own_p6 (own_lob p2) (own_hib p2); have := own_p6 (own_lob p3) (own_hib p3); have := own_p6 (own_lob p4) (own_hib p4); omega) (by have := own_p6 (own_lob p1) (own_hib p1); have := own_p6 (own_lob p2) (own_hib p2); have := own_p6 (own_lob p3) (own_hib p3); have := own_p6 (own_lob p4) (own_hib p4); omega)))) ?_
      refine XS.ifNo X560.here hx rfl (hb hby at_205) rfl (own_if_neN (by decide)) ?_
      refine XS.iconst X560.here hx rfl (hb hby at_208) ?_
      refine XS.goto X560.here hx rfl (pc0 := 209) (pc' := 213) rfl (hb hby at_209) (by decide) (by decide) ?_
      exact kk
    clear k573
    obtain ⟨fs, hr, hrun, hended, hW, hsame⟩ := X560.leave (v := some (.int (1 : Int32))) (fun h => by rw [Bd.returns] at h; cases h)
    have hrun0 := k574 _ (retOut X560 hx Bd.returns (t := .boolean) rfl (Or.inl ⟨rfl, Or.inr (Or.inl rfl), _, rfl⟩) (hb hby at_213) hr)
    subst hE0
    refine ⟨_, _, hrun0, hrun, hended, _, _, rfl, ?_, ⟨_, rfl⟩, hW, hsame.mono (by decide) (by decide)⟩
    show Qrm0 Z p0 p1 p2 p3 p4 h0 n0 _ T556.heap _
    rw [e568]
    exact ⟨rfl, N572⟩
  · skip
    have k575 : own_G p e below E0 s₁ (mkF m 10 #[vi p0, vj p1, ss, vj p2, ss, vj p3, ss, vj p4, ss, vi (3 : Int32), uu, uu, uu, uu, uu, uu] [(.int (3 : Int32))]) := by
      intro tQ kk
      refine k133 tQ ?_
      refine XS.istore X0.here hx rfl (hb hby at_6) rfl (l' := #[vi p0, vj p1, ss, vj p2, ss, vj p3, ss, vj p4, ss, vi (3 : Int32), uu, uu, uu, uu, uu, uu]) rfl ?_
      refine XS.iload X0.here hx rfl (hb hby at_8) rfl ?_
      exact kk
    clear k133
    obtain ⟨T576, h577, cA578, X579, e580, E581, A582, st583⟩ := newP (aty := .double) X0 hx hZ (tw0 hw) e0 (g := (mkF m 10 #[vi p0, vj p1, ss, vj p2, ss, vj p3, ss, vj p4, ss, vi (3 : Int32), uu, uu, uu, uu, uu, uu] [(.int (3 : Int32))])) rfl (hb hby at_10) rfl (by decide) (cap := 3) (by decide) (by decide) (by decide) (by decide)
    obtain ⟨a584, g585⟩ : ∃ zA : Nat, zA = h0.size := ⟨_, rfl⟩
    rw [← g585] at A582 st583
    have ge586 : n0 ≤ a584 := own_ge_of Z0 g585
    have Z587 : n0 ≤ h577.size := Nat.le_trans Z0 E581.1
    have F588 : own_A Z h577 a584 .double [(.double (0 : UInt64)), (.double (0 : UInt64)), (.double (0 : UInt64))] := own_A.new A582
    have k589 : own_G p e below E0 T576 (mkF m 12 #[vi p0, vj p1, ss, vj p2, ss, vj p3, ss, vj p4, ss, vi (3 : Int32), uu, uu, uu, uu, uu, uu] [(.ref a584)]) := fun tQ kk => k575 tQ (st583 _ kk)
    clear k575 st583
    have k590 : own_G p e below E0 T576 (mkF m 16 #[vi p0, vj p1, ss, vj p2, ss, vj p3, ss, vj p4, ss, vi (3 : Int32), vr a584, uu, uu, uu, uu, uu] [(.int (3 : Int32))]) := by
      intro tQ kk
      refine k589 tQ ?_
      refine XS.astore X579.here hx rfl (hb hby at_12) rfl rfl (l' := #[vi p0, vj p1, ss, vj p2, ss, vj p3, ss, vj p4, ss, vi (3 : Int32), vr a584, uu, uu, uu, uu, uu]) rfl ?_
      refine XS.iload X579.here hx rfl (hb hby at_14) rfl ?_
      exact kk
    clear k589
    obtain ⟨T591, h592, cA593, X594, e595, E596, A597, st598⟩ := newP (aty := .double) X579 hx hZ (tw0 hw) e580 (g := (mkF m 16 #[vi p0, vj p1, ss, vj p2, ss, vj p3, ss, vj p4, ss, vi (3 : Int32), vr a584, uu, uu, uu, uu, uu] [(.int (3 : Int32))])) rfl (hb hby at_16) rfl (by decide) (cap := 3) (by decide) (by decide) (by decide) (by decide)
    obtain ⟨a599, g600⟩ : ∃ zA : Nat, zA = h577.size := ⟨_, rfl⟩
    rw [← g600] at A597 st598
    have n601 : a584 ≠ a599 := own_lt_ne F588.lt g600
    have n602 : a599 ≠ a584 := fun q => n601 q.symm
    have ge603 : n0 ≤ a599 := own_ge_of Z587 g600
    have Z604 : n0 ≤ h592.size := Nat.le_trans Z587 E596.1
    have F605 : own_A Z h592 a584 .double [(.double (0 : UInt64)), (.double (0 : UInt64)), (.double (0 : UInt64))] := F588.ext E596
    clear F588
    have F606 : own_A Z h592 a599 .double [(.double (0 : UInt64)), (.double (0 : UInt64)), (.double (0 : UInt64))] := own_A.new A597
    have k607 : own_G p e below E0 T591 (mkF m 18 #[vi p0, vj p1, ss, vj p2, ss, vj p3, ss, vj p4, ss, vi (3 : Int32), vr a584, uu, uu, uu, uu, uu] [(.ref a599)]) := fun tQ kk => k590 tQ (st598 _ kk)
    clear k590 st598
    have k608 : own_G p e below E0 T591 (mkF m 32 #[vi p0, vj p1, ss, vj p2, ss, vj p3, ss, vj p4, ss, vi (3 : Int32), vr a584, vr a599, vj (0 : Int64), ss, uu, uu] [(.long p1), (.int (0 : Int32)), (.ref a584)]) := by
      intro tQ kk
      refine k607 tQ ?_
      refine XS.astore X594.here hx rfl (hb hby at_18) rfl rfl (l' := #[vi p0, vj p1, ss, vj p2, ss, vj p3, ss, vj p4, ss, vi (3 : Int32), vr a584, vr a599, uu, uu, uu, uu]) rfl ?_
      refine XT.lconst X594.here hx rfl (hb hby at_20) ?_
      refine XT.lstore X594.here hx rfl (hb hby at_21) rfl (l' := #[vi p0, vj p1, ss, vj p2, ss, vj p3, ss, vj p4, ss, vi (3 : Int32), vr a584, vr a599, vj (0 : Int64), ss, uu, uu]) rfl ?_
      refine XS.iload X594.here hx rfl (hb hby at_23) rfl ?_
      show Steps p.tables e below (T591.setTop (mkF m 25 #[vi p0, vj p1, ss, vj p2, ss, vj p3, ss, vj p4, ss, vi (3 : Int32), vr a584, vr a599, vj (0 : Int64), ss, uu, uu] [(.int (3 : Int32))])) tQ
      refine XS.ifNo X594.here hx rfl (hb hby at_25) rfl (own_if_leN (by decide)) ?_
      refine XS.aload X594.here hx rfl (hb hby at_28) rfl rfl ?_
      refine XS.iconst X594.here hx rfl (hb hby at_30) ?_
      refine XT.lloadN X594.here hx rfl (hb hby at_31) rfl ?_
      exact kk
    clear k607
    obtain ⟨_, _, ⟨T609, L610, kc611, nc612⟩, -, X613, ⟨Lc614, hQ615, l616, y617, z618⟩, st619⟩ := Jvm.LawKit.callS X594 hx (y := mn0) hown (mvT hZ (tw5 hw)) (mvT hZ (tw6 hw)) (mvT hZ (tw7 hw)) (mvT hZ (tw8 hw)) (by decide) (backOf (W := 2) (rmL l Z a0 hw [] p1 h592 n0 Z604 ) hZ (tw8 hw) (tw7 hw) (by decide) (by decide)) (g := (mkF m 32 #[vi p0, vj p1, ss, vj p2, ss, vj p3, ss, vj p4, ss, vi (3 : Int32), vr a584, vr a599, vj (0 : Int64), ss, uu, uu] [(.long p1), (.int (0 : Int32)), (.ref a584)])) rfl (by rw [hml]; rfl) (argsL := [(.long p1)]) (rest := [(.int (0 : Int32)), (.ref a584)]) (lenOf pd_4 rfl) rfl (by show 2 * 0 + _ ≤ _; exact Nat.le_of_eq rfl) (hb hby at_32) (fun _ _ => ⟨rfl, e595, (by decide : 2 + 0 ≤ _), (by decide : 6 + 0 ≤ _)⟩)
    dsimp only [Pt.U, Pt.locs, Pt.cells, Pt.slots] at X613 l616 y617 z618 st619 hQ615
    subst y617 z618
    obtain ⟨rfl, N620, e621⟩ := hQ615
    have N623 : Fr n0 L610 := by rw [l616]; exact Fr.app N0 N620
    clear l616 N620
    have k624 : own_G p e below E0 T609 (mkF m 35 #[vi p0, vj p1, ss, vj p2, ss, vj p3, ss, vj p4, ss, vi (3 : Int32), vr a584, vr a599, vj (0 : Int64), ss, uu, uu] [(.int (own_lo p1)), (.int (0 : Int32)), (.ref a584)]) := fun tQ kk => k608 tQ (st619 _ kk)
    clear k608 st619
    have k625 : own_G p e below E0 T609 (mkF m 36 #[vi p0, vj p1, ss, vj p2, ss, vj p3, ss, vj p4, ss, vi (3 : Int32), vr a584, vr a599, vj (0 : Int64), ss, uu, uu] [(.double (FP.i2d (own_lo p1))), (.int (0 : Int32)), (.ref a584)]) := by
      intro tQ kk
      refine k624 tQ ?_
      refine XS.i2dS X613.here hx rfl (hb hby at_35) rfl rfl ?_
      exact kk
    clear k624
    obtain ⟨T626, h627, X628, e629, W630, F631, st632⟩ := own_A.dst X613 hx hZ e621 F605 (j := (0 : Int32)) (by decide) rfl (g := (mkF m 36 #[vi p0, vj p1, ss, vj p2, ss, vj p3, ss, vj p4, ss, vi (3 : Int32), vr a584, vr a599, vj (0 : Int64), ss, uu, uu] [(.double (FP.i2d (own_lo p1))), (.int (0 : Int32)), (.ref a584)])) rfl rfl (hb hby at_36)
    have N633 := Fr.snoc X628 N623 ge586
    have k634 : own_G p e below E0 T626 (mkF m 37 #[vi p0, vj p1, ss, vj p2, ss, vj p3, ss, vj p4, ss, vi (3 : Int32), vr a584, vr a599, vj (0 : Int64), ss, uu, uu] []) := fun tQ kk => k625 tQ (st632 _ kk)
    clear k625 st632
    have F635 : own_A Z h627 a599 .double [(.double (0 : UInt64)), (.double (0 : UInt64)), (.double (0 : UInt64))] := F606.other W630 n602
    clear F606
    have Z636 : n0 ≤ h627.size := by rw [W630.size]; exact Z604
    have F637 : own_A Z h627 a584 .double [(.double (FP.i2d (own_lo p1))), (.double (0 : UInt64)), (.double (0 : UInt64))] := F631
    have k638 : own_G p e below E0 T626 (mkF m 41 #[vi p0, vj p1, ss, vj p2, ss, vj p3, ss, vj p4, ss, vi (3 : Int32), vr a584, vr a599, vj (0 : Int64), ss, uu, uu] [(.long p1), (.int (0 : Int32)), (.ref a599)]) := by
      intro tQ kk
      refine k634 tQ ?_
      refine XS.aload X628.here hx rfl (hb hby at_37) rfl rfl ?_
      refine XS.iconst X628.here hx rfl (hb hby at_39) ?_
      refine XT.lloadN X628.here hx rfl (hb hby at_40) rfl ?_
      exact kk
    clear k634
    obtain ⟨_, _, ⟨T639, L640, kc641, nc642⟩, -, X643, ⟨Lc644, hQ645, l646, y647, z648⟩, st649⟩ := Jvm.LawKit.callS X628 hx (y := mn1) hown (mvT hZ (tw10 hw)) (mvT hZ (tw11 hw)) (mvT hZ (tw7 hw)) (mvT hZ (tw12 hw)) (by decide) (backOf (W := 2) (rmH l Z a0 hw [] p1 h627 n0 Z636 ) hZ (tw12 hw) (tw7 hw) (by decide) (by decide)) (g := (mkF m 41 #[vi p0, vj p1, ss, vj p2, ss, vj p3, ss, vj p4, ss, vi (3 : Int32), vr a584, vr a599, vj (0 : Int64), ss, uu, uu] [(.long p1), (.int (0 : Int32)), (.ref a599)])) rfl (by rw [hml]; rfl) (argsL := [(.long p1)]) (rest := [(.int (0 : Int32)), (.ref a599)]) (lenOf pd_4 rfl) rfl (by show 2 * 0 + _ ≤ _; exact Nat.le_of_eq rfl) (hb hby at_41) (fun _ _ => ⟨rfl, e629, (by decide : 2 + 0 ≤ _), (by decide : 6 + 0 ≤ _)⟩)
    dsimp only [Pt.U, Pt.locs, Pt.cells, Pt.slots] at X643 l646 y647 z648 st649 hQ645
    subst y647 z648
    obtain ⟨rfl, N650, e651⟩ := hQ645
    have N653 : Fr n0 L640 := by rw [l646]; exact Fr.app N633 N650
    clear l646 N650
    have k654 : own_G p e below E0 T639 (mkF m 44 #[vi p0, vj p1, ss, vj p2, ss, vj p3, ss, vj p4, ss, vi (3 : Int32), vr a584, vr a599, vj (0 : Int64), ss, uu, uu] [(.int (own_hi p1)), (.int (0 : Int32)), (.ref a599)]) := fun tQ kk => k638 tQ (st649 _ kk)
    clear k638 st649
    have k655 : own_G p e below E0 T639 (mkF m 45 #[vi p0, vj p1, ss, vj p2, ss, vj p3, ss, vj p4, ss, vi (3 : Int32), vr a584, vr a599, vj (0 : Int64), ss, uu, uu] [(.double (FP.i2d (own_hi p1))), (.int (0 : Int32)), (.ref a599)]) := by
      intro tQ kk
      refine k654 tQ ?_
      refine XS.i2dS X643.here hx rfl (hb hby at_44) rfl rfl ?_
      exact kk
    clear k654
    obtain ⟨T656, h657, X658, e659, W660, F661, st662⟩ := own_A.dst X643 hx hZ e651 F635 (j := (0 : Int32)) (by decide) rfl (g := (mkF m 45 #[vi p0, vj p1, ss, vj p2, ss, vj p3, ss, vj p4, ss, vi (3 : Int32), vr a584, vr a599, vj (0 : Int64), ss, uu, uu] [(.double (FP.i2d (own_hi p1))), (.int (0 : Int32)), (.ref a599)])) rfl rfl (hb hby at_45)
    have N663 := Fr.snoc X658 N653 ge603
    have k664 : own_G p e below E0 T656 (mkF m 46 #[vi p0, vj p1, ss, vj p2, ss, vj p3, ss, vj p4, ss, vi (3 : Int32), vr a584, vr a599, vj (0 : Int64), ss, uu, uu] []) := fun tQ kk => k655 tQ (st662 _ kk)
    clear k655 st662
    have F665 : own_A Z h657 a584 .double [(.double (FP.i2d (own_lo p1))), (.double (0 : UInt64)), (.double (0 : UInt64))] := F637.other W660 n601
    clear F637
    have Z666 : n0 ≤ h657.size := by rw [W660.size]; exact Z636
    have F667 : own_A Z h657 a599 .double [(.double (FP.i2d (own_hi p1))), (.double (0 : UInt64)), (.double (0 : UInt64))] := F661
    have k668 : own_G p e below E0 T656 (mkF m 49 #[vi p0, vj p1, ss, vj p2, ss, vj p3, ss, vj p4, ss, vi (3 : Int32), vr a584, vr a599, vj (0 : Int64), ss, uu, uu] [(.long p1), (.long (0 : Int64))]) := by
      intro tQ kk
      refine k664 tQ ?_
      refine XT.lload X658.here hx rfl (hb hby at_46) rfl ?_
      refine XT.lloadN X658.here hx rfl (hb hby at_48) rfl ?_
      exact kk
    clear k664
    obtain ⟨_, _, ⟨T669, L670, kc671, nc672⟩, -, X673, ⟨Lc674, hQ675, l676, y677, z678⟩, st679⟩ := Jvm.LawKit.callS X658 hx (y := mn0) hown (mvT hZ (tw5 hw)) (mvT hZ (tw6 hw)) (mvT hZ (tw7 hw)) (mvT hZ (tw8 hw)) (by decide) (backOf (W := 2) (rmL l Z a0 hw [] p1 h657 n0 Z666 ) hZ (tw8 hw) (tw7 hw) (by decide) (by decide)) (g := (mkF m 49 #[vi p0, vj p1, ss, vj p2, ss, vj p3, ss, vj p4, ss, vi (3 : Int32), vr a584, vr a599, vj (0 : Int64), ss, uu, uu] [(.long p1), (.long (0 : Int64))])) rfl (by rw [hml]; rfl) (argsL := [(.long p1)]) (rest := [(.long (0 : Int64))]) (lenOf pd_4 rfl) rfl (by show 2 * 0 + _ ≤ _; exact Nat.le_of_eq rfl) (hb hby at_49) (fun _ _ => ⟨rfl, e659, (by decide : 2 + 0 ≤ _), (by decide : 6 + 0 ≤ _)⟩)
    dsimp only [Pt.U, Pt.locs, Pt.cells, Pt.slots] at X673 l676 y677 z678 st679 hQ675
    subst y677 z678
    obtain ⟨rfl, N680, e681⟩ := hQ675
    have N683 : Fr n0 L670 := by rw [l676]; exact Fr.app N663 N680
    clear l676 N680
    have k684 : own_G p e below E0 T669 (mkF m 52 #[vi p0, vj p1, ss, vj p2, ss, vj p3, ss, vj p4, ss, vi (3 : Int32), vr a584, vr a599, vj (0 : Int64), ss, uu, uu] [(.int (own_lo p1)), (.long (0 : Int64))]) := fun tQ kk => k668 tQ (st679 _ kk)
    clear k668 st679
    have k685 : own_G p e below E0 T669 (mkF m 54 #[vi p0, vj p1, ss, vj p2, ss, vj p3, ss, vj p4, ss, vi (3 : Int32), vr a584, vr a599, vj (0 : Int64), ss, uu, uu] [(.long p1), (.long ((own_lo p1).toInt64)), (.long (0 : Int64))]) := by
      intro tQ kk
      refine k684 tQ ?_
      refine XT.i2l X673.here hx rfl (hb hby at_52) rfl ?_
      refine XT.lloadN X673.here hx rfl (hb hby at_53) rfl ?_
      exact kk
    clear k684
    obtain ⟨_, _, ⟨T686, L687, kc688, nc689⟩, -, X690, ⟨Lc691, hQ692, l693, y694, z695⟩, st696⟩ := Jvm.LawKit.callS X673 hx (y := mn1) hown (mvT hZ (tw10 hw)) (mvT hZ (tw11 hw)) (mvT hZ (tw7 hw)) (mvT hZ (tw12 hw)) (by decide) (backOf (W := 4) (rmH l Z a0 hw [] p1 h657 n0 Z666 ) hZ (tw12 hw) (tw7 hw) (by decide) (by decide)) (g := (mkF m 54 #[vi p0, vj p1, ss, vj p2, ss, vj p3, ss, vj p4, ss, vi (3 : Int32), vr a584, vr a599, vj (0 : Int64), ss, uu, uu] [(.long p1), (.long ((own_lo p1).toInt64)), (.long (0 : Int64))])) rfl (by rw [hml]; rfl) (argsL := [(.long p1)]) (rest := [(.long ((own_lo p1).toInt64)), (.long (0 : Int64))]) (lenOf pd_4 rfl) rfl (by show 2 * 0 + _ ≤ _; exact Nat.le_of_eq rfl) (hb hby at_54) (fun _ _ => ⟨rfl, e681, (by decide : 2 + 0 ≤ _), (by decide : 6 + 0 ≤ _)⟩)
    dsimp only [Pt.U, Pt.locs, Pt.cells, Pt.slots] at X690 l693 y694 z695 st696 hQ692
    subst y694 z695
    obtain ⟨rfl, N697, e698⟩ := hQ692
    have N700 : Fr n0 L687 := by rw [l693]; exact Fr.app N683 N697
    clear l693 N697
    have k701 : own_G p e below E0 T686 (mkF m 57 #[vi p0, vj p1, ss, vj p2, ss, vj p3, ss, vj p4, ss, vi (3 : Int32), vr a584, vr a599, vj (0 : Int64), ss, uu, uu] [(.int (own_hi p1)), (.long ((own_lo p1).toInt64)), (.long (0 : Int64))]) := fun tQ kk => k685 tQ (st696 _ kk)
    clear k685 st696
    have k702 : own_G p e below E0 T686 (mkF m 72 #[vi p0, vj p1, ss, vj p2, ss, vj p3, ss, vj p4, ss, vi (3 : Int32), vr a584, vr a599, vj ((0 : Int64) + (((own_lo p1).toInt64) * ((own_hi p1).toInt64))), ss, uu, uu] [(.long p2), (.int (1 : Int32)), (.ref a584)]) := by
      intro tQ kk
      refine k701 tQ ?_
      refine XT.i2l X690.here hx rfl (hb hby at_57) rfl ?_
      refine XT.lmul X690.here hx rfl (hb hby at_58) rfl ?_
      refine XT.ladd X690.here hx rfl (hb hby at_59) rfl ?_
      refine XT.lstore X690.here hx rfl (hb hby at_60) rfl (l' := #[vi p0, vj p1, ss, vj p2, ss, vj p3, ss, vj p4, ss, vi (3 : Int32), vr a584, vr a599, vj ((0 : Int64) + (((own_lo p1).toInt64) * ((own_hi p1).toInt64))), ss, uu, uu]) rfl ?_
      show Steps p.tables e below (T686.setTop (mkF m 62 #[vi p0, vj p1, ss, vj p2, ss, vj p3, ss, vj p4, ss, vi (3 : Int32), vr a584, vr a599, vj ((0 : Int64) + (((own_lo p1).toInt64) * ((own_hi p1).toInt64))), ss, uu, uu] [])) tQ
      refine XS.iload X690.here hx rfl (hb hby at_62) rfl ?_
      refine XS.iconst X690.here hx rfl (hb hby at_64) ?_
      refine XS.icmpNo X690.here hx rfl (hb hby at_65) rfl (own_ic_leN (by decide)) ?_
      refine XS.aload X690.here hx rfl (hb hby at_68) rfl rfl ?_
      show Steps p.tables e below (T686.setTop (mkF m 70 #[vi p0, vj p1, ss, vj p2, ss, vj p3, ss, vj p4, ss, vi (3 : Int32), vr a584, vr a599, vj ((0 : Int64) + (((own_lo p1).toInt64) * ((own_hi p1).toInt64))), ss, uu, uu] [(.ref a584)])) tQ
      refine XS.iconst X690.here hx rfl (hb hby at_70) ?_
      refine XT.lloadN X690.here hx rfl (hb hby at_71) rfl ?_
      exact kk
    clear k701
    obtain ⟨_, _, ⟨T703, L704, kc705, nc706⟩, -, X707, ⟨Lc708, hQ709, l710, y711, z712⟩, st713⟩ := Jvm.LawKit.callS X690 hx (y := mn0) hown (mvT hZ (tw5 hw)) (mvT hZ (tw6 hw)) (mvT hZ (tw7 hw)) (mvT hZ (tw8 hw)) (by decide) (backOf (W := 2) (rmL l Z a0 hw [] p2 h657 n0 Z666 ) hZ (tw8 hw) (tw7 hw) (by decide) (by decide)) (g := (mkF m 72 #[vi p0, vj p1, ss, vj p2, ss, vj p3, ss, vj p4, ss, vi (3 : Int32), vr a584, vr a599, vj ((0 : Int64) + (((own_lo p1).toInt64) * ((own_hi p1).toInt64))), ss, uu, uu] [(.long p2), (.int (1 : Int32)), (.ref a584)])) rfl (by rw [hml]; rfl) (argsL := [(.long p2)]) (rest := [(.int (1 : Int32)), (.ref a584)]) (lenOf pd_4 rfl) rfl (by show 2 * 0 + _ ≤ _; exact Nat.le_of_eq rfl) (hb hby at_72) (fun _ _ => ⟨rfl, e698, (by decide : 2 + 0 ≤ _), (by decide : 6 + 0 ≤ _)⟩)
    dsimp only [Pt.U, Pt.locs, Pt.cells, Pt.slots] at X707 l710 y711 z712 st713 hQ709
    subst y711 z712
    obtain ⟨rfl, N714, e715⟩ := hQ709
    have N717 : Fr n0 L704 := by rw [l710]; exact Fr.app N700 N714
    clear l710 N714
    have k718 : own_G p e below E0 T703 (mkF m 75 #[vi p0, vj p1, ss, vj p2, ss, vj p3, ss, vj p4, ss, vi (3 : Int32), vr a584, vr a599, vj ((0 : Int64) + (((own_lo p1).toInt64) * ((own_hi p1).toInt64))), ss, uu, uu] [(.int (own_lo p2)), (.int (1 : Int32)), (.ref a584)]) := fun tQ kk => k702 tQ (st713 _ kk)
    clear k702 st713
    have k719 : own_G p e below E0 T703 (mkF m 76 #[vi p0, vj p1, ss, vj p2, ss, vj p3, ss, vj p4, ss, vi (3 : Int32), vr a584, vr a599, vj ((0 : Int64) + (((own_lo p1).toInt64) * ((own_hi p1).toInt64))), ss, uu, uu] [(.double (FP.i2d (own_lo p2))), (.int (1 : Int32)), (.ref a584)]) := by
      intro tQ kk
      refine k718 tQ ?_
      refine XS.i2dS X707.here hx rfl (hb hby at_75) rfl rfl ?_
      exact kk
    clear k718
    obtain ⟨T720, h721, X722, e723, W724, F725, st726⟩ := own_A.dst X707 hx hZ e715 F665 (j := (1 : Int32)) (by decide) rfl (g := (mkF m 76 #[vi p0, vj p1, ss, vj p2, ss, vj p3, ss, vj p4, ss, vi (3 : Int32), vr a584, vr a599, vj ((0 : Int64) + (((own_lo p1).toInt64) * ((own_hi p1).toInt64))), ss, uu, uu] [(.double (FP.i2d (own_lo p2))), (.int (1 : Int32)), (.ref a584)])) rfl rfl (hb hby at_76)
    have N727 := Fr.snoc X722 N717 ge586
    have k728 : own_G p e below E0 T720 (mkF m 77 #[vi p0, vj p1, ss, vj p2, ss, vj p3, ss, vj p4, ss, vi (3 : Int32), vr a584, vr a599, vj ((0 : Int64) + (((own_lo p1).toInt64) * ((own_hi p1).toInt64))), ss, uu, uu] []) := fun tQ kk => k719 tQ (st726 _ kk)
    clear k719 st726
    have F729 : own_A Z h721 a599 .double [(.double (FP.i2d (own_hi p1))), (.double (0 : UInt64)), (.double (0 : UInt64))] := F667.other W724 n602
    clear F667
    have Z730 : n0 ≤ h721.size := by rw [W724.size]; exact Z666
    have F731 : own_A Z h721 a584 .double [(.double (FP.i2d (own_lo p1))), (.double (FP.i2d (own_lo p2))), (.double (0 : UInt64))] := F725
    have k732 : own_G p e below E0 T720 (mkF m 81 #[vi p0, vj p1, ss, vj p2, ss, vj p3, ss, vj p4, ss, vi (3 : Int32), vr a584, vr a599, vj ((0 : Int64) + (((own_lo p1).toInt64) * ((own_hi p1).toInt64))), ss, uu, uu] [(.long p2), (.int (1 : Int32)), (.ref a599)]) := by
      intro tQ kk
      refine k728 tQ ?_
      refine XS.aload X722.here hx rfl (hb hby at_77) rfl rfl ?_
      refine XS.iconst X722.here hx rfl (hb hby at_79) ?_
      refine XT.lloadN X722.here hx rfl (hb hby at_80) rfl ?_
      exact kk
    clear k728
    obtain ⟨_, _, ⟨T733, L734, kc735, nc736⟩, -, X737, ⟨Lc738, hQ739, l740, y741, z742⟩, st743⟩ := Jvm.LawKit.callS X722 hx (y := mn1) hown (mvT hZ (tw10 hw)) (mvT hZ (tw11 hw)) (mvT hZ (tw7 hw)) (mvT hZ (tw12 hw)) (by decide) (backOf (W := 2) (rmH l Z a0 hw [] p2 h721 n0 Z730 ) hZ (tw12 hw) (tw7 hw) (by decide) (by decide)) (g := (mkF m 81 #[vi p0, vj p1, ss, vj p2, ss, vj p3, ss, vj p4, ss, vi (3 : Int32), vr a584, vr a599, vj ((0 : Int64) + (((own_lo p1).toInt64) * ((own_hi p1).toInt64))), ss, uu, uu] [(.long p2), (.int (1 : Int32)), (.ref a599)])) rfl (by rw [hml]; rfl) (argsL := [(.long p2)]) (rest := [(.int (1 : Int32)), (.ref a599)]) (lenOf pd_4 rfl) rfl (by show 2 * 0 + _ ≤ _; exact Nat.le_of_eq rfl) (hb hby at_81) (fun _ _ => ⟨rfl, e723, (by decide : 2 + 0 ≤ _), (by decide : 6 + 0 ≤ _)⟩)
    dsimp only [Pt.U, Pt.locs, Pt.cells, Pt.slots] at X737 l740 y741 z742 st743 hQ739
    subst y741 z742
    obtain ⟨rfl, N744, e745⟩ := hQ739
    have N747 : Fr n0 L734 := by rw [l740]; exact Fr.app N727 N744
    clear l740 N744
    have k748 : own_G p e below E0 T733 (mkF m 84 #[vi p0, vj p1, ss, vj p2, ss, vj p3, ss, vj p4, ss, vi (3 : Int32), vr a584, vr a599, vj ((0 : Int64) + (((own_lo p1).toInt64) * ((own_hi p1).toInt64))), ss, uu, uu] [(.int (own_hi p2)), (.int (1 : Int32)), (.ref a599)]) := fun tQ kk => k732 tQ (st743 _ kk)
    clear k732 st743
    have k749 : own_G p e below E0 T733 (mkF m 85 #[vi p0, vj p1, ss, vj p2, ss, vj p3, ss, vj p4, ss, vi (3 : Int32), vr a584, vr a599, vj ((0 : Int64) + (((own_lo p1).toInt64) * ((own_hi p1).toInt64))), ss, uu, uu] [(.double (FP.i2d (own_hi p2))), (.int (1 : Int32)), (.ref a599)]) := by
      intro tQ kk
      refine k748 tQ ?_
      refine XS.i2dS X737.here hx rfl (hb hby at_84) rfl rfl ?_
      exact kk
    clear k748
    obtain ⟨T750, h751, X752, e753, W754, F755, st756⟩ := own_A.dst X737 hx hZ e745 F729 (j := (1 : Int32)) (by decide) rfl (g := (mkF m 85 #[vi p0, vj p1, ss, vj p2, ss, vj p3, ss, vj p4, ss, vi (3 : Int32), vr a584, vr a599, vj ((0 : Int64) + (((own_lo p1).toInt64) * ((own_hi p1).toInt64))), ss, uu, uu] [(.double (FP.i2d (own_hi p2))), (.int (1 : Int32)), (.ref a599)])) rfl rfl (hb hby at_85)
    have N757 := Fr.snoc X752 N747 ge603
    have k758 : own_G p e below E0 T750 (mkF m 86 #[vi p0, vj p1, ss, vj p2, ss, vj p3, ss, vj p4, ss, vi (3 : Int32), vr a584, vr a599, vj ((0 : Int64) + (((own_lo p1).toInt64) * ((own_hi p1).toInt64))), ss, uu, uu] []) := fun tQ kk => k749 tQ (st756 _ kk)
    clear k749 st756
    have F759 : own_A Z h751 a584 .double [(.double (FP.i2d (own_lo p1))), (.double (FP.i2d (own_lo p2))), (.double (0 : UInt64))] := F731.other W754 n601
    clear F731
    have Z760 : n0 ≤ h751.size := by rw [W754.size]; exact Z730
    have F761 : own_A Z h751 a599 .double [(.double (FP.i2d (own_hi p1))), (.double (FP.i2d (own_hi p2))), (.double (0 : UInt64))] := F755
    have k762 : own_G p e below E0 T750 (mkF m 89 #[vi p0, vj p1, ss, vj p2, ss, vj p3, ss, vj p4, ss, vi (3 : Int32), vr a584, vr a599, vj ((0 : Int64) + (((own_lo p1).toInt64) * ((own_hi p1).toInt64))), ss, uu, uu] [(.long p2), (.long ((0 : Int64) + (((own_lo p1).toInt64) * ((own_hi p1).toInt64))))]) := by
      intro tQ kk
      refine k758 tQ ?_
      refine XT.lload X752.here hx rfl (hb hby at_86) rfl ?_
      refine XT.lloadN X752.here hx rfl (hb hby at_88) rfl ?_
      exact kk
    clear k758
    obtain ⟨_, _, ⟨T763, L764, kc765, nc766⟩, -, X767, ⟨Lc768, hQ769, l770, y771, z772⟩, st773⟩ := Jvm.LawKit.callS X752 hx (y := mn0) hown (mvT hZ (tw5 hw)) (mvT hZ (tw6 hw)) (mvT hZ (tw7 hw)) (mvT hZ (tw8 hw)) (by decide) (backOf (W := 2) (rmL l Z a0 hw [] p2 h751 n0 Z760 ) hZ (tw8 hw) (tw7 hw) (by decide) (by decide)) (g := (mkF m 89 #[vi p0, vj p1, ss, vj p2, ss, vj p3, ss, vj p4, ss, vi (3 : Int32), vr a584, vr a599, vj ((0 : Int64) + (((own_lo p1).toInt64) * ((own_hi p1).toInt64))), ss, uu, uu] [(.long p2), (.long ((0 : Int64) + (((own_lo p1).toInt64) * ((own_hi p1).toInt64))))])) rfl (by rw [hml]; rfl) (argsL := [(.long p2)]) (rest := [(.long ((0 : Int64) + (((own_lo p1).toInt64) * ((own_hi p1).toInt64))))]) (lenOf pd_4 rfl) rfl (by show 2 * 0 + _ ≤ _; exact Nat.le_of_eq rfl) (hb hby at_89) (fun _ _ => ⟨rfl, e753, (by decide : 2 + 0 ≤ _), (by decide : 6 + 0 ≤ _)⟩)
    dsimp only [Pt.U, Pt.locs, Pt.cells, Pt.slots] at X767 l770 y771 z772 st773 hQ769
    subst y771 z772
    obtain ⟨rfl, N774, e775⟩ := hQ769
    have N777 : Fr n0 L764 := by rw [l770]; exact Fr.app N757 N774
    clear l770 N774
    have k778 : own_G p e below E0 T763 (mkF m 92 #[vi p0, vj p1, ss, vj p2, ss, vj p3, ss, vj p4, ss, vi (3 : Int32), vr a584, vr a599, vj ((0 : Int64) + (((own_lo p1).toInt64) * ((own_hi p1).toInt64))), ss, uu, uu] [(.int (own_lo p2)), (.long ((0 : Int64) + (((own_lo p1).toInt64) * ((own_hi p1).toInt64))))]) := fun tQ kk => k762 tQ (st773 _ kk)
    clear k762 st773
    have k779 : own_G p e below E0 T763 (mkF m 94 #[vi p0, vj p1, ss, vj p2, ss, vj p3, ss, vj p4, ss, vi (3 : Int32), vr a584, vr a599, vj ((0 : Int64) + (((own_lo p1).toInt64) * ((own_hi p1).toInt64))), ss, uu, uu] [(.long p2), (.long ((own_lo p2).toInt64)), (.long ((0 : Int64) + (((own_lo p1).toInt64) * ((own_hi p1).toInt64))))]) := by
      intro tQ kk
      refine k778 tQ ?_
      refine XT.i2l X767.here hx rfl (hb hby at_92) rfl ?_
      refine XT.lloadN X767.here hx rfl (hb hby at_93) rfl ?_
      exact kk
    clear k778
    obtain ⟨_, _, ⟨T780, L781, kc782, nc783⟩, -, X784, ⟨Lc785, hQ786, l787, y788, z789⟩, st790⟩ := Jvm.LawKit.callS X767 hx (y := mn1) hown (mvT hZ (tw10 hw)) (mvT hZ (tw11 hw)) (mvT hZ (tw7 hw)) (mvT hZ (tw12 hw)) (by decide) (backOf (W := 4) (rmH l Z a0 hw [] p2 h751 n0 Z760 ) hZ (tw12 hw) (tw7 hw) (by decide) (by decide)) (g := (mkF m 94 #[vi p0, vj p1, ss, vj p2, ss, vj p3, ss, vj p4, ss, vi (3 : Int32), vr a584, vr a599, vj ((0 : Int64) + (((own_lo p1).toInt64) * ((own_hi p1).toInt64))), ss, uu, uu] [(.long p2), (.long ((own_lo p2).toInt64)), (.long ((0 : Int64) + (((own_lo p1).toInt64) * ((own_hi p1).toInt64))))])) rfl (by rw [hml]; rfl) (argsL := [(.long p2)]) (rest := [(.long ((own_lo p2).toInt64)), (.long ((0 : Int64) + (((own_lo p1).toInt64) * ((own_hi p1).toInt64))))]) (lenOf pd_4 rfl) rfl (by show 2 * 0 + _ ≤ _; exact Nat.le_of_eq rfl) (hb hby at_94) (fun _ _ => ⟨rfl, e775, (by decide : 2 + 0 ≤ _), (by decide : 6 + 0 ≤ _)⟩)
    dsimp only [Pt.U, Pt.locs, Pt.cells, Pt.slots] at X784 l787 y788 z789 st790 hQ786
    subst y788 z789
    obtain ⟨rfl, N791, e792⟩ := hQ786
    have N794 : Fr n0 L781 := by rw [l787]; exact Fr.app N777 N791
    clear l787 N791
    have k795 : own_G p e below E0 T780 (mkF m 97 #[vi p0, vj p1, ss, vj p2, ss, vj p3, ss, vj p4, ss, vi (3 : Int32), vr a584, vr a599, vj ((0 : Int64) + (((own_lo p1).toInt64) * ((own_hi p1).toInt64))), ss, uu, uu] [(.int (own_hi p2)), (.long ((own_lo p2).toInt64)), (.long ((0 : Int64) + (((own_lo p1).toInt64) * ((own_hi p1).toInt64))))]) := fun tQ kk => k779 tQ (st790 _ kk)
    clear k779 st790
    have k796 : own_G p e below E0 T780 (mkF m 113 #[vi p0, vj p1, ss, vj p2, ss, vj p3, ss, vj p4, ss, vi (3 : Int32), vr a584, vr a599, vj (((0 : Int64) + (((own_lo p1).toInt64) * ((own_hi p1).toInt64))) + (((own_lo p2).toInt64) * ((own_hi p2).toInt64))), ss, uu, uu] [(.long p3), (.int (2 : Int32)), (.ref a584)]) := by
      intro tQ kk
      refine k795 tQ ?_
      refine XT.i2l X784.here hx rfl (hb hby at_97) rfl ?_
      refine XT.lmul X784.here hx rfl (hb hby at_98) rfl ?_
      refine XT.ladd X784.here hx rfl (hb hby at_99) rfl ?_
      refine XT.lstore X784.here hx rfl (hb hby at_100) rfl (l' := #[vi p0, vj p1, ss, vj p2, ss, vj p3, ss, vj p4, ss, vi (3 : Int32), vr a584, vr a599, vj (((0 : Int64) + (((own_lo p1).toInt64) * ((own_hi p1).toInt64))) + (((own_lo p2).toInt64) * ((own_hi p2).toInt64))), ss, uu, uu]) rfl ?_
      show Steps p.tables e below (T780.setTop (mkF m 102 #[vi p0, vj p1, ss, vj p2, ss, vj p3, ss, vj p4, ss, vi (3 : Int32), vr a584, vr a599, vj (((0 : Int64) + (((own_lo p1).toInt64) * ((own_hi p1).toInt64))) + (((own_lo p2).toInt64) * ((own_hi p2).toInt64))), ss, uu, uu] [])) tQ
      refine XS.iload X784.here hx rfl (hb hby at_102) rfl ?_
      refine XS.iconst X784.here hx rfl (hb hby at_104) ?_
      refine XS.icmpNo X784.here hx rfl (hb hby at_105) rfl (own_ic_leN (by decide)) ?_
      refine XS.aload X784.here hx rfl (hb hby at_108) rfl rfl ?_
      show Steps p.tables e below (T780.setTop (mkF m 110 #[vi p0, vj p1, ss, vj p2, ss, vj p3, ss, vj p4, ss, vi (3 : Int32), vr a584, vr a599, vj (((0 : Int64) + (((own_lo p1).toInt64) * ((own_hi p1).toInt64))) + (((own_lo p2).toInt64) * ((own_hi p2).toInt64))), ss, uu, uu] [(.ref a584)])) tQ
      refine XS.iconst X784.here hx rfl (hb hby at_110) ?_
      refine XT.lload X784.here hx rfl (hb hby at_111) rfl ?_
      exact kk
    clear k795
    obtain ⟨_, _, ⟨T797, L798, kc799, nc800⟩, -, X801, ⟨Lc802, hQ803, l804, y805, z806⟩, st807⟩ := Jvm.LawKit.callS X784 hx (y := mn0) hown (mvT hZ (tw5 hw)) (mvT hZ (tw6 hw)) (mvT hZ (tw7 hw)) (mvT hZ (tw8 hw)) (by decide) (backOf (W := 2) (rmL l Z a0 hw [] p3 h751 n0 Z760 ) hZ (tw8 hw) (tw7 hw) (by decide) (by decide)) (g := (mkF m 113 #[vi p0, vj p1, ss, vj p2, ss, vj p3, ss, vj p4, ss, vi (3 : Int32), vr a584, vr a599, vj (((0 : Int64) + (((own_lo p1).toInt64) * ((own_hi p1).toInt64))) + (((own_lo p2).toInt64) * ((own_hi p2).toInt64))), ss, uu, uu] [(.long p3), (.int (2 : Int32)), (.ref a584)])) rfl (by rw [hml]; rfl) (argsL := [(.long p3)]) (rest := [(.int (2 : Int32)), (.ref a584)]) (lenOf pd_4 rfl) rfl (by show 2 * 0 + _ ≤ _; exact Nat.le_of_eq rfl) (hb hby at_113) (fun _ _ => ⟨rfl, e792, (by decide : 2 + 0 ≤ _), (by decide : 6 + 0 ≤ _)⟩)
    dsimp only [Pt.U, Pt.locs, Pt.cells, Pt.slots] at X801 l804 y805 z806 st807 hQ803
    subst y805 z806
    obtain ⟨rfl, N808, e809⟩ := hQ803
    have N811 : Fr n0 L798 := by rw [l804]; exact Fr.app N794 N808
    clear l804 N808
    have k812 : own_G p e below E0 T797 (mkF m 116 #[vi p0, vj p1, ss, vj p2, ss, vj p3, ss, vj p4, ss, vi (3 : Int32), vr a584, vr a599, vj (((0 : Int64) + (((own_lo p1).toInt64) * ((own_hi p1).toInt64))) + (((own_lo p2).toInt64) * ((own_hi p2).toInt64))), ss, uu, uu] [(.int (own_lo p3)), (.int (2 : Int32)), (.ref a584)]) := fun tQ kk => k796 tQ (st807 _ kk)
    clear k796 st807
    have k813 : own_G p e below E0 T797 (mkF m 117 #[vi p0, vj p1, ss, vj p2, ss, vj p3, ss, vj p4, ss, vi (3 : Int32), vr a584, vr a599, vj (((0 : Int64) + (((own_lo p1).toInt64) * ((own_hi p1).toInt64))) + (((own_lo p2).toInt64) * ((own_hi p2).toInt64))), ss, uu, uu] [(.double (FP.i2d (own_lo p3))), (.int (2 : Int32)), (.ref a584)]) := by
      intro tQ kk
      refine k812 tQ ?_
      refine XS.i2dS X801.here hx rfl (hb hby at_116) rfl rfl ?_
      exact kk
    clear k812
    obtain ⟨T814, h815, X816, e817, W818, F819, st820⟩ := own_A.dst X801 hx hZ e809 F759 (j := (2 : Int32)) (by decide) rfl (g := (mkF m 117 #[vi p0, vj p1, ss, vj p2, ss, vj p3, ss, vj p4, ss, vi (3 : Int32), vr a584, vr a599, vj (((0 : Int64) + (((own_lo p1).toInt64) * ((own_hi p1).toInt64))) + (((own_lo p2).toInt64) * ((own_hi p2).toInt64))), ss, uu, uu] [(.double (FP.i2d (own_lo p3))), (.int (2 : Int32)), (.ref a584)])) rfl rfl (hb hby at_117)
    have N821 := Fr.snoc X816 N811 ge586
    have k822 : own_G p e below E0 T814 (mkF m 118 #[vi p0, vj p1, ss, vj p2, ss, vj p3, ss, vj p4, ss, vi (3 : Int32), vr a584, vr a599, vj (((0 : Int64) + (((own_lo p1).toInt64) * ((own_hi p1).toInt64))) + (((own_lo p2).toInt64) * ((own_hi p2).toInt64))), ss, uu, uu] []) := fun tQ kk => k813 tQ (st820 _ kk)
    clear k813 st820
    have F823 : own_A Z h815 a599 .double [(.double (FP.i2d (own_hi p1))), (.double (FP.i2d (own_hi p2))), (.double (0 : UInt64))] := F761.other W818 n602
    clear F761
    have Z824 : n0 ≤ h815.size := by rw [W818.size]; exact Z760
    have F825 : own_A Z h815 a584 .double [(.double (FP.i2d (own_lo p1))), (.double (FP.i2d (own_lo p2))), (.double (FP.i2d (own_lo p3)))] := F819
    have k826 : own_G p e below E0 T814 (mkF m 123 #[vi p0, vj p1, ss, vj p2, ss, vj p3, ss, vj p4, ss, vi (3 : Int32), vr a584, vr a599, vj (((0 : Int64) + (((own_lo p1).toInt64) * ((own_hi p1).toInt64))) + (((own_lo p2).toInt64) * ((own_hi p2).toInt64))), ss, uu, uu] [(.long p3), (.int (2 : Int32)), (.ref a599)]) := by
      intro tQ kk
      refine k822 tQ ?_
      refine XS.aload X816.here hx rfl (hb hby at_118) rfl rfl ?_
      refine XS.iconst X816.here hx rfl (hb hby at_120) ?_
      refine XT.lload X816.here hx rfl (hb hby at_121) rfl ?_
      exact kk
    clear k822
    obtain ⟨_, _, ⟨T827, L828, kc829, nc830⟩, -, X831, ⟨Lc832, hQ833, l834, y835, z836⟩, st837⟩ := Jvm.LawKit.callS X816 hx (y := mn1) hown (mvT hZ (tw10 hw)) (mvT hZ (tw11 hw)) (mvT hZ (tw7 hw)) (mvT hZ (tw12 hw)) (by decide) (backOf (W := 2) (rmH l Z a0 hw [] p3 h815 n0 Z824 ) hZ (tw12 hw) (tw7 hw) (by decide) (by decide)) (g := (mkF m 123 #[vi p0, vj p1, ss, vj p2, ss, vj p3, ss, vj p4, ss, vi (3 : Int32), vr a584, vr a599, vj (((0 : Int64) + (((own_lo p1).toInt64) * ((own_hi p1).toInt64))) + (((own_lo p2).toInt64) * ((own_hi p2).toInt64))), ss, uu, uu] [(.long p3), (.int (2 : Int32)), (.ref a599)])) rfl (by rw [hml]; rfl) (argsL := [(.long p3)]) (rest := [(.int (2 : Int32)), (.ref a599)]) (lenOf pd_4 rfl) rfl (by show 2 * 0 + _ ≤ _; exact Nat.le_of_eq rfl) (hb hby at_123) (fun _ _ => ⟨rfl, e817, (by decide : 2 + 0 ≤ _), (by decide : 6 + 0 ≤ _)⟩)
    dsimp only [Pt.U, Pt.locs, Pt.cells, Pt.slots] at X831 l834 y835 z836 st837 hQ833
    subst y835 z836
    obtain ⟨rfl, N838, e839⟩ := hQ833
    have N841 : Fr n0 L828 := by rw [l834]; exact Fr.app N821 N838
    clear l834 N838
    have k842 : own_G p e below E0 T827 (mkF m 126 #[vi p0, vj p1, ss, vj p2, ss, vj p3, ss, vj p4, ss, vi (3 : Int32), vr a584, vr a599, vj (((0 : Int64) + (((own_lo p1).toInt64) * ((own_hi p1).toInt64))) + (((own_lo p2).toInt64) * ((own_hi p2).toInt64))), ss, uu, uu] [(.int (own_hi p3)), (.int (2 : Int32)), (.ref a599)]) := fun tQ kk => k826 tQ (st837 _ kk)
    clear k826 st837
    have k843 : own_G p e below E0 T827 (mkF m 127 #[vi p0, vj p1, ss, vj p2, ss, vj p3, ss, vj p4, ss, vi (3 : Int32), vr a584, vr a599, vj (((0 : Int64) + (((own_lo p1).toInt64) * ((own_hi p1).toInt64))) + (((own_lo p2).toInt64) * ((own_hi p2).toInt64))), ss, uu, uu] [(.double (FP.i2d (own_hi p3))), (.int (2 : Int32)), (.ref a599)]) := by
      intro tQ kk
      refine k842 tQ ?_
      refine XS.i2dS X831.here hx rfl (hb hby at_126) rfl rfl ?_
      exact kk
    clear k842
    obtain ⟨T844, h845, X846, e847, W848, F849, st850⟩ := own_A.dst X831 hx hZ e839 F823 (j := (2 : Int32)) (by decide) rfl (g := (mkF m 127 #[vi p0, vj p1, ss, vj p2, ss, vj p3, ss, vj p4, ss, vi (3 : Int32), vr a584, vr a599, vj (((0 : Int64) + (((own_lo p1).toInt64) * ((own_hi p1).toInt64))) + (((own_lo p2).toInt64) * ((own_hi p2).toInt64))), ss, uu, uu] [(.double (FP.i2d (own_hi p3))), (.int (2 : Int32)), (.ref a599)])) rfl rfl (hb hby at_127)
    have N851 := Fr.snoc X846 N841 ge603
    have k852 : own_G p e below E0 T844 (mkF m 128 #[vi p0, vj p1, ss, vj p2, ss, vj p3, ss, vj p4, ss, vi (3 : Int32), vr a584, vr a599, vj (((0 : Int64) + (((own_lo p1).toInt64) * ((own_hi p1).toInt64))) + (((own_lo p2).toInt64) * ((own_hi p2).toInt64))), ss, uu, uu] []) := fun tQ kk => k843 tQ (st850 _ kk)
    clear k843 st850
    have F853 : own_A Z h845 a584 .double [(.double (FP.i2d (own_lo p1))), (.double (FP.i2d (own_lo p2))), (.double (FP.i2d (own_lo p3)))] := F825.other W848 n601
    clear F825
    have Z854 : n0 ≤ h845.size := by rw [W848.size]; exact Z824
    have F855 : own_A Z h845 a599 .double [(.double (FP.i2d (own_hi p1))), (.double (FP.i2d (own_hi p2))), (.double (FP.i2d (own_hi p3)))] := F849
    have k856 : own_G p e below E0 T844 (mkF m 132 #[vi p0, vj p1, ss, vj p2, ss, vj p3, ss, vj p4, ss, vi (3 : Int32), vr a584, vr a599, vj (((0 : Int64) + (((own_lo p1).toInt64) * ((own_hi p1).toInt64))) + (((own_lo p2).toInt64) * ((own_hi p2).toInt64))), ss, uu, uu] [(.long p3), (.long (((0 : Int64) + (((own_lo p1).toInt64) * ((own_hi p1).toInt64))) + (((own_lo p2).toInt64) * ((own_hi p2).toInt64))))]) := by
      intro tQ kk
      refine k852 tQ ?_
      refine XT.lload X846.here hx rfl (hb hby at_128) rfl ?_
      refine XT.lload X846.here hx rfl (hb hby at_130) rfl ?_
      exact kk
    clear k852
    obtain ⟨_, _, ⟨T857, L858, kc859, nc860⟩, -, X861, ⟨Lc862, hQ863, l864, y865, z866⟩, st867⟩ := Jvm.LawKit.callS X846 hx (y := mn0) hown (mvT hZ (tw5 hw)) (mvT hZ (tw6 hw)) (mvT hZ (tw7 hw)) (mvT hZ (tw8 hw)) (by decide) (backOf (W := 2) (rmL l Z a0 hw [] p3 h845 n0 Z854 ) hZ (tw8 hw) (tw7 hw) (by decide) (by decide)) (g := (mkF m 132 #[vi p0, vj p1, ss, vj p2, ss, vj p3, ss, vj p4, ss, vi (3 : Int32), vr a584, vr a599, vj (((0 : Int64) + (((own_lo p1).toInt64) * ((own_hi p1).toInt64))) + (((own_lo p2).toInt64) * ((own_hi p2).toInt64))), ss, uu, uu] [(.long p3), (.long (((0 : Int64) + (((own_lo p1).toInt64) * ((own_hi p1).toInt64))) + (((own_lo p2).toInt64) * ((own_hi p2).toInt64))))])) rfl (by rw [hml]; rfl) (argsL := [(.long p3)]) (rest := [(.long (((0 : Int64) + (((own_lo p1).toInt64) * ((own_hi p1).toInt64))) + (((own_lo p2).toInt64) * ((own_hi p2).toInt64))))]) (lenOf pd_4 rfl) rfl (by show 2 * 0 + _ ≤ _; exact Nat.le_of_eq rfl) (hb hby at_132) (fun _ _ => ⟨rfl, e847, (by decide : 2 + 0 ≤ _), (by decide : 6 + 0 ≤ _)⟩)
    dsimp only [Pt.U, Pt.locs, Pt.cells, Pt.slots] at X861 l864 y865 z866 st867 hQ863
    subst y865 z866
    obtain ⟨rfl, N868, e869⟩ := hQ863
    have N871 : Fr n0 L858 := by rw [l864]; exact Fr.app N851 N868
    clear l864 N868
    have k872 : own_G p e below E0 T857 (mkF m 135 #[vi p0, vj p1, ss, vj p2, ss, vj p3, ss, vj p4, ss, vi (3 : Int32), vr a584, vr a599, vj (((0 : Int64) + (((own_lo p1).toInt64) * ((own_hi p1).toInt64))) + (((own_lo p2).toInt64) * ((own_hi p2).toInt64))), ss, uu, uu] [(.int (own_lo p3)), (.long (((0 : Int64) + (((own_lo p1).toInt64) * ((own_hi p1).toInt64))) + (((own_lo p2).toInt64) * ((own_hi p2).toInt64))))]) := fun tQ kk => k856 tQ (st867 _ kk)
    clear k856 st867
    have k873 : own_G p e below E0 T857 (mkF m 138 #[vi p0, vj p1, ss, vj p2, ss, vj p3, ss, vj p4, ss, vi (3 : Int32), vr a584, vr a599, vj (((0 : Int64) + (((own_lo p1).toInt64) * ((own_hi p1).toInt64))) + (((own_lo p2).toInt64) * ((own_hi p2).toInt64))), ss, uu, uu] [(.long p3), (.long ((own_lo p3).toInt64)), (.long (((0 : Int64) + (((own_lo p1).toInt64) * ((own_hi p1).toInt64))) + (((own_lo p2).toInt64) * ((own_hi p2).toInt64))))]) := by
      intro tQ kk
      refine k872 tQ ?_
      refine XT.i2l X861.here hx rfl (hb hby at_135) rfl ?_
      refine XT.lload X861.here hx rfl (hb hby at_136) rfl ?_
      exact kk
    clear k872
    obtain ⟨_, _, ⟨T874, L875, kc876, nc877⟩, -, X878, ⟨Lc879, hQ880, l881, y882, z883⟩, st884⟩ := Jvm.LawKit.callS X861 hx (y := mn1) hown (mvT hZ (tw10 hw)) (mvT hZ (tw11 hw)) (mvT hZ (tw7 hw)) (mvT hZ (tw12 hw)) (by decide) (backOf (W := 4) (rmH l Z a0 hw [] p3 h845 n0 Z854 ) hZ (tw12 hw) (tw7 hw) (by decide) (by decide)) (g := (mkF m 138 #[vi p0, vj p1, ss, vj p2, ss, vj p3, ss, vj p4, ss, vi (3 : Int32), vr a584, vr a599, vj (((0 : Int64) + (((own_lo p1).toInt64) * ((own_hi p1).toInt64))) + (((own_lo p2).toInt64) * ((own_hi p2).toInt64))), ss, uu, uu] [(.long p3), (.long ((own_lo p3).toInt64)), (.long (((0 : Int64) + (((own_lo p1).toInt64) * ((own_hi p1).toInt64))) + (((own_lo p2).toInt64) * ((own_hi p2).toInt64))))])) rfl (by rw [hml]; rfl) (argsL := [(.long p3)]) (rest := [(.long ((own_lo p3).toInt64)), (.long (((0 : Int64) + (((own_lo p1).toInt64) * ((own_hi p1).toInt64))) + (((own_lo p2).toInt64) * ((own_hi p2).toInt64))))]) (lenOf pd_4 rfl) rfl (by show 2 * 0 + _ ≤ _; exact Nat.le_of_eq rfl) (hb hby at_138) (fun _ _ => ⟨rfl, e869, (by decide : 2 + 0 ≤ _), (by decide : 6 + 0 ≤ _)⟩)
    dsimp only [Pt.U, Pt.locs, Pt.cells, Pt.slots] at X878 l881 y882 z883 st884 hQ880
    subst y882 z883
    obtain ⟨rfl, N885, e886⟩ := hQ880
    have N888 : Fr n0 L875 := by rw [l881]; exact Fr.app N871 N885
    clear l881 N885
    have k889 : own_G p e below E0 T874 (mkF m 141 #[vi p0, vj p1, ss, vj p2, ss, vj p3, ss, vj p4, ss, vi (3 : Int32), vr a584, vr a599, vj (((0 : Int64) + (((own_lo p1).toInt64) * ((own_hi p1).toInt64))) + (((own_lo p2).toInt64) * ((own_hi p2).toInt64))), ss, uu, uu] [(.int (own_hi p3)), (.long ((own_lo p3).toInt64)), (.long (((0 : Int64) + (((own_lo p1).toInt64) * ((own_hi p1).toInt64))) + (((own_lo p2).toInt64) * ((own_hi p2).toInt64))))]) := fun tQ kk => k873 tQ (st884 _ kk)
    clear k873 st884
    have k890 : own_G p e below E0 T874 (mkF m 194 #[vi p0, vj p1, ss, vj p2, ss, vj p3, ss, vj p4, ss, vi (3 : Int32), vr a584, vr a599, vj ((((0 : Int64) + (((own_lo p1).toInt64) * ((own_hi p1).toInt64))) + (((own_lo p2).toInt64) * ((own_hi p2).toInt64))) + (((own_lo p3).toInt64) * ((own_hi p3).toInt64))), ss, uu, uu] [(.ref a599), (.ref a584)]) := by
      intro tQ kk
      refine k889 tQ ?_
      refine XT.i2l X878.here hx rfl (hb hby at_141) rfl ?_
      refine XT.lmul X878.here hx rfl (hb hby at_142) rfl ?_
      refine XT.ladd X878.here hx rfl (hb hby at_143) rfl ?_
      refine XT.lstore X878.here hx rfl (hb hby at_144) rfl (l' := #[vi p0, vj p1, ss, vj p2, ss, vj p3, ss, vj p4, ss, vi (3 : Int32), vr a584, vr a599, vj ((((0 : Int64) + (((own_lo p1).toInt64) * ((own_hi p1).toInt64))) + (((own_lo p2).toInt64) * ((own_hi p2).toInt64))) + (((own_lo p3).toInt64) * ((own_hi p3).toInt64))), ss, uu, uu]) rfl ?_
      show Steps p.tables e below (T874.setTop (mkF m 146 #[vi p0, vj p1, ss, vj p2, ss, vj p3, ss, vj p4, ss, vi (3 : Int32), vr a584, vr a599, vj ((((0 : Int64) + (((own_lo p1).toInt64) * ((own_hi p1).toInt64))) + (((own_lo p2).toInt64) * ((own_hi p2).toInt64))) + (((own_lo p3).toInt64) * ((own_hi p3).toInt64))), ss, uu, uu] [])) tQ
      refine XS.iload X878.here hx rfl (hb hby at_146) rfl ?_
      refine XS.iconst X878.here hx rfl (hb hby at_148) ?_
      refine XS.icmpYes X878.here hx rfl (pc0 := 149) (pc' := 190) rfl (hb hby at_149) rfl (own_ic_leY (by decide)) (by decide) (by decide) ?_
      refine XS.aload X878.here hx rfl (hb hby at_190) rfl rfl ?_
      show Steps p.tables e below (T874.setTop (mkF m 192 #[vi p0, vj p1, ss, vj p2, ss, vj p3, ss, vj p4, ss, vi (3 : Int32), vr a584, vr a599, vj ((((0 : Int64) + (((own_lo p1).toInt64) * ((own_hi p1).toInt64))) + (((own_lo p2).toInt64) * ((own_hi p2).toInt64))) + (((own_lo p3).toInt64) * ((own_hi p3).toInt64))), ss, uu, uu] [(.ref a584)])) tQ
      refine XS.aload X878.here hx rfl (hb hby at_192) rfl rfl ?_
      exact kk
    clear k889
    obtain ⟨_, _, ⟨T891, L892, kc893, nc894⟩, -, X895, ⟨Lc896, hQ897, l898, y899, z900⟩, st901⟩ := Jvm.LawKit.callS X878 hx (y := mn2) hown (mvT hZ (tw1 hw)) (mvT hZ (tw2 hw)) (mvT hZ (tw3 hw)) (mvT hZ (tw4 hw)) (by decide) (backOf (W := 0) (rmV3 l Z a0 hw [] a584 a599 (FP.i2d (own_lo p1)) (FP.i2d (own_lo p2)) (FP.i2d (own_lo p3)) (FP.i2d (own_hi p1)) (FP.i2d (own_hi p2)) (FP.i2d (own_hi p3)) (own_lo p1).toInt (own_lo p2).toInt (own_lo p3).toInt (own_hi p1).toInt (own_hi p2).toInt (own_hi p3).toInt h845 n0 Z854 F853 F855 (FP.Core.i2d_int (own_lo p1)) (FP.Core.i2d_int (own_hi p1)) (own_lob p1) (own_hib p1) (FP.Core.i2d_int (own_lo p2)) (FP.Core.i2d_int (own_hi p2)) (own_lob p2) (own_hib p2) (FP.Core.i2d_int (own_lo p3)) (FP.Core.i2d_int (own_hi p3)) (own_lob p3) (own_hib p3)) hZ (tw4 hw) (tw3 hw) (by decide) (by decide)) (g := (mkF m 194 #[vi p0, vj p1, ss, vj p2, ss, vj p3, ss, vj p4, ss, vi (3 : Int32), vr a584, vr a599, vj ((((0 : Int64) + (((own_lo p1).toInt64) * ((own_hi p1).toInt64))) + (((own_lo p2).toInt64) * ((own_hi p2).toInt64))) + (((own_lo p3).toInt64) * ((own_hi p3).toInt64))), ss, uu, uu] [(.ref a599), (.ref a584)])) rfl (by rw [hml]; rfl) (argsL := [(.ref a584), (.ref a599)]) (rest := []) (lenOf pd_3 rfl) rfl (by show 2 * 0 + _ ≤ _; exact Nat.le_of_eq rfl) (hb hby at_194) (fun _ _ => ⟨rfl, e886, (by decide : 2 + 0 ≤ _), (by decide : 6 + 0 ≤ _)⟩)
    dsimp only [Pt.U, Pt.locs, Pt.cells, Pt.slots] at X895 l898 y899 z900 st901 hQ897
    subst y899 z900
    obtain ⟨r905, rfl, N902, e903, g906⟩ := hQ897
    have N907 : Fr n0 L892 := by rw [l898]; exact Fr.app N888 N902
    clear l898 N902
    have k908 : own_G p e below E0 T891 (mkF m 197 #[vi p0, vj p1, ss, vj p2, ss, vj p3, ss, vj p4, ss, vi (3 : Int32), vr a584, vr a599, vj ((((0 : Int64) + (((own_lo p1).toInt64) * ((own_hi p1).toInt64))) + (((own_lo p2).toInt64) * ((own_hi p2).toInt64))) + (((own_lo p3).toInt64) * ((own_hi p3).toInt64))), ss, uu, uu] [(.double r905)]) := fun tQ kk => k890 tQ (st901 _ kk)
    clear k890 st901
    have k909 : own_G p e below E0 T891 (mkF m 213 #[vi p0, vj p1, ss, vj p2, ss, vj p3, ss, vj p4, ss, vi (3 : Int32), vr a584, vr a599, vj ((((0 : Int64) + (((own_lo p1).toInt64) * ((own_hi p1).toInt64))) + (((own_lo p2).toInt64) * ((own_hi p2).toInt64))) + (((own_lo p3).toInt64) * ((own_hi p3).toInt64))), ss, vd r905, ss] [(.int (1 : Int32))]) := by
      intro tQ kk
      refine k908 tQ ?_
      refine XS.dstore X895.here hx rfl (hb hby at_197) rfl (l' := #[vi p0, vj p1, ss, vj p2, ss, vj p3, ss, vj p4, ss, vi (3 : Int32), vr a584, vr a599, vj ((((0 : Int64) + (((own_lo p1).toInt64) * ((own_hi p1).toInt64))) + (((own_lo p2).toInt64) * ((own_hi p2).toInt64))) + (((own_lo p3).toInt64) * ((own_hi p3).toInt64))), ss, vd r905, ss]) rfl ?_
      refine XS.dload X895.here hx rfl (hb hby at_199) rfl ?_
      refine XT.lload X895.here hx rfl (hb hby at_201) rfl ?_
      refine XS.l2dS X895.here hx rfl (hb hby at_203) rfl rfl ?_
      show Steps p.tables e below (T891.setTop (mkF m 204 #[vi p0, vj p1, ss, vj p2, ss, vj p3, ss, vj p4, ss, vi (3 : Int32), vr a584, vr a599, vj ((((0 : Int64) + (((own_lo p1).toInt64) * ((own_hi p1).toInt64))) + (((own_lo p2).toInt64) * ((own_hi p2).toInt64))) + (((own_lo p3).toInt64) * ((own_hi p3).toInt64))), ss, vd r905, ss] [(.double (FP.l2d ((((0 : Int64) + (((own_lo p1).toInt64) * ((own_hi p1).toInt64))) + (((own_lo p2).toInt64) * ((own_hi p2).toInt64))) + (((own_lo p3).toInt64) * ((own_hi p3).toInt64))))), (.double r905)])) tQ
      refine XS.dcmpS (v := (0 : Int32)) X895.here hx rfl (hb hby at_204) rfl (own_eq0 .l g906 (own_dl _ (own_ra (own_ra (own_ra (show (0 : Int64).toInt = 0 from rfl) (by have := own_p6 (own_lob p1) (own_hib p1); have := own_p6 (own_lob p2) (own_hib p2); have := own_p6 (own_lob p3) (own_hib p3); have := own_p6 (own_lob p4) (own_hib p4); omega) (own_lob p1) (own_hib p1)) (by have := own_p6 (own_lob p1) (own_hib p1); have := own_p6 (own_lob p2) (own_hib p2); have := own_p6 (own_lob p3) (own_hib p3); have := own_p6 (own_lob p4) (own_hib p4); omega) (own_lob p2) (own_hib p2)) (by have := own_p6 (own_lob p1) (own_hib p1); have := own_p6 (own_lob p2) (own_hib p2); have := own_p6 (own_lob p3) (own_hib p3); have := own_p6 (own_lob p4) (own_hib p4); omega) (own_lob p3) (own_hib p3)) (own_s6 (by have := own_p6 (own_lob p1) (own_hib p1); have := own_p6 (own_lob p2) (own_hib p2); have := own_p6 (own_lob p3) (own_hib p3); have := own_p6 (own_lob p4) (own_hib p4); omega) (by have := own_p6 (own_lob p1) (own_hib p1); have := own_p6 (own_lob p2) (own_hib p2); have := own_p6 (own_lob p3) (own_hib p3); have := own_p6 (own_lob p4) (own_hib p4); omega)))) ?_
      refine XS.ifNo X895.here hx rfl (hb hby at_205) rfl (own_if_neN (by decide)) ?_
      refine XS.iconst X895.here hx rfl (hb hby at_208) ?_
      refine XS.goto X895.here hx rfl (pc0 := 209) (pc' := 213) rfl (hb hby at_209) (by decide) (by decide) ?_
      exact kk
    clear k908
    obtain ⟨fs, hr, hrun, hended, hW, hsame⟩ := X895.leave (v := some (.int (1 : Int32))) (fun h => by rw [Bd.returns] at h; cases h)
    have hrun0 := k909 _ (retOut X895 hx Bd.returns (t := .boolean) rfl (Or.inl ⟨rfl, Or.inr (Or.inl rfl), _, rfl⟩) (hb hby at_213) hr)
    subst hE0
    refine ⟨_, _, hrun0, hrun, hended, _, _, rfl, ?_, ⟨_, rfl⟩, hW, hsame.mono (by decide) (by decide)⟩
    show Qrm0 Z p0 p1 p2 p3 p4 h0 n0 _ T891.heap _
    rw [e903]
    exact ⟨rfl, N907⟩
  · skip
    have k910 : own_G p e below E0 s₁ (mkF m 10 #[vi p0, vj p1, ss, vj p2, ss, vj p3, ss, vj p4, ss, vi (4 : Int32), uu, uu, uu, uu, uu, uu] [(.int (4 : Int32))]) := by
      intro tQ kk
      refine k133 tQ ?_
      refine XS.istore X0.here hx rfl (hb hby at_6) rfl (l' := #[vi p0, vj p1, ss, vj p2, ss, vj p3, ss, vj p4, ss, vi (4 : Int32), uu, uu, uu, uu, uu, uu]) rfl ?_
      refine XS.iload X0.here hx rfl (hb hby at_8) rfl ?_
      exact kk
    clear k133
    obtain ⟨T911, h912, cA913, X914, e915, E916, A917, st918⟩ := newP (aty := .double) X0 hx hZ (tw0 hw) e0 (g := (mkF m 10 #[vi p0, vj p1, ss, vj p2, ss, vj p3, ss, vj p4, ss, vi (4 : Int32), uu, uu, uu, uu, uu, uu] [(.int (4 : Int32))])) rfl (hb hby at_10) rfl (by decide) (cap := 4) (by decide) (by decide) (by decide) (by decide)
    obtain ⟨a919, g920⟩ : ∃ zA : Nat, zA = h0.size := ⟨_, rfl⟩
    rw [← g920] at A917 st918
    have ge921 : n0 ≤ a919 := own_ge_of Z0 g920
    have Z922 : n0 ≤ h912.size := Nat.le_trans Z0 E916.1
    have F923 : own_A Z h912 a919 .double [(.double (0 : UInt64)), (.double (0 : UInt64)), (.double (0 : UInt64)), (.double (0 : UInt64))] := own_A.new A917
    have k924 : own_G p e below E0 T911 (mkF m 12 #[vi p0, vj p1, ss, vj p2, ss, vj p3, ss, vj p4, ss, vi (4 : Int32), uu, uu, uu, uu, uu, uu] [(.ref a919)]) := fun tQ kk => k910 tQ (st918 _ kk)
    clear k910 st918
    have k925 : own_G p e below E0 T911 (mkF m 16 #[vi p0, vj p1, ss, vj p2, ss, vj p3, ss, vj p4, ss, vi (4 : Int32), vr a919, uu, uu, uu, uu, uu] [(.int (4 : Int32))]) := by
      intro tQ kk
      refine k924 tQ ?_
      refine XS.astore X914.here hx rfl (hb hby at_12) rfl rfl (l' := #[vi p0, vj p1, ss, vj p2, ss, vj p3, ss, vj p4, ss, vi (4 : Int32), vr a919, uu, uu, uu, uu, uu]) rfl ?_
      refine XS.iload X914.here hx rfl (hb hby at_14) rfl ?_
      exact kk
    clear k924
    obtain ⟨T926, h927, cA928, X929, e930, E931, A932, st933⟩ := newP (aty := .double) X914 hx hZ (tw0 hw) e915 (g := (mkF m 16 #[vi p0, vj p1, ss, vj p2, ss, vj p3, ss, vj p4, ss, vi (4 : Int32), vr a919, uu, uu, uu, uu, uu] [(.int (4 : Int32))])) rfl (hb hby at_16) rfl (by decide) (cap := 4) (by decide) (by decide) (by decide) (by decide)
    obtain ⟨a934, g935⟩ : ∃ zA : Nat, zA = h912.size := ⟨_, rfl⟩
    rw [← g935] at A932 st933
    have n936 : a919 ≠ a934 := own_lt_ne F923.lt g935
    have n937 : a934 ≠ a919 := fun q => n936 q.symm
    have ge938 : n0 ≤ a934 := own_ge_of Z922 g935
    have Z939 : n0 ≤ h927.size := Nat.le_trans Z922 E931.1
    have F940 : own_A Z h927 a919 .double [(.double (0 : UInt64)), (.double (0 : UInt64)), (.double (0 : UInt64)), (.double (0 : UInt64))] := F923.ext E931
    clear F923
    have F941 : own_A Z h927 a934 .double [(.double (0 : UInt64)), (.double (0 : UInt64)), (.double (0 : UInt64)), (.double (0 : UInt64))] := own_A.new A932
    have k942 : own_G p e below E0 T926 (mkF m 18 #[vi p0, vj p1, ss, vj p2, ss, vj p3, ss, vj p4, ss, vi (4 : Int32), vr a919, uu, uu, uu, uu, uu] [(.ref a934)]) := fun tQ kk => k925 tQ (st933 _ kk)
    clear k925 st933
    have k943 : own_G p e below E0 T926 (mkF m 32 #[vi p0, vj p1, ss, vj p2, ss, vj p3, ss, vj p4, ss, vi (4 : Int32), vr a919, vr a934, vj (0 : Int64), ss, uu, uu] [(.long p1), (.int (0 : Int32)), (.ref a919)]) := by
      intro tQ kk
      refine k942 tQ ?_
      refine XS.astore X929.here hx rfl (hb hby at_18) rfl rfl (l' := #[vi p0, vj p1, ss, vj p2, ss, vj p3, ss, vj p4, ss, vi (4 : Int32), vr a919, vr a934, uu, uu, uu, uu]) rfl ?_
      refine XT.lconst X929.here hx rfl (hb hby at_20) ?_
      refine XT.lstore X929.here hx rfl (hb hby at_21) rfl (l' := #[vi p0, vj p1, ss, vj p2, ss, vj p3, ss, vj p4, ss, vi (4 : Int32), vr a919, vr a934, vj (0 : Int64), ss, uu, uu]) rfl ?_
      refine XS.iload X929.here hx rfl (hb hby at_23) rfl ?_
      show Steps p.tables e below (T926.setTop (mkF m 25 #[vi p0, vj p1, ss, vj p2, ss, vj p3, ss, vj p4, ss, vi (4 : Int32), vr a919, vr a934, vj (0 : Int64), ss, uu, uu] [(.int (4 : Int32))])) tQ
      refine XS.ifNo X929.here hx rfl (hb hby at_25) rfl (own_if_leN (by decide)) ?_
      refine XS.aload X929.here hx rfl (hb hby at_28) rfl rfl ?_
      refine XS.iconst X929.here hx rfl (hb hby at_30) ?_
      refine XT.lloadN X929.here hx rfl (hb hby at_31) rfl ?_
      exact kk
    clear k942
    obtain ⟨_, _, ⟨T944, L945, kc946, nc947⟩, -, X948, ⟨Lc949, hQ950, l951, y952, z953⟩, st954⟩ := Jvm.LawKit.callS X929 hx (y := mn0) hown (mvT hZ (tw5 hw)) (mvT hZ (tw6 hw)) (mvT hZ (tw7 hw)) (mvT hZ (tw8 hw)) (by decide) (backOf (W := 2) (rmL l Z a0 hw [] p1 h927 n0 Z939 ) hZ (tw8 hw) (tw7 hw) (by decide) (by decide)) (g := (mkF m 32 #[vi p0, vj p1, ss, vj p2, ss, vj p3, ss, vj p4, ss, vi (4 : Int32), vr a919, vr a934, vj (0 : Int64), ss, uu, uu] [(.long p1), (.int (0 : Int32)), (.ref a919)])) rfl (by rw [hml]; rfl) (argsL := [(.long p1)]) (rest := [(.int (0 : Int32)), (.ref a919)]) (lenOf pd_4 rfl) rfl (by show 2 * 0 + _ ≤ _; exact Nat.le_of_eq rfl) (hb hby at_32) (fun _ _ => ⟨rfl, e930, (by decide : 2 + 0 ≤ _), (by decide : 8 + 0 ≤ _)⟩)
    dsimp only [Pt.U, Pt.locs, Pt.cells, Pt.slots] at X948 l951 y952 z953 st954 hQ950
    subst y952 z953
    obtain ⟨rfl, N955, e956⟩ := hQ950
    have N958 : Fr n0 L945 := by rw [l951]; exact Fr.app N0 N955
    clear l951 N955
    have k959 : own_G p e below E0 T944 (mkF m 35 #[vi p0, vj p1, ss, vj p2, ss, vj p3, ss, vj p4, ss, vi (4 : Int32), vr a919, vr a934, vj (0 : Int64), ss, uu, uu] [(.int (own_lo p1)), (.int (0 : Int32)), (.ref a919)]) := fun tQ kk => k943 tQ (st954 _ kk)
    clear k943 st954
    have k960 : own_G p e below E0 T944 (mkF m 36 #[vi p0, vj p1, ss, vj p2, ss, vj p3, ss, vj p4, ss, vi (4 : Int32), vr a919, vr a934, vj (0 : Int64), ss, uu, uu] [(.double (FP.i2d (own_lo p1))), (.int (0 : Int32)), (.ref a919)]) := by
      intro tQ kk
      refine k959 tQ ?_
      refine XS.i2dS X948.here hx rfl (hb hby at_35) rfl rfl ?_
      exact kk
    clear k959
    obtain ⟨T961, h962, X963, e964, W965, F966, st967⟩ := own_A.dst X948 hx hZ e956 F940 (j := (0 : Int32)) (by decide) rfl (g := (mkF m 36 #[vi p0, vj p1, ss, vj p2, ss, vj p3, ss, vj p4, ss, vi (4 : Int32), vr a919, vr a934, vj (0 : Int64), ss, uu, uu] [(.double (FP.i2d (own_lo p1))), (.int (0 : Int32)), (.ref a919)])) rfl rfl (hb hby at_36)
    have N968 := Fr.snoc X963 N958 ge921
    have k969 : own_G p e below E0 T961 (mkF m 37 #[vi p0, vj p1, ss, vj p2, ss, vj p3, ss, vj p4, ss, vi (4 : Int32), vr a919, vr a934, vj (0 : Int64), ss, uu, uu] []) := fun tQ kk => k960 tQ (st967 _ kk)
    clear k960 st967
    have F970 : own_A Z h962 a934 .double [(.double (0 : UInt64)), (.double (0 : UInt64)), (.double (0 : UInt64)), (.double (0 : UInt64))] := F941.other W965 n937
    clear F941
    have Z971 : n0 ≤ h962.size := by rw [W965.size]; exact Z939
    have F972 : own_A Z h962 a919 .double [(.double (FP.i2d (own_lo p1))), (.double (0 : UInt64)), (.double (0 : UInt64)), (.double (0 : UInt64))] := F966
    have k973 : own_G p e below E0 T961 (mkF m 41 #[vi p0, vj p1, ss, vj p2, ss, vj p3, ss, vj p4, ss, vi (4 : Int32), vr a919, vr a934, vj (0 : Int64), ss, uu, uu] [(.long p1), (.int (0 : Int32)), (.ref a934)]) := by
      intro tQ kk
      refine k969 tQ ?_
      refine XS.aload X963.here hx rfl (hb hby at_37) rfl rfl ?_
      refine XS.iconst X963.here hx rfl (hb hby at_39) ?_
      refine XT.lloadN X963.here hx rfl (hb hby at_40) rfl ?_
      exact kk
    clear k969
    obtain ⟨_, _, ⟨T974, L975, kc976, nc977⟩, -, X978, ⟨Lc979, hQ980, l981, y982, z983⟩, st984⟩ := Jvm.LawKit.callS X963 hx (y := mn1) hown (mvT hZ (tw10 hw)) (mvT hZ (tw11 hw)) (mvT hZ (tw7 hw)) (mvT hZ (tw12 hw)) (by decide) (backOf (W := 2) (rmH l Z a0 hw [] p1 h962 n0 Z971 ) hZ (tw12 hw) (tw7 hw) (by decide) (by decide)) (g := (mkF m 41 #[vi p0, vj p1, ss, vj p2, ss, vj p3, ss, vj p4, ss, vi (4 : Int32), vr a919, vr a934, vj (0 : Int64), ss, uu, uu] [(.long p1), (.int (0 : Int32)), (.ref a934)])) rfl (by rw [hml]; rfl) (argsL := [(.long p1)]) (rest := [(.int (0 : Int32)), (.ref a934)]) (lenOf pd_4 rfl) rfl (by show 2 * 0 + _ ≤ _; exact Nat.le_of_eq rfl) (hb hby at_41) (fun _ _ => ⟨rfl, e964, (by decide : 2 + 0 ≤ _), (by decide : 8 + 0 ≤ _)⟩)
    dsimp only [Pt.U, Pt.locs, Pt.cells, Pt.slots] at X978 l981 y982 z983 st984 hQ980
    subst y982 z983
    obtain ⟨rfl, N985, e986⟩ := hQ980
    have N988 : Fr n0 L975 := by rw [l981]; exact Fr.app N968 N985
    clear l981 N985
    have k989 : own_G p e below E0 T974 (mkF m 44 #[vi p0, vj p1, ss, vj p2, ss, vj p3, ss, vj p4, ss, vi (4 : Int32), vr a919, vr a934, vj (0 : Int64), ss, uu, uu] [(.int (own_hi p1)), (.int (0 : Int32)), (.ref a934)]) := fun tQ kk => k973 tQ (st984 _ kk)
    clear k973 st984
    have k990 : own_G p e below E0 T974 (mkF m 45 #[vi p0, vj p1, ss, vj p2, ss, vj p3, ss, vj p4, ss, vi (4 : Int32), vr a919, vr a934, vj (0 : Int64), ss, uu, uu] [(.double (FP.i2d (own_hi p1))), (.int (0 : Int32)), (.ref a934)]) := by
      intro tQ kk
      refine k989 tQ ?_
      refine XS.i2dS X978.here hx rfl (hb hby at_44) rfl rfl ?_
      exact kk
    clear k989
    obtain ⟨T991, h992, X993, e994, W995, F996, st997⟩ := own_A.dst X978 hx hZ e986 F970 (j := (0 : Int32)) (by decide) rfl (g := (mkF m 45 #[vi p0, vj p1, ss, vj p2, ss, vj p3, ss, vj p4, ss, vi (4 : Int32), vr a919, vr a934, vj (0 : Int64), ss, uu, uu] [(.double (FP.i2d (own_hi p1))), (.int (0 : Int32)), (.ref a934)])) rfl rfl (hb hby at_45)
    have N998 := Fr.snoc X993 N988 ge938
    have k999 : own_G p e below E0 T991 (mkF m 46 #[vi p0, vj p1, ss, vj p2, ss, vj p3, ss, vj p4, ss, vi (4 : Int32), vr a919, vr a934, vj (0 : Int64), ss, uu, uu] []) := fun tQ kk => k990 tQ (st997 _ kk)
    clear k990 st997
    have F1000 : own_A Z h992 a919 .double [(.double (FP.i2d (own_lo p1))), (.double (0 : UInt64)), (.double (0 : UInt64)), (.double (0 : UInt64))] := F972.other W995 n936
    clear F972
    have Z1001 : n0 ≤ h992.size := by rw [W995.size]; exact Z971
    have F1002 : own_A Z h992 a934 .double [(.double (FP.i2d (own_hi p1))), (.double (0 : UInt64)), (.double (0 : UInt64)), (.double (0 : UInt64))] := F996
    have k1003 : own_G p e below E0 T991 (mkF m 49 #[vi p0, vj p1, ss, vj p2, ss, vj p3, ss, vj p4, ss, vi (4 : Int32), vr a919, vr a934, vj (0 : Int64), ss, uu, uu] [(.long p1), (.long (0 : Int64))]) := by
      intro tQ kk
      refine k999 tQ ?_
      refine XT.lload X993.here hx rfl (hb hby at_46) rfl ?_
      refine XT.lloadN X993.here hx rfl (hb hby at_48) rfl ?_
      exact kk
    clear k999
    obtain ⟨_, _, ⟨T1004, L1005, kc1006, nc1007⟩, -, X1008, ⟨Lc1009, hQ1010, l1011, y1012, z1013⟩, st1014⟩ := Jvm.LawKit.callS X993 hx (y := mn0) hown (mvT hZ (tw5 hw)) (mvT hZ (tw6 hw)) (mvT hZ (tw7 hw)) (mvT hZ (tw8 hw)) (by decide) (backOf (W := 2) (rmL l Z a0 hw [] p1 h992 n0 Z1001 ) hZ (tw8 hw) (tw7 hw) (by decide) (by decide)) (g := (mkF m 49 #[vi p0, vj p1, ss, vj p2, ss, vj p3, ss, vj p4, ss, vi (4 : Int32), vr a919, vr a934, vj (0 : Int64), ss, uu, uu] [(.long p1), (.long (0 : Int64))])) rfl (by rw [hml]; rfl) (argsL := [(.long p1)]) (rest := [(.long (0 : Int64))]) (lenOf pd_4 rfl) rfl (by show 2 * 0 + _ ≤ _; exact Nat.le_of_eq rfl) (hb hby at_49) (fun _ _ => ⟨rfl, e994, (by decide : 2 + 0 ≤ _), (by decide : 8 + 0 ≤ _)⟩)
    dsimp only [Pt.U, Pt.locs, Pt.cells, Pt.slots] at X1008 l1011 y1012 z1013 st1014 hQ1010
    subst y1012 z1013
    obtain ⟨rfl, N1015, e1016⟩ := hQ1010
    have N1018 : Fr n0 L1005 := by rw [l1011]; exact Fr.app N998 N1015
    clear l1011 N1015
    have k1019 : own_G p e below E0 T1004 (mkF m 52 #[vi p0, vj p1, ss, vj p2, ss, vj p3, ss, vj p4, ss, vi (4 : Int32), vr a919, vr a934, vj (0 : Int64), ss, uu, uu] [(.int (own_lo p1)), (.long (0 : Int64))]) := fun tQ kk => k1003 tQ (st1014 _ kk)
    clear k1003 st1014
    have k1020 : own_G p e below E0 T1004 (mkF m 54 #[vi p0, vj p1, ss, vj p2, ss, vj p3, ss, vj p4, ss, vi (4 : Int32), vr a919, vr a934, vj (0 : Int64), ss, uu, uu] [(.long p1), (.long ((own_lo p1).toInt64)), (.long (0 : Int64))]) := by
      intro tQ kk
      refine k1019 tQ ?_
      refine XT.i2l X1008.here hx rfl (hb hby at_52) rfl ?_
      refine XT.lloadN X1008.here hx rfl (hb hby at_53) rfl ?_
      exact kk
    clear k1019
    obtain ⟨_, _, ⟨T1021, L1022, kc1023, nc1024⟩, -, X1025, ⟨Lc1026, hQ1027, l1028, y1029, z1030⟩, st1031⟩ := Jvm.LawKit.callS X1008 hx (y := mn1) hown (mvT hZ (tw10 hw)) (mvT hZ (tw11 hw)) (mvT hZ (tw7 hw)) (mvT hZ (tw12 hw)) (by decide) (backOf (W := 4) (rmH l Z a0 hw [] p1 h992 n0 Z1001 ) hZ (tw12 hw) (tw7 hw) (by decide) (by decide)) (g := (mkF m 54 #[vi p0, vj p1, ss, vj p2, ss, vj p3, ss, vj p4, ss, vi (4 : Int32), vr a919, vr a934, vj (0 : Int64), ss, uu, uu] [(.long p1), (.long ((own_lo p1).toInt64)), (.long (0 : Int64))])) rfl (by rw [hml]; rfl) (argsL := [(.long p1)]) (rest := [(.long ((own_lo p1).toInt64)), (.long (0 : Int64))]) (lenOf pd_4 rfl) rfl (by show 2 * 0 + _ ≤ _; exact Nat.le_of_eq rfl) (hb hby at_54) (fun _ _ => ⟨rfl, e1016, (by decide : 2 + 0 ≤ _), (by decide : 8 + 0 ≤ _)⟩)
    dsimp only [Pt.U, Pt.locs, Pt.cells, Pt.slots] at X1025 l1028 y1029 z1030 st1031 hQ1027
    subst y1029 z1030
    obtain ⟨rfl, N1032, e1033⟩ := hQ1027
    have N1035 : Fr n0 L1022 := by rw [l1028]; exact Fr.app N1018 N1032
    clear l1028 N1032
    have k1036 : own_G p e below E0 T1021 (mkF m 57 #[vi p0, vj p1, ss, vj p2, ss, vj p3, ss, vj p4, ss, vi (4 : Int32), vr a919, vr a934, vj (0 : Int64), ss, uu, uu] [(.int (own_hi p1)), (.long ((own_lo p1).toInt64)), (.long (0 : Int64))]) := fun tQ kk => k1020 tQ (st1031 _ kk)
    clear k1020 st1031
    have k1037 : own_G p e below E0 T1021 (mkF m 72 #[vi p0, vj p1, ss, vj p2, ss, vj p3, ss, vj p4, ss, vi (4 : Int32), vr a919, vr a934, vj ((0 : Int64) + (((own_lo p1).toInt64) * ((own_hi p1).toInt64))), ss, uu, uu] [(.long p2), (.int (1 : Int32)), (.ref a919)]) := by
      intro tQ kk
      refine k1036 tQ ?_
      refine XT.i2l X1025.here hx rfl (hb hby at_57) rfl ?_
      refine XT.lmul X1025.here hx rfl (hb hby at_58) rfl ?_
      refine XT.ladd X1025.here hx rfl (hb hby at_59) rfl ?_
      refine XT.lstore X1025.here hx rfl (hb hby at_60) rfl (l' := #[vi p0, vj p1, ss, vj p2, ss, vj p3, ss, vj p4, ss, vi (4 : Int32), vr a919, vr a934, vj ((0 : Int64) + (((own_lo p1).toInt64) * ((own_hi p1).toInt64))), ss, uu, uu]) rfl ?_
      show Steps p.tables e below (T1021.setTop (mkF m 62 #[vi p0, vj p1, ss, vj p2, ss, vj p3, ss, vj p4, ss, vi (4 : Int32), vr a919, vr a934, vj ((0 : Int64) + (((own_lo p1).toInt64) * ((own_hi p1).toInt64))), ss, uu, uu] [])) tQ
      refine XS.iload X1025.here hx rfl (hb hby at_62) rfl ?_
      refine XS.iconst X1025.here hx rfl (hb hby at_64) ?_
      refine XS.icmpNo X1025.here hx rfl (hb hby at_65) rfl (own_ic_leN (by decide)) ?_
      refine XS.aload X1025.here hx rfl (hb hby at_68) rfl rfl ?_
      show Steps p.tables e below (T1021.setTop (mkF m 70 #[vi p0, vj p1, ss, vj p2, ss, vj p3, ss, vj p4, ss, vi (4 : Int32), vr a919, vr a934, vj ((0 : Int64) + (((own_lo p1).toInt64) * ((own_hi p1).toInt64))), ss, uu, uu] [(.ref a919)])) tQ
      refine XS.iconst X1025.here hx rfl (hb hby at_70) ?_
      refine XT.lloadN X1025.here hx rfl (hb hby at_71) rfl ?_
      exact kk
    clear k1036
    obtain ⟨_, _, ⟨T1038, L1039, kc1040, nc1041⟩, -, X1042, ⟨Lc1043, hQ1044, l1045, y1046, z1047⟩, st1048⟩ := Jvm.LawKit.callS X1025 hx (y := mn0) hown (mvT hZ (tw5 hw)) (mvT hZ (tw6 hw)) (mvT hZ (tw7 hw)) (mvT hZ (tw8 hw)) (by decide) (backOf (W := 2) (rmL l Z a0 hw [] p2 h992 n0 Z1001 ) hZ (tw8 hw) (tw7 hw) (by decide) (by decide)) (g := (mkF m 72 #[vi p0, vj p1, ss, vj p2, ss, vj p3, ss, vj p4, ss, vi (4 : Int32), vr a919, vr a934, vj ((0 : Int64) + (((own_lo p1).toInt64) * ((own_hi p1).toInt64))), ss, uu, uu] [(.long p2), (.int (1 : Int32)), (.ref a919)])) rfl (by rw [hml]; rfl) (argsL := [(.long p2)]) (rest := [(.int (1 : Int32)), (.ref a919)]) (lenOf pd_4 rfl) rfl (by show 2 * 0 + _ ≤ _; exact Nat.le_of_eq rfl) (hb hby at_72) (fun _ _ => ⟨rfl, e1033, (by decide : 2 + 0 ≤ _), (by decide : 8 + 0 ≤ _)⟩)
    dsimp only [Pt.U, Pt.locs, Pt.cells, Pt.slots] at X1042 l1045 y1046 z1047 st1048 hQ1044
    subst y1046 z1047
    obtain ⟨rfl, N1049, e1050⟩ := hQ1044
    have N1052 : Fr n0 L1039 := by rw [l1045]; exact Fr.app N1035 N1049
    clear l1045 N1049
    have k1053 : own_G p e below E0 T1038 (mkF m 75 #[vi p0, vj p1, ss, vj p2, ss, vj p3, ss, vj p4, ss, vi (4 : Int32), vr a919, vr a934, vj ((0 : Int64) + (((own_lo p1).toInt64) * ((own_hi p1).toInt64))), ss, uu, uu] [(.int (own_lo p2)), (.int (1 : Int32)), (.ref a919)]) := fun tQ kk => k1037 tQ (st1048 _ kk)
    clear k1037 st1048
    have k1054 : own_G p e below E0 T1038 (mkF m 76 #[vi p0, vj p1, ss, vj p2, ss, vj p3, ss, vj p4, ss, vi (4 : Int32), vr a919, vr a934, vj ((0 : Int64) + (((own_lo p1).toInt64) * ((own_hi p1).toInt64))), ss, uu, uu] [(.double (FP.i2d (own_lo p2))), (.int (1 : Int32)), (.ref a919)]) := by
      intro tQ kk
      refine k1053 tQ ?_
      refine XS.i2dS X1042.here hx rfl (hb hby at_75) rfl rfl ?_
      exact kk
    clear k1053
    obtain ⟨T1055, h1056, X1057, e1058, W1059, F1060, st1061⟩ := own_A.dst X1042 hx hZ e1050 F1000 (j := (1 : Int32)) (by decide) rfl (g := (mkF m 76 #[vi p0, vj p1, ss, vj p2, ss, vj p3, ss, vj p4, ss, vi (4 : Int32), vr a919, vr a934, vj ((0 : Int64) + (((own_lo p1).toInt64) * ((own_hi p1).toInt64))), ss, uu, uu] [(.double (FP.i2d (own_lo p2))), (.int (1 : Int32)), (.ref a919)])) rfl rfl (hb hby at_76)
    have N1062 := Fr.snoc X1057 N1052 ge921
    have k1063 : own_G p e below E0 T1055 (mkF m 77 #[vi p0, vj p1, ss, vj p2, ss, vj p3, ss, vj p4, ss, vi (4 : Int32), vr a919, vr a934, vj ((0 : Int64) + (((own_lo p1).toInt64) * ((own_hi p1).toInt64))), ss, uu, uu] []) := fun tQ kk => k1054 tQ (st1061 _ kk)
    clear k1054 st1061
    have F1064 : own_A Z h1056 a934 .double [(.double (FP.i2d (own_hi p1))), (.double (0 : UInt64)), (.double (0 : UInt64)), (.double (0 : UInt64))] := F1002.other W1059 n937
    clear F1002
    have Z1065 : n0 ≤ h1056.size := by rw [W1059.size]; exact Z1001
    have F1066 : own_A Z h1056 a919 .double [(.double (FP.i2d (own_lo p1))), (.double (FP.i2d (own_lo p2))), (.double (0 : UInt64)), (.double (0 : UInt64))] := F1060
    have k1067 : own_G p e below E0 T1055 (mkF m 81 #[vi p0, vj p1, ss, vj p2, ss, vj p3, ss, vj p4, ss, vi (4 : Int32), vr a919, vr a934, vj ((0 : Int64) + (((own_lo p1).toInt64) * ((own_hi p1).toInt64))), ss, uu, uu] [(.long p2), (.int (1 : Int32)), (.ref a934)]) := by
      intro tQ kk
      refine k1063 tQ ?_
      refine XS.aload X1057.here hx rfl (hb hby at_77) rfl rfl ?_
      refine XS.iconst X1057.here hx rfl (hb hby at_79) ?_
      refine XT.lloadN X1057.here hx rfl (hb hby at_80) rfl ?_
      exact kk
    clear k1063
    obtain ⟨_, _, ⟨T1068, L1069, kc1070, nc1071⟩, -, X1072, ⟨Lc1073, hQ1074, l1075, y1076, z1077⟩, st1078⟩ := Jvm.LawKit.callS X1057 hx (y := mn1) hown (mvT hZ (tw10 hw)) (mvT hZ (tw11 hw)) (mvT hZ (tw7 hw)) (mvT hZ (tw12 hw)) (by decide) (backOf (W := 2) (rmH l Z a0 hw [] p2 h1056 n0 Z1065 ) hZ (tw12 hw) (tw7 hw) (by decide) (by decide)) (g := (mkF m 81 #[vi p0, vj p1, ss, vj p2, ss, vj p3, ss, vj p4, ss, vi (4 : Int32), vr a919, vr a934, vj ((0 : Int64) + (((own_lo p1).toInt64) * ((own_hi p1).toInt64))), ss, uu, uu] [(.long p2), (.int (1 : Int32)), (.ref a934)])) rfl (by rw [hml]; rfl) (argsL := [(.long p2)]) (rest := [(.int (1 : Int32)), (.ref a934)]) (lenOf pd_4 rfl) rfl (by show 2 * 0 + _ ≤ _; exact Nat.le_of_eq rfl) (hb hby at_81) (fun _ _ => ⟨rfl, e1058, (by decide : 2 + 0 ≤ _), (by decide : 8 + 0 ≤ _)⟩)
    dsimp only [Pt.U, Pt.locs, Pt.cells, Pt.slots] at X1072 l1075 y1076 z1077 st1078 hQ1074
    subst y1076 z1077
    obtain ⟨rfl, N1079, e1080⟩ := hQ1074
    have N1082 : Fr n0 L1069 := by rw [l1075]; exact Fr.app N1062 N1079
    clear l1075 N1079
    have k1083 : own_G p e below E0 T1068 (mkF m 84 #[vi p0, vj p1, ss, vj p2, ss, vj p3, ss, vj p4, ss, vi (4 : Int32), vr a919, vr a934, vj ((0 : Int64) + (((own_lo p1).toInt64) * ((own_hi p1).toInt64))), ss, uu, uu] [(.int (own_hi p2)), (.int (1 : Int32)), (.ref a934)]) := fun tQ kk => k1067 tQ (st1078 _ kk)
    clear k1067 st1078
    have k1084 : own_G p e below E0 T1068 (mkF m 85 #[vi p0, vj p1, ss, vj p2, ss, vj p3, ss, vj p4, ss, vi (4 : Int32), vr a919, vr a934, vj ((0 : Int64) + (((own_lo p1).toInt64) * ((own_hi p1).toInt64))), ss, uu, uu] [(.double (FP.i2d (own_hi p2))), (.int (1 : Int32)), (.ref a934)]) := by
      intro tQ kk
      refine k1083 tQ ?_
      refine XS.i2dS X1072.here hx rfl (hb hby at_84) rfl rfl ?_
      exact kk
    clear k1083
    obtain ⟨T1085, h1086, X1087, e1088, W1089, F1090, st1091⟩ := own_A.dst X1072 hx hZ e1080 F1064 (j := (1 : Int32)) (by decide) rfl (g := (mkF m 85 #[vi p0, vj p1, ss, vj p2, ss, vj p3, ss, vj p4, ss, vi (4 : Int32), vr a919, vr a934, vj ((0 : Int64) + (((own_lo p1).toInt64) * ((own_hi p1).toInt64))), ss, uu, uu] [(.double (FP.i2d (own_hi p2))), (.int (1 : Int32)), (.ref a934)])) rfl rfl (hb hby at_85)
    have N1092 := Fr.snoc X1087 N1082 ge938
    have k1093 : own_G p e below E0 T1085 (mkF m 86 #[vi p0, vj p1, ss, vj p2, ss, vj p3, ss, vj p4, ss, vi (4 : Int32), vr a919, vr a934, vj ((0 : Int64) + (((own_lo p1).toInt64) * ((own_hi p1).toInt64))), ss, uu, uu] []) := fun tQ kk => k1084 tQ (st1091 _ kk)
    clear k1084 st1091
    have F1094 : own_A Z h1086 a919 .double [(.double (FP.i2d (own_lo p1))), (.double (FP.i2d (own_lo p2))), (.double (0 : UInt64)), (.double (0 : UInt64))] := F1066.other W1089 n936
    clear F1066
    have Z1095 : n0 ≤ h1086.size := by rw [W1089.size]; exact Z1065
    have F1096 : own_A Z h1086 a934 .double [(.double (FP.i2d (own_hi p1))), (.double (FP.i2d (own_hi p2))), (.double (0 : UInt64)), (.double (0 : UInt64))] := F1090
    have k1097 : own_G p e below E0 T1085 (mkF m 89 #[vi p0, vj p1, ss, vj p2, ss, vj p3, ss, vj p4, ss, vi (4 : Int32), vr a919, vr a934, vj ((0 : Int64) + (((own_lo p1).toInt64) * ((own_hi p1).toInt64))), ss, uu, uu] [(.long p2), (.long ((0 : Int64) + (((own_lo p1).toInt64) * ((own_hi p1).toInt64))))]) := by
      intro tQ kk
      refine k1093 tQ ?_
      refine XT.lload X1087.here hx rfl (hb hby at_86) rfl ?_
      refine XT.lloadN X1087.here hx rfl (hb hby at_88) rfl ?_
      exact kk
    clear k1093
    obtain ⟨_, _, ⟨T1098, L1099, kc1100, nc1101⟩, -, X1102, ⟨Lc1103, hQ1104, l1105, y1106, z1107⟩, st1108⟩ := Jvm.LawKit.callS X1087 hx (y := mn0) hown (mvT hZ (tw5 hw)) (mvT hZ (tw6 hw)) (mvT hZ (tw7 hw)) (mvT hZ (tw8 hw)) (by decide) (backOf (W := 2) (rmL l Z a0 hw [] p2 h1086 n0 Z1095 ) hZ (tw8 hw) (tw7 hw) (by decide) (by decide)) (g := (mkF m 89 #[vi p0, vj p1, ss, vj p2, ss, vj p3, ss, vj p4, ss, vi (4 : Int32), vr a919, vr a934, vj ((0 : Int64) + (((own_lo p1).toInt64) * ((own_hi p1).toInt64))), ss, uu, uu] [(.long p2), (.long ((0 : Int64) + (((own_lo p1).toInt64) * ((own_hi p1).toInt64))))])) rfl (by rw [hml]; rfl) (argsL := [(.long p2)]) (rest := [(.long ((0 : Int64) + (((own_lo p1).toInt64) * ((own_hi p1).toInt64))))]) (lenOf pd_4 rfl) rfl (by show 2 * 0 + _ ≤ _; exact Nat.le_of_eq rfl) (hb hby at_89) (fun _ _ => ⟨rfl, e1088, (by decide : 2 + 0 ≤ _), (by decide : 8 + 0 ≤ _)⟩)
    dsimp only [Pt.U, Pt.locs, Pt.cells, Pt.slots] at X1102 l1105 y1106 z1107 st1108 hQ1104
    subst y1106 z1107
    obtain ⟨rfl, N1109, e1110⟩ := hQ1104
    have N1112 : Fr n0 L1099 := by rw [l1105]; exact Fr.app N1092 N1109
    clear l1105 N1109
    have k1113 : own_G p e below E0 T1098 (mkF m 92 #[vi p0, vj p1, ss, vj p2, ss, vj p3, ss, vj p4, ss, vi (4 : Int32), vr a919, vr a934, vj ((0 : Int64) + (((own_lo p1).toInt64) * ((own_hi p1).toInt64))), ss, uu, uu] [(.int (own_lo p2)), (.long ((0 : Int64) + (((own_lo p1).toInt64) * ((own_hi p1).toInt64))))]) := fun tQ kk => k1097 tQ (st1108 _ kk)
    clear k1097 st1108
    have k1114 : own_G p e below E0 T1098 (mkF m 94 #[vi p0, vj p1, ss, vj p2, ss, vj p3, ss, vj p4, ss, vi (4 : Int32), vr a919, vr a934, vj ((0 : Int64) + (((own_lo p1).toInt64) * ((own_hi p1).toInt64))), ss, uu, uu] [(.long p2), (.long ((own_lo p2).toInt64)), (.long ((0 : Int64) + (((own_lo p1).toInt64) * ((own_hi p1).toInt64))))]) := by
      intro tQ kk
      refine k1113 tQ ?_
      refine XT.i2l X1102.here hx rfl (hb hby at_92) rfl ?_
      refine XT.lloadN X1102.here hx rfl (hb hby at_93) rfl ?_
      exact kk
    clear k1113
    obtain ⟨_, _, ⟨T1115, L1116, kc1117, nc1118⟩, -, X1119, ⟨Lc1120, hQ1121, l1122, y1123, z1124⟩, st1125⟩ := Jvm.LawKit.callS X1102 hx (y := mn1) hown (mvT hZ (tw10 hw)) (mvT hZ (tw11 hw)) (mvT hZ (tw7 hw)) (mvT hZ (tw12 hw)) (by decide) (backOf (W := 4) (rmH l Z a0 hw [] p2 h1086 n0 Z1095 ) hZ (tw12 hw) (tw7 hw) (by decide) (by decide)) (g := (mkF m 94 #[vi p0, vj p1, ss, vj p2, ss, vj p3, ss, vj p4, ss, vi (4 : Int32), vr a919, vr a934, vj ((0 : Int64) + (((own_lo p1).toInt64) * ((own_hi p1).toInt64))), ss, uu, uu] [(.long p2), (.long ((own_lo p2).toInt64)), (.long ((0 : Int64) + (((own_lo p1).toInt64) * ((own_hi p1).toInt64))))])) rfl (by rw [hml]; rfl) (argsL := [(.long p2)]) (rest := [(.long ((own_lo p2).toInt64)), (.long ((0 : Int64) + (((own_lo p1).toInt64) * ((own_hi p1).toInt64))))]) (lenOf pd_4 rfl) rfl (by show 2 * 0 + _ ≤ _; exact Nat.le_of_eq rfl) (hb hby at_94) (fun _ _ => ⟨rfl, e1110, (by decide : 2 + 0 ≤ _), (by decide : 8 + 0 ≤ _)⟩)
    dsimp only [Pt.U, Pt.locs, Pt.cells, Pt.slots] at X1119 l1122 y1123 z1124 st1125 hQ1121
    subst y1123 z1124
    obtain ⟨rfl, N1126, e1127⟩ := hQ1121
    have N1129 : Fr n0 L1116 := by rw [l1122]; exact Fr.app N1112 N1126
    clear l1122 N1126
    have k1130 : own_G p e below E0 T1115 (mkF m 97 #[vi p0, vj p1, ss, vj p2, ss, vj p3, ss, vj p4, ss, vi (4 : Int32), vr a919, vr a934, vj ((0 : Int64) + (((own_lo p1).toInt64) * ((own_hi p1).toInt64))), ss, uu, uu] [(.int (own_hi p2)), (.long ((own_lo p2).toInt64)), (.long ((0 : Int64) + (((own_lo p1).toInt64) * ((own_hi p1).toInt64))))]) := fun tQ kk => k1114 tQ (st1125 _ kk)
    clear k1114 st1125
    have k1131 : own_G p e below E0 T1115 (mkF m 113 #[vi p0, vj p1, ss, vj p2, ss, vj p3, ss, vj p4, ss, vi (4 : Int32), vr a919, vr a934, vj (((0 : Int64) + (((own_lo p1).toInt64) * ((own_hi p1).toInt64))) + (((own_lo p2).toInt64) * ((own_hi p2).toInt64))), ss, uu, uu] [(.long p3), (.int (2 : Int32)), (.ref a919)]) := by
      intro tQ kk
      refine k1130 tQ ?_
      refine XT.i2l X1119.here hx rfl (hb hby at_97) rfl ?_
      refine XT.lmul X1119.here hx rfl (hb hby at_98) rfl ?_
      refine XT.ladd X1119.here hx rfl (hb hby at_99) rfl ?_
      refine XT.lstore X1119.here hx rfl (hb hby at_100) rfl (l' := #[vi p0, vj p1, ss, vj p2, ss, vj p3, ss, vj p4, ss, vi (4 : Int32), vr a919, vr a934, vj (((0 : Int64) + (((own_lo p1).toInt64) * ((own_hi p1).toInt64))) + (((own_lo p2).toInt64) * ((own_hi p2).toInt64))), ss, uu, uu]) rfl ?_
      show Steps p.tables e below (T1115.setTop (mkF m 102 #[vi p0, vj p1, ss, vj p2, ss, vj p3, ss, vj p4, ss, vi (4 : Int32), vr a919, vr a934, vj (((0 : Int64) + (((own_lo p1).toInt64) * ((own_hi p1).toInt64))) + (((own_lo p2).toInt64) * ((own_hi p2).toInt64))), ss, uu, uu] [])) tQ
      refine XS.iload X1119.here hx rfl (hb hby at_102) rfl ?_
      refine XS.iconst X1119.here hx rfl (hb hby at_104) ?_
      refine XS.icmpNo X1119.here hx rfl (hb hby at_105) rfl (own_ic_leN (by decide)) ?_
      refine XS.aload X1119.here hx rfl (hb hby at_108) rfl rfl ?_
      show Steps p.tables e below (T1115.setTop (mkF m 110 #[vi p0, vj p1, ss, vj p2, ss, vj p3, ss, vj p4, ss, vi (4 : Int32), vr a919, vr a934, vj (((0 : Int64) + (((own_lo p1).toInt64) * ((own_hi p1).toInt64))) + (((own_lo p2).toInt64) * ((own_hi p2).toInt64))), ss, uu, uu] [(.ref a919)])) tQ
      refine XS.iconst X1119.here hx rfl (hb hby at_110) ?_
      refine XT.lload X1119.here hx rfl (hb hby at_111) rfl ?_
      exact kk
    clear k1130
    obtain ⟨_, _, ⟨T1132, L1133, kc1134, nc1135⟩, -, X1136, ⟨Lc1137, hQ1138, l1139, y1140, z1141⟩, st1142⟩ := Jvm.LawKit.callS X1119 hx (y := mn0) hown (mvT hZ (tw5 hw)) (mvT hZ (tw6 hw)) (mvT hZ (tw7 hw)) (mvT hZ (tw8 hw)) (by decide) (backOf (W := 2) (rmL l Z a0 hw [] p3 h1086 n0 Z1095 ) hZ (tw8 hw) (tw7 hw) (by decide) (by decide)) (g := (mkF m 113 #[vi p0, vj p1, ss, vj p2, ss, vj p3, ss, vj p4, ss, vi (4 : Int32), vr a919, vr a934, vj (((0 : Int64) + (((own_lo p1).toInt64) * ((own_hi p1).toInt64))) + (((own_lo p2).toInt64) * ((own_hi p2).toInt64))), ss, uu, uu] [(.long p3), (.int (2 : Int32)), (.ref a919)])) rfl (by rw [hml]; rfl) (argsL := [(.long p3)]) (rest := [(.int (2 : Int32)), (.ref a919)]) (lenOf pd_4 rfl) rfl (by show 2 * 0 + _ ≤ _; exact Nat.le_of_eq rfl) (hb hby at_113) (fun _ _ => ⟨rfl, e1127, (by decide : 2 + 0 ≤ _), (by decide : 8 + 0 ≤ _)⟩)
    dsimp only [Pt.U, Pt.locs, Pt.cells, Pt.slots] at X1136 l1139 y1140 z1141 st1142 hQ1138
    subst y1140 z1141
    obtain ⟨rfl, N1143, e1144⟩ := hQ1138
    have N1146 : Fr n0 L1133 := by rw [l1139]; exact Fr.app N1129 N1143
    clear l1139 N1143
    have k1147 : own_G p e below E0 T1132 (mkF m 116 #[vi p0, vj p1, ss, vj p2, ss, vj p3, ss, vj p4, ss, vi (4 : Int32), vr a919, vr a934, vj (((0 : Int64) + (((own_lo p1).toInt64) * ((own_hi p1).toInt64))) + (((own_lo p2).toInt64) * ((own_hi p2).toInt64))), ss, uu, uu] [(.int (own_lo p3)), (.int (2 : Int32)), (.ref a919)]) := fun tQ kk => k1131 tQ (st1142 _ kk)
    clear k1131 st1142
    have k1148 : own_G p e below E0 T1132 (mkF m 117 #[vi p0, vj p1, ss, vj p2, ss, vj p3, ss, vj p4, ss, vi (4 : Int32), vr a919, vr a934, vj (((0 : Int64) + (((own_lo p1).toInt64) * ((own_hi p1).toInt64))) + (((own_lo p2).toInt64) * ((own_hi p2).toInt64))), ss, uu, uu] [(.double (FP.i2d (own_lo p3))), (.int (2 : Int32)), (.ref a919)]) := by
      intro tQ kk
      refine k1147 tQ ?_
      refine XS.i2dS X1136.here hx rfl (hb hby at_116) rfl rfl ?_
      exact kk
    clear k1147
    obtain ⟨T1149, h1150, X1151, e1152, W1153, F1154, st1155⟩ := own_A.dst X1136 hx hZ e1144 F1094 (j := (2 : Int32)) (by decide) rfl (g := (mkF m 117 #[vi p0, vj p1, ss, vj p2, ss, vj p3, ss, vj p4, ss, vi (4 : Int32), vr a919, vr a934, vj (((0 : Int64) + (((own_lo p1).toInt64) * ((own_hi p1).toInt64))) + (((own_lo p2).toInt64) * ((own_hi p2).toInt64))), ss, uu, uu] [(.double (FP.i2d (own_lo p3))), (.int (2 : Int32)), (.ref a919)])) rfl rfl (hb hby at_117)
    have N1156 := Fr.snoc X1151 N1146 ge921
    have k1157 : own_G p e below E0 T1149 (mkF m 118 #[vi p0, vj p1, ss, vj p2, ss, vj p3, ss, vj p4, ss, vi (4 : Int32), vr a919, vr a934, vj (((0 : Int64) + (((own_lo p1).toInt64) * ((own_hi p1).toInt64))) + (((own_lo p2).toInt64) * ((own_hi p2).toInt64))), ss, uu, uu] []) := fun tQ kk => k1148 tQ (st1155 _ kk)
    clear k1148 st1155
    have F1158 : own_A Z h1150 a934 .double [(.double (FP.i2d (own_hi p1))), (.double (FP.i2d (own_hi p2))), (.double (0 : UInt64)), (.double (0 : UInt64))] := F1096.other W1153 n937
    clear F1096
    have Z1159 : n0 ≤ h1150.size := by rw [W1153.size]; exact Z1095
    have F1160 : own_A Z h1150 a919 .double [(.double (FP.i2d (own_lo p1))), (.double (FP.i2d (own_lo p2))), (.double (FP.i2d (own_lo p3))), (.double (0 : UInt64))] := F1154
    have k1161 : own_G p e below E0 T1149 (mkF m 123 #[vi p0, vj p1, ss, vj p2, ss, vj p3, ss, vj p4, ss, vi (4 : Int32), vr a919, vr a934, vj (((0 : Int64) + (((own_lo p1).toInt64) * ((own_hi p1).toInt64))) + (((own_lo p2).toInt64) * ((own_hi p2).toInt64))), ss, uu, uu] [(.long p3), (.int (2 : Int32)), (.ref a934)]) := by
      intro tQ kk
      refine k1157 tQ ?_
      refine XS.aload X1151.here hx rfl (hb hby at_118) rfl rfl ?_
      refine XS.iconst X1151.here hx rfl (hb hby at_120) ?_
      refine XT.lload X1151.here hx rfl (hb hby at_121) rfl ?_
      exact kk
    clear k1157
    obtain ⟨_, _, ⟨T1162, L1163, kc1164, nc1165⟩, -, X1166, ⟨Lc1167, hQ1168, l1169, y1170, z1171⟩, st1172⟩ := Jvm.LawKit.callS X1151 hx (y := mn1) hown (mvT hZ (tw10 hw)) (mvT hZ (tw11 hw)) (mvT hZ (tw7 hw)) (mvT hZ (tw12 hw)) (by decide) (backOf (W := 2) (rmH l Z a0 hw [] p3 h1150 n0 Z1159 ) hZ (tw12 hw) (tw7 hw) (by decide) (by decide)) (g := (mkF m 123 #[vi p0, vj p1, ss, vj p2, ss, vj p3, ss, vj p4, ss, vi (4 : Int32), vr a919, vr a934, vj (((0 : Int64) + (((own_lo p1).toInt64) * ((own_hi p1).toInt64))) + (((own_lo p2).toInt64) * ((own_hi p2).toInt64))), ss, uu, uu] [(.long p3), (.int (2 : Int32)), (.ref a934)])) rfl (by rw [hml]; rfl) (argsL := [(.long p3)]) (rest := [(.int (2 : Int32)), (.ref a934)]) (lenOf pd_4 rfl) rfl (by show 2 * 0 + _ ≤ _; exact Nat.le_of_eq rfl) (hb hby at_123) (fun _ _ => ⟨rfl, e1152, (by decide : 2 + 0 ≤ _), (by decide : 8 + 0 ≤ _)⟩)
    dsimp only [Pt.U, Pt.locs, Pt.cells, Pt.slots] at X1166 l1169 y1170 z1171 st1172 hQ1168
    subst y1170 z1171
    obtain ⟨rfl, N1173, e1174⟩ := hQ1168
    have N1176 : Fr n0 L1163 := by rw [l1169]; exact Fr.app N1156 N1173
    clear l1169 N1173
    have k1177 : own_G p e below E0 T1162 (mkF m 126 #[vi p0, vj p1, ss, vj p2, ss, vj p3, ss, vj p4, ss, vi (4 : Int32), vr a919, vr a934, vj (((0 : Int64) + (((own_lo p1).toInt64) * ((own_hi p1).toInt64))) + (((own_lo p2).toInt64) * ((own_hi p2).toInt64))), ss, uu, uu] [(.int (own_hi p3)), (.int (2 : Int32)), (.ref a934)]) := fun tQ kk => k1161 tQ (st1172 _ kk)
    clear k1161 st1172
    have k1178 : own_G p e below E0 T1162 (mkF m 127 #[vi p0, vj p1, ss, vj p2, ss, vj p3, ss, vj p4, ss, vi (4 : Int32), vr a919, vr a934, vj (((0 : Int64) + (((own_lo p1).toInt64) * ((own_hi p1).toInt64))) + (((own_lo p2).toInt64) * ((own_hi p2).toInt64))), ss, uu, uu] [(.double (FP.i2d (own_hi p3))), (.int (2 : Int32)), (.ref a934)]) := by
      intro tQ kk
      refine k1177 tQ ?_
      refine XS.i2dS X1166.here hx rfl (hb hby at_126) rfl rfl ?_
      exact kk
    clear k1177
    obtain ⟨T1179, h1180, X1181, e1182, W1183, F1184, st1185⟩ := own_A.dst X1166 hx hZ e1174 F1158 (j := (2 : Int32)) (by decide) rfl (g := (mkF m 127 #[vi p0, vj p1, ss, vj p2, ss, vj p3, ss, vj p4, ss, vi (4 : Int32), vr a919, vr a934, vj (((0 : Int64) + (((own_lo p1).toInt64) * ((own_hi p1).toInt64))) + (((own_lo p2).toInt64) * ((own_hi p2).toInt64))), ss, uu, uu] [(.double (FP.i2d (own_hi p3))), (.int (2 : Int32)), (.ref a934)])) rfl rfl (hb hby at_127)
    have N1186 := Fr.snoc X1181 N1176 ge938
    have k1187 : own_G p e below E0 T1179 (mkF m 128 #[vi p0, vj p1, ss, vj p2, ss, vj p3, ss, vj p4, ss, vi (4 : Int32), vr a919, vr a934, vj (((0 : Int64) + (((own_lo p1).toInt64) * ((own_hi p1).toInt64))) + (((own_lo p2).toInt64) * ((own_hi p2).toInt64))), ss, uu, uu] []) := fun tQ kk => k1178 tQ (st1185 _ kk)
    clear k1178 st1185
    have F1188 : own_A Z h1180 a919 .double [(.double (FP.i2d (own_lo p1))), (.double (FP.i2d (own_lo p2))), (.double (FP.i2d (own_lo p3))), (.double (0 : UInt64))] := F1160.other W1183 n936
    clear F1160
    have Z1189 : n0 ≤ h1180.size := by rw [W1183.size]; exact Z1159
    have F1190 : own_A Z h1180 a934 .double [(.double (FP.i2d (own_hi p1))), (.double (FP.i2d (own_hi p2))), (.double (FP.i2d (own_hi p3))), (.double (0 : UInt64))] := F1184
    have k1191 : own_G p e below E0 T1179 (mkF m 132 #[vi p0, vj p1, ss, vj p2, ss, vj p3, ss, vj p4, ss, vi (4 : Int32), vr a919, vr a934, vj (((0 : Int64) + (((own_lo p1).toInt64) * ((own_hi p1).toInt64))) + (((own_lo p2).toInt64) * ((own_hi p2).toInt64))), ss, uu, uu] [(.long p3), (.long (((0 : Int64) + (((own_lo p1).toInt64) * ((own_hi p1).toInt64))) + (((own_lo p2).toInt64) * ((own_hi p2).toInt64))))]) := by
      intro tQ kk
      refine k1187 tQ ?_
      refine XT.lload X1181.here hx rfl (hb hby at_128) rfl ?_
      refine XT.lload X1181.here hx rfl (hb hby at_130) rfl ?_
      exact kk
    clear k1187
    obtain ⟨_, _, ⟨T1192, L1193, kc1194, nc1195⟩, -, X1196, ⟨Lc1197, hQ1198, l1199, y1200, z1201⟩, st1202⟩ := Jvm.LawKit.callS X1181 hx (y := mn0) hown (mvT hZ (tw5 hw)) (mvT hZ (tw6 hw)) (mvT hZ (tw7 hw)) (mvT hZ (tw8 hw)) (by decide) (backOf (W := 2) (rmL l Z a0 hw [] p3 h1180 n0 Z1189 ) hZ (tw8 hw) (tw7 hw) (by decide) (by decide)) (g := (mkF m 132 #[vi p0, vj p1, ss, vj p2, ss, vj p3, ss, vj p4, ss, vi (4 : Int32), vr a919, vr a934, vj (((0 : Int64) + (((own_lo p1).toInt64) * ((own_hi p1).toInt64))) + (((own_lo p2).toInt64) * ((own_hi p2).toInt64))), ss, uu, uu] [(.long p3), (.long (((0 : Int64) + (((own_lo p1).toInt64) * ((own_hi p1).toInt64))) + (((own_lo p2).toInt64) * ((own_hi p2).toInt64))))])) rfl (by rw [hml]; rfl) (argsL := [(.long p3)]) (rest := [(.long (((0 : Int64) + (((own_lo p1).toInt64) * ((own_hi p1).toInt64))) + (((own_lo p2).toInt64) * ((own_hi p2).toInt64))))]) (lenOf pd_4 rfl) rfl (by show 2 * 0 + _ ≤ _; exact Nat.le_of_eq rfl) (hb hby at_132) (fun _ _ => ⟨rfl, e1182, (by decide : 2 + 0 ≤ _), (by decide : 8 + 0 ≤ _)⟩)
    dsimp only [Pt.U, Pt.locs, Pt.cells, Pt.slots] at X1196 l1199 y1200 z1201 st1202 hQ1198
    subst y1200 z1201
    obtain ⟨rfl, N1203, e1204⟩ := hQ1198
    have N1206 : Fr n0 L1193 := by rw [l1199]; exact Fr.app N1186 N1203
    clear l1199 N1203
    have k1207 : own_G p e below E0 T1192 (mkF m 135 #[vi p0, vj p1, ss, vj p2, ss, vj p3, ss, vj p4, ss, vi (4 : Int32), vr a919, vr a934, vj (((0 : Int64) + (((own_lo p1).toInt64) * ((own_hi p1).toInt64))) + (((own_lo p2).toInt64) * ((own_hi p2).toInt64))), ss, uu, uu] [(.int (own_lo p3)), (.long (((0 : Int64) + (((own_lo p1).toInt64) * ((own_hi p1).toInt64))) + (((own_lo p2).toInt64) * ((own_hi p2).toInt64))))]) := fun tQ kk => k1191 tQ (st1202 _ kk)
    clear k1191 st1202
    have k1208 : own_G p e below E0 T1192 (mkF m 138 #[vi p0, vj p1, ss, vj p2, ss, vj p3, ss, vj p4, ss, vi (4 : Int32), vr a919, vr a934, vj (((0 : Int64) + (((own_lo p1).toInt64) * ((own_hi p1).toInt64))) + (((own_lo p2).toInt64) * ((own_hi p2).toInt64))), ss, uu, uu] [(.long p3), (.long ((own_lo p3).toInt64)), (.long (((0 : Int64) + (((own_lo p1).toInt64) * ((own_hi p1).toInt64))) + (((own_lo p2).toInt64) * ((own_hi p2).toInt64))))]) := by
      intro tQ kk
      refine k1207 tQ ?_
      refine XT.i2l X1196.here hx rfl (hb hby at_135) rfl ?_
      refine XT.lload X1196.here hx rfl (hb hby at_136) rfl ?_
      exact kk
    clear k1207
    obtain ⟨_, _, ⟨T1209, L1210, kc1211, nc1212⟩, -, X1213, ⟨Lc1214, hQ1215, l1216, y1217, z1218⟩, st1219⟩ := Jvm.LawKit.callS X1196 hx (y := mn1) hown (mvT hZ (tw10 hw)) (mvT hZ (tw11 hw)) (mvT hZ (tw7 hw)) (mvT hZ (tw12 hw)) (by decide) (backOf (W := 4) (rmH l Z a0 hw [] p3 h1180 n0 Z1189 ) hZ (tw12 hw) (tw7 hw) (by decide) (by decide)) (g := (mkF m 138 #[vi p0, vj p1, ss, vj p2, ss, vj p3, ss, vj p4, ss, vi (4 : Int32), vr a919, vr a934, vj (((0 : Int64) + (((own_lo p1).toInt64) * ((own_hi p1).toInt64))) + (((own_lo p2).toInt64) * ((own_hi p2).toInt64))), ss, uu, uu] [(.long p3), (.long ((own_lo p3).toInt64)), (.long (((0 : Int64) + (((own_lo p1).toInt64) * ((own_hi p1).toInt64))) + (((own_lo p2).toInt64) * ((own_hi p2).toInt64))))])) rfl (by rw [hml]; rfl) (argsL := [(.long p3)]) (rest := [(.long ((own_lo p3).toInt64)), (.long (((0 : Int64) + (((own_lo p1).toInt64) * ((own_hi p1).toInt64))) + (((own_lo p2).toInt64) * ((own_hi p2).toInt64))))]) (lenOf pd_4 rfl) rfl (by show 2 * 0 + _ ≤ _; exact Nat.le_of_eq rfl) (hb hby at_138) (fun _ _ => ⟨rfl, e1204, (by decide : 2 + 0 ≤ _), (by decide : 8 + 0 ≤ _)⟩)
    dsimp only [Pt.U, Pt.locs, Pt.cells, Pt.slots] at X1213 l1216 y1217 z1218 st1219 hQ1215
    subst y1217 z1218
    obtain ⟨rfl, N1220, e1221⟩ := hQ1215
    have N1223 : Fr n0 L1210 := by rw [l1216]; exact Fr.app N1206 N1220
    clear l1216 N1220
    have k1224 : own_G p e below E0 T1209 (mkF m 141 #[vi p0, vj p1, ss, vj p2, ss, vj p3, ss, vj p4, ss, vi (4 : Int32), vr a919, vr a934, vj (((0 : Int64) + (((own_lo p1).toInt64) * ((own_hi p1).toInt64))) + (((own_lo p2).toInt64) * ((own_hi p2).toInt64))), ss, uu, uu] [(.int (own_hi p3)), (.long ((own_lo p3).toInt64)), (.long (((0 : Int64) + (((own_lo p1).toInt64) * ((own_hi p1).toInt64))) + (((own_lo p2).toInt64) * ((own_hi p2).toInt64))))]) := fun tQ kk => k1208 tQ (st1219 _ kk)
    clear k1208 st1219
    have k1225 : own_G p e below E0 T1209 (mkF m 157 #[vi p0, vj p1, ss, vj p2, ss, vj p3, ss, vj p4, ss, vi (4 : Int32), vr a919, vr a934, vj ((((0 : Int64) + (((own_lo p1).toInt64) * ((own_hi p1).toInt64))) + (((own_lo p2).toInt64) * ((own_hi p2).toInt64))) + (((own_lo p3).toInt64) * ((own_hi p3).toInt64))), ss, uu, uu] [(.long p4), (.int (3 : Int32)), (.ref a919)]) := by
      intro tQ kk
      refine k1224 tQ ?_
      refine XT.i2l X1213.here hx rfl (hb hby at_141) rfl ?_
      refine XT.lmul X1213.here hx rfl (hb hby at_142) rfl ?_
      refine XT.ladd X1213.here hx rfl (hb hby at_143) rfl ?_
      refine XT.lstore X1213.here hx rfl (hb hby at_144) rfl (l' := #[vi p0, vj p1, ss, vj p2, ss, vj p3, ss, vj p4, ss, vi (4 : Int32), vr a919, vr a934, vj ((((0 : Int64) + (((own_lo p1).toInt64) * ((own_hi p1).toInt64))) + (((own_lo p2).toInt64) * ((own_hi p2).toInt64))) + (((own_lo p3).toInt64) * ((own_hi p3).toInt64))), ss, uu, uu]) rfl ?_
      show Steps p.tables e below (T1209.setTop (mkF m 146 #[vi p0, vj p1, ss, vj p2, ss, vj p3, ss, vj p4, ss, vi (4 : Int32), vr a919, vr a934, vj ((((0 : Int64) + (((own_lo p1).toInt64) * ((own_hi p1).toInt64))) + (((own_lo p2).toInt64) * ((own_hi p2).toInt64))) + (((own_lo p3).toInt64) * ((own_hi p3).toInt64))), ss, uu, uu] [])) tQ
      refine XS.iload X1213.here hx rfl (hb hby at_146) rfl ?_
      refine XS.iconst X1213.here hx rfl (hb hby at_148) ?_
      refine XS.icmpNo X1213.here hx rfl (hb hby at_149) rfl (own_ic_leN (by decide)) ?_
      refine XS.aload X1213.here hx rfl (hb hby at_152) rfl rfl ?_
      show Steps p.tables e below (T1209.setTop (mkF m 154 #[vi p0, vj p1, ss, vj p2, ss, vj p3, ss, vj p4, ss, vi (4 : Int32), vr a919, vr a934, vj ((((0 : Int64) + (((own_lo p1).toInt64) * ((own_hi p1).toInt64))) + (((own_lo p2).toInt64) * ((own_hi p2).toInt64))) + (((own_lo p3).toInt64) * ((own_hi p3).toInt64))), ss, uu, uu] [(.ref a919)])) tQ
      refine XS.iconst X1213.here hx rfl (hb hby at_154) ?_
      refine XT.lload X1213.here hx rfl (hb hby at_155) rfl ?_
      exact kk
    clear k1224
    obtain ⟨_, _, ⟨T1226, L1227, kc1228, nc1229⟩, -, X1230, ⟨Lc1231, hQ1232, l1233, y1234, z1235⟩, st1236⟩ := Jvm.LawKit.callS X1213 hx (y := mn0) hown (mvT hZ (tw5 hw)) (mvT hZ (tw6 hw)) (mvT hZ (tw7 hw)) (mvT hZ (tw8 hw)) (by decide) (backOf (W := 2) (rmL l Z a0 hw [] p4 h1180 n0 Z1189 ) hZ (tw8 hw) (tw7 hw) (by decide) (by decide)) (g := (mkF m 157 #[vi p0, vj p1, ss, vj p2, ss, vj p3, ss, vj p4, ss, vi (4 : Int32), vr a919, vr a934, vj ((((0 : Int64) + (((own_lo p1).toInt64) * ((own_hi p1).toInt64))) + (((own_lo p2).toInt64) * ((own_hi p2).toInt64))) + (((own_lo p3).toInt64) * ((own_hi p3).toInt64))), ss, uu, uu] [(.long p4), (.int (3 : Int32)), (.ref a919)])) rfl (by rw [hml]; rfl) (argsL := [(.long p4)]) (rest := [(.int (3 : Int32)), (.ref a919)]) (lenOf pd_4 rfl) rfl (by show 2 * 0 + _ ≤ _; exact Nat.le_of_eq rfl) (hb hby at_157) (fun _ _ => ⟨rfl, e1221, (by decide : 2 + 0 ≤ _), (by decide : 8 + 0 ≤ _)⟩)
    dsimp only [Pt.U, Pt.locs, Pt.cells, Pt.slots] at X1230 l1233 y1234 z1235 st1236 hQ1232
    subst y1234 z1235
    obtain ⟨rfl, N1237, e1238⟩ := hQ1232
    have N1240 : Fr n0 L1227 := by rw [l1233]; exact Fr.app N1223 N1237
    clear l1233 N1237
    have k1241 : own_G p e below E0 T1226 (mkF m 160 #[vi p0, vj p1, ss, vj p2, ss, vj p3, ss, vj p4, ss, vi (4 : Int32), vr a919, vr a934, vj ((((0 : Int64) + (((own_lo p1).toInt64) * ((own_hi p1).toInt64))) + (((own_lo p2).toInt64) * ((own_hi p2).toInt64))) + (((own_lo p3).toInt64) * ((own_hi p3).toInt64))), ss, uu, uu] [(.int (own_lo p4)), (.int (3 : Int32)), (.ref a919)]) := fun tQ kk => k1225 tQ (st1236 _ kk)
    clear k1225 st1236
    have k1242 : own_G p e below E0 T1226 (mkF m 161 #[vi p0, vj p1, ss, vj p2, ss, vj p3, ss, vj p4, ss, vi (4 : Int32), vr a919, vr a934, vj ((((0 : Int64) + (((own_lo p1).toInt64) * ((own_hi p1).toInt64))) + (((own_lo p2).toInt64) * ((own_hi p2).toInt64))) + (((own_lo p3).toInt64) * ((own_hi p3).toInt64))), ss, uu, uu] [(.double (FP.i2d (own_lo p4))), (.int (3 : Int32)), (.ref a919)]) := by
      intro tQ kk
      refine k1241 tQ ?_
      refine XS.i2dS X1230.here hx rfl (hb hby at_160) rfl rfl ?_
      exact kk
    clear k1241
    obtain ⟨T1243, h1244, X1245, e1246, W1247, F1248, st1249⟩ := own_A.dst X1230 hx hZ e1238 F1188 (j := (3 : Int32)) (by decide) rfl (g := (mkF m 161 #[vi p0, vj p1, ss, vj p2, ss, vj p3, ss, vj p4, ss, vi (4 : Int32), vr a919, vr a934, vj ((((0 : Int64) + (((own_lo p1).toInt64) * ((own_hi p1).toInt64))) + (((own_lo p2).toInt64) * ((own_hi p2).toInt64))) + (((own_lo p3).toInt64) * ((own_hi p3).toInt64))), ss, uu, uu] [(.double (FP.i2d (own_lo p4))), (.int (3 : Int32)), (.ref a919)])) rfl rfl (hb hby at_161)
    have N1250 := Fr.snoc X1245 N1240 ge921
    have k1251 : own_G p e below E0 T1243 (mkF m 162 #[vi p0, vj p1, ss, vj p2, ss, vj p3, ss, vj p4, ss, vi (4 : Int32), vr a919, vr a934, vj ((((0 : Int64) + (((own_lo p1).toInt64) * ((own_hi p1).toInt64))) + (((own_lo p2).toInt64) * ((own_hi p2).toInt64))) + (((own_lo p3).toInt64) * ((own_hi p3).toInt64))), ss, uu, uu] []) := fun tQ kk => k1242 tQ (st1249 _ kk)
    clear k1242 st1249
    have F1252 : own_A Z h1244 a934 .double [(.double (FP.i2d (own_hi p1))), (.double (FP.i2d (own_hi p2))), (.double (FP.i2d (own_hi p3))), (.double (0 : UInt64))] := F1190.other W1247 n937
    clear F1190
    have Z1253 : n0 ≤ h1244.size := by rw [W1247.size]; exact Z1189
    have F1254 : own_A Z h1244 a919 .double [(.double (FP.i2d (own_lo p1))), (.double (FP.i2d (own_lo p2))), (.double (FP.i2d (own_lo p3))), (.double (FP.i2d (own_lo p4)))] := F1248
    have k1255 : own_G p e below E0 T1243 (mkF m 167 #[vi p0, vj p1, ss, vj p2, ss, vj p3, ss, vj p4, ss, vi (4 : Int32), vr a919, vr a934, vj ((((0 : Int64) + (((own_lo p1).toInt64) * ((own_hi p1).toInt64))) + (((own_lo p2).toInt64) * ((own_hi p2).toInt64))) + (((own_lo p3).toInt64) * ((own_hi p3).toInt64))), ss, uu, uu] [(.long p4), (.int (3 : Int32)), (.ref a934)]) := by
      intro tQ kk
      refine k1251 tQ ?_
      refine XS.aload X1245.here hx rfl (hb hby at_162) rfl rfl ?_
      refine XS.iconst X1245.here hx rfl (hb hby at_164) ?_
      refine XT.lload X1245.here hx rfl (hb hby at_165) rfl ?_
      exact kk
    clear k1251
    obtain ⟨_, _, ⟨T1256, L1257, kc1258, nc1259⟩, -, X1260, ⟨Lc1261, hQ1262, l1263, y1264, z1265⟩, st1266⟩ := Jvm.LawKit.callS X1245 hx (y := mn1) hown (mvT hZ (tw10 hw)) (mvT hZ (tw11 hw)) (mvT hZ (tw7 hw)) (mvT hZ (tw12 hw)) (by decide) (backOf (W := 2) (rmH l Z a0 hw [] p4 h1244 n0 Z1253 ) hZ (tw12 hw) (tw7 hw) (by decide) (by decide)) (g := (mkF m 167 #[vi p0, vj p1, ss, vj p2, ss, vj p3, ss, vj p4, ss, vi (4 : Int32), vr a919, vr a934, vj ((((0 : Int64) + (((own_lo p1).toInt64) * ((own_hi p1).toInt64))) + (((own_lo p2).toInt64) * ((own_hi p2).toInt64))) + (((own_lo p3).toInt64) * ((own_hi p3).toInt64))), ss, uu, uu] [(.long p4), (.int (3 : Int32)), (.ref a934)])) rfl (by rw [hml]; rfl) (argsL := [(.long p4)]) (rest := [(.int (3 : Int32)), (.ref a934)]) (lenOf pd_4 rfl) rfl (by show 2 * 0 + _ ≤ _; exact Nat.le_of_eq rfl) (hb hby at_167) (fun _ _ => ⟨rfl, e1246, (by decide : 2 + 0 ≤ _), (by decide : 8 + 0 ≤ _)⟩)
    dsimp only [Pt.U, Pt.locs, Pt.cells, Pt.slots] at X1260 l1263 y1264 z1265 st1266 hQ1262
    subst y1264 z1265
    obtain ⟨rfl, N1267, e1268⟩ := hQ1262
    have N1270 : Fr n0 L1257 := by rw [l1263]; exact Fr.app N1250 N1267
    clear l1263 N1267
    have k1271 : own_G p e below E0 T1256 (mkF m 170 #[vi p0, vj p1, ss, vj p2, ss, vj p3, ss, vj p4, ss, vi (4 : Int32), vr a919, vr a934, vj ((((0 : Int64) + (((own_lo p1).toInt64) * ((own_hi p1).toInt64))) + (((own_lo p2).toInt64) * ((own_hi p2).toInt64))) + (((own_lo p3).toInt64) * ((own_hi p3).toInt64))), ss, uu, uu] [(.int (own_hi p4)), (.int (3 : Int32)), (.ref a934)]) := fun tQ kk => k1255 tQ (st1266 _ kk)
    clear k1255 st1266
    have k1272 : own_G p e below E0 T1256 (mkF m 171 #[vi p0, vj p1, ss, vj p2, ss, vj p3, ss, vj p4, ss, vi (4 : Int32), vr a919, vr a934, vj ((((0 : Int64) + (((own_lo p1).toInt64) * ((own_hi p1).toInt64))) + (((own_lo p2).toInt64) * ((own_hi p2).toInt64))) + (((own_lo p3).toInt64) * ((own_hi p3).toInt64))), ss, uu, uu] [(.double (FP.i2d (own_hi p4))), (.int (3 : Int32)), (.ref a934)]) := by
      intro tQ kk
      refine k1271 tQ ?_
      refine XS.i2dS X1260.here hx rfl (hb hby at_170) rfl rfl ?_
      exact kk
    clear k1271
    obtain ⟨T1273, h1274, X1275, e1276, W1277, F1278, st1279⟩ := own_A.dst X1260 hx hZ e1268 F1252 (j := (3 : Int32)) (by decide) rfl (g := (mkF m 171 #[vi p0, vj p1, ss, vj p2, ss, vj p3, ss, vj p4, ss, vi (4 : Int32), vr a919, vr a934, vj ((((0 : Int64) + (((own_lo p1).toInt64) * ((own_hi p1).toInt64))) + (((own_lo p2).toInt64) * ((own_hi p2).toInt64))) + (((own_lo p3).toInt64) * ((own_hi p3).toInt64))), ss, uu, uu] [(.double (FP.i2d (own_hi p4))), (.int (3 : Int32)), (.ref a934)])) rfl rfl (hb hby at_171)
    have N1280 := Fr.snoc X1275 N1270 ge938
    have k1281 : own_G p e below E0 T1273 (mkF m 172 #[vi p0, vj p1, ss, vj p2, ss, vj p3, ss, vj p4, ss, vi (4 : Int32), vr a919, vr a934, vj ((((0 : Int64) + (((own_lo p1).toInt64) * ((own_hi p1).toInt64))) + (((own_lo p2).toInt64) * ((own_hi p2).toInt64))) + (((own_lo p3).toInt64) * ((own_hi p3).toInt64))), ss, uu, uu] []) := fun tQ kk => k1272 tQ (st1279 _ kk)
    clear k1272 st1279
    have F1282 : own_A Z h1274 a919 .double [(.double (FP.i2d (own_lo p1))), (.double (FP.i2d (own_lo p2))), (.double (FP.i2d (own_lo p3))), (.double (FP.i2d (own_lo p4)))] := F1254.other W1277 n936
    clear F1254
    have Z1283 : n0 ≤ h1274.size := by rw [W1277.size]; exact Z1253
    have F1284 : own_A Z h1274 a934 .double [(.double (FP.i2d (own_hi p1))), (.double (FP.i2d (own_hi p2))), (.double (FP.i2d (own_hi p3))), (.double (FP.i2d (own_hi p4)))] := F1278
    have k1285 : own_G p e below E0 T1273 (mkF m 176 #[vi p0, vj p1, ss, vj p2, ss, vj p3, ss, vj p4, ss, vi (4 : Int32), vr a919, vr a934, vj ((((0 : Int64) + (((own_lo p1).toInt64) * ((own_hi p1).toInt64))) + (((own_lo p2).toInt64) * ((own_hi p2).toInt64))) + (((own_lo p3).toInt64) * ((own_hi p3).toInt64))), ss, uu, uu] [(.long p4), (.long ((((0 : Int64) + (((own_lo p1).toInt64) * ((own_hi p1).toInt64))) + (((own_lo p2).toInt64) * ((own_hi p2).toInt64))) + (((own_lo p3).toInt64) * ((own_hi p3).toInt64))))]) := by
      intro tQ kk
      refine k1281 tQ ?_
      refine XT.lload X1275.here hx rfl (hb hby at_172) rfl ?_
      refine XT.lload X1275.here hx rfl (hb hby at_174) rfl ?_
      exact kk
    clear k1281
    obtain ⟨_, _, ⟨T1286, L1287, kc1288, nc1289⟩, -, X1290, ⟨Lc1291, hQ1292, l1293, y1294, z1295⟩, st1296⟩ := Jvm.LawKit.callS X1275 hx (y := mn0) hown (mvT hZ (tw5 hw)) (mvT hZ (tw6 hw)) (mvT hZ (tw7 hw)) (mvT hZ (tw8 hw)) (by decide) (backOf (W := 2) (rmL l Z a0 hw [] p4 h1274 n0 Z1283 ) hZ (tw8 hw) (tw7 hw) (by decide) (by decide)) (g := (mkF m 176 #[vi p0, vj p1, ss, vj p2, ss, vj p3, ss, vj p4, ss, vi (4 : Int32), vr a919, vr a934, vj ((((0 : Int64) + (((own_lo p1).toInt64) * ((own_hi p1).toInt64))) + (((own_lo p2).toInt64) * ((own_hi p2).toInt64))) + (((own_lo p3).toInt64) * ((own_hi p3).toInt64))), ss, uu, uu] [(.long p4), (.long ((((0 : Int64) + (((own_lo p1).toInt64) * ((own_hi p1).toInt64))) + (((own_lo p2).toInt64) * ((own_hi p2).toInt64))) + (((own_lo p3).toInt64) * ((own_hi p3).toInt64))))])) rfl (by rw [hml]; rfl) (argsL := [(.long p4)]) (rest := [(.long ((((0 : Int64) + (((own_lo p1).toInt64) * ((own_hi p1).toInt64))) + (((own_lo p2).toInt64) * ((own_hi p2).toInt64))) + (((own_lo p3).toInt64) * ((own_hi p3).toInt64))))]) (lenOf pd_4 rfl) rfl (by show 2 * 0 + _ ≤ _; exact Nat.le_of_eq rfl) (hb hby at_176) (fun _ _ => ⟨rfl, e1276, (by decide : 2 + 0 ≤ _), (by decide : 8 + 0 ≤ _)⟩)
    dsimp only [Pt.U, Pt.locs, Pt.cells, Pt.slots] at X1290 l1293 y1294 z1295 st1296 hQ1292
    subst y1294 z1295
    obtain ⟨rfl, N1297, e1298⟩ := hQ1292
    have N1300 : Fr n0 L1287 := by rw [l1293]; exact Fr.app N1280 N1297
    clear l1293 N1297
    have k1301 : own_G p e below E0 T1286 (mkF m 179 #[vi p0, vj p1, ss, vj p2, ss, vj p3, ss, vj p4, ss, vi (4 : Int32), vr a919, vr a934, vj ((((0 : Int64) + (((own_lo p1).toInt64) * ((own_hi p1).toInt64))) + (((own_lo p2).toInt64) * ((own_hi p2).toInt64))) + (((own_lo p3).toInt64) * ((own_hi p3).toInt64))), ss, uu, uu] [(.int (own_lo p4)), (.long ((((0 : Int64) + (((own_lo p1).toInt64) * ((own_hi p1).toInt64))) + (((own_lo p2).toInt64) * ((own_hi p2).toInt64))) + (((own_lo p3).toInt64) * ((own_hi p3).toInt64))))]) := fun tQ kk => k1285 tQ (st1296 _ kk)
    clear k1285 st1296
    have k1302 : own_G p e below E0 T1286 (mkF m 182 #[vi p0, vj p1, ss, vj p2, ss, vj p3, ss, vj p4, ss, vi (4 : Int32), vr a919, vr a934, vj ((((0 : Int64) + (((own_lo p1).toInt64) * ((own_hi p1).toInt64))) + (((own_lo p2).toInt64) * ((own_hi p2).toInt64))) + (((own_lo p3).toInt64) * ((own_hi p3).toInt64))), ss, uu, uu] [(.long p4), (.long ((own_lo p4).toInt64)), (.long ((((0 : Int64) + (((own_lo p1).toInt64) * ((own_hi p1).toInt64))) + (((own_lo p2).toInt64) * ((own_hi p2).toInt64))) + (((own_lo p3).toInt64) * ((own_hi p3).toInt64))))]) := by
      intro tQ kk
      refine k1301 tQ ?_
      refine XT.i2l X1290.here hx rfl (hb hby at_179) rfl ?_
      refine XT.lload X1290.here hx rfl (hb hby at_180) rfl ?_
      exact kk
    clear k1301
    obtain ⟨_, _, ⟨T1303, L1304, kc1305, nc1306⟩, -, X1307, ⟨Lc1308, hQ1309, l1310, y1311, z1312⟩, st1313⟩ := Jvm.LawKit.callS X1290 hx (y := mn1) hown (mvT hZ (tw10 hw)) (mvT hZ (tw11 hw)) (mvT hZ (tw7 hw)) (mvT hZ (tw12 hw)) (by decide) (backOf (W := 4) (rmH l Z a0 hw [] p4 h1274 n0 Z1283 ) hZ (tw12 hw) (tw7 hw) (by decide) (by decide)) (g := (mkF m 182 #[vi p0, vj p1, ss, vj p2, ss, vj p3, ss, vj p4, ss, vi (4 : Int32), vr a919, vr a934, vj ((((0 : Int64) + (((own_lo p1).toInt64) * ((own_hi p1).toInt64))) + (((own_lo p2).toInt64) * ((own_hi p2).toInt64))) + (((own_lo p3).toInt64) * ((own_hi p3).toInt64))), ss, uu, uu] [(.long p4), (.long ((own_lo p4).toInt64)), (.long ((((0 : Int64) + (((own_lo p1).toInt64) * ((own_hi p1).toInt64))) + (((own_lo p2).toInt64) * ((own_hi p2).toInt64))) + (((own_lo p3).toInt64) * ((own_hi p3).toInt64))))])) rfl (by rw [hml]; rfl) (argsL := [(.long p4)]) (rest := [(.long ((own_lo p4).toInt64)), (.long ((((0 : Int64) + (((own_lo p1).toInt64) * ((own_hi p1).toInt64))) + (((own_lo p2).toInt64) * ((own_hi p2).toInt64))) + (((own_lo p3).toInt64) * ((own_hi p3).toInt64))))]) (lenOf pd_4 rfl) rfl (by show 2 * 0 + _ ≤ _; exact Nat.le_of_eq rfl) (hb hby at_182) (fun _ _ => ⟨rfl, e1298, (by decide : 2 + 0 ≤ _), (by decide : 8 + 0 ≤ _)⟩)
    dsimp only [Pt.U, Pt.locs, Pt.cells, Pt.slots] at X1307 l1310 y1311 z1312 st1313 hQ1309
    subst y1311 z1312
    obtain ⟨rfl, N1314, e1315⟩ := hQ1309
    have N1317 : Fr n0 L1304 := by rw [l1310]; exact Fr.app N1300 N1314
    clear l1310 N1314
    have k1318 : own_G p e below E0 T1303 (mkF m 185 #[vi p0, vj p1, ss, vj p2, ss, vj p3, ss, vj p4, ss, vi (4 : Int32), vr a919, vr a934, vj ((((0 : Int64) + (((own_lo p1).toInt64) * ((own_hi p1).toInt64))) + (((own_lo p2).toInt64) * ((own_hi p2).toInt64))) + (((own_lo p3).toInt64) * ((own_hi p3).toInt64))), ss, uu, uu] [(.int (own_hi p4)), (.long ((own_lo p4).toInt64)), (.long ((((0 : Int64) + (((own_lo p1).toInt64) * ((own_hi p1).toInt64))) + (((own_lo p2).toInt64) * ((own_hi p2).toInt64))) + (((own_lo p3).toInt64) * ((own_hi p3).toInt64))))]) := fun tQ kk => k1302 tQ (st1313 _ kk)
    clear k1302 st1313
    have k1319 : own_G p e below E0 T1303 (mkF m 194 #[vi p0, vj p1, ss, vj p2, ss, vj p3, ss, vj p4, ss, vi (4 : Int32), vr a919, vr a934, vj (((((0 : Int64) + (((own_lo p1).toInt64) * ((own_hi p1).toInt64))) + (((own_lo p2).toInt64) * ((own_hi p2).toInt64))) + (((own_lo p3).toInt64) * ((own_hi p3).toInt64))) + (((own_lo p4).toInt64) * ((own_hi p4).toInt64))), ss, uu, uu] [(.ref a934), (.ref a919)]) := by
      intro tQ kk
      refine k1318 tQ ?_
      refine XT.i2l X1307.here hx rfl (hb hby at_185) rfl ?_
      refine XT.lmul X1307.here hx rfl (hb hby at_186) rfl ?_
      refine XT.ladd X1307.here hx rfl (hb hby at_187) rfl ?_
      refine XT.lstore X1307.here hx rfl (hb hby at_188) rfl (l' := #[vi p0, vj p1, ss, vj p2, ss, vj p3, ss, vj p4, ss, vi (4 : Int32), vr a919, vr a934, vj (((((0 : Int64) + (((own_lo p1).toInt64) * ((own_hi p1).toInt64))) + (((own_lo p2).toInt64) * ((own_hi p2).toInt64))) + (((own_lo p3).toInt64) * ((own_hi p3).toInt64))) + (((own_lo p4).toInt64) * ((own_hi p4).toInt64))), ss, uu, uu]) rfl ?_
      show Steps p.tables e below (T1303.setTop (mkF m 190 #[vi p0, vj p1, ss, vj p2, ss, vj p3, ss, vj p4, ss, vi (4 : Int32), vr a919, vr a934, vj (((((0 : Int64) + (((own_lo p1).toInt64) * ((own_hi p1).toInt64))) + (((own_lo p2).toInt64) * ((own_hi p2).toInt64))) + (((own_lo p3).toInt64) * ((own_hi p3).toInt64))) + (((own_lo p4).toInt64) * ((own_hi p4).toInt64))), ss, uu, uu] [])) tQ
      refine XS.aload X1307.here hx rfl (hb hby at_190) rfl rfl ?_
      refine XS.aload X1307.here hx rfl (hb hby at_192) rfl rfl ?_
      exact kk
    clear k1318
    obtain ⟨_, _, ⟨T1320, L1321, kc1322, nc1323⟩, -, X1324, ⟨Lc1325, hQ1326, l1327, y1328, z1329⟩, st1330⟩ := Jvm.LawKit.callS X1307 hx (y := mn2) hown (mvT hZ (tw1 hw)) (mvT hZ (tw2 hw)) (mvT hZ (tw3 hw)) (mvT hZ (tw4 hw)) (by decide) (backOf (W := 0) (rmV4 l Z a0 hw [] a919 a934 (FP.i2d (own_lo p1)) (FP.i2d (own_lo p2)) (FP.i2d (own_lo p3)) (FP.i2d (own_lo p4)) (FP.i2d (own_hi p1)) (FP.i2d (own_hi p2)) (FP.i2d (own_hi p3)) (FP.i2d (own_hi p4)) (own_lo p1).toInt (own_lo p2).toInt (own_lo p3).toInt (own_lo p4).toInt (own_hi p1).toInt (own_hi p2).toInt (own_hi p3).toInt (own_hi p4).toInt h1274 n0 Z1283 F1282 F1284 (FP.Core.i2d_int (own_lo p1)) (FP.Core.i2d_int (own_hi p1)) (own_lob p1) (own_hib p1) (FP.Core.i2d_int (own_lo p2)) (FP.Core.i2d_int (own_hi p2)) (own_lob p2) (own_hib p2) (FP.Core.i2d_int (own_lo p3)) (FP.Core.i2d_int (own_hi p3)) (own_lob p3) (own_hib p3) (FP.Core.i2d_int (own_lo p4)) (FP.Core.i2d_int (own_hi p4)) (own_lob p4) (own_hib p4)) hZ (tw4 hw) (tw3 hw) (by decide) (by decide)) (g := (mkF m 194 #[vi p0, vj p1, ss, vj p2, ss, vj p3, ss, vj p4, ss, vi (4 : Int32), vr a919, vr a934, vj (((((0 : Int64) + (((own_lo p1).toInt64) * ((own_hi p1).toInt64))) + (((own_lo p2).toInt64) * ((own_hi p2).toInt64))) + (((own_lo p3).toInt64) * ((own_hi p3).toInt64))) + (((own_lo p4).toInt64) * ((own_hi p4).toInt64))), ss, uu, uu] [(.ref a934), (.ref a919)])) rfl (by rw [hml]; rfl) (argsL := [(.ref a919), (.ref a934)]) (rest := []) (lenOf pd_3 rfl) rfl (by show 2 * 0 + _ ≤ _; exact Nat.le_of_eq rfl) (hb hby at_194) (fun _ _ => ⟨rfl, e1315, (by decide : 2 + 0 ≤ _), (by decide : 8 + 0 ≤ _)⟩)
    dsimp only [Pt.U, Pt.locs, Pt.cells, Pt.slots] at X1324 l1327 y1328 z1329 st1330 hQ1326
    subst y1328 z1329
    obtain ⟨r1334, rfl, N1331, e1332, g1335⟩ := hQ1326
    have N1336 : Fr n0 L1321 := by rw [l1327]; exact Fr.app N1317 N1331
    clear l1327 N1331
    have k1337 : own_G p e below E0 T1320 (mkF m 197 #[vi p0, vj p1, ss, vj p2, ss, vj p3, ss, vj p4, ss, vi (4 : Int32), vr a919, vr a934, vj (((((0 : Int64) + (((own_lo p1).toInt64) * ((own_hi p1).toInt64))) + (((own_lo p2).toInt64) * ((own_hi p2).toInt64))) + (((own_lo p3).toInt64) * ((own_hi p3).toInt64))) + (((own_lo p4).toInt64) * ((own_hi p4).toInt64))), ss, uu, uu] [(.double r1334)]) := fun tQ kk => k1319 tQ (st1330 _ kk)
    clear k1319 st1330
    have k1338 : own_G p e below E0 T1320 (mkF m 213 #[vi p0, vj p1, ss, vj p2, ss, vj p3, ss, vj p4, ss, vi (4 : Int32), vr a919, vr a934, vj (((((0 : Int64) + (((own_lo p1).toInt64) * ((own_hi p1).toInt64))) + (((own_lo p2).toInt64) * ((own_hi p2).toInt64))) + (((own_lo p3).toInt64) * ((own_hi p3).toInt64))) + (((own_lo p4).toInt64) * ((own_hi p4).toInt64))), ss, vd r1334, ss] [(.int (1 : Int32))]) := by
      intro tQ kk
      refine k1337 tQ ?_
      refine XS.dstore X1324.here hx rfl (hb hby at_197) rfl (l' := #[vi p0, vj p1, ss, vj p2, ss, vj p3, ss, vj p4, ss, vi (4 : Int32), vr a919, vr a934, vj (((((0 : Int64) + (((own_lo p1).toInt64) * ((own_hi p1).toInt64))) + (((own_lo p2).toInt64) * ((own_hi p2).toInt64))) + (((own_lo p3).toInt64) * ((own_hi p3).toInt64))) + (((own_lo p4).toInt64) * ((own_hi p4).toInt64))), ss, vd r1334, ss]) rfl ?_
      refine XS.dload X1324.here hx rfl (hb hby at_199) rfl ?_
      refine XT.lload X1324.here hx rfl (hb hby at_201) rfl ?_
      refine XS.l2dS X1324.here hx rfl (hb hby at_203) rfl rfl ?_
      show Steps p.tables e below (T1320.setTop (mkF m 204 #[vi p0, vj p1, ss, vj p2, ss, vj p3, ss, vj p4, ss, vi (4 : Int32), vr a919, vr a934, vj (((((0 : Int64) + (((own_lo p1).toInt64) * ((own_hi p1).toInt64))) + (((own_lo p2).toInt64) * ((own_hi p2).toInt64))) + (((own_lo p3).toInt64) * ((own_hi p3).toInt64))) + (((own_lo p4).toInt64) * ((own_hi p4).toInt64))), ss, vd r1334, ss] [(.double (FP.l2d (((((0 : Int64) + (((own_lo p1).toInt64) * ((own_hi p1).toInt64))) + (((own_lo p2).toInt64) * ((own_hi p2).toInt64))) + (((own_lo p3).toInt64) * ((own_hi p3).toInt64))) + (((own_lo p4).toInt64) * ((own_hi p4).toInt64))))), (.double r1334)])) tQ
      refine XS.dcmpS (v := (0 : Int32)) X1324.here hx rfl (hb hby at_204) rfl (own_eq0 .l g1335 (own_dl _ (own_ra (own_ra (own_ra (own_ra (show (0 : Int64).toInt = 0 from rfl) (by have := own_p6 (own_lob p1) (own_hib p1); have := own_p6 (own_lob p2) (own_hib p2); have := own_p6 (own_lob p3) (own_hib p3); have := own_p6 (own_lob p4) (own_hib p4); omega) (own_lob p1) (own_hib p1)) (by have := own_p6 (own_lob p1) (own_hib p1); have := own_p6 (own_lob p2) (own_hib p2); have := own_p6 (own_lob p3) (own_hib p3); have := own_p6 (own_lob p4) (own_hib p4); omega) (own_lob p2) (own_hib p2)) (by have := own_p6 (own_lob p1) (own_hib p1); have := own_p6 (own_lob p2) (own_hib p2); have := own_p6 (own_lob p3) (own_hib p3); have := own_p6 (own_lob p4) (own_hib p4); omega) (own_lob p3) (own_hib p3)) (by have := own_p6 (own_lob p1) (own_hib p1); have := own_p6 (own_lob p2) (own_hib p2); have := own_p6 (own_lob p3) (own_hib p3); have := own_p6 (own_lob p4) (own_hib p4); omega) (own_lob p4) (own_hib p4)) (own_s6 (by have := own_p6 (own_lob p1) (own_hib p1); have := own_p6 (own_lob p2) (own_hib p2); have := own_p6 (own_lob p3) (own_hib p3); have := own_p6 (own_lob p4) (own_hib p4); omega) (by have := own_p6 (own_lob p1) (own_hib p1); have := own_p6 (own_lob p2) (own_hib p2); have := own_p6 (own_lob p3) (own_hib p3); have := own_p6 (own_lob p4) (own_hib p4); omega)))) ?_
      refine XS.ifNo X1324.here hx rfl (hb hby at_205) rfl (own_if_neN (by decide)) ?_
      refine XS.iconst X1324.here hx rfl (hb hby at_208) ?_
      refine XS.goto X1324.here hx rfl (pc0 := 209) (pc' := 213) rfl (hb hby at_209) (by decide) (by decide) ?_
      exact kk
    clear k1337
    obtain ⟨fs, hr, hrun, hended, hW, hsame⟩ := X1324.leave (v := some (.int (1 : Int32))) (fun h => by rw [Bd.returns] at h; cases h)
    have hrun0 := k1338 _ (retOut X1324 hx Bd.returns (t := .boolean) rfl (Or.inl ⟨rfl, Or.inr (Or.inl rfl), _, rfl⟩) (hb hby at_213) hr)
    subst hE0
    refine ⟨_, _, hrun0, hrun, hended, _, _, rfl, ?_, ⟨_, rfl⟩, hW, hsame.mono (by decide) (by decide)⟩
    show Qrm0 Z p0 p1 p2 p3 p4 h0 n0 _ T1320.heap _
    rw [e1332]
    exact ⟨rfl, N1336⟩
set_option maxRecDepth 65536 in
set_option maxHeartbeats 40000000 in
theorem comes_1 {Post : Tables → Env → Array Value → State → Outcome → State → Prop} (hpost : ∀ tb e args s v u, (limb_1_1.after args s (.returned v) u = true ∧ limb_1_2.after args s (.returned v) u = true ∧ True) → FrameEnd s (.returned v) u (Jvm.fieldLocs frame_1_writes args s ++ Jvm.arrayLocs frame_1_arrays args s ++ Jvm.staticLocs frame_1_statics s) 16 128 → Post tb e args s (.returned v) u) :
    ArmFor flags0 classFile x code maxLocals ret World_1 tables_1 room_1 Calls_1 rest_1 Pre_1 Post := by
  intro l hfl _ _ p e ha hc hk s m args below hf hA hF happ hP
  obtain ⟨hcalls, hrest, hpre⟩ := hP
  obtain ⟨-, -, -, hnamed, -, -, -, hat⟩ := (Spec.applies_iff hf).mp happ
  obtain ⟨hg, hn⟩ := and_e (Cond.before_iff.mp (show (Jvm.Cond.and given_1 narrow_1).before args s = true from hpre))
  obtain ⟨hct, hr0⟩ := and_e hg
  obtain ⟨ha0, hr1⟩ := and_e hr0
  obtain ⟨ha1, hr2⟩ := and_e hr1
  obtain ⟨ha2, hr3⟩ := and_e hr2
  obtain ⟨ha3, hr4⟩ := and_e hr3
  obtain ⟨w0, w1, w2, w3, w4, rfl⟩ : ∃ w0 w1 w2 w3 w4 : Value, args = #[w0, w1, w2, w3, w4] := by
    have hs : args.size = 5 := by simpa [Cond.value, given_1] using hct
    obtain ⟨L⟩ := args
    match L, hs with
    | [w0, w1, w2, w3, w4], _ => exact ⟨w0, w1, w2, w3, w4, rfl⟩
  have hw := fun d (hd : d ∈ tables_1) => atoms_spec (ws := Jvm.Cond.code x code maxLocals ret :: tables_1) hat d (List.mem_cons_of_mem _ hd)
  have hfit : Fit s := fun {y c} hc i hi => by
    obtain ⟨ha, rfl⟩ := Array.getElem?_eq_some_iff.mp hc
    have q := List.all_eq_true.mp ((Array.all_eq_true_iff_forall_mem.mp hF) _ (Array.getElem_mem ha)) i (List.mem_range.mpr hi)
    simpa [Array.getElem?_eq_getElem hi] using q
  obtain ⟨i0, ev0⟩ := is_v ha0
  obtain rfl : w0 = (.int i0) := Option.some.inj ev0
  obtain ⟨i1, ev1⟩ := isL_v ha1
  obtain rfl : w1 = (.long i1) := Option.some.inj ev1
  obtain ⟨i2, ev2⟩ := isL_v ha2
  obtain rfl : w2 = (.long i2) := Option.some.inj ev2
  obtain ⟨i3, ev3⟩ := isL_v ha3
  obtain rfl : w3 = (.long i3) := Option.some.inj ev3
  obtain ⟨i4, ev4⟩ := isL_v hr4
  obtain rfl : w4 = (.long i4) := Option.some.inj ev4
  obtain ⟨n, o, h1, h2, h3, _, L, rfl, ⟨rfl, N⟩, hq⟩ := rm0 l s _ hw tables_1 i0 i1 i2 i3 i4 s.heap s.heap.size (Nat.le_refl _) p e ha hc hk s m _ below hf ((Spec.applies_iff_loose hf).mp happ).1 ⟨rfl, State.Warmed39.refl s, rfl⟩ trivial
  refine ⟨n, _, h1, h2, h3, hpost _ _ _ _ _ _ ⟨Cond.after_iff.mpr rfl, Cond.after_iff.mpr (eq_i res_at (Term.int_eval (1)) rfl), trivial⟩ ⟨hq.1, hq.2.1, (hq.2.2.sift fun y hy => Or.inr (N y hy)).mono (by decide) (by decide)⟩⟩
theorem main_1_1 : Claimed_1_1 := comes_1 fun _ _ _ _ _ _ h hF => ⟨h.1, hF⟩
theorem main_1_2 : Claimed_1_2 := comes_1 fun _ _ _ _ _ _ h hF => ⟨h.2.1, hF⟩
end Jvm.Pilot.@@N@@
namespace Jvm.Pilot.@@N@@
open Jvm Jvm.ClassFile Sem Op Lib Jvm.Free Jvm.Stand Jvm.Pilot.@@N@@.Jvm.D
/-! MADE BY PROGRAM (witnessworld.py) out of the Statement's table words and the real class files: 11 classes; the members and pool entries that the words name. The judged class is class 1, her method 3. -/
namespace start1
open Jvm.ClassFile
def u (s : String) : CpInfo := .utf8 (stringToUtf16 s)
/-- a pool by its gaps: so many unusable entries, then the entry; so many at the end -/
def gap : Nat → List CpInfo → List CpInfo
  | 0, r => r
  | n + 1, r => .unusable :: gap n r
def poolList (es : List (Nat × CpInfo)) (last : Nat) : List CpInfo := es.foldr (fun e r => gap e.1 (e.2 :: r)) (gap last [])
def pool (es : List (Nat × CpInfo)) (last : Nat) : Array CpInfo := ⟨poolList es last⟩
def fileOf (pool : Array CpInfo) (this : Nat) (attrs : Array Attribute := #[]) (ms : Array MethodInfo := #[]) (fl : Nat := 33) (sup : Nat := 0) (ifs : Array Nat := #[]) (fds : Array FieldInfo := #[]) : ClassFile where
  minorVersion := 0
  majorVersion := 65
  constantPool := pool
  accessFlags := fl
  thisClass := this
  superClass := sup
  interfaces := ifs
  fields := fds
  methods := ms
  attributes := attrs
def plain (name : String) (sup : Option ClassId) : Class where
  name := name
  kind := .ordinary
  loader := none
  accessFlags := 33
  super := sup
  interfaces := #[]
  cf := none
  fields := #[]
  methods := #[]
  instanceTypes := #[]
  staticTypes := #[]
  resolved := #[]
  callSites := []
  init := .initialized
  statics := none
  mirror := none

def pool0 : Array CpInfo := pool [(5, u "<init>"), (0, u "()V"), (1, .class_ 10), (1, u "java/lang/Object")] 113

def k0m0 : Method := { name := "<init>", desc := "()V", sig := { parameters := [], returnType := none }, accessFlags := 1, code := none }
/-- java/lang/Object -/
def k0 : Class := { plain "java/lang/Object" none with
  accessFlags := 33
  interfaces := #[]
  cf := some (fileOf pool0 8 #[] #[{ accessFlags := 1, nameIndex := 5, descriptorIndex := 6, attributes := #[] }] 33 0 #[] #[])
  fields := #[]
  methods := #[k0m0]
  instanceTypes := #[]
  staticTypes := #[]
  resolved := Array.replicate 124 none
  statics := none }

def pool1 : Array CpInfo := pool [(2, .class_ 4), (1, u "java/lang/Object"), (0, u "<init>"), (0, u "()V"), (0, .long 1000), (1, .methodref 10 11), (0, .class_ 12), (0, .nameAndType 13 14), (0, u "com/example/velvet_postings/velvetpostings/search/VectorsDotPinLaw"), (0, u "lo"), (0, u "(J)I"), (0, .methodref 10 16), (0, .nameAndType 17 14), (0, u "hi"), (0, .methodref 19 20), (0, .class_ 21), (0, .nameAndType 22 23), (0, u "com/example/velvet_postings/velvetpostings/search/Vectors"), (0, u "dot"), (0, u "([D[D)D"), (2, u "law"), (0, u "(IJJJJ)Z")] 5

def k1m0 : Method := { name := "<init>", desc := "()V", sig := { parameters := [], returnType := none }, accessFlags := 1, code := none }
def k1c1 : Code := { maxStack := 4, maxLocals := 2, code := method_2_code, exceptionTable := #[], attributes := #[] }
def k1m1 : Method := { name := "lo", desc := "(J)I", sig := { parameters := [.long], returnType := some .int }, accessFlags := 10, code := some k1c1 }
def k1c2 : Code := { maxStack := 4, maxLocals := 2, code := method_3_code, exceptionTable := #[], attributes := #[] }
def k1m2 : Method := { name := "hi", desc := "(J)I", sig := { parameters := [.long], returnType := some .int }, accessFlags := 10, code := some k1c2 }
def k1c3 : Code := { maxStack := 6, maxLocals := 16, code := code, exceptionTable := #[], attributes := #[] }
def k1m3 : Method := { name := "law", desc := "(IJJJJ)Z", sig := { parameters := [.int, .long, .long, .long, .long], returnType := some .boolean }, accessFlags := 9, code := some k1c3 }
/-- com/example/velvet_postings/velvetpostings/search/VectorsDotPinLaw -/
def k1 : Class := { plain "com/example/velvet_postings/velvetpostings/search/VectorsDotPinLaw" (some 0) with
  accessFlags := 49
  interfaces := #[]
  cf := some (fileOf pool1 10 #[] #[{ accessFlags := 1, nameIndex := 5, descriptorIndex := 6, attributes := #[] }, { accessFlags := 10, nameIndex := 13, descriptorIndex := 14, attributes := #[] }, { accessFlags := 10, nameIndex := 17, descriptorIndex := 14, attributes := #[] }, { accessFlags := 9, nameIndex := 26, descriptorIndex := 27, attributes := #[] }] 49 2 #[] #[])
  fields := #[]
  methods := #[k1m0, k1m1, k1m2, k1m3]
  instanceTypes := #[]
  staticTypes := #[]
  resolved := Array.replicate 33 none
  statics := none }

def pool2 : Array CpInfo := pool [(2, .class_ 4), (1, u "java/lang/Object"), (0, u "<init>"), (0, u "()V"), (1, .class_ 10), (1, u "com/example/velvet_postings/velvetpostings/search/Vectors"), (0, u "dot"), (0, u "([D[D)D")] 131

def k2m0 : Method := { name := "<init>", desc := "()V", sig := { parameters := [], returnType := none }, accessFlags := 2, code := none }
def k2c1 : Code := { maxStack := 6, maxLocals := 5, code := prog_103_method_2_code, exceptionTable := #[], attributes := #[] }
def k2m1 : Method := { name := "dot", desc := "([D[D)D", sig := { parameters := [(.array .double), (.array .double)], returnType := some .double }, accessFlags := 8, code := some k2c1 }
/-- com/example/velvet_postings/velvetpostings/search/Vectors -/
def k2 : Class := { plain "com/example/velvet_postings/velvetpostings/search/Vectors" (some 0) with
  accessFlags := 48
  interfaces := #[]
  cf := some (fileOf pool2 8 #[] #[{ accessFlags := 2, nameIndex := 5, descriptorIndex := 6, attributes := #[] }, { accessFlags := 8, nameIndex := 11, descriptorIndex := 12, attributes := #[] }] 48 2 #[] #[])
  fields := #[]
  methods := #[k2m0, k2m1]
  instanceTypes := #[]
  staticTypes := #[]
  resolved := Array.replicate 144 none
  statics := none }

def pool3 : Array CpInfo := pool [(1, u "java/lang/Cloneable"), (0, .class_ 1), (0, u "java/lang/Object"), (0, .class_ 3)] 3

/-- java/lang/Cloneable -/
def k3 : Class := { plain "java/lang/Cloneable" (some 0) with
  accessFlags := 1537
  interfaces := #[]
  cf := some (fileOf pool3 2 #[] #[] 1537 4 #[] #[])
  fields := #[]
  methods := #[]
  instanceTypes := #[]
  staticTypes := #[]
  resolved := Array.replicate 8 none
  statics := none }

def pool4 : Array CpInfo := pool [(1, u "java/io/Serializable"), (0, .class_ 1), (0, u "java/lang/Object"), (0, .class_ 3)] 3

/-- java/io/Serializable -/
def k4 : Class := { plain "java/io/Serializable" (some 0) with
  accessFlags := 1537
  interfaces := #[]
  cf := some (fileOf pool4 2 #[] #[] 1537 4 #[] #[])
  fields := #[]
  methods := #[]
  instanceTypes := #[]
  staticTypes := #[]
  resolved := Array.replicate 8 none
  statics := none }

/-- the primitive byte -/
def k5 : Class := { plain "byte" none with kind := .primitive 'B', accessFlags := 0x411 }
/-- [B -/
def k6 : Class := { plain "[B" (some 0) with kind := .array 5 .byte, interfaces := #[3, 4], accessFlags := 1041 }

/-- the primitive double -/
def k7 : Class := { plain "double" none with kind := .primitive 'D', accessFlags := 0x411 }
/-- [D -/
def k8 : Class := { plain "[D" (some 0) with kind := .array 7 .double, interfaces := #[3, 4], accessFlags := 1041 }

/-- the primitive int -/
def k9 : Class := { plain "int" none with kind := .primitive 'I', accessFlags := 0x411 }
/-- [I -/
def k10 : Class := { plain "[I" (some 0) with kind := .array 9 .int, interfaces := #[3, 4], accessFlags := 1041 }

def heap : Heap := #[]
def classes : Array Class := #[k0, k1, k2, k3, k4, k5, k6, k7, k8, k9, k10]
def interned : List (Array UInt16 × Addr) := []
def slotsUsed : Nat := 0
def theMethod : MethodId := ⟨1, 3⟩
def args0 : Array Value := #[.int 3, .long 4, .long 5, .long 6, .long 7]
def aboutOver (below : List Frame) : State where
  vm := { classes := classes, interned := interned.toArray }
  heap := heap
  slotsUsed := slotsUsed
  threads := #[{ frames := .invoking theMethod args0 :: below }]
def below0 : List Frame := [.native { method := ⟨0, 0⟩, args := #[] }]
def about1 : State := aboutOver below0
def p0 : Program := .bare "" "" ""
def e0 : Env := launch0.env 0 0 0
theorem w_frames : about1.frames = Frame.invoking theMethod args0 :: below0 := rfl
set_option maxRecDepth 65536 in
theorem w_args : argsFit about1.vm theMethod args0 = true := by decide +kernel
set_option maxRecDepth 65536 in
theorem w_heap : heapFits about1 = true := by decide +kernel
set_option maxRecDepth 65536 in
theorem w_runnable : about1.curStatus? = some .runnable := by decide +kernel
set_option maxRecDepth 65536 in
theorem w_alone : about1.alone = true := by decide +kernel
set_option maxRecDepth 65536 in
theorem w_named : about1.methodNamed? x = some theMethod := by decide +kernel
set_option maxRecDepth 65536 in
theorem w_hears : about1.hears theMethod below0 = true := by decide +kernel
set_option maxRecDepth 65536 in
theorem w_ripe : about1.ripe theMethod args0 below0 = true := by decide +kernel
theorem w_running : about1.status = .running := rfl
set_option maxRecDepth 65536 in
theorem w_room : about1.hasRoom e0.platform room_1 = true :=
  launch0.hasRoom_least _ room_1 (by decide +kernel) (by decide +kernel) (by decide +kernel) (by decide +kernel) (by decide +kernel) (by decide +kernel)
theorem allAtoms_all (ts : List Jvm.Cond) (a : Array Jvm.Value) (st : Jvm.State) : (allAtoms ts).before a st = ts.all (fun c => c.before a st) := by
  induction ts with
  | nil => rfl
  | cons c t ih =>
    show (Jvm.Cond.and c (allAtoms t)).before a st = _
    rw [Jvm.Cond.before_and, ih, List.all_cons]
def words1 : List Jvm.Cond := Jvm.Cond.code x code maxLocals ret :: tables_1
/-- a 'code' word, met by the world's own term for the bytes: nothing is compared byte by byte -/
theorem code_word {y : MethodName} {bytes : ByteArray} {mx : Nat} {rt : Option FieldType} {a : Array Value} {s : State} {m : MethodId} {meth : Method} {c : Code} (h1 : s.methodNamed? y = some m) (h2 : s.vm.method? m = some meth) (h3 : meth.code = some c) (h4 : c.code = bytes)
    (h5 : (c.maxLocals == mx && c.exceptionTable.isEmpty && decide (c.maxStack ≤ mostOperands) && decide (meth.sig.returnType = rt) && !meth.locks && decide (parseMethodDescriptor y.desc = some meth.sig)) = true) : (Jvm.Cond.code y bytes mx rt).before a s = true := by
  simp only [Bool.and_eq_true, beq_iff_eq, Bool.not_eq_true', decide_eq_true_eq] at h5
  obtain ⟨⟨⟨⟨⟨g1, g2⟩, g3⟩, g4⟩, g5⟩, g6⟩ := h5
  simp [Cond.before, Cond.holds, Cond.value, h1, h2, h3, h4, g1, g2, g3, g4, g5, g6]
def isCode : Jvm.Cond → Bool
  | .code _ _ _ _ => true
  | _ => false
theorem all_split {L : List Jvm.Cond} {P : Jvm.Cond → Bool} (h1 : L.all (fun c => isCode c || P c) = true) (h2 : ∀ c ∈ L.filter isCode, P c = true) : L.all P = true := by
  refine List.all_eq_true.mpr fun c hc => ?_
  have h := List.all_eq_true.mp h1 c hc
  rcases Bool.eq_false_or_eq_true (isCode c) with hi | hi
  · exact h2 c (List.mem_filter.mpr ⟨hc, hi⟩)
  · simpa [hi] using h
set_option maxRecDepth 65536 in
theorem w_c0 : (Jvm.Cond.code x code maxLocals ret).before args0 about1 = true := code_word (m := ⟨1, 3⟩) (meth := k1m3) (c := k1c3) (by decide +kernel) rfl rfl rfl (by decide +kernel)
set_option maxRecDepth 65536 in
theorem w_c1 : (Jvm.Cond.code ({ cls := "com/example/velvet_postings/velvetpostings/search/Vectors", name := "dot", desc := "([D[D)D" } : Jvm.MethodName) prog_103_method_2_code (5 : Nat) (Option.some Jvm.ClassFile.FieldType.double)).before args0 about1 = true := code_word (m := ⟨2, 1⟩) (meth := k2m1) (c := k2c1) (by decide +kernel) rfl rfl rfl (by decide +kernel)
set_option maxRecDepth 65536 in
theorem w_c2 : (Jvm.Cond.code ({ cls := "com/example/velvet_postings/velvetpostings/search/VectorsDotPinLaw", name := "lo", desc := "(J)I" } : Jvm.MethodName) method_2_code (2 : Nat) (Option.some Jvm.ClassFile.FieldType.int)).before args0 about1 = true := code_word (m := ⟨1, 1⟩) (meth := k1m1) (c := k1c1) (by decide +kernel) rfl rfl rfl (by decide +kernel)
set_option maxRecDepth 65536 in
theorem w_c3 : (Jvm.Cond.code ({ cls := "com/example/velvet_postings/velvetpostings/search/VectorsDotPinLaw", name := "hi", desc := "(J)I" } : Jvm.MethodName) method_3_code (2 : Nat) (Option.some Jvm.ClassFile.FieldType.int)).before args0 about1 = true := code_word (m := ⟨1, 2⟩) (meth := k1m2) (c := k1c2) (by decide +kernel) rfl rfl rfl (by decide +kernel)
def codes1 : List Jvm.Cond := [Jvm.Cond.code x code maxLocals ret, Jvm.Cond.code ({ cls := "com/example/velvet_postings/velvetpostings/search/Vectors", name := "dot", desc := "([D[D)D" } : Jvm.MethodName) prog_103_method_2_code (5 : Nat) (Option.some Jvm.ClassFile.FieldType.double), Jvm.Cond.code ({ cls := "com/example/velvet_postings/velvetpostings/search/VectorsDotPinLaw", name := "lo", desc := "(J)I" } : Jvm.MethodName) method_2_code (2 : Nat) (Option.some Jvm.ClassFile.FieldType.int), Jvm.Cond.code ({ cls := "com/example/velvet_postings/velvetpostings/search/VectorsDotPinLaw", name := "hi", desc := "(J)I" } : Jvm.MethodName) method_3_code (2 : Nat) (Option.some Jvm.ClassFile.FieldType.int)]
set_option maxRecDepth 65536 in
theorem codes_eq : words1.filter isCode = codes1 := rfl
theorem w_codes : ∀ c ∈ words1.filter isCode, c.before args0 about1 = true := by
  rw [codes_eq]
  intro c hc
  simp only [codes1, List.mem_cons, List.not_mem_nil, or_false] at hc
  rcases hc with rfl | rfl | rfl | rfl
  · exact w_c0
  · exact w_c1
  · exact w_c2
  · exact w_c3
set_option maxRecDepth 65536 in
theorem w_t1 : words1.all (fun c => isCode c || c.before args0 about1) = true := by decide +kernel
theorem w_tables : (allAtoms (Jvm.Cond.code x code maxLocals ret :: tables_1)).before args0 about1 = true := by
  rw [allAtoms_all]
  show words1.all (fun c => c.before args0 about1) = true
  refine all_split ?_ w_codes
  rw [w_t1]
set_option maxRecDepth 65536 in
theorem w_case : (Jvm.Cond.and given_1 narrow_1).before args0 about1 = true := by decide +kernel
theorem w_applies : (headSpec (Jvm.Cond.code x code maxLocals ret :: tables_1) room_1).applies x e0.platform about1 = true :=
  (Spec.applies_iff w_frames).mpr ⟨w_running, w_runnable, w_alone, w_named, w_hears, w_ripe, w_room, w_tables⟩
theorem atStart : AtStart classFile x code maxLocals ret World_1 tables_1 room_1 Calls_1 rest_1 Pre_1 launch0 p0 e0 about1 theMethod args0 below0 :=
  ⟨lists_1, trivial, launch0.admits_env _ _ _, launch0.least_env, fairChoices_fair.cas, fairChoices_fair.clock, w_frames, w_args, w_heap, w_applies, trivial, trivial, w_case⟩
end start1
theorem witness_1 : WitnessClaimed_1 := ⟨start1.p0, start1.e0, start1.about1, start1.theMethod, start1.args0, start1.below0, start1.atStart⟩
end Jvm.Pilot.@@N@@
